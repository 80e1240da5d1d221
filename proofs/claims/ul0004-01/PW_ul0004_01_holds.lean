import PyProof.Rows.All
import Wide.All
import OpenK.AllK
import Wide.FinOn
import PySem.Challenge.RW_ul0004_01
open PySem PySem.W PyProof.Rows
set_option Elab.async false
set_option maxRecDepth 100000
namespace Mine

abbrev PG : Program := PySem.Challenge.pw_ul0004_01
/-- the k-th statement of the text as a def -/
def defAt (i : Nat) : DefRec := match PG.main.body[i]? with
  | some (.FunctionDef n a b _ _ _ sc _ _ pos) => ⟨n, a, b, sc, pos⟩
  | _ => ⟨Str.empty, default, [], default, default⟩

def Keeps (h h' : Heap) : Prop := ∀ b o, h.get? b = some o → h'.get? b = some o
theorem Keeps.refl (h : Heap) : Keeps h h := fun _ _ e => e
theorem Keeps.trans {a b c : Heap} (x : Keeps a b) (y : Keeps b c) : Keeps a c := fun p o e => y p o (x p o e)

def Has (h : Heap) (a : Addr) (P : Obj → Prop) : Prop := ∃ o, h.get? a = some o ∧ P o
theorem Has.keeps {h h' : Heap} {a P} (x : Has h a P) (k : Keeps h h') : Has h' a P := let ⟨o, e, p⟩ := x; ⟨o, k _ _ e, p⟩
theorem Has.extBut {h h' : Heap} {a b P} (x : Has h a P) (k : Heap.ExtBut b h h') (ne : a ≠ b) : Has h' a P := let ⟨o, e, p⟩ := x; ⟨o, k _ _ ne e, p⟩
theorem Has.lt {h : Heap} {a P} (x : Has h a P) : a < h.objs.size := let ⟨_, e, _⟩ := x; Heap.lt_size e
theorem Has.imp {h : Heap} {a} {P P' : Obj → Prop} (x : Has h a P) (k : ∀ o, P o → P' o) : Has h a P' := let ⟨o, e, p⟩ := x; ⟨o, e, k _ p⟩

/-- an object that is a list of these values -/
def iVals (vs : List Value) (o : Obj) : Prop := ∃ n, o = { cls := .type "list", data := .seq vs.toArray n }
/-- an object that is a list of these ints -/
def iInts (ns : List Int) (o : Obj) : Prop := ∃ vs, IntsAre vs ns ∧ iVals vs o
def iTup (vs : List Value) (o : Obj) : Prop := o.cls = .type "tuple" ∧ ∃ n, o.data = .seq vs.toArray n
theorem has_vals {h : Heap} {a vs} : Has h a (iVals vs) ↔ h.PlainList a vs.toArray := ⟨fun ⟨_, e, n, p⟩ => ⟨n, p ▸ e⟩, fun ⟨n, e⟩ => ⟨_, e, n, rfl⟩⟩
theorem Has.plain {h : Heap} {a vs} (x : Has h a (iVals vs)) : h.PlainList a vs.toArray := has_vals.mp x
theorem Has.isList {h : Heap} {a vs} (x : Has h a (iVals vs)) : h.IsList a vs.toArray := x.plain.isList
theorem Has.vals {h : Heap} {a ns} (x : Has h a (iInts ns)) : ∃ vs, IntsAre vs ns ∧ Has h a (iVals vs) := let ⟨o, e, vs, i, p⟩ := x; ⟨vs, i, o, e, p⟩
theorem Has.ints {h : Heap} {a vs ns} (x : Has h a (iVals vs)) (i : IntsAre vs ns) : Has h a (iInts ns) := let ⟨o, e, p⟩ := x; ⟨o, e, vs, i, p⟩

/-- the frame at L (its names are m), what was there before (h₀) kept, the call's own objects -/
structure Own (h₀ h : Heap) (L : Addr) (m : Str → Option Value) (cs : List (Addr × (Obj → Prop))) : Prop where
  ns : h.Ns L m
  keep : Keeps h₀ h
  newL : h₀.get? L = none
  at_ : ∀ p ∈ cs, Has h p.1 p.2
  new : ∀ p ∈ cs, h₀.get? p.1 = none
  nodup : (L :: cs.map (·.1)).Nodup

def upd (m : Str → Option Value) (x : Str) (v : Value) : Str → Option Value := fun y => if y = x then some v else m y
theorem upd_same {m x v} : upd m x v x = some v := if_pos rfl
theorem upd_ne {m x v y} (h : y ≠ x) : upd m x v y = m y := if_neg h

section
variable {h₀ h h' : Heap} {L : Addr} {m : Str → Option Value} {cs : List (Addr × (Obj → Prop))}

theorem Own.start {s : Shared} {h₁ : Heap} {m} (F : Fr s.heap s.heap.objs.size h₁ m) : Own s.heap h₁ s.heap.objs.size m [] :=
  ⟨F.ns, F.keep, by
    cases q : s.heap.get? s.heap.objs.size with
    | none => rfl
    | some o => exact absurd (Heap.lt_size q) (Nat.lt_irrefl _), fun _ hp => (nomatch hp), fun _ hp => (nomatch hp), by simp⟩

theorem Own.of (O : Own h₀ h L m cs) {i : Nat} {a : Addr} {P : Obj → Prop} (hi : cs[i]? = some (a, P)) : Has h a P := O.at_ _ (List.mem_of_getElem? hi)
theorem Own.fresh (O : Own h₀ h L m cs) {i : Nat} {a : Addr} {P : Obj → Prop} (hi : cs[i]? = some (a, P)) : h₀.get? a = none := O.new _ (List.mem_of_getElem? hi)
theorem Own.old (O : Own h₀ h L m cs) {a : Addr} {P : Obj → Prop} (x : Has h₀ a P) : Has h a P := x.keeps O.keep
theorem Own.neL (O : Own h₀ h L m cs) {i : Nat} {a : Addr} {P : Obj → Prop} (hi : cs[i]? = some (a, P)) : a ≠ L := by
  have := (List.nodup_cons.mp O.nodup).1
  intro e
  exact this (e ▸ List.mem_map_of_mem (List.mem_of_getElem? hi))
theorem none_of_ge {h : Heap} {a : Addr} (x : h.objs.size ≤ a) : h.get? a = none := by
  cases q : h.get? a with
  | none => rfl
  | some o => exact absurd (Heap.lt_size q) (Nat.not_lt.mpr x)

/-- another heap that keeps all -/
theorem Own.keeps (O : Own h₀ h L m cs) (k : Keeps h h') : Own h₀ h' L m cs :=
  ⟨O.ns.keeps k, O.keep.trans k, O.newL, fun p hp => (O.at_ p hp).keeps k, O.new, O.nodup⟩
/-- a new object, known -/
theorem Own.add (O : Own h₀ h L m cs) {a : Addr} {P : Obj → Prop} (k : Keeps h h') (hn : h.get? a = none) (x : Has h' a P) : Own h₀ h' L m ((a, P) :: cs) := by
  have na : ∀ b, (∃ o, h.get? b = some o) → a ≠ b := fun b ⟨o, e⟩ z => by subst z; rw [hn] at e; cases e
  refine ⟨O.ns.keeps k, O.keep.trans k, O.newL, fun p hp => ?_, fun p hp => ?_, ?_⟩
  · rcases List.mem_cons.mp hp with rfl | hp
    · exact x
    · exact (O.at_ p hp).keeps k
  · rcases List.mem_cons.mp hp with rfl | hp
    · cases q : h₀.get? a with
      | none => rfl
      | some o => exact absurd rfl (na a ⟨o, O.keep _ _ q⟩)
    · exact O.new p hp
  · have nd := List.nodup_cons.mp O.nodup
    refine List.nodup_cons.mpr ⟨fun hm => ?_, List.nodup_cons.mpr ⟨fun hm => ?_, nd.2⟩⟩
    · rcases List.mem_cons.mp hm with e | hm
      · obtain ⟨o, es, ep, ho, _⟩ := O.ns
        exact na L ⟨o, ho⟩ e.symm
      · exact nd.1 hm
    · obtain ⟨p, hp, e⟩ := List.mem_map.mp hm
      obtain ⟨o, ho, _⟩ := O.at_ p hp
      exact na p.1 ⟨o, ho⟩ e.symm
theorem Own.push (O : Own h₀ h L m cs) (o : Obj) {P : Obj → Prop} (p : P o) (hf : o.isFreed = false := by rfl) : Own h₀ (h.push o) L m ((h.objs.size, P) :: cs) :=
  O.add (fun _ _ e => Heap.get?_push_of_some _ e) (none_of_ge (Nat.le_refl _)) ⟨o, Heap.get?_push_size _ hf, p⟩
theorem Own.junk (O : Own h₀ h L m cs) (o : Obj) : Own h₀ (h.push o) L m cs := O.keeps fun _ _ e => Heap.get?_push_of_some _ e

theorem nodup_get {α : Type} : ∀ {l : List α}, l.Nodup → ∀ {i j : Nat} {a : α}, l[i]? = some a → l[j]? = some a → i = j
  | [], _, _, _, _, h, _ => by cases h
  | x :: l, hn, 0, 0, a, _, _ => rfl
  | x :: l, hn, 0, j + 1, a, h, h' => by
    cases h
    exact absurd (List.mem_of_getElem? (by simpa using h')) (List.nodup_cons.mp hn).1
  | x :: l, hn, i + 1, 0, a, h, h' => by
    cases h'
    exact absurd (List.mem_of_getElem? (by simpa using h)) (List.nodup_cons.mp hn).1
  | x :: l, hn, i + 1, j + 1, a, h, h' => by
    exact congrArg (· + 1) (nodup_get (List.nodup_cons.mp hn).2 (i := i) (j := j) (a := a) (by simpa using h) (by simpa using h'))

/-- one own object turned -/
theorem Own.turn (O : Own h₀ h L m cs) {i : Nat} {a : Addr} {P P' : Obj → Prop} (hi : cs[i]? = some (a, P)) (hs : Heap.ExtBut a h h') (x : Has h' a P') :
    Own h₀ h' L m (cs.set i (a, P')) := by
  have hf := O.fresh hi
  have nd := (List.nodup_cons.mp O.nodup)
  have hmap : (cs.set i (a, P')).map (·.1) = cs.map (·.1) := by
    rw [List.map_set]
    have : (cs.map (·.1))[i]? = some a := by rw [List.getElem?_map, hi]; rfl
    exact PySem.W.X.set_same this
  refine ⟨O.ns.extBut hs (O.neL hi).symm, fun b o e => hs b o (fun z => by subst z; rw [hf] at e; cases e) (O.keep _ _ e), O.newL, fun p hp => ?_, fun p hp => ?_, by rw [hmap]; exact O.nodup⟩
  · obtain ⟨j, hj⟩ := List.getElem?_of_mem hp
    rw [List.getElem?_set] at hj
    by_cases e : i = j
    · subst e
      rw [if_pos rfl] at hj
      split at hj
      · cases hj; exact x
      · cases hj
    · rw [if_neg e] at hj
      refine (O.at_ p (List.mem_of_getElem? hj)).extBut hs fun z => e ?_
      refine nodup_get nd.2 (a := a) ?_ ?_
      · rw [List.getElem?_map, hi]; rfl
      · rw [List.getElem?_map, hj]; exact congrArg some z
  · rcases List.mem_or_eq_of_mem_set hp with hp | rfl
    · exact O.new p hp
    · exact hf
/-- the frame turned -/
theorem Own.store (O : Own h₀ h L m cs) {m' : Str → Option Value} (hn : h'.Ns L m') (hs : Heap.SameBut L h h') : Own h₀ h' L m' cs :=
  ⟨hn, fun b o e => hs.extBut b o (fun z => by have := O.newL; subst z; rw [this] at e; cases e) (O.keep _ _ e), O.newL,
   fun p hp => (O.at_ p hp).extBut hs.extBut (fun z => (List.nodup_cons.mp O.nodup).1 (z ▸ List.mem_map_of_mem hp)), O.new, O.nodup⟩
theorem Own.tail {p : Addr × (Obj → Prop)} (O : Own h₀ h L m (p :: cs)) : Own h₀ h L m cs :=
  ⟨O.ns, O.keep, O.newL, fun q hq => O.at_ q (.tail _ hq), fun q hq => O.new q (.tail _ hq), by
    have := O.nodup
    simp only [List.map_cons, List.nodup_cons, List.mem_cons, not_or] at this ⊢
    exact ⟨this.1.2, this.2.2⟩⟩
theorem Own.sub {cs' : List (Addr × (Obj → Prop))} (O : Own h₀ h L m cs) (hs : cs'.Sublist cs) : Own h₀ h L m cs' :=
  ⟨O.ns, O.keep, O.newL, fun q hq => O.at_ q (hs.mem hq), fun q hq => O.new q (hs.mem hq),
    List.Nodup.sublist (List.Sublist.cons_cons _ (hs.map _)) O.nodup⟩
/-- an own object that is turned into what is not known: the head goes -/
theorem Own.lose {a : Addr} {P : Obj → Prop} (O : Own h₀ h L m ((a, P) :: cs)) (hs : Heap.ExtBut a h h') : Own h₀ h' L m cs := by
  have hf : h₀.get? a = none := O.new _ (.head _)
  have nd := O.nodup
  simp only [List.map_cons, List.nodup_cons, List.mem_cons, not_or] at nd
  refine ⟨O.ns.extBut hs nd.1.1, fun b o e => hs b o (fun z => by subst z; rw [hf] at e; cases e) (O.keep _ _ e), O.newL, fun q hq => (O.at_ q (.tail _ hq)).extBut hs ?_, fun q hq => O.new q (.tail _ hq), O.tail.nodup⟩
  exact fun z => nd.2.1 (z ▸ List.mem_map_of_mem hq)
end
end Mine
namespace Mine

def FnAt (h : Heap) (a c : Addr) (d : DefRec) : Prop := ∃ o pm doc, h.get? a = some o ∧ o.data = .func (Calls.docDef d.name d.params d.body d.scope pm (.ref c) doc) ∧ h.CodeRec (.ref c) d.name
theorem FnAt.keeps {h h' : Heap} {a c d} (x : FnAt h a c d) (k : Keeps h h') : FnAt h' a c d := let ⟨o, pm, doc, e, p, q⟩ := x; ⟨o, pm, doc, k _ _ e, p, q.keeps k⟩

structure Nm (mg mb : Str → Option Value) : Prop where
  builtins : ∀ x : Str, x ≠ "__name__" → mb x = bootBuiltins x
  none_ : ∀ x ∈ (["len", "range", "sum", "min", "sorted", "set", "reversed", "divmod"] : List Str), mg x = none
  charMax : ∃ t, mg "CHAR_MAX" = some (.int 127 t)
  divLimit : ∃ t, mg "_DIV_LIMIT" = some (.int 4000 t)
  endMarker : ∃ t, mg "ENDMARKER" = some (.int 0 t)
  ntOffset : ∃ t, mg "NT_OFFSET" = some (.int 256 t)
  grouping : mg "_grouping_intervals" = some (.ref 21)
  div2n1n : mg "_div2n1n" = some (.ref 28)
  int2digits : mg "_int2digits" = some (.ref 42)
  digits2int : mg "_digits2int" = some (.ref 49)
  divmodPos : mg "_divmod_pos" = some (.ref 56)
  intDivmod : mg "int_divmod" = some (.ref 63)
  isTerminal : mg "ISTERMINAL" = some (.ref 70)
  isNonterminal : mg "ISNONTERMINAL" = some (.ref 77)
  isEof : mg "ISEOF" = some (.ref 84)
  told : mg "_law_told" = some (.ref 91)
  written : mg "_law_written" = some (.ref 98)
  runs : mg "_law_runs" = some (.ref 105)
  rules : mg "_law_rules" = some (.ref 110)
  spelled : mg "_law_spelled" = some (.ref 117)
  packed : mg "_law_packed" = some (.ref 124)

structure Gl (mg mb : Str → Option Value) (h : Heap) : Prop where
  nm : Nm mg mb
  g : h.Ns mainGlobals mg
  b : h.Ns builtinsNs mb
  lim : h.NoLimit
  f2 : FnAt h 21 20 (defAt 2)
  f5 : FnAt h 28 27 (defAt 5)
  f7 : FnAt h 42 41 (defAt 7)
  f8 : FnAt h 49 48 (defAt 8)
  f9 : FnAt h 56 55 (defAt 9)
  f10 : FnAt h 63 62 (defAt 10)
  f14 : FnAt h 70 69 (defAt 14)
  f15 : FnAt h 77 76 (defAt 15)
  f16 : FnAt h 84 83 (defAt 16)
  f18 : FnAt h 91 90 (defAt 18)
  f19 : FnAt h 98 97 (defAt 19)
  f20 : FnAt h 105 104 (defAt 20)
  f21 : FnAt h 110 109 (defAt 21)
  f22 : FnAt h 117 116 (defAt 22)
  f23 : FnAt h 124 123 (defAt 23)

theorem Gl.keeps {mg mb} {h h' : Heap} (G : Gl mg mb h) (k : Keeps h h') : Gl mg mb h' where
  nm := G.nm
  g := G.g.keeps k
  b := G.b.keeps k
  lim := G.lim.keeps k
  f2 := G.f2.keeps k
  f5 := G.f5.keeps k
  f7 := G.f7.keeps k
  f8 := G.f8.keeps k
  f9 := G.f9.keeps k
  f10 := G.f10.keeps k
  f14 := G.f14.keeps k
  f15 := G.f15.keeps k
  f16 := G.f16.keeps k
  f18 := G.f18.keeps k
  f19 := G.f19.keeps k
  f20 := G.f20.keeps k
  f21 := G.f21.keeps k
  f22 := G.f22.keeps k
  f23 := G.f23.keeps k

/-- the rest of the state stands -/
def Sm (s s' : Shared) : Prop := s'.gens = s.gens ∧ s'.drawn = s.drawn ∧ s'.os = s.os
theorem Sm.refl (s : Shared) : Sm s s := ⟨rfl, rfl, rfl⟩
theorem Sm.trans {a b c : Shared} (x : Sm a b) (y : Sm b c) : Sm a c := ⟨y.1.trans x.1, y.2.1.trans x.2.1, y.2.2.trans x.2.2⟩

section
variable {w : World} {M : Model} {A : Around} {E : Value → Shared → Prop} {s : Shared} {env : Env} {mg mb m : Str → Option Value} {h₀ : Heap} {cs : List (Addr × (Obj → Prop))} {L : Addr}

theorem eLocal {x : Str} {pos : Pos} {v : Value} {Q : Value → Shared → Prop} (O : Own h₀ s.heap env.locals m cs) (hv : m x = some v) (h : Q v s)
    (hk : env.scope.kind = .function := by rfl) (hl : env.kindOf x = some .local := by rfl) (hd : (x == ("__debug__" : Str)) = false := by decide) :
    wpAny M A (eval (.Name x pos) env) Q E s := wpAny_Name (wpAny_loadName_local hk hl O.ns hv h) hd
theorem eGlob {x : Str} {pos : Pos} {v : Value} {Q : Value → Shared → Prop} (G : Gl mg mb s.heap) (hv : mg x = some v) (h : Q v s)
    (hk : env.scope.kind = .function := by rfl) (hl : env.kindOf x = some .globalImplicit := by rfl) (hg : env.globals = mainGlobals := by rfl) (hd : (x == ("__debug__" : Str)) = false := by decide) :
    wpAny M A (eval (.Name x pos) env) Q E s := Calls.Name_function_global hk hl (Calls.loadGlobal_global (by rw [hg]; exact G.g) hv h) hd
theorem eBuilt {x : Str} {pos : Pos} {v : Value} {Q : Value → Shared → Prop} (G : Gl mg mb s.heap) (hn : x ∈ (["len", "range", "sum", "min", "sorted", "set", "reversed", "divmod"] : List Str)) (hv : bootBuiltins x = some v) (h : Q v s)
    (hne : x ≠ "__name__" := by decide)
    (hk : env.scope.kind = .function := by rfl) (hl : env.kindOf x = some .globalImplicit := by rfl) (hg : env.globals = mainGlobals := by rfl) (hb : env.builtins = builtinsNs := by rfl) (hd : (x == ("__debug__" : Str)) = false := by decide) :
    wpAny M A (eval (.Name x pos) env) Q E s :=
  Calls.Name_function_global hk hl (Calls.loadGlobal_builtin (by rw [hg]; exact G.g) (G.nm.none_ x hn) (by rw [hb]; exact G.b) ((G.nm.builtins x hne).trans hv) h) hd

theorem sName {x : Str} {px pos : Pos} {value : Expr} {Q : Flow → Shared → Prop}
    (h : wpAny M A (eval value env) (fun v s₁ => ∃ h₀ m cs, Own h₀ s₁.heap env.locals m cs ∧ ∀ s₂, Sm s₁ s₂ → Own h₀ s₂.heap env.locals (upd m x v) cs → Q .next s₂) E s)
    (hl : env.kindOf x = some .local := by rfl) (hk : env.scope.kind = .function := by rfl)
    (hs : swapsWith value (some (.Name x px)) pos.line env = pure false := by rfl) :
    wpAny M A (exec (.Assign [.Name x px] value pos) env) Q E s := by
  refine wpAny_Assign_Name (wpAny_mono h (fun v s₁ h₁ => ?_) fun _ _ e => e) hs
  obtain ⟨h₀, m, cs, O, hq⟩ := h₁
  exact wpAny_storeName_local hl O.ns (fun h' hn hs' => hq _ ⟨rfl, rfl, rfl⟩ (O.store hn hs')) (by rw [hk]; rfl)

/-- the room left for n calls more -/
structure Fit (A : Around) (n : Nat) : Prop where
  handled : A.handled = none
  depth : A.depth + n < recursionLimit
  units : A.units + 4 * n + 8 < cLine
theorem Fit.deeper {A : Around} {n : Nat} (f : Fit A (n + 1)) (env : Env) : Fit (A.deeper env) n :=
  ⟨f.handled, by have := f.depth; show A.depth + 1 + n < _; omega, by have := f.units; show A.units + 3 + 4 * n + 8 < _; omega⟩
theorem Fit.le {A : Around} {n k : Nat} (f : Fit A n) (h : k ≤ n) : Fit A k := ⟨f.handled, by have := f.depth; omega, by have := f.units; omega⟩
theorem Fit.in1 {A : Around} {n : Nat} (f : Fit A (n + 1)) : Fit A.in1 n := ⟨f.handled, by have := f.depth; show A.depth + n < _; omega, by have := f.units; show A.units + 1 + 4 * n + 8 < _; omega⟩
theorem Fit.room {A : Around} {n : Nat} (f : Fit A n) : A.depth < recursionLimit := by have := f.depth; omega
theorem Fit.uroom {A : Around} {n : Nat} (f : Fit A n) : A.units < cLine := by have := f.units; omega

theorem callDef {a c : Addr} {d : DefRec} {args : List Value} {binds : List (Str × Value)} {n : Nat} {Q : Value → Shared → Prop} (f : FnAt s.heap a c d) (lim : s.heap.NoLimit) (fit : Fit A (n + 1))
    (hbind : ∀ pm doc, bindArgs (Calls.docDef d.name d.params d.body d.scope pm (.ref c) doc) ⟨args, []⟩ = pure binds)
    (hloc : (binds.all fun x => decide (d.scope.names.lookup x.1 = some .local)) = true)
    (h : ∀ s₁, Sm s s₁ → Own s.heap s₁.heap s.heap.objs.size (fun x => binds.reverse.lookup x) [] → Fit (A.deeper (envOf d.name d.scope s.heap.objs.size a (.ref c))) n →
      wpAny (model PG w) (A.deeper (envOf d.name d.scope s.heap.objs.size a (.ref c))) (execs d.body (envOf d.name d.scope s.heap.objs.size a (.ref c)))
        (fun f s' => Q (match f with | .ret v => v | _ => .none) s') (fun _ _ => False) s₁)
    (hco : d.scope.isCoroutine = false := by rfl) (hgen : d.scope.isGenerator = false := by rfl) (hk : d.scope.kind = .function := by rfl)
    (hcell : ∀ x ∈ d.scope.names, x.2 ≠ .cell := by decide +kernel) :
    wpAny (model PG w) A (call (.ref a) args) Q E s := by
  obtain ⟨o, pm, doc, ho, hdata, hcd⟩ := f
  exact wpAny_call (call_plain_ret fit.room ho hdata lim hcd (hbind pm doc) (locs hloc) (fun h₁ F => h _ ⟨rfl, rfl, rfl⟩ (Own.start F) (fit.deeper _)) hco hgen hk hcell)
end
end Mine
namespace Mine
section
variable {w : World} {A : Around} {E : Value → Shared → Prop} {s : Shared} {env : Env} {mg mb m : Str → Option Value} {h₀ : Heap} {cs : List (Addr × (Obj → Prop))} {L : Addr}

/-- a turn that goes on -/
def Goes (s s₂ : Shared) (h₀ : Heap) (L : Addr) (J : (Str → Option Value) → Prop) (cs : List (Addr × (Obj → Prop))) (f : Flow) : Prop :=
  (f = .next ∨ f = .cont) ∧ Sm s s₂ ∧ ∃ m₂, J m₂ ∧ Own h₀ s₂.heap L m₂ cs

theorem forRangeLoop {R : Result → Shared → Prop} {x : Str} {px : Pos} {body : List Stmt} {it : Addr} {a : Int} {n : Nat}
    (C : Nat → List (Addr × (Obj → Prop))) (J : Nat → (Str → Option Value) → Prop) (hh : A.handled = none)
    (O : Own h₀ s.heap env.locals m ((it, fun o => o = { cls := .type "range_iterator", data := .fields #[rawInt a, rawInt n, rawInt 1] }) :: C 0)) (h0 : J 0 m)
    (turn : ∀ E' (i : Nat) t m₁ s₁ P, i < n → Sm s s₁ → J i m₁ → Own h₀ s₁.heap env.locals (upd m₁ x (.int (a + i) t)) ((it, P) :: C i) →
      wpAny (model PG w) A (execs body env) (fun f s₂ => Goes s₁ s₂ h₀ env.locals (J (i + 1)) ((it, P) :: C (i + 1)) f) E' s₁)
    (done : ∀ m₁ s₁, Sm s s₁ → J n m₁ → Own h₀ s₁.heap env.locals m₁ (C n) → R (.ok .next) s₁)
    (hx : env.kindOf x = some .local := by rfl)
    (hp : (env.scope.kind == .class || (env.scope.kind == .module && env.locals != env.globals)) = false := by rfl) :
    codeAny (model PG w) A (.forLoop (.Name x px) (.ref it) body [] env) R s := by
  refine codeAny_forLoop
    (fun k s' => ∃ m' i, Sm s s' ∧ i ≤ n ∧ k = n + 1 - i ∧ J i m' ∧ Own h₀ s'.heap env.locals m' ((it, fun o => o = { cls := .type "range_iterator", data := .fields #[rawInt (a + (i : Nat)), rawInt ((n : Int) - (i : Nat)), rawInt 1] }) :: C i)) ?_ (n + 1)
    ⟨m, 0, Sm.refl s, Nat.zero_le _, rfl, h0, by simpa using O⟩
  rintro k s' ⟨m', i, S, hi, rfl, hJ, O'⟩
  obtain ⟨o, ho, rfl⟩ := O'.at_ _ (.head _)
  by_cases hlt : i < n
  · refine wpAny_pyNext_range_item ho (by omega) fun h₁ hit₁ hs₁ => ?_
    have e1 : a + ((i + 1 : Nat) : Int) = a + (i : Int) + 1 := by push_cast; omega
    have e2 : (n : Int) - ((i + 1 : Nat) : Int) = (n : Int) - (i : Int) - 1 := by push_cast; omega
    have O₁ := O'.turn (i := 0) (P' := fun o => o = { cls := .type "range_iterator", data := .fields #[rawInt (a + ((i + 1 : Nat) : Int)), rawInt ((n : Int) - ((i + 1 : Nat) : Int)), rawInt 1] }) rfl hs₁.extBut ⟨_, hit₁, by rw [e1, e2]⟩
    refine wpAny_assign_Name (wpAny_storeName_local hx O₁.ns (fun h₂ hn₂ hs₂ => ?_) hp)
    refine wpAny_mono (turn _ i _ m' _ _ hlt (S.trans ⟨rfl, rfl, rfl⟩) hJ (O₁.store hn₂ hs₂)) (fun f s₃ h₃ => ?_) fun _ _ e => e
    obtain ⟨hf, S₃, m₂, hJ₃, O₃⟩ := h₃
    have fin : ∃ k', k' < n + 1 - i ∧ ∃ m' j, Sm s s₃ ∧ j ≤ n ∧ k' = n + 1 - j ∧ J j m' ∧ Own h₀ s₃.heap env.locals m' ((it, fun o => o = { cls := .type "range_iterator", data := .fields #[rawInt (a + (j : Nat)), rawInt ((n : Int) - (j : Nat)), rawInt 1] }) :: C j) :=
      ⟨n + 1 - (i + 1), by omega, m₂, i + 1, S.trans (Sm.trans ⟨rfl, rfl, rfl⟩ S₃), hlt, rfl, hJ₃, O₃⟩
    rcases hf with rfl | rfl <;> exact fin
  · have hin : i = n := by omega
    subst hin
    refine wpAny_pyNext_range_end hh ho (by omega) fun h₁ he₁ => wpAny_execs_nil ?_
    exact done m' _ (S.trans ⟨rfl, rfl, rfl⟩) hJ (O'.lose he₁)


theorem newListO {vs : List Value} {Q : Value → Shared → Prop} {M : Model} (O : Own h₀ s.heap L m cs) (h : ∀ r s', Sm s s' → Own h₀ s'.heap L m ((r, iVals vs) :: cs) → Q (.ref r) s') (hsz : vs.length ≤ sizeLine) :
    wpAny M A (newList vs) Q E s :=
  wpAny_newObj_type (h _ { s with heap := s.heap.push { cls := .type "list", data := .seq vs.toArray } } ⟨rfl, rfl, rfl⟩ (O.push _ ⟨_, rfl⟩)) (by show vs.toArray.size ≤ sizeLine; rw [List.size_toArray]; exact hsz)

theorem lenO {l : Addr} {ns : List Int} {Q : Value → Shared → Prop} (x : Has s.heap l (iInts ns)) (hz : ns.length < 2 ^ 62) (h : ∀ t s', Sm s s' → s'.heap = s.heap → Q (.int ns.length t) s') :
    wpAny (model PG w) A (call (.builtin "len") [.ref l]) Q E s := by
  obtain ⟨vs, hi, x⟩ := x.vals
  have e := hi.length
  refine Calls.call_len_list x.isList (by rw [List.size_toArray]; omega) ?_
  rw [List.size_toArray, e]
  exact h _ _ ⟨rfl, rfl, rfl⟩ rfl

/-- for x in range(e): .. -/
theorem forRange1 {x : Str} {px pos rp cp : Pos} {e : Expr} {body : List Stmt} {Q : Flow → Shared → Prop} (n : Nat) (C : Nat → List (Addr × (Obj → Prop))) (J : Nat → (Str → Option Value) → Prop)
    (G : Gl mg mb s.heap) (hh : A.handled = none)
    (he : wpAny (model PG w) A (eval e env) (fun v s₁ => ∃ t m, v = .int n t ∧ Sm s s₁ ∧ Own h₀ s₁.heap env.locals m (C 0) ∧ J 0 m) E s)
    (turn : ∀ E' (it : Addr) (i : Nat) t m₁ s₂ P, i < n → Sm s s₂ → J i m₁ → Own h₀ s₂.heap env.locals (upd m₁ x (.int i t)) ((it, P) :: C i) →
        wpAny (model PG w) A (execs body env) (fun f s₃ => Goes s₂ s₃ h₀ env.locals (J (i + 1)) ((it, P) :: C (i + 1)) f) E' s₂)
    (done : ∀ m₁ s₂, Sm s s₂ → J n m₁ → Own h₀ s₂.heap env.locals m₁ (C n) → Q .next s₂) (hn : n < 2 ^ 62)
    (hk : env.scope.kind = .function := by rfl) (hl : env.kindOf "range" = some .globalImplicit := by rfl) (hg : env.globals = mainGlobals := by rfl) (hb : env.builtins = builtinsNs := by rfl)
    (hx : env.kindOf x = some .local := by rfl)
    (hs : ∀ x, foldedSetIterable (.Call (.Name "range" rp) [e] [] cp) env x = pure x := by intro _; rfl)
    (hst : starEach [e] env = [(false, eval e env)] := by rfl) :
    wpAny (model PG w) A (exec (.For (.Name x px) (.Call (.Name "range" rp) [e] [] cp) body [] pos) env) Q E s := by
  refine wpAny_For (wpAny_Call_NameR (eBuilt (v := .type "range") G (by decide +kernel) (by decide +kernel) ?_ (by decide) hk hl hg hb)) hs
  refine PyProof.Rows.callWith_type1 (args_cons (wpAny_mono he (fun v s₁ h₁ => ?_) fun _ _ e => e) hst) hst
  obtain ⟨t, m, rfl, S₁, O, hJ⟩ := h₁
  refine args_nil ?_
  refine call_range_1 ?_
  have O₁ := O.junk { cls := .type "range", data := .fields #[.int 0 s₁.toks, .int n t, .int 1 (s₁.toks + 1)] }
  refine wpAny_pyIter_range (IsRange.new ..) (small_one (by decide) (by decide) (by omega) (by omega)) ?_
  have hz : Builtin.Range.rangeSize 0 (n : Int) 1 = (n : Int) := by rw [rangeSize_one]; split <;> omega
  rw [hz]
  have O₂ := O₁.push { cls := .type "range_iterator", data := .fields #[rawInt 0, rawInt n, rawInt 1] } (P := fun o => o = { cls := .type "range_iterator", data := .fields #[rawInt 0, rawInt n, rawInt 1] }) rfl
  refine forRangeLoop (h₀ := h₀) (m := m) (a := 0) (n := n) C J hh O₂ hJ (fun E' i t m₁ s₂ P hi S hJ O => ?_) (fun m₁ s₂ S hJ O => done m₁ s₂ (S₁.trans (Sm.trans ⟨rfl, rfl, rfl⟩ S)) hJ O) hx (by rw [hk]; rfl)
  exact turn E' _ i t m₁ s₂ P hi (S₁.trans (Sm.trans ⟨rfl, rfl, rfl⟩ S)) hJ (by simpa using O)
end
end Mine
namespace Mine

theorem ints_get {vs : List Value} {ns : List Int} (h : IntsAre vs ns) {i : Nat} (hi : i < ns.length) : ∃ t, vs[i]? = some (.int (ns.getD i 0) t) := by
  obtain ⟨t, e⟩ := h.get i ns[i] (by simp [hi])
  exact ⟨t, by rw [e]; simp [List.getD, hi]⟩
theorem ints_set {vs : List Value} {ns : List Int} {x : Int} {u : Tok} (h : IntsAre vs ns) (j : Nat) : IntsAre (vs.set j (.int x u)) (ns.set j x) := PySem.W.ints_set h j
theorem ints_app {vs ws : List Value} {ns ms : List Int} (h : IntsAre vs ns) (k : IntsAre ws ms) : IntsAre (vs ++ ws) (ns ++ ms) := IntsAre.append h k

section
variable {w : World} {A : Around} {E : Value → Shared → Prop} {s : Shared} {env : Env} {mg mb m : Str → Option Value} {h₀ : Heap} {cs : List (Addr × (Obj → Prop))} {L : Addr}

theorem getInt {l : Addr} {ns : List Int} {k : Int} {u : Tok} {Q : Value → Shared → Prop} (x : Has s.heap l (iInts ns)) (h0 : 0 ≤ k) (h1 : k < ns.length) (hz : ns.length < 2 ^ 62)
    (h : ∀ t, Q (.int (ns.getD k.toNat 0) t) s) : wpAny (model PG w) A (getItem (.ref l) (.int k u)) Q E s := by
  obtain ⟨vs, hi, x⟩ := x.vals
  obtain ⟨t, e⟩ := ints_get hi (i := k.toNat) (by omega)
  exact wpAny_getItem_list x.isList h0 (by omega) (by simpa using e) (h t)
theorem getIntNeg {l : Addr} {ns : List Int} {k : Int} {u : Tok} {Q : Value → Shared → Prop} (x : Has s.heap l (iInts ns)) (h0 : k < 0) (h1 : -(ns.length : Int) ≤ k) (hz : ns.length < 2 ^ 62)
    (h : ∀ t, Q (.int (ns.getD (k + ns.length).toNat 0) t) s) : wpAny (model PG w) A (getItem (.ref l) (.int k u)) Q E s := by
  obtain ⟨vs, hi, x⟩ := x.vals
  have hl := hi.length
  obtain ⟨t, e⟩ := ints_get hi (i := (k + ns.length).toNat) (by omega)
  exact wpAny_getItem_list_neg x.isList h0 (by rw [List.size_toArray]; omega) (by omega) (by rw [List.size_toArray, hl]; simpa using e) (h t)

theorem getVal {l : Addr} {vs : List Value} {k : Int} {u : Tok} {v : Value} {Q : Value → Shared → Prop} (x : Has s.heap l (iVals vs)) (h0 : 0 ≤ k) (hz : k < 2 ^ 62) (hv : vs[k.toNat]? = some v)
    (h : Q v s) : wpAny (model PG w) A (getItem (.ref l) (.int k u)) Q E s :=
  wpAny_getItem_list x.isList h0 (by omega) (by simpa using hv) h

theorem setNeg {l : Addr} {vs : List Value} {k : Int} {u : Tok} {v : Value} {Q : Unit → Shared → Prop} (hl : s.heap.PlainList l vs.toArray) (h0 : k < 0) (h1 : -(vs.length : Int) ≤ k) (hfit : -(2 ^ 63) ≤ k)
    (h : ∀ h', h'.PlainList l (vs.set (k + vs.length).toNat v).toArray → Heap.SameBut l s.heap h' → Q () { s with heap := h' }) : wpAny (model PG w) A (setItem (.ref l) (.int k u) v) Q E s := by
  obtain ⟨n, ho⟩ := id hl
  have hT := hl.isList.typeIs
  unfold setItem
  try with_reducible refine wpAny_holding ?_
  first | refine wpAny_bind (wpAny_pure ?_) | skip
  refine wpAny_bind (wpAny_sequenceKey hT (by decide) ?_)
  refine wpAny_bind (wpAny_callSpecial?_slot (name := Str.ofString "__setitem__") hT slot_list_setitem
    (wpAny_call_entry slot_list_setitem hT entry_list_setitem ?_ (args_list_setitem _ _ _)))
  show wpAny _ _ (Builtin.List.listSubscript? (.int k u) >>= _) _ _ s
  refine wpAny_bind (wpAny_listSubscript_int (fitsIndex_neg h0 hfit) ?_)
  clear hfit
  have hidx := seqIndex_neg h0 h1
  have hj : (k + vs.length).toNat < vs.length := by omega
  generalize hjj : (k + vs.length).toNat = j at *
  obtain ⟨i, rfl⟩ : ∃ j : Nat, k = Int.negSucc j := by
    cases k with
    | ofNat n => exact absurd h0 (Int.not_lt.mpr (Int.natCast_nonneg n))
    | negSucc n => exact ⟨n, rfl⟩
  show wpAny _ _ ((Builtin.List.listItems (.ref l) >>= fun xs => pure ((seqIndex? (Int.negSucc i) xs.size).bind fun i => xs[i]?.map (i, ·))) >>= _) _ _ s
  refine wpAny_bind (wpAny_bind ?_)
  show wpAny _ _ (seqItems? (.ref l) >>= _) _ _ s
  refine wpAny_bind (wpAny_seqItems ho rfl (wpAny_pure (wpAny_pure ?_)))
  rw [List.size_toArray, hidx]
  simp only [Option.bind_some, List.getElem?_toArray, List.getElem?_eq_getElem hj, Option.map_some]
  show wpAny _ _ (setSeqItemAt l j v >>= _) _ _ s
  have e : Obj.mapSeq (·.setIfInBounds j v) ({ cls := .type "list", data := .seq vs.toArray n } : Obj) = { cls := .type "list", data := .seq (vs.set j v).toArray n } := by
    simp [Obj.mapSeq]
  have hfin : (s.heap.update l (Obj.mapSeq (·.setIfInBounds j v))).PlainList l (vs.set j v).toArray := by
    refine ⟨n, ?_⟩
    rw [Heap.get?_update_self _ ho (by rw [e]; rfl), e]
  refine wpAny_bind (wpAny_setSeqItemAt ho rfl ?_)
  first
    | exact wpAny_bind (wpAny_pure (wpAny_pure ⟨.none, rfl, wpAny_pure (h _ hfin (Heap.SameBut.update ..))⟩))
    | exact wpAny_pure ⟨.none, rfl, wpAny_pure (h _ hfin (Heap.SameBut.update ..))⟩

theorem setIntNeg {i : Nat} {l : Addr} {ns : List Int} {k x : Int} {u t : Tok} {Q : Unit → Shared → Prop} (O : Own h₀ s.heap L m cs) (hi : cs[i]? = some (l, iInts ns)) (h0 : k < 0) (h1 : -(ns.length : Int) ≤ k) (hfit : -(2 ^ 63) ≤ k)
    (h : ∀ s', Sm s s' → Own h₀ s'.heap L m (cs.set i (l, iInts (ns.set (k + ns.length).toNat x))) → Q () s') : wpAny (model PG w) A (setItem (.ref l) (.int k u) (.int x t)) Q E s := by
  obtain ⟨vs, hv, X⟩ := (O.of hi).vals
  have hl := hv.length
  exact setNeg X.plain h0 (by omega) hfit fun h' p hs => h _ ⟨rfl, rfl, rfl⟩ (O.turn hi hs.extBut ((has_vals.mpr p).ints (by rw [hl]; exact ints_set hv _)))

theorem appendInt {i : Nat} {l : Addr} {ns : List Int} {x : Int} {t : Tok} {Q : Value → Shared → Prop} (O : Own h₀ s.heap L m cs) (hi : cs[i]? = some (l, iInts ns)) (hz : ns.length ≤ 2 ^ 24)
    (h : ∀ s', Sm s s' → Own h₀ s'.heap L m (cs.set i (l, iInts (ns ++ [x]))) → Q .none s') : wpAny (model PG w) A (call (.builtin "list.append") [.ref l, .int x t]) Q E s := by
  obtain ⟨vs, hv, X⟩ := (O.of hi).vals
  have hl := hv.length
  refine wpAny_list_append_plain X.plain (fun h' p hs => h _ ⟨rfl, rfl, rfl⟩ (O.turn hi hs.extBut ((has_vals.mpr (by simpa using p)).ints (ints_app hv (.cons x t .nil))))) ?_
  rw [List.size_toArray, hl]; exact hz

theorem subInt {value slice : Expr} {l : Addr} {ns : List Int} {k : Int} {u : Tok} {Q : Value → Shared → Prop} (x : Has s.heap l (iInts ns)) (h0 : 0 ≤ k) (h1 : k < ns.length) (hz : ns.length < 2 ^ 62)
    (h : ∀ t, Q (.int (ns.getD k.toNat 0) t) s) (hs : subscripted slice false (.ref l) (.int k u) = operate [.ref l, .int k u] (getItem (.ref l) (.int k u)) := by with_unfolding_all rfl) :
    wpAny (model PG w) A (subscriptTail value slice (.ref l) (.int k u)) Q E s :=
  tail_any (let ⟨_, _, X⟩ := x.vals; X.isList.typeIs) slot_list_getitem.lookup (getInt x h0 h1 hz h) hs
theorem subIntNeg {value slice : Expr} {l : Addr} {ns : List Int} {k : Int} {u : Tok} {Q : Value → Shared → Prop} (x : Has s.heap l (iInts ns)) (h0 : k < 0) (h1 : -(ns.length : Int) ≤ k) (hz : ns.length < 2 ^ 62)
    (h : ∀ t, Q (.int (ns.getD (k + ns.length).toNat 0) t) s) (hs : subscripted slice false (.ref l) (.int k u) = operate [.ref l, .int k u] (getItem (.ref l) (.int k u)) := by with_unfolding_all rfl) :
    wpAny (model PG w) A (subscriptTail value slice (.ref l) (.int k u)) Q E s :=
  tail_any (let ⟨_, _, X⟩ := x.vals; X.isList.typeIs) slot_list_getitem.lookup (getIntNeg x h0 h1 hz h) hs

/-- o.name(e ..) for a list o -/
theorem eListMeth {o : Expr} {name : Str} {apos pos : Pos} {args : List Expr} {id : String} {Q : Value → Shared → Prop} (slot : Slot "list" name id) (hty : typeOf (.builtin id) = pure (.type "method_descriptor"))
    (h : wpAny (model PG w) A (eval o env) (fun ov s₁ => ∃ l vs, ov = .ref l ∧ Has s₁.heap l (iVals vs) ∧ wpAny (model PG w) A (callWith pos (.builtin id) [.ref l] (backTo pos (starEach args env)) []) Q E s₁) E s)
    (hbase : attributeBase o name env (eval o env) = eval o env := by rfl)
    (hfew : ((backTo pos (starEach args env)).all (fun x => !x.1) && (backToKw pos (keywordEach [] env)).all (fun x => x.1.isSome)
      && decide (args.length + ([] : List Keyword).length + (if ([] : List Keyword).isEmpty then 0 else 1) < 30)) = true := by rfl)
    (hline : (apos.endLine == pos.line) = true := by rfl) :
    wpAny (model PG w) A (eval (.Call (.Attribute o name apos) args [] pos) env) Q E s := by
  refine wpAny_Call_method hbase hfew hline F.plainAttrs_list slot hty (wpAny_mono h (fun ov s₁ h₁ => ?_) fun _ _ e => e)
  obtain ⟨l, vs, rfl, X, hq⟩ := h₁
  obtain ⟨n, ho⟩ := X.plain
  exact ⟨⟨_, ho, rfl⟩, fun a e => by cases e; exact ⟨_, ho, rfl⟩, hq⟩
end
end Mine
namespace Mine

theorem Has.isL {h : Heap} {l : Addr} {ns : List Int} (x : Has h l (iInts ns)) : ∃ vs n, IntsAre vs ns ∧ IsL h l vs.toArray n := by
  obtain ⟨vs, hi, x⟩ := x.vals
  obtain ⟨n, e⟩ := x.plain
  exact ⟨vs, n, hi, e⟩
theorem ofL {vs : List Value} {ns : List Int} {n : Nat} (hi : IntsAre vs ns) : iInts ns ({ cls := .type "list", data := .seq vs.toArray n } : Obj) := ⟨vs, hi, n, rfl⟩
theorem ofA {its : Array Value} {ns : List Int} {n : Nat} (hi : IntsAre its.toList ns) : iInts ns ({ cls := .type "list", data := .seq its n } : Obj) := ⟨its.toList, hi, n, by simp⟩

theorem foldl_rep {α : Type} (its : Array α) (k : Nat) : (List.foldl (fun x1 x2 => x1 ++ x2) #[] (List.replicate k its)).toList = (List.replicate k its.toList).flatten := by
  have : ∀ (l : List (Array α)) (acc : Array α), (l.foldl (fun x1 x2 => x1 ++ x2) acc).toList = acc.toList ++ (l.map (·.toList)).flatten := by
    intro l
    induction l with
    | nil => intro acc; simp
    | cons a r ih => intro acc; rw [List.foldl_cons, ih]; simp
  rw [this, List.map_replicate]; simp
theorem ints_rep {vs : List Value} {ns : List Int} (h : IntsAre vs ns) : ∀ k, IntsAre (List.replicate k vs).flatten (List.replicate k ns).flatten
  | 0 => .nil
  | k + 1 => by simp only [List.replicate_succ, List.flatten_cons]; exact h.append (ints_rep h k)
theorem ints_rev {vs : List Value} {ns : List Int} (h : IntsAre vs ns) : IntsAre vs.reverse ns.reverse := by
  induction h with
  | nil => exact .nil
  | cons n t _ ih => simp only [List.reverse_cons]; exact ih.append (.cons n t .nil)

section
variable {w : World} {A : Around} {E : Value → Shared → Prop} {s : Shared} {env : Env} {mg mb m : Str → Option Value} {h₀ : Heap} {cs : List (Addr × (Obj → Prop))} {L : Addr}

theorem addInts {a b : Addr} {ns ms : List Int} {Q : Value → Shared → Prop} (O : Own h₀ s.heap L m cs) (x : Has s.heap a (iInts ns)) (y : Has s.heap b (iInts ms)) (hz : ns.length + ms.length ≤ 2 ^ 24)
    (h : ∀ r s', Sm s s' → Own h₀ s'.heap L m ((r, iInts (ns ++ ms)) :: cs) → Q (.ref r) s') : wpAny (model PG w) A (binaryOp .Add (.ref a) (.ref b)) Q E s := by
  obtain ⟨vs, n, hi, e⟩ := x.isL
  obtain ⟨us, k, hj, f⟩ := y.isL
  have h1 := hi.length
  have h2 := hj.length
  exact P.add_list e f (h _ _ ⟨rfl, rfl, rfl⟩ (O.push _ (ofA (by simpa using hi.append hj)))) (by simp only [List.size_toArray]; rw [h1, h2]; exact hz)

theorem mulInts {a : Addr} {ns : List Int} {k : Int} {u : Tok} {Q : Value → Shared → Prop} (O : Own h₀ s.heap L m cs) (x : Has s.heap a (iInts ns)) (hne : ns ≠ []) (hk : k < 2 ^ 63) (hk0 : -(2 ^ 63) ≤ k) (hz : ns.length * k.toNat ≤ 2 ^ 24)
    (h : ∀ r s', Sm s s' → Own h₀ s'.heap L m ((r, iInts (List.replicate k.toNat ns).flatten) :: cs) → Q (.ref r) s') : wpAny (model PG w) A (binaryOp .Mult (.ref a) (.int k u)) Q E s := by
  obtain ⟨vs, n, hi, e⟩ := x.isL
  have h1 := hi.length
  have hvs : vs.toArray.isEmpty = false := by
    cases vs with
    | nil => cases hi; exact absurd rfl hne
    | cons => simp
  refine wpAny_binaryOp_repeat_ref (T := "list") (U := "int") (by decide) ⟨_, e, rfl⟩ (fun s' => typeIs_int s' k u) noFill_list_mul F.fills_int_mul F.slot_int_rmul repeat_list F.slot_int_index.lookup
    (call_meets F.slot_int_rmul (typeIs_int s k u) F.entry_int_rmul (F.args_int_rmul_2 _ _) (int___rmul___int_list k u a vs.toArray n)
      ⟨e, rfl, ⟨_, e, rfl⟩, call_meets F.slot_list_mul ⟨_, e, rfl⟩ F.entry_list_mul (F.args_list_mul_2 _ _)
        (AutoListH.list___mul___list_int_3 a vs.toArray n k u (by simp [Builtin.List.listFitsIndex]; omega) (by rw [List.size_toArray, h1]; omega) (by simp only [Builtin.List.listTooLong, sizeLine, List.size_toArray]; rw [h1]; simp; omega))
        ⟨e, h _ _ ⟨rfl, rfl, rfl⟩ (O.push _ (ofA ?_))⟩⟩)
  rw [hvs, if_neg (by simp), foldl_rep]
  exact ints_rep hi _

theorem extendInts {i : Nat} {a b : Addr} {ns ms : List Int} {Q : Value → Shared → Prop} (O : Own h₀ s.heap L m cs) (hi : cs[i]? = some (a, iInts ns)) (y : Has s.heap b (iInts ms)) (hz : ns.length + ms.length ≤ 2 ^ 24)
    (h : ∀ s', Sm s s' → Own h₀ s'.heap L m (cs.set i (a, iInts (ns ++ ms))) → Q .none s') : wpAny (model PG w) A (call (.builtin "list.extend") [.ref a, .ref b]) Q E s := by
  obtain ⟨vs, n, hv, e⟩ := (O.of hi).isL
  obtain ⟨us, k, hj, f⟩ := y.isL
  have h1 := hv.length
  have h2 := hj.length
  have hsz' : vs.toArray.size + us.toArray.size ≤ sizeLine := by simp only [List.size_toArray]; rw [h1, h2]; exact hz
  refine call_meets F.slot_list_extend ⟨_, e, rfl⟩ F.entry_list_extend (F.args_list_extend_2 _ _) (AutoSeq1.list_extend_list_list_0 a vs.toArray n b us.toArray k (extend_door hsz') (Nat.le_trans (Nat.le_add_right _ _) hsz')) ⟨e, f, ?_⟩
  refine h _ ⟨rfl, rfl, rfl⟩ (O.turn hi (Heap.SameBut.update ..).extBut ?_)
  refine ⟨_, Heap.get?_update_self _ e (by rw [mapSeq_app]; rfl), ?_⟩
  rw [mapSeq_app]
  exact ofA (by simpa using hv.append hj)

theorem IntsAre.last {vs : List Value} {ns : List Int} (h : IntsAre vs ns) (hp : 0 < ns.length) : ∃ t, vs[vs.length - 1]? = some (.int (ns.getD (ns.length - 1) 0) t) := by
  have e := h.length
  rw [e]
  exact ints_get h (by omega)
theorem ints_dropLast {vs : List Value} {ns : List Int} (h : IntsAre vs ns) : IntsAre vs.dropLast ns.dropLast := by
  rw [List.dropLast_eq_take, List.dropLast_eq_take, h.length]
  exact IntsAre.take h _
theorem popInts {i : Nat} {a : Addr} {ns : List Int} {pos : Pos} {Q : Value → Shared → Prop} (O : Own h₀ s.heap L m cs) (hi : cs[i]? = some (a, iInts ns)) (hp : 0 < ns.length) (hz : ns.length ≤ 2 ^ 24)
    (h : ∀ t s', Sm s s' → Own h₀ s'.heap L m (cs.set i (a, iInts ns.dropLast)) → Q (.int (ns.getD (ns.length - 1) 0) t) s') : wpAny (model PG w) A (callWith pos (.builtin "list.pop") [.ref a] [] []) Q E s := by
  obtain ⟨vs, n, hv, e⟩ := (O.of hi).isL
  have h1 := hv.length
  obtain ⟨t, ht⟩ := IntsAre.last hv hp
  refine P.pop_list e (y := .int (ns.getD (ns.length - 1) 0) t) (by simpa using ht) (h _ _ ⟨rfl, rfl, rfl⟩ (O.turn hi (Heap.SameBut.update ..).extBut ?_)) (by rw [List.size_toArray, h1]; exact hz)
  have ed : (vs.toArray.eraseIdxIfInBounds (vs.toArray.size - 1)).toList = vs.dropLast := by
    simp only [List.size_toArray]
    have : vs.length - 1 < vs.length := by omega
    simp [Array.eraseIdxIfInBounds, if_pos this]
  have em : Obj.mapSeq (fun xs => xs.eraseIdxIfInBounds (vs.toArray.size - 1)) ({ cls := .type "list", data := .seq vs.toArray n } : Obj) =
      { cls := .type "list", data := .seq (vs.toArray.eraseIdxIfInBounds (vs.toArray.size - 1)) (if (vs.toArray.eraseIdxIfInBounds (vs.toArray.size - 1)).size == vs.toArray.size then n else n + 1) } := rfl
  refine ⟨_, Heap.get?_update_self _ e (by rw [em]; rfl), ?_⟩
  rw [em]
  exact ofA (by rw [ed]; exact ints_dropLast hv)

theorem reverseInts {i : Nat} {a : Addr} {ns : List Int} {pos : Pos} {Q : Value → Shared → Prop} (O : Own h₀ s.heap L m cs) (hi : cs[i]? = some (a, iInts ns)) (hz : ns.length ≤ 2 ^ 24)
    (h : ∀ s', Sm s s' → Own h₀ s'.heap L m (cs.set i (a, iInts ns.reverse)) → Q .none s') : wpAny (model PG w) A (callWith pos (.builtin "list.reverse") [.ref a] [] []) Q E s := by
  obtain ⟨vs, n, hv, e⟩ := (O.of hi).isL
  have h1 := hv.length
  refine P.reverse_list e (h _ ⟨rfl, rfl, rfl⟩ (O.turn hi (Heap.SameBut.update ..).extBut ?_)) (by rw [List.size_toArray, h1]; exact hz)
  have em : Obj.mapSeq (fun x => x.reverse) ({ cls := .type "list", data := .seq vs.toArray n } : Obj) =
      { cls := .type "list", data := .seq vs.toArray.reverse (if vs.toArray.reverse.size == vs.toArray.size then n else n + 1) } := rfl
  refine ⟨_, Heap.get?_update_self _ e (by rw [em]; rfl), ?_⟩
  rw [em]
  exact ofA (by simpa using ints_rev hv)

theorem eqInts {a b : Addr} {ns ms : List Int} {Q : Value → Shared → Prop} (x : Has s.heap a (iInts ns)) (y : Has s.heap b (iInts ms)) (hu : A.units + 64 < cLine) (h : Q (.bool (decide (ns = ms))) s) :
    wpAny (model PG w) A (compareOp .Eq (.ref a) (.ref b)) Q E s :=
  let ⟨_, hi, X⟩ := x.vals; let ⟨_, hj, Y⟩ := y.vals; eq_intsK X.isList hi Y.isList hj hu h
theorem neInts {a b : Addr} {ns ms : List Int} {Q : Value → Shared → Prop} (x : Has s.heap a (iInts ns)) (y : Has s.heap b (iInts ms)) (hu : A.units + 64 < cLine) (h : Q (.bool (!decide (ns = ms))) s) :
    wpAny (model PG w) A (compareOp .NotEq (.ref a) (.ref b)) Q E s :=
  let ⟨_, hi, X⟩ := x.vals; let ⟨_, hj, Y⟩ := y.vals; ne_intsK X.isList hi Y.isList hj hu h
theorem inInts {a : Addr} {ns : List Int} {k : Int} {t : Tok} {Q : Value → Shared → Prop} (x : Has s.heap a (iInts ns)) (h : Q (.bool (ns.any (· == k))) s) :
    wpAny (model PG w) A (compareOp .In (.int k t) (.ref a)) Q E s :=
  let ⟨_, hi, X⟩ := x.vals; in_list_ints X.isList hi h

/-- value[lo:hi] of a list of ints -/
theorem eSlice {value : Expr} {lower upper : Option Expr} {p pos : Pos} {Q : Value → Shared → Prop}
    (h : wpAny (model PG w) A (eval value env) (fun o s₁ => wpAny (model PG w) A (evalPart lower env) (fun vl s₂ => wpAny (model PG w) A (evalPart upper env) (fun vu s₃ =>
      ∃ l ns lo hi ms h₀ L m cs, o = .ref l ∧ Has s₃.heap l (iInts ns) ∧ ns.length ≤ 2 ^ 24 ∧ IsPart vl lo ∧ IsPart vu hi ∧ (∀ vs, IntsAre vs ns → IntsAre (slicePick vs.toArray lo hi none).toList ms) ∧ Own h₀ s₃.heap L m cs ∧
        ∀ r s', Sm s₃ s' → Own h₀ s'.heap L m ((r, iInts ms) :: cs) → Q (.ref r) s') E s₂) E s₁) E s)
    (ht : ∀ o r, letTemporaryGo value o r = pure () := by intro _ _; rfl) :
    wpAny (model PG w) A (eval (.Subscript value (.Slice lower upper none p) pos) env) Q E s := by
  refine wpAny_Subscript_list_slice (wpAny_mono h (fun o s₁ h₁ => wpAny_mono h₁ (fun vl s₂ h₂ => wpAny_mono h₂ (fun vu s₃ h₃ => ?_) fun _ _ e => e) fun _ _ e => e) fun _ _ e => e) ht
  obtain ⟨l, ns, lo, hi, ms, h₀, L, m, cs, rfl, X, hz, pl, pu, hm, O, hq⟩ := h₃
  obtain ⟨vs, hv, X⟩ := X.vals
  refine ⟨l, vs.toArray, lo, hi, rfl, X.isList, by rw [List.size_toArray, hv.length]; exact hz, pl, pu, hq _ _ ⟨rfl, rfl, rfl⟩ ?_⟩
  have O₁ := (O.junk { cls := .type "slice", data := .fields #[vl, vu, .none] }).push { cls := .type "list", data := .seq (slicePick vs.toArray lo hi none) } (P := iInts ms) (ofA (hm vs hv))
  rw [Heap.size_push] at O₁
  exact O₁
end
end Mine
namespace Mine
/-- the runs of a row, up to its k-th place -/
def runsTo (row : List Int) : Nat → List Int
  | 0 => []
  | k + 1 => if 0 < k ∧ row.getD k 0 = row.getD (k - 1) 0 then (runsTo row k).set ((runsTo row k).length - 1) ((runsTo row k).getD ((runsTo row k).length - 1) 0 + 1) else runsTo row k ++ [1]
theorem runsTo_pos (row : List Int) : ∀ k, 0 < k → 0 < (runsTo row k).length
  | 0, h => by omega
  | k + 1, _ => by
    unfold runsTo
    split
    · rename_i h; rw [List.length_set]; exact runsTo_pos row k h.1
    · simp
theorem runsTo_le (row : List Int) : ∀ k, (runsTo row k).length ≤ k
  | 0 => by simp [runsTo]
  | k + 1 => by
    have := runsTo_le row k
    unfold runsTo
    split
    · rw [List.length_set]; omega
    · simp; omega
variable {w : World} {A : Around} {E : Value → Shared → Prop} {s : Shared} {mg mb : Str → Option Value}
set_option pp.maxSteps 600
set_option pp.deepTerms.threshold 6
theorem runs_spec {l : Addr} {ns : List Int} {Q : Value → Shared → Prop} (G : Gl mg mb s.heap) (fit : Fit A 1) (hl : Has s.heap l (iInts ns)) (hlen : ns.length ≤ 2 ^ 20)
   (hQ : ∀ r s', Sm s s' → Keeps s.heap s'.heap → s.heap.get? r = none → Has s'.heap r (iInts (runsTo ns ns.length)) → Q (.ref r) s') :
   wpAny (model PG w) A (call (.ref 105) [.ref l]) Q E s := by
  refine callDef (n := 0) (binds := [("row", .ref l)]) G.f20 G.lim fit (fun _ _ => rfl) (by rfl) fun s₁ S₁ O₁ fit₁ => ?_
  have hrow : ∀ {s' : Shared}, Keeps s.heap s'.heap → Has s'.heap l (iInts ns) := fun k => hl.keeps k
  -- runs = []
  refine wpAny_execs_cons (sName (List_ (args_nil (newListO O₁ (fun r s₂ S₂ O₂ => ⟨_, _, _, O₂, fun s₃ S₃ O₃ => ?_⟩) (by decide)))))
  -- for k in range(len(row))
  refine wpAny_execs_cons (forRange1 ns.length (fun k => [(r, iInts (runsTo ns k))]) (fun _ m => m "row" = some (.ref l) ∧ m "runs" = some (.ref r)) (h₀ := s.heap)
    (G.keeps O₃.keep) fit₁.handled ?_ ?_ ?_ (by omega))
  · refine Call_ (eBuilt (G.keeps O₃.keep) (by decide +kernel) (v := .builtin "len") (by decide +kernel) ?_)
    refine PyProof.Rows.callWith_builtin1 (args_cons (eLocal O₃ (v := .ref l) (by rfl) (args_nil ?_)))
    refine lenO (hrow O₃.keep) (by omega) fun t s₄ S₄ e₄ => ?_
    refine ⟨t, ?m, rfl, S₄, ?o, ?j⟩
    case o =>
      rw [e₄]
      exact O₃.turn (i := 0) rfl (Heap.ExtBut.refl _ _) ((O₃.of (i := 0) rfl).ints .nil)
    case j => exact ⟨by rfl, by rfl⟩
  · intro E' it i t m₁ s₅ P hi S₅ ⟨h1, h2⟩ O₅
    have Hr := hrow O₅.keep
    have b1 : upd m₁ "k" (.int i t) "row" = some (.ref l) := (upd_ne (by decide)).trans h1
    have b2 : upd m₁ "k" (.int i t) "runs" = some (.ref r) := (upd_ne (by decide)).trans h2
    have hle := runsTo_le ns i
    refine wpAny_execs_cons (wpAny_If (wpAny_isTrue_BoolOp (wpAny_allTrue_And_cons (wpAny_isTrue_Compare1 ?_))))
    refine eLocal O₅ upd_same (wpAny_Constant_int (gt_int (wpAny_truthy_bool ?_)))
    have no : ∀ s₆ : Shared, Sm s₅ s₆ → s₆.heap = s₅.heap → ¬ (0 < i ∧ ns.getD i 0 = ns.getD (i - 1) 0) → ∀ (Q : Flow → Shared → Prop), (∀ s₇, Sm s₆ s₇ → Own s.heap s₇.heap s.heap.objs.size (upd m₁ "k" (.int i t)) [(it, P), (r, iInts (runsTo ns (i + 1)))] → Q .next s₇) →
        wpAny (model PG w) (A.deeper (envOf (defAt 20).name (defAt 20).scope s.heap.objs.size 105 (Value.ref 104))) (execs ((match (defAt 20).body with | [_, .For _ _ [.If _ _ e _] _ _, _] => e | _ => [])) (envOf (defAt 20).name (defAt 20).scope s.heap.objs.size 105 (Value.ref 104))) Q E' s₆ := by
      intro s₆ S₆ e₆ hn Q hq
      have O₆ : Own s.heap s₆.heap s.heap.objs.size (upd m₁ "k" (.int i t)) [(it, P), (r, iInts (runsTo ns i))] := by rw [e₆]; exact O₅
      refine wpAny_execs_cons (wpAny_Expr_any ?_)
      refine eListMeth F.slot_list_append F.type_list_append (eLocal O₆ b2 ?_)
      obtain ⟨vs, hv, X⟩ := (O₆.of (i := 1) rfl).vals
      refine ⟨_, _, rfl, X, ?_⟩
      refine callWith_method1 (args_cons (wpAny_Constant_int (args_nil ?_)))
      refine appendInt (i := 1) O₆ rfl (by omega) fun s₇ S₇ O₇ => wpAny_execs_nil ?_
      refine hq _ (Sm.trans ⟨rfl, rfl, rfl⟩ S₇) ?_
      rw [show runsTo ns (i + 1) = runsTo ns i ++ [1] from if_neg hn]
      exact O₇
    have yes : ∀ s₆ : Shared, Sm s₅ s₆ → s₆.heap = s₅.heap → (0 < i ∧ ns.getD i 0 = ns.getD (i - 1) 0) → ∀ (Q : Flow → Shared → Prop), (∀ s₇, Sm s₆ s₇ → Own s.heap s₇.heap s.heap.objs.size (upd m₁ "k" (.int i t)) [(it, P), (r, iInts (runsTo ns (i + 1)))] → Q .next s₇) →
        wpAny (model PG w) (A.deeper (envOf (defAt 20).name (defAt 20).scope s.heap.objs.size 105 (Value.ref 104))) (execs ((match (defAt 20).body with | [_, .For _ _ [.If _ e _ _] _ _, _] => e | _ => [])) (envOf (defAt 20).name (defAt 20).scope s.heap.objs.size 105 (Value.ref 104))) Q E' s₆ := by
      intro s₆ S₆ e₆ hn Q hq
      have O₆ : Own s.heap s₆.heap s.heap.objs.size (upd m₁ "k" (.int i t)) [(it, P), (r, iInts (runsTo ns i))] := by rw [e₆]; exact O₅
      have hp := runsTo_pos ns i hn.1
      refine wpAny_execs_cons (wpAny_AugAssign_SubscriptAny ?_)
      refine eLocal O₆ b2 ?_
      refine wpAny_UnaryOp (wpAny_Constant_int (neg_int ?_))
      refine getIntNeg (O₆.of (i := 1) rfl) (by decide) (by omega) (by omega) fun t₁ => ?_
      refine wpAny_Constant_int (iadd_int ?_)
      refine setIntNeg (i := 1) O₆ rfl (by decide) (by omega) (by decide) fun s₇ S₇ O₇ => wpAny_execs_nil ?_
      refine hq _ (Sm.trans ⟨rfl, rfl, rfl⟩ S₇) ?_
      rw [show runsTo ns (i + 1) = (runsTo ns i).set ((runsTo ns i).length - 1) ((runsTo ns i).getD ((runsTo ns i).length - 1) 0 + 1) from if_pos hn]
      have e : (-1 + ((runsTo ns i).length : Int)).toNat = (runsTo ns i).length - 1 := by omega
      simp only [e] at O₇
      exact O₇
    have good : ∀ s₆ s₇ : Shared, Sm s₅ s₆ → Sm s₆ s₇ → Own s.heap s₇.heap s.heap.objs.size (upd m₁ "k" (.int i t)) [(it, P), (r, iInts (runsTo ns (i + 1)))] →
        Goes s₅ s₇ s.heap s.heap.objs.size (fun m => m "row" = some (.ref l) ∧ m "runs" = some (.ref r)) [(it, P), (r, iInts (runsTo ns (i + 1)))] .next :=
      fun s₆ s₇ x y O => ⟨.inl rfl, x.trans y, _, ⟨b1, b2⟩, O⟩
    by_cases h0 : 0 < i
    · rw [decide_eq_true (show (0 : Int) < (i : Int) by omega), if_pos rfl]
      refine wpAny_allTrue_And_cons (wpAny_isTrue_Compare1 ?_)
      refine Subscript_ (eLocal O₅ b1 (eLocal O₅ upd_same (subInt Hr (by omega) (by omega) (by omega) fun t₁ => ?_)))
      refine Subscript_ (eLocal O₅ b1 (wpAny_BinOp (eLocal O₅ upd_same (wpAny_Constant_int (sub_int ?_)))))
      refine subInt Hr (by omega) (by omega) (by omega) fun t₂ => eq_int (wpAny_truthy_bool ?_)
      have e : ((i : Int) - 1).toNat = i - 1 := by omega
      rw [Int.toNat_natCast, e]
      by_cases he : ns.getD i 0 = ns.getD (i - 1) 0
      · rw [show (ns.getD i 0 == ns.getD (i - 1) 0) = true from by simpa using he, if_pos rfl]
        refine wpAny_allTrue_And_nil ?_
        rw [if_pos rfl]
        refine yes _ ?a ?b ⟨h0, he⟩ _ ?c
        case a => exact ⟨rfl, rfl, rfl⟩
        case b => rfl
        case c => exact fun s₇ S₇ O₇ => wpAny_execs_nil (good _ _ ⟨rfl, rfl, rfl⟩ S₇ O₇)
      · rw [show (ns.getD i 0 == ns.getD (i - 1) 0) = false from by simpa using he, if_neg (by simp), if_neg (by simp)]
        refine no _ ?a ?b (fun h => he h.2) _ ?c
        case a => exact ⟨rfl, rfl, rfl⟩
        case b => rfl
        case c => exact fun s₇ S₇ O₇ => wpAny_execs_nil (good _ _ ⟨rfl, rfl, rfl⟩ S₇ O₇)
    · rw [decide_eq_false (show ¬ (0 : Int) < (i : Int) by omega), if_neg (by simp), if_neg (by simp)]
      refine no _ ?a ?b (fun h => h0 h.1) _ ?c
      case a => exact ⟨rfl, rfl, rfl⟩
      case b => rfl
      case c => exact fun s₇ S₇ O₇ => wpAny_execs_nil (good _ _ ⟨rfl, rfl, rfl⟩ S₇ O₇)
  · intro m₁ s₅ S₅ ⟨h1, h2⟩ O₅
    refine wpAny_execs_cons (wpAny_Return_some (eLocal O₅ h2 ?_))
    exact hQ r s₅ (S₁.trans (S₂.trans (S₃.trans S₅))) O₅.keep (O₅.fresh (i := 0) rfl) (O₅.of (i := 0) rfl)
end Mine
namespace Mine
/-- a tuple of ints -/
def iTupI (ns : List Int) (o : Obj) : Prop := ∃ vs, IntsAre vs ns ∧ o.cls = .type "tuple" ∧ ∃ n, o.data = .seq vs.toArray n
theorem Has.tupI {h : Heap} {a ns} (x : Has h a (iTupI ns)) : ∃ vs, IntsAre vs ns ∧ IsTup h a vs.toArray := let ⟨o, e, vs, i, c, n, d⟩ := x; ⟨vs, i, o, e, c, n, d⟩
section
variable {w : World} {A : Around} {E : Value → Shared → Prop} {s : Shared} {env : Env} {mg mb m : Str → Option Value} {h₀ : Heap} {cs : List (Addr × (Obj → Prop))} {L : Addr}
theorem subTup {value slice : Expr} {l : Addr} {ns : List Int} {k : Int} {u : Tok} {Q : Value → Shared → Prop} (x : Has s.heap l (iTupI ns)) (h0 : 0 ≤ k) (h1 : k < ns.length) (hz : ns.length < 2 ^ 62)
    (h : ∀ t, Q (.int (ns.getD k.toNat 0) t) s)
    (hs : subscripted slice false (.ref l) (.int k u) = operate [.ref l, .int k u] (getItem (.ref l) (.int k u)) := by with_unfolding_all rfl) (hg : ∀ r, letTemporaryGo value (.ref l) r = pure () := by intro _; with_unfolding_all rfl) :
    wpAny (model PG w) A (subscriptTail value slice (.ref l) (.int k u)) Q E s :=
  let ⟨_, hi, X⟩ := x.tupI; item_tuple_ints X hi h0 h1 (by omega) h hs hg
end

/-- the row that runs of these sizes make, up to the k-th -/
def writtenTo (sizes pair : List Int) : Nat → List Int
  | 0 => []
  | k + 1 => writtenTo sizes pair k ++ List.replicate (sizes.getD k 0).toNat (pair.getD (k % 2) 0)
theorem writtenTo_le (sizes pair : List Int) (b : Nat) (hb : ∀ x ∈ sizes, x ≤ b) : ∀ k, (writtenTo sizes pair k).length ≤ b * k
  | 0 => by simp [writtenTo]
  | k + 1 => by
    have ih := writtenTo_le sizes pair b hb k
    have : (sizes.getD k 0).toNat ≤ b := by
      by_cases h : k < sizes.length
      · have := hb _ (List.getElem_mem h)
        simp only [List.getD_eq_getElem?_getD, List.getElem?_eq_getElem h, Option.getD_some]; omega
      · simp [List.getD_eq_getElem?_getD, List.getElem?_eq_none (Nat.le_of_not_lt h)]
    simp only [writtenTo, List.length_append, List.length_replicate]
    rw [Nat.mul_succ]; omega
variable {w : World} {A : Around} {E : Value → Shared → Prop} {s : Shared} {mg mb : Str → Option Value}
set_option pp.maxSteps 600
set_option pp.deepTerms.threshold 6
theorem written_spec {l tp : Addr} {ns : List Int} {p q : Int} {Q : Value → Shared → Prop} (G : Gl mg mb s.heap) (fit : Fit A 1) (hl : Has s.heap l (iInts ns)) (htp : Has s.heap tp (iTupI [p, q])) (hlen : ns.length ≤ 2 ^ 12)
   (hb : ∀ x ∈ ns, 0 ≤ x ∧ x ≤ 16)
   (hQ : ∀ r s', Sm s s' → Keeps s.heap s'.heap → s.heap.get? r = none → Has s'.heap r (iInts (writtenTo ns [p, q] ns.length)) → Q (.ref r) s') :
   wpAny (model PG w) A (call (.ref 98) [.ref l, .ref tp]) Q E s := by
  refine callDef (n := 0) (binds := [("sizes", .ref l), ("pair", .ref tp)]) G.f19 G.lim fit (fun _ _ => rfl) (by rfl) fun s₁ S₁ O₁ fit₁ => ?_
  have hwl := writtenTo_le ns [p, q] 16 (fun x hx => (hb x hx).2)
  have h1 : ∀ {s' : Shared}, Keeps s.heap s'.heap → Has s'.heap l (iInts ns) := fun k => hl.keeps k
  have h2 : ∀ {s' : Shared}, Keeps s.heap s'.heap → Has s'.heap tp (iTupI [p, q]) := fun k => htp.keeps k
  refine wpAny_execs_cons (sName (List_ (args_nil (newListO O₁ (fun r s₂ S₂ O₂ => ⟨_, _, _, O₂, fun s₃ S₃ O₃ => ?_⟩) (by decide)))))
  refine wpAny_execs_cons (forRange1 ns.length (fun k => [(r, iInts (writtenTo ns [p, q] k))]) (fun _ m => m "sizes" = some (.ref l) ∧ m "pair" = some (.ref tp) ∧ m "written" = some (.ref r)) (h₀ := s.heap)
    (G.keeps O₃.keep) fit₁.handled ?_ ?_ ?_ (by omega))
  · refine Call_ (eBuilt (G.keeps O₃.keep) (by decide +kernel) (v := .builtin "len") (by decide +kernel) ?_)
    refine PyProof.Rows.callWith_builtin1 (args_cons (eLocal O₃ (v := .ref l) (by rfl) (args_nil ?_)))
    refine lenO (h1 O₃.keep) (by omega) fun t s₄ S₄ e₄ => ?_
    refine ⟨t, ?m, rfl, S₄, ?o, ?j⟩
    case o =>
      rw [e₄]
      exact O₃.turn (i := 0) rfl (Heap.ExtBut.refl _ _) ((O₃.of (i := 0) rfl).ints .nil)
    case j => exact ⟨by rfl, by rfl, by rfl⟩
  · intro E' it i t m₁ s₅ P hi S₅ ⟨a1, a2, a3⟩ O₅
    have b1 : upd m₁ "k" (.int i t) "sizes" = some (.ref l) := (upd_ne (by decide)).trans a1
    have b2 : upd m₁ "k" (.int i t) "pair" = some (.ref tp) := (upd_ne (by decide)).trans a2
    have b3 : upd m₁ "k" (.int i t) "written" = some (.ref r) := (upd_ne (by decide)).trans a3
    have hi' : 0 ≤ ns.getD i 0 ∧ ns.getD i 0 ≤ 16 := by
      simp only [List.getD_eq_getElem?_getD, List.getElem?_eq_getElem hi, Option.getD_some]; exact hb _ (List.getElem_mem hi)
    refine wpAny_execs_cons (wpAny_Expr_any ?_)
    refine eListMeth F.slot_list_extend F.type_list_extend (eLocal O₅ b3 ?_)
    obtain ⟨vs, hv, X⟩ := (O₅.of (i := 1) rfl).vals
    refine ⟨_, _, rfl, X, ?_⟩
    refine callWith_method1 (args_cons (wpAny_BinOp (List_ (args_cons (Subscript_ (eLocal O₅ b2 (wpAny_BinOp (eLocal O₅ upd_same (wpAny_Constant_int (PyProof.Rows.mod_int (by decide) ?_)))))))))) 
    refine subTup (h2 O₅.keep) (Int.fmod_nonneg_of_pos _ (by decide)) (Int.fmod_lt_of_pos _ (by decide)) (by simp) fun t₁ => args_nil ?_
    refine newListO O₅ (fun r₂ s₆ S₆ O₆ => ?_) (Nat.le_of_ble_eq_true rfl)
    refine Subscript_ (eLocal O₆ b1 (eLocal O₆ upd_same (subInt (h1 O₆.keep) (by omega) (by omega) (by omega) fun t₂ => ?_)))
    refine mulInts O₆ ((O₆.of (i := 0) rfl).ints (.cons _ t₁ .nil)) (by simp) (by rw [Int.toNat_natCast]; omega) (by rw [Int.toNat_natCast]; omega) (by rw [Int.toNat_natCast, List.length_singleton]; omega) fun r₃ s₇ S₇ O₇ => ?_
    refine args_nil ?_
    have := hwl i
    refine extendInts (i := 3) O₇ rfl (O₇.of (i := 0) rfl) ?_ fun s₈ S₈ O₈ => ?_
    · simp only [List.length_flatten, List.map_replicate, List.sum_replicate_nat, List.length_cons, List.length_nil]
      rw [Int.toNat_natCast]; omega
    · refine wpAny_execs_nil ⟨.inl rfl, Sm.trans ⟨rfl, rfl, rfl⟩ (S₆.trans (S₇.trans S₈)), _, ⟨b1, b2, b3⟩, ?_⟩
      have e : writtenTo ns [p, q] i ++ (List.replicate (ns.getD (i : Int).toNat 0).toNat [[p, q].getD (Int.fmod (i : Int) 2).toNat 0]).flatten = writtenTo ns [p, q] (i + 1) := by
        have e1 : (Int.fmod (i : Int) 2).toNat = i % 2 := by rw [Int.fmod_eq_emod_of_nonneg _ (by decide)]; omega
        rw [e1, lm_rep_flat_one, Int.toNat_natCast]; rfl
      have O₉ := O₈.tail.tail
      simp only [e] at O₉
      exact O₉
  · intro m₁ s₅ S₅ ⟨a1, a2, a3⟩ O₅
    refine wpAny_execs_cons (wpAny_Return_some (eLocal O₅ a3 ?_))
    exact hQ r s₅ (S₁.trans (S₂.trans (S₃.trans S₅))) O₅.keep (O₅.fresh (i := 0) rfl) (O₅.of (i := 0) rfl)
end Mine
namespace Mine

/-- a list iterator before the i-th item -/
def iLit (l : Addr) (i : Nat) (o : Obj) : Prop := o.cls = .type "list_iterator" ∧ o.data = .fields #[.ref l, .int i 0]
/-- a namespace -/
def iNs (m : Str → Option Value) (o : Obj) : Prop := ∃ es ep, o.data = .dict es ep ∧ StrKeys es ∧ ∀ name, nsFind es name = m name
theorem has_ns {h : Heap} {a m} : Has h a (iNs m) ↔ h.Ns a m := ⟨fun ⟨o, e, es, ep, r⟩ => ⟨o, es, ep, e, r⟩, fun ⟨o, es, ep, e, r⟩ => ⟨o, e, es, ep, r⟩⟩

def ghost1 (h : Heap) (a : Addr) : Heap := h.update a fun _ => { cls := .none, data := .freed }
theorem ghost1_self (h : Heap) (a : Addr) : (ghost1 h a).get? a = none := by
  have e : (ghost1 h a).objs = h.objs.modify a fun _ => { cls := .none, data := .freed } := by cases h; rfl
  unfold Heap.get?
  rw [e, Array.getElem?_modify, if_pos rfl]
  cases h.objs[a]? with
  | none => rfl
  | some o => rfl
theorem ghost1_other (h : Heap) {a b : Addr} (ne : b ≠ a) : (ghost1 h a).get? b = h.get? b := Heap.get?_update_other _ _ (Ne.symm ne)

/-- the heap without these two: what a frame at L with one object of its own keeps -/
theorem ghostOwn {h : Heap} {L it : Addr} {m : Str → Option Value} {P : Obj → Prop} (ns : h.Ns L m) (hit : Has h it P) (ne : it ≠ L) :
    ∃ hb, (∀ b o, b ≠ L → b ≠ it → h.get? b = some o → hb.get? b = some o) ∧ Own hb h L m [(it, P)] ∧ hb.get? L = none ∧ hb.get? it = none ∧ Keeps hb h := by
  have k : Keeps (ghost1 (ghost1 h L) it) h := by
    intro b o e
    by_cases h1 : b = it
    · subst h1; rw [ghost1_self] at e; cases e
    · rw [ghost1_other _ h1] at e
      by_cases h2 : b = L
      · subst h2; rw [ghost1_self] at e; cases e
      · rw [ghost1_other _ h2] at e; exact e
  have nL : (ghost1 (ghost1 h L) it).get? L = none := by rw [ghost1_other _ ne.symm, ghost1_self]
  have ni : (ghost1 (ghost1 h L) it).get? it = none := ghost1_self _ _
  refine ⟨ghost1 (ghost1 h L) it, fun b o h1 h2 e => by rw [ghost1_other _ h2, ghost1_other _ h1]; exact e, ⟨ns, k, nL, ?_, ?_, by simp [ne.symm]⟩, nL, ni, k⟩
  · intro p hp; rw [List.mem_singleton.mp hp]; exact hit
  · intro p hp; rw [List.mem_singleton.mp hp]; exact ni
theorem ghostOwn0 {h : Heap} {L : Addr} {m : Str → Option Value} (ns : h.Ns L m) :
    ∃ hb, (∀ b o, b ≠ L → h.get? b = some o → hb.get? b = some o) ∧ Own hb h L m [] ∧ hb.get? L = none ∧ Keeps hb h := by
  have k : Keeps (ghost1 h L) h := by
    intro b o e
    by_cases h2 : b = L
    · subst h2; rw [ghost1_self] at e; cases e
    · rw [ghost1_other _ h2] at e; exact e
  exact ⟨ghost1 h L, fun b o h1 e => by rw [ghost1_other _ h1]; exact e, ⟨ns, k, ghost1_self _ _, fun _ hp => (nomatch hp), fun _ hp => (nomatch hp), by simp⟩, ghost1_self _ _, k⟩

/-- what the generator has turned since: its frame, its iterator -/
def Since (Lg it : Addr) (s₀ s : Shared) : Prop := Sm s₀ s ∧ ∀ b o, b ≠ Lg → b ≠ it → s₀.heap.get? b = some o → s.heap.get? b = some o

section
variable (w : World) (A : Around) (h₀ : Heap) (Lg it l : Addr) (rs : List Int) (z N : Nat)

abbrev genv (Lg : Addr) : Env := envOf (defAt 2).name (defAt 2).scope Lg 21 (.ref 20)
/-- the j-th told -/
def vl (j : Nat) : Int := rs.getD (if j < z then j else z - 1) 0
def LgP (j : Nat) (o : Obj) : Prop := ∃ m, iNs m o ∧ if j < z then ∃ t, m "interval" = some (.int (rs.getD j 0) t) else ∃ t, m "last_interval" = some (.int (rs.getD (z - 1) 0) t)
def itP (j : Nat) (o : Obj) : Prop := if j < z then iLit l (j + 1) o else True
def GSt (j : Nat) (h : Heap) : Prop := Has h Lg (LgP rs z j) ∧ Has h it (itP l z j)
def YY : Protocol := fun n s₀ v s kap => (∃ t, v = .int (vl rs z (N - 1 - n)) t) ∧ (N - 1 - n < z ∨ (z < rs.length ∧ rs.getD z 0 = 0)) ∧ Since Lg it s₀ s ∧ GSt Lg it l rs z (N - 1 - n) s.heap ∧
  (n ≠ 0 → ∀ s'', GSt Lg it l rs z (N - 1 - n) s''.heap → Keeps h₀ s''.heap → kap (.send .none) s'')
def PP (n : Nat) (s₀ s : Shared) : Prop := n = N - z ∧ (z = rs.length ∨ rs.getD z 0 = 127) ∧ Since Lg it s₀ s
abbrev RR : GenEnd := fun n s₀ r s₁ => r = .ok (.ret .none) ∧ PP Lg it rs z N n s₀ s₁

variable {w A h₀ Lg it l rs z N}

theorem since_of {hb : Heap} {s₀ s s₁ : Shared} {m m₁ : Str → Option Value} {cs₁ : List (Addr × (Obj → Prop))} (S : Since Lg it s₀ s) (S₁ : Sm s s₁) (hk : ∀ b o, b ≠ Lg → b ≠ it → s.heap.get? b = some o → hb.get? b = some o) (O : Own hb s₁.heap Lg m₁ cs₁) : Since Lg it s₀ s₁ :=
  ⟨S.1.trans S₁, fun b o h1 h2 e => O.keep _ _ (hk b o h1 h2 (S.2 b o h1 h2 e))⟩

theorem truthy_true {M : Model} {A : Around} {E : Value → Shared → Prop} {s : Shared} {env : Env} {k : Nat} {p : Pos} {Q : Bool → Shared → Prop} (h : Q true s) :
    wpAny M A (isTrue (.Constant (.bool true) k p) env (eval (.Constant (.bool true) k p) env)) Q E s :=
  isTrue_plain (wpAny_Constant_bool (wpAny_truthy_bool h))

theorem seg_W {k : Nat} {p p1 p2 p3 : Pos} (hzero : z < rs.length ∧ rs.getD z 0 = 0) : ∀ (n : Nat) (s₀ s : Shared) (fs : List Frame) (m : Str → Option Value) (P : Obj → Prop), z + n ≤ N → 0 < n → s.heap.Ns Lg m → Has s.heap it P → it ≠ Lg → 
    (∃ t, m "last_interval" = some (.int (rs.getD (z - 1) 0) t)) → Since Lg it s₀ s → splitAtGen fs = none → fs.any Frame.guarded = false →
    Seg (model PG w) A (RR Lg it rs z N) (YY h₀ Lg it l rs z N) n s₀ (.whileLoop (.Constant (.bool true) k p) [.Expr (.Yield (some (.Name "last_interval" p1)) p2) p3] [] (genv Lg))
      ((model PG w).den (.whileLoop (.Constant (.bool true) k p) [.Expr (.Yield (some (.Name "last_interval" p1)) p2) p3] [] (genv Lg))) fs s := by
  intro n
  induction n with
  | zero => intro _ _ _ _ _ _ h; exact absurd h (by omega)
  | succ n ih =>
    intro s₀ s fs m P hN _ hns hit hne ⟨t, hm⟩ S hfs hfg
    obtain ⟨hb, hk, O, hbL, hbi, _⟩ := ghostOwn hns hit hne
    refine seg_whileLoop (truthy_true ?_)
    rw [if_pos rfl]
    refine seg_execs_cons (seg_Expr_Yield hfs rfl hfg (eLocal (env := genv Lg) O hm fun kap hkap => ?_))
    have hj : ¬ N - 1 - n < z := by omega
    refine ⟨⟨t, by rw [vl, if_neg hj]⟩, .inr hzero, S, ⟨⟨_, (has_ns.mpr hns).choose_spec.1, m, (has_ns.mpr hns).choose_spec.2, by rw [if_neg hj]; exact ⟨t, hm⟩⟩, hit.imp fun _ _ => by rw [itP, if_neg hj]; trivial⟩, fun hn0 s'' G K => hkap .none s'' ?_⟩
    obtain ⟨⟨oL, eL, m', hm', hc⟩, o2, e2, _⟩ := G
    rw [if_neg hj] at hc
    exact seg_execs_nil (seg_again rfl (ih s'' s'' fs m' (fun _ => True) (by omega) (by omega) (has_ns.mp ⟨oL, eL, hm'⟩) ⟨o2, e2, trivial⟩ hne hc ⟨Sm.refl _, fun _ _ _ _ e => e⟩ hfs hfg))

theorem seg_If {M : Model} {A : Around} {R : GenEnd} {Y : Protocol} {n : Nat} {s₀ : Shared} {c : Code} {fs : List Frame} {s : Shared} {env : Env} {K : Flow → Sem PySem.Fin} {H : Value → Sem PySem.Fin} {gd : Bool → Bool} {lv : List Value → List Value} {test : Expr} {body orelse : List Stmt} {pos : Pos}
    (h : wpAny M (A.over c fs) (isTrue test env (eval test env)) (fun b s' => if b = true then Seg M A R Y n s₀ c ((execs body env).wrap K H gd lv) fs s' else Seg M A R Y n s₀ c ((execs orelse env).wrap K H gd lv) fs s') (fun x s' => Seg M A R Y n s₀ c (H x) fs s') s) :
    Seg M A R Y n s₀ c ((exec (.If test body orelse pos) env).wrap K H gd lv) fs s := by
  rw [arm_exec_If]
  refine seg_bind_wrap (wpAny_standAt (seg_bind_wrap (wpAny_mono h (fun b s' h' => ?_) fun _ _ e => e)))
  cases b <;> exact h'

abbrev genBody : List Stmt := match (defAt 2).body with | [_, .For _ _ b _ _] => b | _ => []
theorem forTurn_eq (target : Expr) (itv : Value) (body : List Stmt) (env : Env) : forTurn target itv body [] env = (do
    standAt target.pos
    match ← (pyNext itv).onRaise (fun _ => standAt { target.pos with line := 0 }) with
    | none => again (.block [] env)
    | some v => do
      letOwnedTupleGo target itv v
      assign target env v
      match ← execs body env with
      | .next | .cont => again (.forLoop target itv body [] env)
      | .brk => pure (.done .next)
      | .ret v => pure (.done (.ret v))) := rfl

set_option pp.maxSteps 800
set_option pp.deepTerms.threshold 6
theorem seg_F {mg mb : Str → Option Value} {p : Pos} {k : Result → Sem Fin} {c : Code} {p₁ : Pos} (hA : A.handled = none) (G : Gl mg mb h₀) (hl : Has h₀ l (iInts rs)) (hLg : h₀.get? Lg = none) (hit0 : h₀.get? it = none) (hne : it ≠ Lg)
    (plain : ∀ i, i < z → rs.getD i 0 ≠ 0 ∧ rs.getD i 0 ≠ 127) (hz : 0 < z) (hzl : z ≤ rs.length) (htail : z = rs.length ∨ rs.getD z 0 = 127 ∨ rs.getD z 0 = 0) (hN : N = z + 2)
    (hK : ∀ n s₀ s r, (r = .ok .next ∨ r = .ok (.ret .none)) → PP Lg it rs z N n s₀ s → Seg (model PG w) A (RR Lg it rs z N) (YY h₀ Lg it l rs z N) n s₀ c (k r) [] s) :
    ∀ (n i : Nat) (s₀ s : Shared) (m : Str → Option Value), n + i = N → i ≤ z → s.heap.Ns Lg m → Has s.heap it (iLit l i) → Keeps h₀ s.heap → (0 < i → ∃ t, m "last_interval" = some (.int (rs.getD (i - 1) 0) t)) → Since Lg it s₀ s →
    Seg (model PG w) A (RR Lg it rs z N) (YY h₀ Lg it l rs z N) n s₀ (.forLoop (.Name "interval" p) (.ref it) genBody [] (genv Lg)) ((model PG w).den (.forLoop (.Name "interval" p) (.ref it) genBody [] (genv Lg))) [.ret k none false [] c p₁ []] s := by
  intro n
  induction n with
  | zero => intro i _ _ _ h1 h2; omega
  | succ n ih =>
    intro i s₀ s m hn hi hns hit hkeep hm S
    have hh : (A.over (.forLoop (.Name "interval" p) (.ref it) genBody [] (genv Lg)) [.ret k none false [] c p₁ []]).handled = none := hA
    obtain ⟨vs, hv, X⟩ := (hl.keeps hkeep).vals
    obtain ⟨hb, hk, O, hbL, hbi, _⟩ := ghostOwn hns hit hne
    have hk0 : Keeps h₀ hb := fun b o e => hk b o (fun z => by subst z; rw [hLg] at e; cases e) (fun z => by subst z; rw [hit0] at e; cases e) (hkeep b o e)
    show Seg _ A _ _ _ s₀ _ ((forTurn (.Name "interval" p) (.ref it) genBody [] (genv Lg)).onRaise (fun x => do noteFrame x (genv Lg); theTreesLotGoes x)) _ s
    rw [forTurn_eq, Sem.onRaise_eq_wrap]
    refine seg_bind_wrap (wpAny_standAt ?_)
    have hlen := hv.length
    by_cases hlt : i < rs.length
    · obtain ⟨t, hx⟩ := ints_get hv hlt
      refine seg_bind_wrap (wpAny_onRaise (wpAny_pyNext_list_item (x := .int (rs.getD i 0) t) hit X.isList (by simpa using hx) fun h₁ hit₁ hs₁ => ?_))
      have O₁ := O.turn (i := 0) (P' := iLit l (i + 1)) rfl hs₁.extBut hit₁
      refine seg_bind_wrap (wpAny_of_eq (rfl : letOwnedTupleGo (.Name "interval" p) (.ref it) (.int (rs.getD i 0) t) = pure ()) ?_)
      refine seg_bind_wrap (wpAny_assign_Name (wpAny_storeName_local (env := genv Lg) rfl O₁.ns (fun h₂ hn₂ hs₂ => ?_) rfl))
      have O₂ := O₁.store hn₂ hs₂
      have S₂ : Since Lg it s₀ { s with heap := h₂, toks := s.toks + 1 } := since_of (m := m) S ⟨rfl, rfl, rfl⟩ hk O₂
      have hg₂ : Gl mg mb h₂ := (G.keeps hk0).keeps O₂.keep
      have iv : upd m "interval" (.int (rs.getD i 0) t) "interval" = some (.int (rs.getD i 0) t) := upd_same
      rw [Sem.bind_eq_wrap', Sem.wrap_wrap]
      rw [Sem.wrap_congr (execs genBody (genv Lg)) _ _ (K' := fun f => match f with
            | .next | .cont => .pure (.again (.forLoop (.Name "interval" p) (.ref it) genBody [] (genv Lg)))
            | .brk => .pure (.done .next)
            | .ret v => .pure (.done (.ret v))) (H' := (fun e => (do noteFrame e (genv Lg); theTreesLotGoes e : Sem Unit).bind fun _ => .raise e))
        (fun f => by cases f <;> rfl) (fun e => by rfl)]
      obtain ⟨tc, hcm⟩ := G.nm.charMax
      refine seg_execs_cons (seg_wrap (wpAny_If (wpAny_isTrue_Compare1 (eLocal O₂ iv (eGlob hg₂ hcm (eq_int (wpAny_truthy_bool ?_)))))))
      by_cases h127 : rs.getD i 0 = 127
      · rw [show (rs.getD i 0 == (127 : Int)) = true from by simpa using h127, if_pos rfl]
        have hiz : i = z := by
          by_cases h : i < z
          · exact absurd h127 (plain i h).2
          · omega
        refine wpAny_execs_cons (wpAny_Return_none ?_)
        exact seg_leaf (.ok (.ret .none)) (hK _ _ _ _ (.inr rfl) ⟨by omega, .inr (hiz ▸ h127), S₂⟩)
      · rw [show (rs.getD i 0 == (127 : Int)) = false from by simpa using h127, if_neg (by simp)]
        refine wpAny_execs_nil ?_
        by_cases hzero : rs.getD i 0 = 0
        · have hiz : i = z := by
            by_cases h : i < z
            · exact absurd hzero (plain i h).1
            · omega
          subst hiz
          obtain ⟨tl, hl'⟩ := hm hz
          have lv : upd m "interval" (.int (rs.getD i 0) t) "last_interval" = some (.int (rs.getD (i - 1) 0) tl) := (upd_ne (by decide)).trans hl'
          refine seg_execs_cons (seg_If (wpAny_isTrue_Compare1 (eLocal O₂ iv (wpAny_Constant_int (eq_int (wpAny_truthy_bool ?_))))))
          rw [show (rs.getD i 0 == (0 : Int)) = true from by simpa using hzero, if_pos rfl]
          refine seg_execs_cons (seg_wrap (wpAny_If (wpAny_isTrue_Compare1 (eLocal O₂ lv (wpAny_Constant_none (is_int_none (wpAny_truthy_bool ?_)))))))
          rw [if_neg (by simp)]
          refine wpAny_execs_nil ?_
          refine seg_execs_cons (seg_While fun p => ?_)
          exact seg_W ⟨hlt, hzero⟩ (n + 1) s₀ _ _ (upd m "interval" (.int (rs.getD i 0) t)) (iLit l (i + 1)) (by omega) (by omega) hn₂ (O₂.of (i := 0) rfl) hne ⟨tl, lv⟩ S₂ rfl rfl
        · have hiz : i < z := by
            by_cases h : i < z
            · exact h
            · have : i = z := by omega
              subst this
              rcases htail with h | h | h
              · omega
              · exact absurd h h127
              · exact absurd h hzero
          refine seg_execs_cons (seg_wrap (wpAny_If (wpAny_isTrue_Compare1 (eLocal O₂ iv (wpAny_Constant_int (eq_int (wpAny_truthy_bool ?_)))))))
          rw [show (rs.getD i 0 == (0 : Int)) = false from by simpa using hzero, if_neg (by simp)]
          refine wpAny_execs_nil ?_
          have hj : N - 1 - n = i := by omega
          refine seg_execs_cons (seg_Expr_Yield rfl rfl rfl (eLocal (env := genv Lg) O₂ iv fun kap hkap => ?_))
          refine ⟨⟨t, by rw [hj, vl, if_pos hiz]⟩, .inl (by omega), S₂, ?_, fun hn0 s'' Gs K => hkap .none s'' ?_⟩
          · rw [hj]
            exact ⟨⟨_, (has_ns.mpr hn₂).choose_spec.1, _, (has_ns.mpr hn₂).choose_spec.2, by rw [if_pos hiz]; exact ⟨t, iv⟩⟩, (O₂.of (i := 0) rfl).imp fun _ x => by rw [itP, if_pos hiz]; exact x⟩
          · rw [hj] at Gs
            obtain ⟨⟨oL, eL, m', hm', hc⟩, hi2⟩ := Gs
            rw [if_pos hiz] at hc
            obtain ⟨t', hc⟩ := hc
            have hi3 : Has s''.heap it (iLit l (i + 1)) := hi2.imp fun _ x => by rw [itP, if_pos hiz] at x; exact x
            obtain ⟨hb', hk', O', _, _, _⟩ := ghostOwn (has_ns.mp ⟨oL, eL, hm'⟩) hi3 hne
            have hk0' : Keeps h₀ hb' := fun b o e => hk' b o (fun z => by subst z; rw [hLg] at e; cases e) (fun z => by subst z; rw [hit0] at e; cases e) (K b o e)
            refine seg_execs_cons (seg_wrap (sName (eLocal (env := genv Lg) O' hc ⟨_, _, _, O', fun s₃ S₃ O₃ => ?_⟩)))
            refine seg_execs_nil (seg_again rfl (ih (i + 1) s'' s₃ _ (by omega) (by omega) O₃.ns (O₃.of (i := 0) rfl) (hk0'.trans O₃.keep) (fun _ => ⟨t', upd_same⟩) ⟨S₃, fun b o h1 h2 e => O₃.keep _ _ (hk' b o h1 h2 e)⟩))
    · have hiz : i = rs.length := by omega
      have hzi : z = rs.length := by omega
      refine seg_bind_wrap (wpAny_onRaise (wpAny_pyNext_list_end hh hit X.isList (by simp [hlen]; omega) fun h₁ hs₁ => ?_))
      have O₁ := O.lose hs₁
      refine seg_again rfl ?_
      show Seg _ A _ _ _ s₀ _ ((execs [] (genv Lg)).onRaise (fun x => do noteFrame x (genv Lg); theTreesLotGoes x) >>= fun f => .pure (.done f)) _ _
      refine seg_bind (wpAny_onRaise (wpAny_execs_nil ?_))
      exact seg_leaf (.ok .next) (hK _ _ _ _ (.inl rfl) ⟨by omega, .inl hzi, S.1.trans ⟨rfl, rfl, rfl⟩, fun b o h1 h2 e => O₁.keep _ _ (hk b o h1 h2 (S.2 b o h1 h2 e))⟩)
end
end Mine
namespace Mine
theorem sNameZ {M : Model} {A : Around} {E : Value → Shared → Prop} {s : Shared} {env : Env} {x : Str} {px pos : Pos} {value : Expr} {Q : Flow → Shared → Prop}
    (h : wpAny M A (eval value env) (fun v s₁ => ∃ h₀ m cs, Own h₀ s₁.heap env.locals m cs ∧ ∀ s₂, Sm s₁ s₂ → s₂.heap.objs.size = s₁.heap.objs.size → Own h₀ s₂.heap env.locals (upd m x v) cs → Q .next s₂) E s)
    (hl : env.kindOf x = some .local := by rfl) (hk : env.scope.kind = .function := by rfl)
    (hs : swapsWith value (some (.Name x px)) pos.line env = pure false := by rfl) :
    wpAny M A (exec (.Assign [.Name x px] value pos) env) Q E s := by
  refine wpAny_Assign_Name (wpAny_mono h (fun v s₁ h₁ => ?_) fun _ _ e => e) hs
  obtain ⟨h₀, m, cs, O, hq⟩ := h₁
  exact wpAny_storeName_local hl O.ns (fun h' hn hs' => hq _ ⟨rfl, rfl, rfl⟩ hs'.1 (O.store hn hs')) (by rw [hk]; rfl)
section
variable {w : World} {A : Around} {h₀ : Heap} {Lg l it : Addr} {rs : List Int} {z N : Nat}
set_option pp.maxSteps 800
set_option pp.deepTerms.threshold 6
theorem gen_goes {mg mb : Str → Option Value} {s : Shared} {m : Str → Option Value} (hA : A.handled = none) (G : Gl mg mb h₀) (hl : Has h₀ l (iInts rs)) (hLg : h₀.get? Lg = none)
    (plain : ∀ i, i < z → rs.getD i 0 ≠ 0 ∧ rs.getD i 0 ≠ 127) (hz : 0 < z) (hzl : z ≤ rs.length) (htail : z = rs.length ∨ rs.getD z 0 = 127 ∨ rs.getD z 0 = 0) (hN : N = z + 2)
    (hns : s.heap.Ns Lg m) (hkeep : Keeps h₀ s.heap) (hm : m "grouping" = some (.ref l)) (hit : it = s.heap.objs.size) :
    GenState.Goes (model PG w) A (RR Lg it rs z N) (YY h₀ Lg it l rs z N) N (.fresh (.func (defAt 2).body (genv Lg))) (.send .none) s := by
  refine ⟨rfl, ?_⟩
  obtain ⟨hb, hk, O, hbL, _⟩ := ghostOwn0 hns
  have hk0 : Keeps h₀ hb := fun b o e => hk b o (fun z => by subst z; rw [hLg] at e; cases e) (hkeep b o e)
  refine seg_func (seg_execs_cons (seg_wrap (sNameZ (wpAny_Constant_none ⟨_, _, _, O, fun s₁ S₁ z₁ O₁ => ?_⟩))))
  refine seg_execs_cons ?_
  rw [arm_exec_For]
  refine seg_bind_wrap (wpAny_standAt (seg_bind_wrap (eLocal (env := genv Lg) O₁ (v := .ref l) ((upd_ne (by decide)).trans hm) (seg_bind_wrap (wpAny_of_eq rfl ?_)))))
  have hl₁ := (hl.keeps hk0).keeps O₁.keep
  obtain ⟨vs, hv, X⟩ := hl₁.vals
  refine seg_bind_wrap (wpAny_standAt (seg_bind_wrap (wpAny_holding (wpAny_pyIter_list X.isList ?_))))
  have O₂ := O₁.push { cls := .type "list_iterator", data := .fields #[.ref l, .int 0 0] } (P := iLit l 0) ⟨rfl, rfl⟩
  have e : s₁.heap.objs.size = it := by rw [hit]; exact z₁
  rw [e] at O₂ ⊢
  have hit0 : h₀.get? it = none := by
    cases q : h₀.get? it with
    | none => rfl
    | some o => exact absurd (Heap.lt_size (hkeep _ _ q)) (by rw [hit]; exact Nat.lt_irrefl _)
  refine seg_call fun p => ?_
  refine seg_F (p := { line := 5, col := 8, endLine := 5, endCol := 16 }) (k := _) (c := .func (defAt 2).body (genv Lg)) (p₁ := p) hA G hl hLg hit0 (O₂.neL (i := 0) rfl) plain hz hzl htail hN ?_ N 0 s _ _ (by omega) (Nat.zero_le _) O₂.ns (O₂.of (i := 0) rfl) (hk0.trans O₂.keep) (fun h => absurd h (Nat.lt_irrefl _)) ?_
  · intro n s₀ s' r hr hP
    rcases hr with rfl | rfl
    · exact seg_end (.ok (.ret .none)) ⟨rfl, hP⟩
    · exact seg_end (.ok (.ret .none)) ⟨rfl, hP⟩
  · exact ⟨S₁.trans ⟨rfl, rfl, rfl⟩, fun b o h1 h2 e => O₂.keep _ _ (hk b o h1 e)⟩
end
end Mine
namespace Mine
/-- a generator object -/
def iGen (g : Nat) (o : Obj) : Prop := ∃ nm qn, o.cls = .type "generator" ∧ o.data = .fields #[.int g 0, nm, qn] ∧ o.slots = #[]
theorem Has.isGen {h : Heap} {a g} (x : Has h a (iGen g)) : h.IsGen a g := let ⟨o, e, nm, qn, r⟩ := x; ⟨o, nm, qn, e, r⟩

section
variable {w : World} {A : Around} {E : Value → Shared → Prop} {s : Shared}
theorem pyNextGen {a : Addr} {g n : Nat} {gs : GenState} {P : Nat → Shared → Shared → Prop} {Y : Protocol} {Q : Option Value → Shared → Prop} (hh : A.handled = none)
    (hl : s.heap.NoLimit) (hroom : A.depth < recursionLimit)
    (hg : s.heap.IsGen a g) (hgs : s.gens[g]? = some gs)
    (hgo : gs.Goes (model PG w) A.in1 (fun n s₀ r s₁ => r = .ok (.ret .none) ∧ P n s₀ s₁) Y n (.send .none) (s.setGen g .running))
    (hY : ∀ v s₁ gs', gs'.bare = true → Y (n - 1) (s.setGen g .running) v s₁ (fun r' s'' => match n with
        | 0 => False
        | m + 1 => gs'.Goes (model PG w) A.in1 (fun n s₀ r s₁ => r = .ok (.ret .none) ∧ P n s₀ s₁) Y m r' s'') → Q (some v) (s₁.setGen g gs'))
    (hP : ∀ s₁, P n (s.setGen g .running) s₁ → ∀ h', (∀ b o, s₁.heap.get? b = some o → h'.get? b = some o) → Q none { s₁.setGen g .finished with heap := h' }) :
    wpAny (model PG w) A (pyNext (.ref a)) Q E s := by
  unfold pyNext
  refine wpAny_bind (wpAny_attempt (wpAny_callSpecial?_slot (name := Str.ofString "__next__") hg.typeIs slot_gen_next
    (wpAny_call_entry slot_gen_next hg.typeIs entry_gen_next ?_ (args_gen_next _))))
  show wpAny _ _ (Builtin.Generator.genWake (.ref a) (.send .none)) _ _ s
  unfold Builtin.Generator.genWake
  refine wpAny_bind (wpAny_holding (wpAny_genNumber hg (wpAny_bind (wpAny_genState hgs ?_))))
  cases gs with
  | running => exact hgo.elim
  | finished => exact hgo.elim
  | _ =>
    refine wpAny_bind (wpAny_roomToWake hl hroom ?_)
    show wpAny _ _ (.resume g (.send .none) [] _) _ _ s
    refine wpAny_resumeQ hgs hgo (fun x s₁ hx => ?_) (fun v s₁ gs' hb hv => ?_)
    · obtain ⟨rfl, hp⟩ := hx
      show wpAny _ _ (newExc (.type "StopIteration") [] >>= _) _ _ _
      refine wpAny_bind ?_
      simp only [newExc, newTuple]
      refine wpAny_bind (wpAny_newObj_type ?_ (by size_fits))
      refine wpAny_bind (m := firstArgMember _ _) (wpAny_of_eq (a := Value.none) (by first | rfl | (simp only [firstArgMember]; rfl)) ?_)
      refine wpAny_newObj_type ?_ (by size_fits)
      simp only [raiseNew]
      refine wpAny_bind (wpAny_bind (wpAny_handled ?_))
      rw [show A.in1.handled = none from hh]
      refine wpAny_throw ?_
      refine wpAny_bind (wpAny_isInstance (T := "StopIteration") (b := true) ⟨_, Heap.get?_push_size _ rfl, rfl⟩ isSubtype_stop ?_)
      exact wpAny_pure (hP s₁ hp _ fun b o hb => Heap.get?_push_of_some _ (Heap.get?_push_of_some _ hb))
    · exact wpAny_pure ⟨v, rfl, wpAny_pure (hY v s₁ gs' hb hv)⟩
end

/-- the rest stands but for the generators, none of which is left with a cleanup -/
def SmB (s s' : Shared) : Prop := s'.drawn = s.drawn ∧ s'.os = s.os ∧ (AllBare s.gens → AllBare s'.gens)
theorem SmB.refl (s : Shared) : SmB s s := ⟨rfl, rfl, id⟩
theorem SmB.trans {a b c : Shared} (x : SmB a b) (y : SmB b c) : SmB a c := ⟨y.1.trans x.1, y.2.1.trans x.2.1, fun h => y.2.2 (x.2.2 h)⟩
theorem Sm.b {s s' : Shared} (x : Sm s s') : SmB s s' := ⟨x.2.1, x.2.2, fun h => x.1 ▸ h⟩
theorem AllBare.set {gens : Array GenState} {g : Nat} {x : GenState} (h : AllBare gens) (hx : x.bare = true) : AllBare (gens.setIfInBounds g x) := by
  intro y hy
  rw [Array.mem_iff_getElem] at hy
  obtain ⟨i, hi, rfl⟩ := hy
  rw [Array.getElem_setIfInBounds (by simpa using hi)]
  split
  · exact hx
  · exact h _ (Array.getElem_mem _)

theorem Own.re2 {h₀ h h' : Heap} {L : Addr} {m : Str → Option Value} {a b : Addr} {P P' R R' : Obj → Prop} {cs : List (Addr × (Obj → Prop))} (O : Own h₀ h L m ((a, P) :: (b, R) :: cs)) (k : ∀ c o, c ≠ a → c ≠ b → h.get? c = some o → h'.get? c = some o)
    (x : Has h' a P') (y : Has h' b R') : Own h₀ h' L m ((a, P') :: (b, R') :: cs) := by
  have nd := O.nodup
  simp only [List.map_cons, List.nodup_cons, List.mem_cons, not_or] at nd
  have na : h₀.get? a = none := O.new _ (.head _)
  have nb : h₀.get? b = none := O.new _ (.tail _ (.head _))
  obtain ⟨o, es, ep, ho, r⟩ := O.ns
  refine ⟨⟨o, es, ep, k L o nd.1.1 nd.1.2.1 ho, r⟩, fun c o e => k c o (fun z => by subst z; rw [na] at e; cases e) (fun z => by subst z; rw [nb] at e; cases e) (O.keep _ _ e), O.newL, fun p hp => ?_, fun p hp => ?_, O.nodup⟩
  · rcases List.mem_cons.mp hp with rfl | hp
    · exact x
    · rcases List.mem_cons.mp hp with rfl | hp
      · exact y
      · obtain ⟨o, e, q⟩ := O.at_ p (.tail _ (.tail _ hp))
        exact ⟨o, k _ _ (fun z => nd.2.1.2 (z ▸ List.mem_map_of_mem hp)) (fun z => nd.2.2.1 (z ▸ List.mem_map_of_mem hp)) e, q⟩
  · rcases List.mem_cons.mp hp with rfl | hp
    · exact na
    · rcases List.mem_cons.mp hp with rfl | hp
      · exact nb
      · exact O.new p (.tail _ (.tail _ hp))
theorem Own.perm {h₀ h : Heap} {L : Addr} {m : Str → Option Value} {cs cs' : List (Addr × (Obj → Prop))} (O : Own h₀ h L m cs) (p : cs.Perm cs') : Own h₀ h L m cs' :=
  ⟨O.ns, O.keep, O.newL, fun q hq => O.at_ q (p.mem_iff.mpr hq), fun q hq => O.new q (p.mem_iff.mpr hq), (List.Perm.cons _ (p.map _)).nodup_iff.mp O.nodup⟩
theorem Own.lose2 {h₀ h h' : Heap} {L : Addr} {m : Str → Option Value} {a b : Addr} {P R : Obj → Prop} {cs : List (Addr × (Obj → Prop))} (O : Own h₀ h L m ((a, P) :: (b, R) :: cs)) (k : ∀ c o, c ≠ a → c ≠ b → h.get? c = some o → h'.get? c = some o) :
    Own h₀ h' L m cs := by
  have nd := O.nodup
  simp only [List.map_cons, List.nodup_cons, List.mem_cons, not_or] at nd
  have na : h₀.get? a = none := O.new _ (.head _)
  have nb : h₀.get? b = none := O.new _ (.tail _ (.head _))
  obtain ⟨o, es, ep, ho, r⟩ := O.ns
  refine ⟨⟨o, es, ep, k L o nd.1.1 nd.1.2.1 ho, r⟩, fun c o e => k c o (fun z => by subst z; rw [na] at e; cases e) (fun z => by subst z; rw [nb] at e; cases e) (O.keep _ _ e), O.newL, fun p hp => ?_, fun p hp => O.new p (.tail _ (.tail _ hp)), O.tail.tail.nodup⟩
  obtain ⟨o, e, q⟩ := O.at_ p (.tail _ (.tail _ hp))
  exact ⟨o, k _ _ (fun z => nd.2.1.2 (z ▸ List.mem_map_of_mem hp)) (fun z => nd.2.2.1 (z ▸ List.mem_map_of_mem hp)) e, q⟩
theorem Own.re1 {h₀ h h' : Heap} {L : Addr} {m : Str → Option Value} {a b : Addr} {P P' R' : Obj → Prop} {cs : List (Addr × (Obj → Prop))} (O : Own h₀ h L m ((b, P) :: cs)) (hn : h.get? a = none) (k : ∀ c o, c ≠ a → c ≠ b → h.get? c = some o → h'.get? c = some o)
    (x : Has h' a P') (y : Has h' b R') : Own h₀ h' L m ((a, P') :: (b, R') :: cs) := by
  have nd := O.nodup
  simp only [List.map_cons, List.nodup_cons, List.mem_cons, not_or] at nd
  have nb : h₀.get? b = none := O.new _ (.head _)
  have ne : ∀ c o, h.get? c = some o → c ≠ a := fun c o e z => by subst z; rw [hn] at e; cases e
  have na : h₀.get? a = none := by
    cases q : h₀.get? a with
    | none => rfl
    | some o => exact absurd rfl (ne a o (O.keep _ _ q))
  obtain ⟨o, es, ep, ho, r⟩ := O.ns
  refine ⟨⟨o, es, ep, k L o (ne _ _ ho) nd.1.1 ho, r⟩, fun c o e => k c o (ne _ _ (O.keep _ _ e)) (fun z => by subst z; rw [nb] at e; cases e) (O.keep _ _ e), O.newL, fun p hp => ?_, fun p hp => ?_, ?_⟩
  · rcases List.mem_cons.mp hp with rfl | hp
    · exact x
    · rcases List.mem_cons.mp hp with rfl | hp
      · exact y
      · obtain ⟨o, e, q⟩ := O.at_ p (.tail _ hp)
        exact ⟨o, k _ _ (ne _ _ e) (fun z => nd.2.1 (z ▸ List.mem_map_of_mem hp)) e, q⟩
  · rcases List.mem_cons.mp hp with rfl | hp
    · exact na
    · rcases List.mem_cons.mp hp with rfl | hp
      · exact nb
      · exact O.new p (.tail _ hp)
  · simp only [List.map_cons, List.nodup_cons, List.mem_cons, not_or]
    refine ⟨⟨ne _ _ ho, nd.1.1, nd.1.2⟩, ⟨?_, fun hm => ?_⟩, nd.2.1, nd.2.2⟩
    · obtain ⟨o, e, _⟩ := O.at_ _ (.head _)
      exact (ne _ _ e).symm
    · obtain ⟨p, hp, e⟩ := List.mem_map.mp hm
      obtain ⟨o, e', _⟩ := O.at_ p (.tail _ hp)
      exact ne _ _ e' e

def toldTo (rs : List Int) (z j : Nat) : List Int := (List.range j).map (vl rs z)
theorem toldTo_succ (rs : List Int) (z j : Nat) : toldTo rs z (j + 1) = toldTo rs z j ++ [vl rs z j] := by simp [toldTo, List.range_succ]
theorem toldTo_len (rs : List Int) (z j : Nat) : (toldTo rs z j).length = j := by simp [toldTo]

section
variable {w : World} {A : Around} {E : Value → Shared → Prop} {s : Shared} {mg mb : Str → Option Value}
theorem gen_set {gens : Array GenState} {g : Nat} {x : GenState} (h : g < gens.size) : (gens.setIfInBounds g x)[g]? = some x := by simp [h]

set_option pp.maxSteps 800
set_option pp.deepTerms.threshold 6
abbrev tenv (L : Addr) : Env := envOf (defAt 18).name (defAt 18).scope L 91 (.ref 90)
abbrev toldBody : List Stmt := match (defAt 18).body with | [_, .For _ _ b _ _, _] => b | _ => []

/-- the state between two turns, j told -/
def TInv (w : World) (A : Around) (b : Heap) (s₅ : Shared) (L Lg gen r l : Addr) (g : Nat) (rs : List Int) (z : Nat) (tm : Tok) (mg0 : Str → Option Value) (j : Nat) (s' : Shared) : Prop :=
  ∃ m', SmB s₅ s' ∧ m' "told" = some (.ref r) ∧ m' "most" = some (.int (z + 2 : Nat) tm) ∧ g < s'.gens.size ∧
    ((j = 0 ∧ s'.gens[g]? = some (.fresh (.func (defAt 2).body (genv Lg))) ∧ Own b s'.heap L m' [(Lg, iNs mg0), (gen, iGen g), (r, iInts [])]) ∨
     (0 < j ∧ j < z + 2 ∧ ∃ it gs, s'.gens[g]? = some gs ∧ (∀ s'', GSt Lg it l rs z (j - 1) s''.heap → Keeps b s''.heap → gs.Goes (model PG w) A.in1 (RR Lg it rs z (z + 2)) (YY b Lg it l rs z (z + 2)) (z + 2 - j) (.send .none) s'') ∧
        Own b s'.heap L m' [(it, itP l z (j - 1)), (Lg, LgP rs z (j - 1)), (gen, iGen g), (r, iInts (toldTo rs z j))]))

theorem told_turn {b : Heap} {s₅ sY : Shared} {L Lg gen r l it : Addr} {g : Nat} {gs : GenState} {rs : List Int} {z j : Nat} {tm t : Tok} {mg0 m' : Str → Option Value} {px : Pos} {R : Result → Shared → Prop}
    (G : Gl mg mb b) (hj : j < z + 2) (hz2 : z ≤ 2 ^ 20) (hkind : j < z ∨ (z < rs.length ∧ rs.getD z 0 = 0))
    (hR : ∀ s' m', SmB s₅ s' → m' "told" = some (.ref r) → Own b s'.heap L m' [(r, iInts (toldTo rs z (if z < rs.length ∧ rs.getD z 0 = 0 then z + 2 else z)))] → R (.ok .next) s')
    (S : SmB s₅ sY) (h1 : m' "told" = some (.ref r)) (h2 : m' "most" = some (.int (z + 2 : Nat) tm)) (hg : g < sY.gens.size) (hgs : sY.gens[g]? = some gs)
    (hgo : j + 1 < z + 2 → ∀ s'', GSt Lg it l rs z j s''.heap → Keeps b s''.heap → gs.Goes (model PG w) A.in1 (RR Lg it rs z (z + 2)) (YY b Lg it l rs z (z + 2)) (z + 2 - (j + 1)) (.send .none) s'')
    (O : Own b sY.heap L m' [(it, itP l z j), (Lg, LgP rs z j), (gen, iGen g), (r, iInts (toldTo rs z j))]) :
    wpAny (model PG w) A (assign (.Name "size" px) (tenv L) (.int (vl rs z j) t)) (fun _ s₂ => wpAny (model PG w) A (execs toldBody (tenv L)) (fun f s₃ => match f with
      | .next | .cont => ∃ k, k < z + 3 - j ∧ ∃ j', k = z + 3 - j' ∧ TInv w A b s₅ L Lg gen r l g rs z tm mg0 j' s₃
      | .brk => R (.ok .next) s₃
      | .ret v => R (.ok (.ret v)) s₃) E s₂) E sY := by
  refine wpAny_assign_Name (wpAny_storeName_local (env := tenv L) rfl O.ns (fun h₂ hn₂ hs₂ => ?_) rfl)
  have O₂ := O.store hn₂ hs₂
  have b1 : upd m' "size" (.int (vl rs z j) t) "told" = some (.ref r) := (upd_ne (by decide)).trans h1
  have b2 : upd m' "size" (.int (vl rs z j) t) "most" = some (.int (z + 2 : Nat) tm) := (upd_ne (by decide)).trans h2
  have hlen := toldTo_len rs z j
  refine wpAny_execs_cons (wpAny_Expr_any (eListMeth F.slot_list_append F.type_list_append (eLocal (env := tenv L) O₂ b1 ?_)))
  obtain ⟨vs, hv, X⟩ := (O₂.of (i := 3) rfl).vals
  refine ⟨_, _, rfl, X, ?_⟩
  refine callWith_method1 (args_cons (eLocal (env := tenv L) O₂ upd_same (args_nil ?_)))
  refine appendInt (i := 3) O₂ rfl (by omega) fun s₃ S₃ O₃ => ?_
  have e : toldTo rs z j ++ [vl rs z j] = toldTo rs z (j + 1) := (toldTo_succ rs z j).symm
  simp only [e] at O₃
  refine wpAny_execs_cons (wpAny_If (wpAny_isTrue_Compare1 (Call_ (eBuilt (G.keeps O₃.keep) (by decide +kernel) (v := .builtin "len") (by decide +kernel) ?_))))
  refine PyProof.Rows.callWith_builtin1 (args_cons (eLocal (env := tenv L) O₃ b1 (args_nil ?_)))
  refine lenO (O₃.of (i := 3) rfl) (by rw [toldTo_len]; omega) fun t₄ s₄ S₄ e₄ => ?_
  rw [toldTo_len]
  have O₄ : Own b s₄.heap L _ _ := e₄ ▸ O₃
  refine eLocal (env := tenv L) O₄ b2 (eq_int (wpAny_truthy_bool ?_))
  have S' : SmB s₅ s₄ := S.trans (Sm.b (Sm.trans ⟨rfl, rfl, rfl⟩ (S₃.trans S₄)))
  have eg : s₄.gens = sY.gens := (S₃.trans S₄).1
  by_cases hend : j + 1 = z + 2
  · rw [show (((j + 1 : Nat) : Int) == ((z + 2 : Nat) : Int)) = true from by rw [beq_iff_eq]; omega, if_pos rfl]
    refine wpAny_execs_cons (wpAny_Break ?_)
    have hk : z < rs.length ∧ rs.getD z 0 = 0 := hkind.resolve_left (by omega)
    refine hR _ _ S' b1 ?_
    rw [if_pos hk]
    have := O₄.tail.tail.tail
    rw [hend] at this
    exact this
  · rw [show (((j + 1 : Nat) : Int) == ((z + 2 : Nat) : Int)) = false from by rw [beq_eq_false_iff_ne]; omega, if_neg (by simp)]
    refine wpAny_execs_nil (wpAny_execs_nil ⟨z + 3 - (j + 1), by omega, j + 1, rfl, _, S', b1, b2, by rw [eg]; exact hg, .inr ⟨by omega, by omega, it, gs, by rw [eg]; exact hgs, hgo (by omega), O₄⟩⟩)
theorem told_loop {b : Heap} {s₅ : Shared} {L Lg gen r l : Addr} {g : Nat} {rs : List Int} {z : Nat} {tm : Tok} {mg0 m : Str → Option Value} {px : Pos} {R : Result → Shared → Prop} {n : Nat}
    (G : Gl mg mb b) (fit : Fit A (n + 1)) (hl : Has b l (iInts rs)) (plain : ∀ i, i < z → rs.getD i 0 ≠ 0 ∧ rs.getD i 0 ≠ 127) (hz : 0 < z) (hzl : z ≤ rs.length) (htail : z = rs.length ∨ rs.getD z 0 = 127 ∨ rs.getD z 0 = 0) (hz2 : z ≤ 2 ^ 20)
    (hR : ∀ s' m', SmB s₅ s' → m' "told" = some (.ref r) → Own b s'.heap L m' [(r, iInts (toldTo rs z (if z < rs.length ∧ rs.getD z 0 = 0 then z + 2 else z)))] → R (.ok .next) s')
    (h1 : m "told" = some (.ref r)) (h2 : m "most" = some (.int (z + 2 : Nat) tm)) (hmg : mg0 "grouping" = some (.ref l)) (hg : g < s₅.gens.size) (hgs : s₅.gens[g]? = some (.fresh (.func (defAt 2).body (genv Lg))))
    (O : Own b s₅.heap L m [(Lg, iNs mg0), (gen, iGen g), (r, iInts [])]) :
    codeAny (model PG w) A (.forLoop (.Name "size" px) (.ref gen) toldBody [] (tenv L)) R s₅ := by
  refine codeAny_forLoop (fun k s' => ∃ j, k = z + 3 - j ∧ TInv w A b s₅ L Lg gen r l g rs z tm mg0 j s') ?_ (z + 3) ⟨0, rfl, m, SmB.refl _, h1, h2, hg, .inl ⟨rfl, hgs, O⟩⟩
  rintro k s' ⟨j, rfl, m', S, a1, a2, hg', hcase⟩
  have hbare : ∀ {s₁ : Shared} {x : GenState}, x.bare = true → Sm (s'.setGen g .running) s₁ → SmB s₅ (s₁.setGen g x) := fun {s₁ x} hx hs => S.trans ⟨hs.2.1, hs.2.2, fun h => by
    show AllBare (s₁.gens.setIfInBounds g x)
    rw [hs.1]
    exact AllBare.set (AllBare.set h rfl) hx⟩
  rcases hcase with ⟨rfl, hgs', O'⟩ | ⟨hj0, hjz, it, gs, hgs', hgo, O'⟩
  · -- the first turn
    have hkeep : Keeps b s'.heap := O'.keep
    have hLg : b.get? Lg = none := O'.fresh (i := 0) rfl
    refine pyNextGen (n := z + 2) (P := PP Lg s'.heap.objs.size rs z (z + 2)) (Y := YY b Lg s'.heap.objs.size l rs z (z + 2)) fit.handled ((G.keeps hkeep).lim) fit.room (O'.of (i := 1) rfl).isGen hgs'
      (gen_goes (m := mg0) fit.handled G hl hLg plain hz hzl htail rfl (has_ns.mp (O'.of (i := 0) rfl)) hkeep hmg rfl) (fun v s₁ gs' hbr hY => ?_) (fun s₁ hP h' hk => ?_)
    · obtain ⟨⟨t, rfl⟩, hkind, hS, hG, hkap⟩ := hY
      have e0 : z + 2 - 1 - (z + 2 - 1) = 0 := by omega
      rw [e0] at hkind hG hkap ⊢
      have O₁ := Own.re1 O' (none_of_ge (Nat.le_refl _)) (fun c o h1 h2 e => hS.2 c o h2 h1 e) hG.2 hG.1
      exact told_turn (sY := s₁.setGen g gs') G (by omega) hz2 hkind hR (hbare hbr hS.1) a1 a2 (by show g < (s₁.gens.setIfInBounds g gs').size; rw [Array.size_setIfInBounds, hS.1.1]; simpa [Shared.setGen] using hg')
        (by show (s₁.gens.setIfInBounds g gs')[g]? = _; exact gen_set (by rw [hS.1.1]; simpa [Shared.setGen] using hg')) (fun _ s'' hg2 hk2 => hkap (by omega) s'' hg2 hk2) O₁
    · obtain ⟨hn, hk2, hS⟩ := hP
      omega
  · have hkeep : Keeps b s'.heap := O'.keep
    refine pyNextGen (n := z + 2 - j) (P := PP Lg it rs z (z + 2)) (Y := YY b Lg it l rs z (z + 2)) fit.handled ((G.keeps hkeep).lim) fit.room (O'.of (i := 2) rfl).isGen hgs'
      (hgo (s'.setGen g .running) ⟨O'.of (i := 1) rfl, O'.of (i := 0) rfl⟩ hkeep) (fun v s₁ gs' hbr hY => ?_) (fun s₁ hP h' hk => ?_)
    · obtain ⟨⟨t, rfl⟩, hkind, hS, hG, hkap⟩ := hY
      have e0 : z + 2 - 1 - (z + 2 - j - 1) = j := by omega
      rw [e0] at hkind hG hkap ⊢
      have O₁ := Own.re2 O' (fun c o h1 h2 e => hS.2 c o h2 h1 e) hG.2 hG.1
      refine told_turn (sY := s₁.setGen g gs') G (by omega) hz2 hkind hR (hbare hbr hS.1) a1 a2 (by show g < (s₁.gens.setIfInBounds g gs').size; rw [Array.size_setIfInBounds, hS.1.1]; simpa [Shared.setGen] using hg')
        (by show (s₁.gens.setIfInBounds g gs')[g]? = _; exact gen_set (by rw [hS.1.1]; simpa [Shared.setGen] using hg')) (fun hlt s'' hg2 hk2 => ?_) O₁
      have := hkap (by omega) s'' hg2 hk2
      have e1 : z + 2 - j = (z + 2 - (j + 1)) + 1 := by omega
      rw [e1] at this
      exact this
    · obtain ⟨hn, hk2, hS⟩ := hP
      have hjz' : j = z := by omega
      subst hjz'
      refine wpAny_execs_nil (hR _ m' ?_ a1 ?_)
      · exact (hbare (x := .finished) rfl hS.1).trans ⟨rfl, rfl, id⟩
      · have O₁ := Own.lose2 O' (fun c o h1 h2 e => hk _ _ (hS.2 c o h2 h1 e))
        rw [if_neg (by rcases hk2 with h | h <;> omega)]
        exact O₁.tail
theorem told_spec {l : Addr} {rs : List Int} {z : Nat} {tm : Tok} {Q : Value → Shared → Prop} (G : Gl mg mb s.heap) (fit : Fit A 3) (hl : Has s.heap l (iInts rs))
    (plain : ∀ i, i < z → rs.getD i 0 ≠ 0 ∧ rs.getD i 0 ≠ 127) (hz : 0 < z) (hzl : z ≤ rs.length) (htail : z = rs.length ∨ rs.getD z 0 = 127 ∨ rs.getD z 0 = 0) (hlen : rs.length ≤ 2 ^ 20)
    (hQ : ∀ r s', SmB s s' → Keeps s.heap s'.heap → s.heap.get? r = none → Has s'.heap r (iInts (toldTo rs z (if z < rs.length ∧ rs.getD z 0 = 0 then z + 2 else z))) → Q (.ref r) s') :
    wpAny (model PG w) A (call (.ref 91) [.ref l, .int (z + 2 : Nat) tm]) Q E s := by
  refine callDef (n := 2) (binds := [("ruler", .ref l), ("most", .int (z + 2 : Nat) tm)]) G.f18 G.lim fit (fun _ _ => rfl) (by rfl) fun s₁ S₁ O₁ fit₁ => ?_
  refine wpAny_execs_cons (sName (List_ (args_nil (newListO O₁ (fun r s₂ S₂ O₂ => ⟨_, _, _, O₂, fun s₃ S₃ O₃ => ?_⟩) (by decide)))))
  have G₃ := G.keeps O₃.keep
  refine wpAny_execs_cons (wpAny_For (Call_ (eGlob G₃ G.nm.grouping ?_)))
  obtain ⟨o, pm, doc, ho, hdata, hcd⟩ := G₃.f2
  refine callWith_def hdata (args_cons (eLocal O₃ (v := .ref l) (by rfl) (args_nil ⟨ho, ?_⟩)))
  refine wpAny_call (codeAny_call_generator (body := (defAt 2).body) fit₁.room ho hdata (by rfl) (by rfl) (by rfl) hcd ?_)
  rw [show bindArgs (Calls.docDef (defAt 2).name (defAt 2).params (defAt 2).body (defAt 2).scope pm (.ref 20) doc) ⟨[.ref l], []⟩ = pure [((Str.ofString "grouping" : Str), Value.ref l)] from rfl]
  refine wpAny_pure (wpAny_newFunctionEnv (by show ∀ x ∈ (defAt 2).scope.names, x.2 ≠ .cell; decide +kernel) (locs rfl) (fun h₄ hn₄ hs₄ => ⟨?_, ?_⟩) rfl)
  · exact G₃.lim.fresh _ hs₄
  have O₄ : Own s.heap h₄ s.heap.objs.size _ [(s₃.heap.objs.size, iNs (fun x => List.lookup x [((Str.ofString "grouping" : Str), Value.ref l)].reverse)), (r, iVals [])] :=
    O₃.add (fun b o e => hs₄.extBut b o (Nat.ne_of_lt (Heap.lt_size e)) (Heap.get?_push_of_some _ e)) (none_of_ge (Nat.le_refl _)) (has_ns.mpr hn₄)
  have O₅ := O₄.push { cls := .type "generator", data := .fields #[.int s₃.gens.size 0, .str (defAt 2).name (s₃.toks + 1), .str (defAt 2).name (s₃.toks + 1 + 1)] } (P := iGen s₃.gens.size) ⟨_, _, rfl, rfl, rfl⟩
  have O₆ := O₅.turn (i := 2) rfl (Heap.ExtBut.refl _ _) ((O₅.of (i := 2) rfl).ints .nil)
  refine wpAny_pyIter_gen (g := s₃.gens.size) (O₅.of (i := 0) rfl).isGen ?_
  refine told_loop (n := 1) (g := s₃.gens.size) (r := r) (l := l) (rs := rs) (z := z) (tm := tm) (Lg := s₃.heap.objs.size) G fit₁ hl plain hz hzl htail (by omega) (fun s' m' S h1 O => ?_) (m := upd (fun x => List.lookup x [((Str.ofString "ruler" : Str), Value.ref l), ((Str.ofString "most" : Str), Value.int (z + 2 : Nat) tm)].reverse) "told" (.ref r)) upd_same (by rfl) (mg0 := fun x => List.lookup x [((Str.ofString "grouping" : Str), Value.ref l)].reverse) rfl (by show s₃.gens.size < (s₃.gens.push _).size; simp) (by show (s₃.gens.push _)[s₃.gens.size]? = _; simp; rfl) ?_
  · refine wpAny_execs_cons (wpAny_Return_some (eLocal (env := tenv s.heap.objs.size) O h1 ?_))
    refine hQ r s' ?_ O.keep (O.fresh (i := 0) rfl) (O.of (i := 0) rfl)
    exact (S₁.trans (S₂.trans S₃)).b.trans (SmB.trans (by exact ⟨rfl, rfl, fun h => AllBare.push h rfl⟩) S)
  · exact O₆.perm (.swap _ _ _)
end
end Mine
namespace Mine
def iCell (v : Option Value) (o : Obj) : Prop := o.data = .cell v
def iAnyCell (o : Obj) : Prop := ∃ v, o.data = .cell v

/-- a value that is walked: these ints -/
def ItOf (s : Shared) (xv : Value) (xs : List Int) : Prop :=
  (∃ l, xv = .ref l ∧ Has s.heap l (iInts xs)) ∨
  (∃ r a b c t u v, ∃ n : Nat, xv = .ref r ∧ IsRange s.heap r a b c t u v ∧ Builtin.Range.small a b c = true ∧ Builtin.Range.rangeSize a b c = (n : Int) ∧ xs = (List.range n).map fun i : Nat => a + i * c)

theorem smK {s s' : Shared} (S : Sm s s') (k : Keeps s.heap s'.heap) : PySem.Keeps s s' := by
  obtain ⟨h, g, d, t, o⟩ := s
  obtain ⟨h', g', d', t', o'⟩ := s'
  obtain ⟨a, b, c⟩ := S
  cases a; cases b; cases c
  exact ⟨h', t', rfl, k⟩
theorem Kof {s s' : Shared} (x : PySem.Keeps s s') : Sm s s' ∧ Keeps s.heap s'.heap := let ⟨_, _, e, k⟩ := x; by subst e; exact ⟨⟨rfl, rfl, rfl⟩, k⟩

section
variable {w : World} {A : Around} {E : Value → Shared → Prop} {s : Shared} {env : Env} {mg mb m : Str → Option Value} {h₀ : Heap} {cs : List (Addr × (Obj → Prop))} {L : Addr}

theorem iterWalks {xv : Value} {xs : List Int} {Q : Value → Shared → Prop} (hh : A.handled = none) (x : ItOf s xv xs)
    (h : ∀ s₂ (fp : List Addr) P St, Walks PG w A s.heap.objs.size fp [s.heap.objs.size] xs.length P St → St 0 s₂.heap → (∀ b ∈ fp, b < s₂.heap.objs.size) → (∀ i v, P i v → i < xs.length ∧ ∃ t, v = .int (xs.getD i 0) t) →
      Sm s s₂ → Keeps s.heap s₂.heap → s₂.heap.objs.size = s.heap.objs.size + 1 → Q (.ref s.heap.objs.size) s₂) : wpAny (model PG w) A (pyIter xv) Q E s := by
  rcases x with ⟨l, rfl, X⟩ | ⟨r, a, b, c, t, u, v, n, rfl, hr, hsm, hn, rfl⟩
  · obtain ⟨vs, hi, X⟩ := X.vals
    have hlt := X.lt
    have hne : l ≠ s.heap.objs.size := Nat.ne_of_lt hlt
    refine wpAny_pyIter_list X.isList ?_
    have W := Walks.list (prog := PG) (w := w) hh s.heap.objs.size l hne vs.toArray
    rw [show vs.toArray.size = xs.length by rw [List.size_toArray, hi.length]] at W
    refine h _ _ _ _ W ⟨⟨_, Heap.get?_push_size _ rfl, rfl, by exact rfl⟩, ?_⟩ ?_ ?_ ⟨rfl, rfl, rfl⟩ (fun _ _ e => Heap.get?_push_of_some _ e) (Heap.size_push ..)
    · exact (X.keeps (h' := s.heap.push _) fun _ _ e => Heap.get?_push_of_some _ e).isList
    · intro b hb
      rw [Heap.size_push]
      have : b = s.heap.objs.size ∨ b = l := by simpa using hb
      rcases this with rfl | rfl
      · exact Nat.lt_succ_self _
      · exact Nat.lt_succ_of_lt hlt
    · intro i v hv
      have hv' : vs[i]? = some v := by simpa using hv
      have hlt : i < vs.length := (List.getElem?_eq_some_iff.mp hv').1
      rw [hi.length] at hlt
      obtain ⟨t, ht⟩ := hi.get i xs[i] (by simp [hlt])
      rw [ht] at hv'
      cases hv'
      exact ⟨hlt, t, by simp [List.getD, hlt]⟩
  · refine wpAny_pyIter_range hr hsm ?_
    have W := (Walks.range (prog := PG) (w := w) hh s.heap.objs.size a c n).bound
    have hl : ((List.range n).map fun i : Nat => a + (i : Int) * c).length = n := by simp
    rw [show n = ((List.range n).map fun i : Nat => a + (i : Int) * c).length from hl.symm] at W
    refine h _ _ _ _ W ?_ ?_ ?_ ⟨rfl, rfl, rfl⟩ (fun _ _ e => Heap.get?_push_of_some _ e) (Heap.size_push ..)
    · show IsRangeIter _ _ _ _ _
      rw [hl, hn]; simpa using Heap.get?_push_size _ rfl
    · intro b hb
      rw [Heap.size_push]
      rw [List.mem_singleton.mp hb]; exact Nat.lt_succ_self _
    · rintro i v ⟨hi, t, rfl⟩
      refine ⟨hi, t, ?_⟩
      rw [hl] at hi
      simp [List.getD, hi]

theorem paired_ints {f : Int → Int} : ∀ (vs : List Value) (ys : List Value) (xs : List Int), (∀ j v, vs[j]? = some v → ∃ t, v = Value.int (xs.getD j 0) t) → vs.length = xs.length →
    PySem.Paired (fun v y => ∀ x t, v = Value.int x t → ∃ u, y = Value.int (f x) u) vs ys → IntsAre ys (xs.map f)
  | [], _, [], _, _, .nil => .nil
  | v :: vs, _, x :: xs, hP, hl, .cons hF r => by
    obtain ⟨t, e⟩ := hP 0 v rfl
    obtain ⟨u, rfl⟩ := hF x t e
    exact .cons _ u (paired_ints vs _ xs (fun j v hj => hP (j + 1) v (by simpa using hj)) (by simpa using hl) r)

/-- a comprehension over ints, its elements ints -/
theorem compO {f : Int → Int} {elt iter : Expr} {y : Str} {px : Pos} {scope : Scope} {cl : List (Str × Addr)} {pos : Pos} {Q : Value → Shared → Prop} (hh : A.handled = none)
    (h : wpAny (model PG w) A (eval iter env) (fun xv s₁ => ∃ xs, Sm s s₁ ∧ Keeps s.heap s₁.heap ∧ ItOf s₁ xv xs ∧ xs.length ≤ 2 ^ 24 ∧
      (∀ C x t s₃ m₃ E', x ∈ xs → s₁.heap.get? C = none → s₃.heap.Ns C m₃ → m₃ y = some (.int x t) → Keeps s₁.heap s₃.heap →
        wpAny (model PG w) A (eval elt (compEnvC scope cl C env)) (fun r s₄ => (∃ u, r = .int (f x) u) ∧ Sm s₃ s₄ ∧ Keeps s₃.heap s₄.heap) E' s₃) ∧
      (∀ D s', Sm s s' → Keeps s.heap s'.heap → s.heap.get? D = none → Has s'.heap D (iInts (xs.map f)) → Q (.ref D) s')) E s)
    (hclos : closureFor scope env = pure cl) (hcell : ∀ y ∈ scope.names, y.2 ≠ .cell := by decide) (hkind : scope.kind = .function := by rfl)
    (hnames : ∀ y ∈ scope.names, y.2 = .local → scope.names.lookup y.1 = some .local := by decide) (hx : scope.names.lookup y = some .local := by rfl)
    (hs : ∀ x, foldedSetIterable iter env x = pure x := by intro _; rfl) :
    wpAny (model PG w) A (eval (.ListComp elt [⟨.Name y px, iter, [], 0⟩] scope pos) env) Q E s := by
  refine wpAny_ListComp_free (fun _ => true) (fun v y => ∀ x t, v = Value.int x t → ∃ u, y = Value.int (f x) u) hclos hcell hkind hnames hx (wpAny_mono h (fun xv s₁ h₁ => ?_) fun _ _ e => e) hs
  obtain ⟨xs, S₁, K₁, it, hz, body, done⟩ := h₁
  refine iterWalks hh it fun s₂ fp P St W hst hfp hP S₂ K₂ hsz => ?_
  have hI : s₁.heap.get? s₁.heap.objs.size = none := none_of_ge (Nat.le_refl _)
  refine ⟨_, fp, _, _, P, St, rfl, W, by rw [sizeLine_eq]; omega, hst, hfp, ⟨?_, ?_⟩, ?_⟩
  · intro C i v s₃ m₃ E' _ _ _ _ _ _
    exact wpAny_pure ⟨rfl, s₃.heap, s₃.toks, rfl, fun _ _ e => e⟩
  · intro C i v s₃ m₃ E' hC hv _ hn hm hk _
    obtain ⟨hi, t, rfl⟩ := hP i v hv
    refine wpAny_mono (body C (xs.getD i 0) t s₃ m₃ E' ?_ (none_of_ge (by omega)) hn hm fun b o e => ?_) (fun r s₄ h₄ => ?_) fun _ _ e => e
    · simp [List.getD, hi]
    · refine hk b o (fun z => ?_) (K₂ b o e)
      rw [List.mem_singleton.mp z, hI] at e; cases e
    · obtain ⟨⟨u, rfl⟩, S₄, K₄⟩ := h₄
      exact ⟨fun x t' e => by cases e; exact ⟨u, rfl⟩, smK S₄ K₄⟩
  · intro D h' tk ys vs hD hl hpl hlen hPs hF hk
    have hkk : Keeps s.heap h' := fun b o e => by
      have e₁ := K₁ b o e
      refine hk b o (fun z => ?_) (K₂ b o e₁)
      rw [List.mem_singleton.mp z, hI] at e₁; cases e₁
    refine done D _ (S₁.trans (S₂.trans ⟨rfl, rfl, rfl⟩)) hkk ?_ ?_
    · cases q : s.heap.get? D with
      | none => rfl
      | some o => have := K₂ _ _ (K₁ _ _ q); rw [hD] at this; cases this
    · have hpl' : h'.PlainList D ys.toList.toArray := by simpa using hpl
      refine (has_vals.mpr hpl').ints ?_
      have hF' : PySem.Paired (fun v y => ∀ x t, v = Value.int x t → ∃ u, y = Value.int (f x) u) vs ys.toList := (List.filter_eq_self.mpr (fun _ _ => rfl) : vs.filter (fun _ => true) = vs) ▸ hF
      exact paired_ints vs _ xs (fun j v hj => (hP j v (hPs j v hj)).2) hlen hF'

/-- x = [..] with the store ahead of the end of the comprehension -/
theorem compStoreO {f : Int → Int} {elt iter : Expr} {y z : Str} {px pz : Pos} {scope : Scope} {cl : List (Str × Addr)} {pos spos : Pos} {Q : Flow → Shared → Prop} (hh : A.handled = none)
    (h : wpAny (model PG w) A (eval iter env) (fun xv s₁ => ∃ xs m cs, Sm s s₁ ∧ Own h₀ s₁.heap env.locals m cs ∧ ItOf s₁ xv xs ∧ xs.length ≤ 2 ^ 24 ∧
      (∀ C x t s₃ m₃ E', x ∈ xs → s₁.heap.get? C = none → s₃.heap.Ns C m₃ → m₃ y = some (.int x t) → Keeps s₁.heap s₃.heap →
        wpAny (model PG w) A (eval elt (compEnvC scope cl C env)) (fun r s₄ => (∃ u, r = .int (f x) u) ∧ Sm s₃ s₄ ∧ Keeps s₃.heap s₄.heap) E' s₃) ∧
      (∀ D s', Sm s s' → Own h₀ s'.heap env.locals (upd m z (.ref D)) ((D, iInts (xs.map f)) :: cs) → Q .next s')) E s)
    (hclos : closureFor scope env = pure cl) (hcell : ∀ y ∈ scope.names, y.2 ≠ .cell := by decide) (hkind : scope.kind = .function := by rfl)
    (hnames : ∀ y ∈ scope.names, y.2 = .local → scope.names.lookup y.1 = some .local := by decide) (hx : scope.names.lookup y = some .local := by rfl)
    (hs : ∀ x, foldedSetIterable iter env x = pure x := by intro _; rfl)
    (hz : env.kindOf z = some .local := by rfl) (hp : (env.scope.kind == .class || (env.scope.kind == .module && env.locals != env.globals)) = false := by rfl)
    (hsw : swapsWith (.ListComp elt [⟨.Name y px, iter, [], 0⟩] scope pos) (some (.Name z pz)) spos.line env = pure true := by rfl) :
    wpAny (model PG w) A (exec (.Assign [.Name z pz] (.ListComp elt [⟨.Name y px, iter, [], 0⟩] scope pos) spos) env) Q E s := by
  refine wpAny_Assign_ListComp_free (fun _ => true) (fun v y => ∀ x t, v = Value.int x t → ∃ u, y = Value.int (f x) u) hsw hclos hcell hkind hnames hx hz hp (wpAny_mono h (fun xv s₁ h₁ => ?_) fun _ _ e => e) hs
  obtain ⟨xs, m, cs, S₁, O₁, it, hz, body, done⟩ := h₁
  refine iterWalks hh it fun s₂ fp P St W hst hfp hP S₂ K₂ hsz => ?_
  have hI : s₁.heap.get? s₁.heap.objs.size = none := none_of_ge (Nat.le_refl _)
  have hLI : env.locals ≠ s₁.heap.objs.size := by
    obtain ⟨o, es, ep, ho, _⟩ := O₁.ns
    exact Nat.ne_of_lt (Heap.lt_size ho)
  refine ⟨_, fp, _, _, P, St, m, rfl, W, by rw [sizeLine_eq]; omega, hst, hfp, by simpa using hLI, O₁.ns.keeps K₂, ⟨?_, ?_⟩, ?_⟩
  · intro C i v s₃ m₃ E' _ _ _ _ _ _
    exact wpAny_pure ⟨rfl, s₃.heap, s₃.toks, rfl, fun _ _ e => e⟩
  · intro C i v s₃ m₃ E' hC hv _ hn hm hk _
    obtain ⟨hi, t, rfl⟩ := hP i v hv
    refine wpAny_mono (body C (xs.getD i 0) t s₃ m₃ E' ?_ (none_of_ge (by omega)) hn hm fun b o e => ?_) (fun r s₄ h₄ => ?_) fun _ _ e => e
    · simp [List.getD, hi]
    · refine hk b o (fun z => ?_) (K₂ b o e)
      rw [List.mem_singleton.mp z, hI] at e; cases e
    · obtain ⟨⟨u, rfl⟩, S₄, K₄⟩ := h₄
      exact ⟨fun x t' e => by cases e; exact ⟨u, rfl⟩, smK S₄ K₄⟩
  · intro D h' tk ys vs hD hl hpl hlen hPs hF hn' hk
    have hpl' : h'.PlainList D ys.toList.toArray := by simpa using hpl
    have hF' : PySem.Paired (fun v y => ∀ x t, v = Value.int x t → ∃ u, y = Value.int (f x) u) vs ys.toList := (List.filter_eq_self.mpr (fun _ _ => rfl) : vs.filter (fun _ => true) = vs) ▸ hF
    have hX : Has h' D (iInts (xs.map f)) := (has_vals.mpr hpl').ints (paired_ints vs _ xs (fun j v hj => (hP j v (hPs j v hj)).2) hlen hF')
    have kk : ∀ b o, b ≠ env.locals → s₁.heap.get? b = some o → h'.get? b = some o := fun b o hb e => by
      refine hk b o hb (fun z => ?_) (K₂ b o e)
      rw [List.mem_singleton.mp z, hI] at e; cases e
    have hD₁ : s₁.heap.get? D = none := by
      cases q : s₁.heap.get? D with
      | none => rfl
      | some o => have := K₂ _ _ q; rw [hD] at this; cases this
    have nodup := O₁.nodup
    refine done D _ (S₁.trans (S₂.trans ⟨rfl, rfl, rfl⟩)) ⟨hn', ?_, O₁.newL, ?_, ?_, ?_⟩
    · intro b o e
      refine kk b o (fun z => ?_) (O₁.keep b o e)
      have := O₁.newL; subst z; rw [this] at e; cases e
    · intro p hp
      rcases List.mem_cons.mp hp with rfl | hp
      · exact hX
      · obtain ⟨o, ho, q⟩ := O₁.at_ p hp
        refine ⟨o, kk _ _ (fun z => ?_) ho, q⟩
        exact (List.nodup_cons.mp nodup).1 (z ▸ List.mem_map_of_mem hp)
    · intro p hp
      rcases List.mem_cons.mp hp with rfl | hp
      · cases q : h₀.get? D with
        | none => rfl
        | some o => have := O₁.keep _ _ q; rw [hD₁] at this; cases this
      · exact O₁.new p hp
    · have hDL : D ≠ env.locals := by
        intro z; obtain ⟨o, es, ep, ho, _⟩ := O₁.ns; rw [← z, hD₁] at ho; cases ho
      have nd := List.nodup_cons.mp nodup
      refine List.nodup_cons.mpr ⟨fun hm => ?_, List.nodup_cons.mpr ⟨fun hm => ?_, nd.2⟩⟩
      · rcases List.mem_cons.mp hm with e | hm
        · exact hDL e.symm
        · exact nd.1 hm
      · obtain ⟨p, hp, e⟩ := List.mem_map.mp hm
        obtain ⟨o, ho, _⟩ := O₁.at_ p hp
        have e' : p.1 = D := e
        rw [e', hD₁] at ho; cases ho

theorem small_two {b : Int} (hb : 0 ≤ b) (hb' : b < 2 ^ 62) (n : Nat) (hn : Builtin.Range.rangeSize 0 b 2 = n) (h : (n : Int) ≤ b) : Builtin.Range.small 0 b 2 = true := by
  unfold Builtin.Range.small
  rw [hn]
  simp only [Builtin.Range.rangeFitsLong]
  simp only [Bool.and_eq_true, Bool.or_eq_true, decide_eq_true_eq, beq_iff_eq, show (2 : Int) > 0 by decide, if_true]
  omega
/-- a range made and walked by a comprehension -/
theorem itRange1 {n : Nat} {t : Tok} {Q : Value → Shared → Prop} (hn : n < 2 ^ 62) (h : ∀ v s₁, Sm s s₁ → Keeps s.heap s₁.heap → ItOf s₁ v ((List.range n).map fun i : Nat => (i : Int)) → Q v s₁) :
    wpAny (model PG w) A (call (.type "range") [.int n t]) Q E s := by
  refine call_range_1 (h _ _ ⟨rfl, rfl, rfl⟩ (fun _ _ e => Heap.get?_push_of_some _ e) (.inr ⟨_, 0, n, 1, _, _, _, n, rfl, IsRange.new .., small_one (by decide) (by decide) (by omega) (by omega), ?_, ?_⟩))
  · rw [rangeSize_one]; split <;> omega
  · exact List.map_congr_left fun i _ => by omega
theorem itRange3 {b : Int} {n : Nat} {t u v : Tok} {Q : Value → Shared → Prop} (hb : b < 2 ^ 40) (hn : b = 2 * n) (h : ∀ v s₁, Sm s s₁ → Keeps s.heap s₁.heap → ItOf s₁ v ((List.range n).map fun i : Nat => 2 * (i : Int)) → Q v s₁) :
    wpAny (model PG w) A (call (.type "range") [.int 0 t, .int b u, .int 2 v]) Q E s := by
  subst hn
  have hz : Builtin.Range.rangeSize 0 (2 * (n : Int)) 2 = n := by
    unfold Builtin.Range.rangeSize
    simp only [show (2 : Int) > 0 by decide, if_true]
    split <;> omega
  refine call_range_3 (by decide) (h _ _ ⟨rfl, rfl, rfl⟩ (fun _ _ e => Heap.get?_push_of_some _ e) (.inr ⟨_, 0, 2 * n, 2, _, _, _, n, rfl, IsRange.new .., ?_, hz, ?_⟩)) (.inl (PyProof.noPylong_small (by omega)))
  · exact small_two (by omega) (by omega) n hz (by omega)
  · exact List.map_congr_left fun i _ => by omega
end
end Mine
namespace Mine
section
variable {w : World} {A : Around} {E : Value → Shared → Prop} {s : Shared} {env : Env} {mg mb m : Str → Option Value} {h₀ : Heap} {cs : List (Addr × (Obj → Prop))} {L : Addr}

theorem lookup_nodup : ∀ {l : List (Str × Addr)}, (l.map (·.1)).Nodup → ∀ p ∈ l, l.lookup p.1 = some p.2
  | [], _, _, h => by cases h
  | (k, v) :: r, hn, p, h => by
    simp only [List.map_cons, List.nodup_cons] at hn
    rcases List.mem_cons.mp h with rfl | h
    · simp [List.lookup_cons]
    · have : p.1 ≠ k := fun z => hn.1 (z ▸ List.mem_map_of_mem h)
      rw [List.lookup_cons, beq_false_of_ne this]
      exact lookup_nodup hn.2 p h

def cellObjs (n : Nat) (names : List (Str × NameKind)) (cm : Str → Option Value) : List (Addr × (Obj → Prop)) := (cellsFrom n names []).map fun p => (p.2, iCell (cm p.1))

theorem Own.startC {s : Shared} {h₁ : Heap} {m cm} {names} (F : Fr s.heap s.heap.objs.size h₁ m) (X : Cl s.heap.objs.size (cellsFrom (s.heap.objs.size + 1) names []) h₁ cm) (hnd : ((cellsFrom (s.heap.objs.size + 1) names []).map (·.1)).Nodup) :
    Own s.heap h₁ s.heap.objs.size m (cellObjs (s.heap.objs.size + 1) names cm) := by
  refine ⟨F.ns, F.keep, none_of_ge (Nat.le_refl _), ?_, ?_, ?_⟩
  · intro p hp
    obtain ⟨q, hq, rfl⟩ := List.mem_map.mp hp
    exact X.cell _ _ (lookup_nodup hnd q hq)
  · intro p hp
    obtain ⟨q, hq, rfl⟩ := List.mem_map.mp hp
    exact none_of_ge (Nat.le_of_lt (X.above _ _ hq))
  · rw [cellObjs, List.map_map]
    refine List.nodup_cons.mpr ⟨fun hm => ?_, ?_⟩
    · obtain ⟨q, hq, e⟩ := List.mem_map.mp hm
      exact absurd (X.above _ _ hq) (by rw [show q.2 = s.heap.objs.size from e]; exact Nat.lt_irrefl _)
    · exact List.pairwise_map.mpr X.apart

theorem callDefC {a c : Addr} {d : DefRec} {args : List Value} {binds : List (Str × Value)} {n : Nat} {Q : Value → Shared → Prop} (cn : List Str) (f : FnAt s.heap a c d) (lim : s.heap.NoLimit) (fit : Fit A (n + 1))
    (hbind : ∀ pm doc, bindArgs (Calls.docDef d.name d.params d.body d.scope pm (.ref c) doc) ⟨args, []⟩ = pure binds)
    (hkind : ∀ x ∈ binds, d.scope.names.lookup x.1 = some .local ∨ (d.scope.names.lookup x.1 = some .cell ∧ ((cellsFrom (s.heap.objs.size + 1) d.scope.names []).lookup x.1).isSome = true))
    (hcn : ∀ n, (cellsFrom n d.scope.names []).map (·.1) = cn)
    (h : ∀ s₁, Sm s s₁ → Own s.heap s₁.heap s.heap.objs.size (bindL (envOfC d.name d.scope s.heap.objs.size a (.ref c)).kindOf binds fun _ => none)
        (cellObjs (s.heap.objs.size + 1) d.scope.names (bindC (envOfC d.name d.scope s.heap.objs.size a (.ref c)).kindOf binds fun _ => none)) →
      Fit (A.deeper (envOfC d.name d.scope s.heap.objs.size a (.ref c))) n →
      wpAny (model PG w) (A.deeper (envOfC d.name d.scope s.heap.objs.size a (.ref c))) (execs d.body (envOfC d.name d.scope s.heap.objs.size a (.ref c)))
        (fun f s' => Q (match f with | .ret v => v | _ => .none) s') (fun _ _ => False) s₁)
    (hnd : cn.Nodup := by decide)
    (hco : d.scope.isCoroutine = false := by rfl) (hgen : d.scope.isGenerator = false := by rfl) (hk : d.scope.kind = .function := by rfl) :
    wpAny (model PG w) A (call (.ref a) args) Q E s := by
  obtain ⟨o, pm, doc, ho, hdata, hcd⟩ := f
  exact wpAny_call (call_cells_ret fit.room ho hdata lim hcd (hbind pm doc) hkind (fun h₁ tk F X => h _ ⟨rfl, rfl, rfl⟩ (Own.startC F X (by rw [hcn]; exact hnd)) (fit.deeper _)) hco hgen hk)

theorem eCell {x : Str} {pos : Pos} {c : Addr} {v : Value} {i : Nat} {Q : Value → Shared → Prop} (O : Own h₀ s.heap L m cs) (hi : cs[i]? = some (c, iCell (some v))) (hc : env.cells.lookup x = some c) (h : Q v s)
    (hk : env.scope.kind = .function := by rfl) (hl : env.kindOf x = some .cell := by rfl) (hd : (x == ("__debug__" : Str)) = false := by decide) :
    wpAny M A (eval (.Name x pos) env) Q E s := wpAny_Name (wpAny_loadName_cell hk hl hc (O.of hi) h) hd
theorem eCellH {x : Str} {pos : Pos} {c : Addr} {v : Value} {Q : Value → Shared → Prop} (hi : Has s.heap c (iCell (some v))) (hc : env.cells.lookup x = some c) (h : Q v s)
    (hk : env.scope.kind = .function := by rfl) (hl : env.kindOf x = some .cell := by rfl) (hd : (x == ("__debug__" : Str)) = false := by decide) :
    wpAny M A (eval (.Name x pos) env) Q E s := wpAny_Name (wpAny_loadName_cell hk hl hc hi h) hd
theorem eFreeH {x : Str} {pos : Pos} {c : Addr} {v : Value} {Q : Value → Shared → Prop} (hi : Has s.heap c (iCell (some v))) (hc : env.cells.lookup x = some c) (h : Q v s)
    (hk : env.scope.kind = .function := by rfl) (hl : env.kindOf x = some .free := by rfl) (hd : (x == ("__debug__" : Str)) = false := by decide) (hn : (x == ("__classdict__" : Str)) = false := by decide) :
    wpAny M A (eval (.Name x pos) env) Q E s := wpAny_Name (wpAny_loadName_free hk hl hc hi h hn) hd
theorem eLocalN {x : Str} {pos : Pos} {v : Value} {Q : Value → Shared → Prop} (O : s.heap.Ns env.locals m) (hv : m x = some v) (h : Q v s)
    (hk : env.scope.kind = .function := by rfl) (hl : env.kindOf x = some .local := by rfl) (hd : (x == ("__debug__" : Str)) = false := by decide) :
    wpAny M A (eval (.Name x pos) env) Q E s := wpAny_Name (wpAny_loadName_local hk hl O hv h) hd

theorem sCell {x : Str} {px pos : Pos} {value : Expr} {Q : Flow → Shared → Prop} {c : Addr}
    (h : wpAny M A (eval value env) (fun v s₁ => ∃ h₀ m cs i P, Own h₀ s₁.heap env.locals m cs ∧ cs[i]? = some (c, P) ∧ (∀ o, P o → iAnyCell o) ∧ ∀ s₂, Sm s₁ s₂ → Own h₀ s₂.heap env.locals m (cs.set i (c, iCell (some v))) → Q .next s₂) E s)
    (hc : env.cells.lookup x = some c) (hl : env.kindOf x = some .cell := by rfl) (hk : env.scope.kind = .function := by rfl)
    (hs : swapsWith value (some (.Name x px)) pos.line env = pure false := by rfl) :
    wpAny M A (exec (.Assign [.Name x px] value pos) env) Q E s := by
  refine wpAny_Assign_Name (wpAny_mono h (fun v s₁ h₁ => ?_) fun _ _ e => e) hs
  obtain ⟨h₀, m, cs, i, P, O, hi, hP, hq⟩ := h₁
  obtain ⟨o, ho, p⟩ := O.of hi
  obtain ⟨v₀, q⟩ := hP o p
  exact wpAny_storeName_cell hk hl hc ⟨o, ho, q⟩ fun h' hn hs' => hq _ ⟨rfl, rfl, rfl⟩ (O.turn hi hs'.extBut hn)

/-- an own object known less well -/
theorem Own.weak {h : Heap} (O : Own h₀ h L m cs) {i : Nat} {a : Addr} {P P' : Obj → Prop} (hi : cs[i]? = some (a, P)) (k : ∀ o, P o → P' o) : Own h₀ h L m (cs.set i (a, P')) :=
  O.turn hi (Heap.ExtBut.refl _ _) ((O.of hi).imp k)

/-- an iterator that gives these ints -/
structure ItR (w : World) (A : Around) (it : Addr) (n : Nat) (xs : Nat → Int) (Pi : Nat → Obj → Prop) (K : Heap → Prop) : Prop where
  item : ∀ i (s : Shared) (Q : Option Value → Shared → Prop) (E : Value → Shared → Prop), i < n → Has s.heap it (Pi i) → K s.heap → (∀ t s', Sm s s' → Heap.ExtBut it s.heap s'.heap → Has s'.heap it (Pi (i + 1)) → Q (some (.int (xs i) t)) s') → wpAny (model PG w) A (pyNext (.ref it)) Q E s
  done : ∀ (s : Shared) (Q : Option Value → Shared → Prop) (E : Value → Shared → Prop), Has s.heap it (Pi n) → K s.heap → (∀ s', Sm s s' → Heap.ExtBut it s.heap s'.heap → Q none s') → wpAny (model PG w) A (pyNext (.ref it)) Q E s

theorem ItR.range (hh : A.handled = none) (it : Addr) (a : Int) (n : Nat) : ItR w A it n (fun i => a + i) (fun i o => o = { cls := .type "range_iterator", data := .fields #[rawInt (a + (i : Nat)), rawInt ((n : Int) - (i : Nat)), rawInt 1] }) fun _ => True where
  item := by
    rintro i s Q E hi ⟨o, ho, rfl⟩ - h
    refine wpAny_pyNext_range_item ho (by omega) fun h₁ hit₁ hs₁ => h _ _ ⟨rfl, rfl, rfl⟩ hs₁.extBut ⟨_, hit₁, ?_⟩
    have e1 : a + ((i + 1 : Nat) : Int) = a + (i : Int) + 1 := by push_cast; omega
    have e2 : (n : Int) - ((i + 1 : Nat) : Int) = (n : Int) - (i : Int) - 1 := by push_cast; omega
    rw [e1, e2]
  done := by
    rintro s Q E ⟨o, ho, rfl⟩ - h
    exact wpAny_pyNext_range_end hh ho (by omega) fun h₁ he₁ => h _ ⟨rfl, rfl, rfl⟩ he₁

theorem ItR.list (hh : A.handled = none) (it l : Addr) (xs : List Int) : ItR w A it xs.length (fun i => xs.getD i 0) (fun i o => o.cls = .type "list_iterator" ∧ o.data = .fields #[.ref l, .int i 0]) fun h => Has h l (iInts xs) where
  item := by
    rintro i s Q E hi ⟨o, ho, hc, hd⟩ hl h
    obtain ⟨vs, hv, X⟩ := hl.vals
    obtain ⟨t, ht⟩ := ints_get hv hi
    refine wpAny_pyNext_list_item ⟨o, ho, hc, hd⟩ X.isList (by simpa using ht) fun h₁ hit₁ hs₁ => h _ _ ⟨rfl, rfl, rfl⟩ hs₁.extBut hit₁
  done := by
    rintro s Q E ⟨o, ho, hc, hd⟩ hl h
    obtain ⟨vs, hv, X⟩ := hl.vals
    exact wpAny_pyNext_list_end hh ⟨o, ho, hc, hd⟩ X.isList (by simp [hv.length]) fun h₁ he₁ => h _ ⟨rfl, rfl, rfl⟩ he₁

def GoesZ {Z : Type} (s s₂ : Shared) (h₀ : Heap) (L : Addr) (J : Z → (Str → Option Value) → Prop) (C : Z → List (Addr × (Obj → Prop))) (f : Flow) : Prop :=
  (f = .next ∨ f = .cont) ∧ Sm s s₂ ∧ ∃ z m₂, J z m₂ ∧ Own h₀ s₂.heap L m₂ (C z)

theorem forLoopZ {Z : Type} {R : Result → Shared → Prop} {x : Str} {px : Pos} {body : List Stmt} {it : Addr} {n : Nat} {xs : Nat → Int} {Pi : Nat → Obj → Prop} {K : Heap → Prop} (I : ItR w A it n xs Pi K)
    (C : Nat → Z → List (Addr × (Obj → Prop))) (J : Nat → Z → (Str → Option Value) → Prop) (z₀ : Z)
    (O : Own h₀ s.heap env.locals m ((it, Pi 0) :: C 0 z₀)) (h0 : J 0 z₀ m) (hK : ∀ i z m h, Own h₀ h env.locals m (C i z) → J i z m → K h)
    (turn : ∀ E' (i : Nat) z t m₁ s₁ P, i < n → Sm s s₁ → J i z m₁ → Own h₀ s₁.heap env.locals (upd m₁ x (.int (xs i) t)) ((it, P) :: C i z) →
      wpAny (model PG w) A (execs body env) (fun f s₂ => GoesZ s₁ s₂ h₀ env.locals (J (i + 1)) (fun z => (it, P) :: C (i + 1) z) f) E' s₁)
    (done : ∀ m₁ z s₁, Sm s s₁ → J n z m₁ → Own h₀ s₁.heap env.locals m₁ (C n z) → R (.ok .next) s₁)
    (ht : ∀ v, letOwnedTupleGo (.Name x px) (.ref it) v = pure () := by intro _; rfl)
    (hx : env.kindOf x = some .local := by rfl)
    (hp : (env.scope.kind == .class || (env.scope.kind == .module && env.locals != env.globals)) = false := by rfl) :
    codeAny (model PG w) A (.forLoop (.Name x px) (.ref it) body [] env) R s := by
  refine codeAny_forLoop
    (fun k s' => ∃ m' i z, Sm s s' ∧ i ≤ n ∧ k = n + 1 - i ∧ J i z m' ∧ Own h₀ s'.heap env.locals m' ((it, Pi i) :: C i z)) ?_ (n + 1)
    ⟨m, 0, z₀, Sm.refl s, Nat.zero_le _, rfl, h0, O⟩ ht
  rintro k s' ⟨m', i, z, S, hi, rfl, hJ, O'⟩
  by_cases hlt : i < n
  · refine I.item i _ _ _ hlt (O'.at_ _ (.head _)) (hK _ _ _ _ O'.tail hJ) fun t s₁ S₁ X₁ H₁ => ?_
    have O₁ := O'.turn (i := 0) rfl X₁ H₁
    refine wpAny_assign_Name (wpAny_storeName_local hx O₁.ns (fun h₂ hn₂ hs₂ => ?_) hp)
    refine wpAny_mono (turn _ i z _ m' _ _ hlt (S.trans (S₁.trans ⟨rfl, rfl, rfl⟩)) hJ (O₁.store hn₂ hs₂)) (fun f s₃ h₃ => ?_) fun _ _ e => e
    obtain ⟨hf, S₃, z₃, m₂, hJ₃, O₃⟩ := h₃
    have fin : ∃ k', k' < n + 1 - i ∧ ∃ m' j z, Sm s s₃ ∧ j ≤ n ∧ k' = n + 1 - j ∧ J j z m' ∧ Own h₀ s₃.heap env.locals m' ((it, Pi j) :: C j z) :=
      ⟨n + 1 - (i + 1), by omega, m₂, i + 1, z₃, S.trans (S₁.trans (Sm.trans ⟨rfl, rfl, rfl⟩ S₃)), hlt, rfl, hJ₃, O₃⟩
    rcases hf with rfl | rfl <;> exact fin
  · have hin : i = n := by omega
    subst hin
    refine I.done _ _ _ (O'.at_ _ (.head _)) (hK _ _ _ _ O'.tail hJ) fun s₁ S₁ X₁ => wpAny_execs_nil ?_
    exact done m' _ _ (S.trans S₁) hJ (O'.lose X₁)

/-- for x in range(a, b) -/
theorem forRangeZ {Z : Type} {x : Str} {px rp cp pos : Pos} {ea eb : Expr} {body : List Stmt} {Q : Flow → Shared → Prop} (a : Int) (n : Nat) (C : Nat → Z → List (Addr × (Obj → Prop))) (J : Nat → Z → (Str → Option Value) → Prop) (z₀ : Z)
    (G : Gl mg mb s.heap) (hh : A.handled = none)
    (he : wpAny (model PG w) A (eval ea env) (fun va s₀ => wpAny (model PG w) A (eval eb env) (fun vb s₁ => ∃ ta tb m, va = .int a ta ∧ vb = .int (a + n) tb ∧ Sm s s₁ ∧ Own h₀ s₁.heap env.locals m (C 0 z₀) ∧ J 0 z₀ m) E s₀) E s)
    (turn : ∀ E' (it : Addr) (i : Nat) z t m₁ s₂ P, i < n → Sm s s₂ → J i z m₁ → Own h₀ s₂.heap env.locals (upd m₁ x (.int (a + i) t)) ((it, P) :: C i z) →
        wpAny (model PG w) A (execs body env) (fun f s₃ => GoesZ s₂ s₃ h₀ env.locals (J (i + 1)) (fun z => (it, P) :: C (i + 1) z) f) E' s₂)
    (done : ∀ m₁ z s₂, Sm s s₂ → J n z m₁ → Own h₀ s₂.heap env.locals m₁ (C n z) → Q .next s₂) (ha : -(2 ^ 60) ≤ a) (ha' : a < 2 ^ 60) (hn : n < 2 ^ 60)
    (hk : env.scope.kind = .function := by rfl) (hl : env.kindOf "range" = some .globalImplicit := by rfl) (hg : env.globals = mainGlobals := by rfl) (hb : env.builtins = builtinsNs := by rfl)
    (hx : env.kindOf x = some .local := by rfl)
    (hs : ∀ x, foldedSetIterable (.Call (.Name "range" rp) [ea, eb] [] cp) env x = pure x := by intro _; rfl)
    (hst : starEach [ea, eb] env = (false, eval ea env) :: starEach [eb] env := by rfl) (hst' : starEach [eb] env = [(false, eval eb env)] := by rfl) :
    wpAny (model PG w) A (exec (.For (.Name x px) (.Call (.Name "range" rp) [ea, eb] [] cp) body [] pos) env) Q E s := by
  refine wpAny_For (wpAny_Call_NameR (eBuilt (v := .type "range") G (by decide +kernel) (by decide +kernel) ?_ (by decide) hk hl hg hb)) hs
  refine PyProof.Rows.callWith_type1 (args_cons (wpAny_mono he (fun va s₀ h₀ => ?_) fun _ _ e => e) hst) hst (by rw [hst']; rfl)
  refine args_cons (wpAny_mono h₀ (fun vb s₁ h₁ => ?_) fun _ _ e => e) hst'
  obtain ⟨ta, tb, m, rfl, rfl, S₁, O, hJ⟩ := h₁
  refine args_nil ?_
  refine call_range_2 ?_
  have O₁ := O.junk { cls := .type "range", data := .fields #[.int a ta, .int (a + n) tb, .int 1 s₁.toks] }
  refine wpAny_pyIter_range (IsRange.new ..) (small_one (by omega) (by omega) (by omega) (by omega)) ?_
  have hz : Builtin.Range.rangeSize a (a + (n : Int)) 1 = (n : Int) := by rw [rangeSize_one]; split <;> omega
  rw [hz]
  have O₂ := O₁.push { cls := .type "range_iterator", data := .fields #[rawInt a, rawInt n, rawInt 1] } (P := fun o => o = { cls := .type "range_iterator", data := .fields #[rawInt (a + (0 : Nat)), rawInt ((n : Int) - (0 : Nat)), rawInt 1] }) (by simp)
  refine forLoopZ (ItR.range hh _ a n) C J z₀ O₂ hJ (fun _ _ _ _ _ _ => trivial) (fun E' i z t m₁ s₂ P hi S hJ O => ?_) (fun m₁ z s₂ S hJ O => done m₁ z s₂ (S₁.trans (Sm.trans ⟨rfl, rfl, rfl⟩ S)) hJ O) (by intro _; rfl) hx (by rw [hk]; rfl)
  exact turn E' _ i z t m₁ s₂ P hi (S₁.trans (Sm.trans ⟨rfl, rfl, rfl⟩ S)) hJ O

/-- for x in a list -/
theorem forListZ {Z : Type} {x : Str} {px pos : Pos} {e : Expr} {body : List Stmt} {Q : Flow → Shared → Prop} (xs : List Int) (l : Addr) (C : Nat → Z → List (Addr × (Obj → Prop))) (J : Nat → Z → (Str → Option Value) → Prop) (z₀ : Z)
    (hh : A.handled = none)
    (he : wpAny (model PG w) A (eval e env) (fun v s₁ => ∃ m, v = .ref l ∧ Sm s s₁ ∧ Own h₀ s₁.heap env.locals m (C 0 z₀) ∧ J 0 z₀ m) E s)
    (hK : ∀ i z m h, Own h₀ h env.locals m (C i z) → J i z m → Has h l (iInts xs))
    (turn : ∀ E' (it : Addr) (i : Nat) z t m₁ s₂ P, i < xs.length → Sm s s₂ → J i z m₁ → Own h₀ s₂.heap env.locals (upd m₁ x (.int (xs.getD i 0) t)) ((it, P) :: C i z) →
        wpAny (model PG w) A (execs body env) (fun f s₃ => GoesZ s₂ s₃ h₀ env.locals (J (i + 1)) (fun z => (it, P) :: C (i + 1) z) f) E' s₂)
    (done : ∀ m₁ z s₂, Sm s s₂ → J xs.length z m₁ → Own h₀ s₂.heap env.locals m₁ (C xs.length z) → Q .next s₂)
    (hk : env.scope.kind = .function := by rfl) (hx : env.kindOf x = some .local := by rfl)
    (hs : ∀ x, foldedSetIterable e env x = pure x := by intro _; rfl) :
    wpAny (model PG w) A (exec (.For (.Name x px) e body [] pos) env) Q E s := by
  refine wpAny_For (wpAny_mono he (fun v s₁ h₁ => ?_) fun _ _ e => e) hs
  obtain ⟨m, rfl, S₁, O, hJ⟩ := h₁
  obtain ⟨vs, hv, X⟩ := (hK _ _ _ _ O hJ).vals
  refine wpAny_pyIter_list X.isList ?_
  have O₂ := O.push { cls := .type "list_iterator", data := .fields #[.ref l, .int 0 0] } (P := fun o => o.cls = .type "list_iterator" ∧ o.data = .fields #[.ref l, .int ((0 : Nat) : Int) 0]) ⟨rfl, rfl⟩
  refine forLoopZ (ItR.list hh _ l xs) C J z₀ O₂ hJ hK (fun E' i z t m₁ s₂ P hi S hJ O => ?_) (fun m₁ z s₂ S hJ O => done m₁ z s₂ (S₁.trans (Sm.trans ⟨rfl, rfl, rfl⟩ S)) hJ O) (by intro _; rfl) hx (by rw [hk]; rfl)
  exact turn E' _ i z t m₁ s₂ P hi (S₁.trans (Sm.trans ⟨rfl, rfl, rfl⟩ S)) hJ O

/-- a dict from ints -/
def iMap (f : Int → Option Value) (n : Nat) (o : Obj) : Prop := o.cls = .type "dict" ∧ ∃ es ep, o.data = .dict es ep ∧ IntKeys es ∧ (∀ k, findBy Value.isInt es k = f k) ∧ es.size ≤ n
theorem Has.map {h : Heap} {a f n} (x : Has h a (iMap f n)) : h.IntMap a f ∧ h.DictLe a n := by
  obtain ⟨o, ho, hc, es, ep, hd, hk, hf, hz⟩ := x
  refine ⟨⟨o, es, ep, ho, hc, hd, hk, hf⟩, fun o' es' ep' ho' hd' => ?_⟩
  rw [ho] at ho'; cases ho'; rw [hd] at hd'; cases hd'; exact hz
theorem hasMap {h : Heap} {a f n} (x : h.IntMap a f) (y : h.DictLe a n) : Has h a (iMap f n) := by
  obtain ⟨o, es, ep, ho, hc, hd, hk, hf⟩ := x
  exact ⟨o, ho, hc, es, ep, hd, hk, hf, y o es ep ho hd⟩

theorem newMap {pos : Pos} {Q : Value → Shared → Prop} (O : Own h₀ s.heap L m cs) (h : ∀ r s', Sm s s' → Own h₀ s'.heap L m ((r, iMap (fun _ => none) 0) :: cs) → Q (.ref r) s') :
    wpAny M A (eval (.Dict [] [] pos) env) Q E s :=
  wpAny_Dict_empty (h _ _ ⟨rfl, rfl, rfl⟩ (O.push _ ⟨rfl, #[], 0, rfl, fun _ he => by simp at he, fun _ => rfl, by simp⟩))
theorem setMap {i : Nat} {d : Addr} {f : Int → Option Value} {n : Nat} {k : Int} {t : Tok} {v : Value} {Q : Unit → Shared → Prop} (O : Own h₀ s.heap L m cs) (hi : cs[i]? = some (d, iMap f n)) (hn : n ≤ 2 ^ 20)
    (h : ∀ s', Sm s s' → Own h₀ s'.heap L m (cs.set i (d, iMap (fun x => if x = k then some v else f x) (n + 1))) → Q () s') : wpAny (model PG w) A (setItem (.ref d) (.int k t) v) Q E s :=
  wpAny_setItem_intMap_le (O.of hi).map.1 (O.of hi).map.2 (by rw [sizeLine_eq]; omega) fun h' x y hs => h _ ⟨rfl, rfl, rfl⟩ (O.turn hi hs.extBut (hasMap x y))
theorem getMap {d : Addr} {f : Int → Option Value} {n : Nat} {k : Int} {t : Tok} {v : Value} {Q : Value → Shared → Prop} (x : Has s.heap d (iMap f n)) (hv : f k = some v)
    (h : ∀ s', Sm s s' → s'.heap = s.heap → Q v s') : wpAny (model PG w) A (getItem (.ref d) (.int k t)) Q E s :=
  wpAny_getItem_intMap x.map.1 hv (h _ ⟨rfl, rfl, rfl⟩ rfl)
theorem subMap {value slice : Expr} {d : Addr} {f : Int → Option Value} {n : Nat} {k : Int} {u : Tok} {v : Value} {Q : Value → Shared → Prop} (x : Has s.heap d (iMap f n)) (hv : f k = some v)
    (h : ∀ s', Sm s s' → s'.heap = s.heap → Q v s') (hs : subscripted slice false (.ref d) (.int k u) = operate [.ref d, .int k u] (getItem (.ref d) (.int k u)) := by with_unfolding_all rfl) :
    wpAny (model PG w) A (subscriptTail value slice (.ref d) (.int k u)) Q E s :=
  tail_any x.map.1.typeIs slot_dict_getitem.lookup (getMap x hv h) hs

/-- first, second = a list of two ints -/
theorem unpackPair {elts : List Expr} {k} {pos : Pos} {l : Addr} {p q : Int} {Q : Unit → Shared → Prop} {a b : Value → Sem Unit} (hh : A.handled = none) (O : Own h₀ s.heap L m cs) (x : Has s.heap l (iInts [p, q]))
    (h : ∀ t u s', Sm s s' → Own h₀ s'.heap L m cs → wpAny (model PG w) A (assignInOrder [a, b] [.int p t, .int q u]) Q E s')
    (ha : (assignEach elts env).map (·.2) = [a, b] := by rfl) (hstar : (assignEach elts env).findIdx? (·.1) = none := by rfl) :
    wpAny (model PG w) A (assign (.Tuple elts k pos) env (.ref l)) Q E s := by
  obtain ⟨vs, hv, X⟩ := x.vals
  rcases hv with _ | ⟨_, t, hv⟩
  rcases hv with _ | ⟨_, u, hv⟩
  cases hv
  rw [assign_Tuple]
  refine wpAny_bind (wpAny_standAt ?_)
  unfold unpack
  have hlen : (assignEach elts env).length = 2 := by rw [← List.length_map (·.2), ha]; rfl
  rw [hlen, hstar]
  refine wpAny_bind (wpAny_holding (kun_itemsOf (items := #[.int p t, .int q u]) hh X.isList fun h' hx => ?_))
  rw [ha]
  have hk : Keeps s.heap h' := fun b o e => hx b o (Nat.ne_of_lt (Heap.lt_size e)) e
  exact h t u _ ⟨rfl, rfl, rfl⟩ (O.keeps hk)
end
end Mine
namespace Mine
theorem Own.permute {h₀ h : Heap} {L : Addr} {m : Str → Option Value} {cs cs' : List (Addr × (Obj → Prop))} (O : Own h₀ h L m cs) (p : cs.Perm cs') : Own h₀ h L m cs' :=
  ⟨O.ns, O.keep, O.newL, fun q hq => O.at_ q (p.mem_iff.mpr hq), fun q hq => O.new q (p.mem_iff.mpr hq), (List.Perm.cons _ (p.map _)).nodup_iff.mp O.nodup⟩
theorem Own.eqH {h₀ h h' : Heap} {L : Addr} {m : Str → Option Value} {cs : List (Addr × (Obj → Prop))} (O : Own h₀ h L m cs) (e : h' = h) : Own h₀ h' L m cs := e ▸ O
section
variable {w : World} {A : Around} {E : Value → Shared → Prop} {s : Shared} {env : Env} {mg mb m : Str → Option Value} {h₀ : Heap} {cs : List (Addr × (Obj → Prop))} {L : Addr}
/-- for x in range(e), with a state -/
theorem forRangeZ1 {Z : Type} {x : Str} {px rp cp pos : Pos} {eb : Expr} {body : List Stmt} {Q : Flow → Shared → Prop} (n : Nat) (C : Nat → Z → List (Addr × (Obj → Prop))) (J : Nat → Z → (Str → Option Value) → Prop) (z₀ : Z)
    (G : Gl mg mb s.heap) (hh : A.handled = none)
    (he : wpAny (model PG w) A (eval eb env) (fun vb s₁ => ∃ tb m, vb = .int n tb ∧ Sm s s₁ ∧ Own h₀ s₁.heap env.locals m (C 0 z₀) ∧ J 0 z₀ m) E s)
    (turn : ∀ E' (it : Addr) (i : Nat) z t m₁ s₂ P, i < n → Sm s s₂ → J i z m₁ → Own h₀ s₂.heap env.locals (upd m₁ x (.int i t)) ((it, P) :: C i z) →
        wpAny (model PG w) A (execs body env) (fun f s₃ => GoesZ s₂ s₃ h₀ env.locals (J (i + 1)) (fun z => (it, P) :: C (i + 1) z) f) E' s₂)
    (done : ∀ m₁ z s₂, Sm s s₂ → J n z m₁ → Own h₀ s₂.heap env.locals m₁ (C n z) → Q .next s₂) (hn : n < 2 ^ 60)
    (hk : env.scope.kind = .function := by rfl) (hl : env.kindOf "range" = some .globalImplicit := by rfl) (hg : env.globals = mainGlobals := by rfl) (hb : env.builtins = builtinsNs := by rfl)
    (hx : env.kindOf x = some .local := by rfl)
    (hs : ∀ x, foldedSetIterable (.Call (.Name "range" rp) [eb] [] cp) env x = pure x := by intro _; rfl)
    (hst : starEach [eb] env = [(false, eval eb env)] := by rfl) :
    wpAny (model PG w) A (exec (.For (.Name x px) (.Call (.Name "range" rp) [eb] [] cp) body [] pos) env) Q E s := by
  refine wpAny_For (wpAny_Call_NameR (eBuilt (v := .type "range") G (by decide +kernel) (by decide +kernel) ?_ (by decide) hk hl hg hb)) hs
  refine PyProof.Rows.callWith_type1 (args_cons (wpAny_mono he (fun vb s₁ h₁ => ?_) fun _ _ e => e) hst) hst
  obtain ⟨tb, m, rfl, S₁, O, hJ⟩ := h₁
  refine args_nil ?_
  refine call_range_1 ?_
  have O₁ := O.junk { cls := .type "range", data := .fields #[.int 0 s₁.toks, .int n tb, .int 1 (s₁.toks + 1)] }
  refine wpAny_pyIter_range (IsRange.new ..) (small_one (by omega) (by omega) (by omega) (by omega)) ?_
  have hz : Builtin.Range.rangeSize 0 (n : Int) 1 = (n : Int) := by rw [rangeSize_one]; split <;> omega
  rw [hz]
  have O₂ := O₁.push { cls := .type "range_iterator", data := .fields #[rawInt 0, rawInt n, rawInt 1] } (P := fun o => o = { cls := .type "range_iterator", data := .fields #[rawInt (0 + (0 : Nat)), rawInt ((n : Int) - (0 : Nat)), rawInt 1] }) (by simp)
  refine forLoopZ (ItR.range hh _ 0 n) C J z₀ O₂ hJ (fun _ _ _ _ _ _ => trivial) (fun E' i z t m₁ s₂ P hi S hJ O => ?_) (fun m₁ z s₂ S hJ O => done m₁ z s₂ (S₁.trans (Sm.trans ⟨rfl, rfl, rfl⟩ S)) hJ O) (by intro _; rfl) hx (by rw [hk]; rfl)
  exact turn E' _ i z t m₁ s₂ P hi (S₁.trans (Sm.trans ⟨rfl, rfl, rfl⟩ S)) hJ (by simpa using O)

/-- f(e) for a global def with its values -/
theorem sLocal {x : Str} {v : Value} {Q : Unit → Shared → Prop} (O : Own h₀ s.heap env.locals m cs) (h : ∀ s₂, Sm s s₂ → Own h₀ s₂.heap env.locals (upd m x v) cs → Q () s₂)
    (hl : env.kindOf x = some .local := by rfl) (hk : env.scope.kind = .function := by rfl) : wpAny M A (storeName env x v) Q E s :=
  wpAny_storeName_local hl O.ns (fun h' hn hs' => h _ ⟨rfl, rfl, rfl⟩ (O.store hn hs')) (by rw [hk]; rfl)
end
end Mine
namespace Mine
/-- the two letters of a kind -/
def kindOf2 (p q : Int) (j : Nat) : List Int := [[p, q].getD (j / 2) 0, [p, q].getD (j % 2) 0]
def bitsOf (a b : Int) : List Int := List.replicate a.toNat 0 ++ List.replicate b.toNat 1
def upper (p q : Int) (j : Nat) : List Int :=
  ((List.range ((([p, q].getD (j % 4 / 2) 0).toNat + ([p, q].getD (j % 4 % 2) 0).toNat) / 2)).map fun i : Nat => 2 * (i : Int)).map fun x =>
    ((256 + (j / 4 : Nat) * 4 - 4 : Int) + 2 * (bitsOf ([p, q].getD (j % 4 / 2) 0) ([p, q].getD (j % 4 % 2) 0)).getD x.toNat 0) + (bitsOf ([p, q].getD (j % 4 / 2) 0) ([p, q].getD (j % 4 % 2) 0)).getD (x + 1).toNat 0
def ruleAt (p q : Int) (j : Nat) : List Int := if j < 4 then kindOf2 p q j else upper p q j
def dictAt (as : Nat → Addr) (k : Nat) : Int → Option Value := fun x => if 256 ≤ x ∧ x < 256 + k then some (.ref (as (x - 256).toNat)) else none
def ruleObjs (p q : Int) (as : Nat → Addr) : Nat → List (Addr × (Obj → Prop))
  | 0 => []
  | k + 1 => (as k, iInts (ruleAt p q k)) :: ruleObjs p q as k
theorem ruleObjs_get (p q : Int) (as : Nat → Addr) : ∀ k j, j < k → (as j, iInts (ruleAt p q j)) ∈ ruleObjs p q as k
  | k + 1, j, h => by
    by_cases e : j = k
    · subst e; exact .head _
    · exact .tail _ (ruleObjs_get p q as k j (by omega))
theorem ruleObjs_congr (p q : Int) {as bs : Nat → Addr} : ∀ k, (∀ j, j < k → as j = bs j) → ruleObjs p q as k = ruleObjs p q bs k
  | 0, _ => rfl
  | k + 1, h => by unfold ruleObjs; rw [h k (Nat.lt_succ_self k), ruleObjs_congr p q k fun j hj => h j (by omega)]
theorem dictAt_succ (as : Nat → Addr) (k : Nat) (r : Addr) : (fun x : Int => if x = 256 + k then some (Value.ref r) else dictAt as k x) = dictAt (fun j => if j = k then r else as j) (k + 1) := by
  funext x
  unfold dictAt
  by_cases e : x = 256 + k
  · subst e
    rw [if_pos rfl, if_pos (by omega)]
    dsimp only
    rw [if_pos (by omega)]
  · rw [if_neg e]
    by_cases h : 256 ≤ x ∧ x < 256 + k
    · rw [if_pos h, if_pos (by omega)]
      dsimp only
      rw [if_neg (by omega)]
    · rw [if_neg h, if_neg (by omega)]
/-- the rules, as a dict of lists -/
def HasRules (h : Heap) (rd : Addr) (p q : Int) : Prop := ∃ as : Nat → Addr, Has h rd (iMap (dictAt as 12) 12) ∧ ∀ j, j < 12 → Has h (as j) (iInts (ruleAt p q j))
theorem HasRules.keeps {h h' : Heap} {rd p q} (x : HasRules h rd p q) (k : Keeps h h') : HasRules h' rd p q := let ⟨as, a, b⟩ := x; ⟨as, a.keeps k, fun j hj => (b j hj).keeps k⟩

/-- new objects, known -/
structure Fresh (h h' : Heap) (N : List (Addr × (Obj → Prop))) : Prop where
  at_ : ∀ p ∈ N, Has h' p.1 p.2
  new : ∀ p ∈ N, h.get? p.1 = none
  nodup : (N.map (·.1)).Nodup
theorem Own.addAll {h₀ h h' : Heap} {L : Addr} {m : Str → Option Value} {cs N : List (Addr × (Obj → Prop))} (O : Own h₀ h L m cs) (k : Keeps h h') (F : Fresh h h' N) : Own h₀ h' L m (N ++ cs) := by
  obtain ⟨oL, es, ep, eL, r⟩ := id O.ns
  refine ⟨O.ns.keeps k, O.keep.trans k, O.newL, ?_, ?_, ?_⟩
  · intro p hp
    rcases List.mem_append.mp hp with hp | hp
    · exact F.at_ p hp
    · exact (O.at_ p hp).keeps k
  · intro p hp
    rcases List.mem_append.mp hp with hp | hp
    · cases q : h₀.get? p.1 with
      | none => rfl
      | some o => have := F.new p hp; rw [O.keep _ _ q] at this; cases this
    · exact O.new p hp
  · have nd := List.nodup_cons.mp O.nodup
    rw [List.map_append, List.nodup_cons, List.nodup_append]
    refine ⟨fun hm => ?_, F.nodup, nd.2, fun a ha b hb e => ?_⟩
    · rcases List.mem_append.mp hm with hm | hm
      · obtain ⟨p, hp, q⟩ := List.mem_map.mp hm
        have := F.new p hp
        rw [show p.1 = L from q, eL] at this; cases this
      · exact nd.1 hm
    · subst e
      obtain ⟨p, hp, q⟩ := List.mem_map.mp ha
      obtain ⟨p', hp', q'⟩ := List.mem_map.mp hb
      obtain ⟨o, e, _⟩ := O.at_ p' hp'
      have := F.new p hp
      rw [show p.1 = a from q, ← show p'.1 = a from q', e] at this; cases this

variable {w : World} {A : Around} {E : Value → Shared → Prop} {s : Shared} {mg mb : Str → Option Value}
set_option pp.maxSteps 600
set_option pp.deepTerms.threshold 6

theorem replicate_one (k : Nat) (x : Int) : (List.replicate k [x]).flatten = List.replicate k x := by
  induction k with
  | zero => rfl
  | succ k ih => rw [List.replicate_succ, List.replicate_succ, List.flatten_cons, ih]; rfl

set_option maxHeartbeats 4000000 in
theorem rules_spec {tp : Addr} {p q : Int} {Q : Value → Shared → Prop} (G : Gl mg mb s.heap) (fit : Fit A 1) (htp : Has s.heap tp (iTupI [p, q])) (hp : 0 ≤ p ∧ p ≤ 8) (hq : 0 ≤ q ∧ q ≤ 8) (hpq : (p + q) % 2 = 0)
   (hQ : ∀ r as s', Sm s s' → Keeps s.heap s'.heap → Fresh s.heap s'.heap ((r, iMap (dictAt as 12) 12) :: ruleObjs p q as 12) → Q (.ref r) s') :
   wpAny (model PG w) A (call (.ref 110) [.ref tp]) Q E s := by
  refine callDefC (n := 0) (binds := [("pair", .ref tp)]) ["lower", "bits"] G.f21 G.lim fit (fun _ _ => rfl) (by intro x hx; rw [List.mem_singleton.mp hx]; exact .inl rfl) (fun _ => rfl) fun s₁ S₁ O₁ fit₁ => ?_
  replace O₁ : Own s.heap s₁.heap s.heap.objs.size (fun y => if y = "pair" then some (.ref tp) else none) [(s.heap.objs.size + 2, iCell none), (s.heap.objs.size + 1, iCell none)] := O₁
  have h2 : ∀ {s' : Shared}, Keeps s.heap s'.heap → Has s'.heap tp (iTupI [p, q]) := fun k => htp.keeps k
  have pqn : ∀ j : Nat, 0 ≤ [p, q].getD j 0 ∧ [p, q].getD j 0 ≤ 8 := by
    intro j
    rcases j with _ | _ | j
    · exact hp
    · exact hq
    · exact ⟨by simp, by simp⟩
  -- rules = {}
  refine wpAny_execs_cons (sName (newMap O₁ fun rd s₂ S₂ O₂ => ⟨_, _, _, O₂, fun s₃ S₃ O₃ => ?_⟩))
  -- for kind in range(4)
  refine wpAny_execs_cons (forRangeZ1 (Z := Nat → Addr) 4 (fun k as => (rd, iMap (dictAt as k) k) :: (s.heap.objs.size + 2, iCell none) :: (s.heap.objs.size + 1, iCell none) :: ruleObjs p q as k)
    (fun _ _ m => m "pair" = some (.ref tp) ∧ m "rules" = some (.ref rd)) (fun _ => 0) (h₀ := s.heap) (G.keeps O₃.keep) fit₁.handled ?_ ?_ ?_ (by decide))
  · have O₄ := O₃.turn (i := 0) (P' := iMap (dictAt (fun _ => 0) 0) 0) rfl (Heap.ExtBut.refl _ _) ((O₃.of (i := 0) rfl).imp fun o ho => by
      rw [show dictAt (fun _ => 0) 0 = fun _ => none from funext fun x => if_neg (by omega)]
      exact ho)
    exact wpAny_Constant_int ⟨_, _, rfl, ⟨rfl, rfl, rfl⟩, O₄, by rfl, by rfl⟩
  · intro E' it i as t m₁ s₅ P hi S₅ ⟨a1, a2⟩ O₅
    have b1 : upd m₁ "kind" (.int i t) "pair" = some (.ref tp) := (upd_ne (by decide)).trans a1
    have b2 : upd m₁ "kind" (.int i t) "rules" = some (.ref rd) := (upd_ne (by decide)).trans a2
    refine wpAny_execs_cons (wpAny_Assign_Subscript ?_)
    refine List_ (args_cons (Subscript_ (eLocal O₅ b1 (wpAny_BinOp (eLocal O₅ upd_same (wpAny_Constant_int (floordiv_int (by decide) ?_)))))))
    have e1 : Int.fdiv (i : Int) 2 = (i / 2 : Nat) := by rw [Int.fdiv_eq_ediv_of_nonneg _ (by decide)]; omega
    have e2 : Int.fmod (i : Int) 2 = (i % 2 : Nat) := by rw [Int.fmod_eq_emod_of_nonneg _ (by decide)]; omega
    refine subTup (h2 O₅.keep) (by rw [e1]; omega) (by rw [e1]; simp; omega) (by simp) fun t₁ => ?_
    refine args_cons (Subscript_ (eLocal O₅ b1 (wpAny_BinOp (eLocal O₅ upd_same (wpAny_Constant_int (PyProof.Rows.mod_int (by decide) ?_))))))
    refine subTup (h2 O₅.keep) (by rw [e2]; omega) (by rw [e2]; simp; omega) (by simp) fun t₂ => ?_
    refine args_nil (newListO O₅ (fun r s₆ S₆ O₆ => ?_) (Nat.le_of_ble_eq_true rfl))
    refine eLocal O₆ b2 (wpAny_BinOp (wpAny_Constant_int (eLocal O₆ upd_same (add_int ?_))))
    refine setMap (i := 2) O₆ rfl (by omega) fun s₇ S₇ O₇ => wpAny_execs_nil ⟨.inl rfl, Sm.trans ⟨rfl, rfl, rfl⟩ (S₆.trans (Sm.trans ⟨rfl, rfl, rfl⟩ S₇)), fun j => if j = i then r else as j, _, ⟨b1, b2⟩, ?_⟩
    have O₈ := O₇.turn (i := 0) (P' := iInts (ruleAt p q i)) rfl (Heap.ExtBut.refl _ _) ((O₇.of (i := 0) rfl).ints (by
      rw [show ruleAt p q i = kindOf2 p q i from if_pos hi]
      unfold kindOf2
      have g1 : [p, q].getD (i / 2) 0 = [p, q].getD (Int.fdiv (i : Int) 2).toNat 0 := by rw [e1, Int.toNat_natCast]
      have g2 : [p, q].getD (i % 2) 0 = [p, q].getD (Int.fmod (i : Int) 2).toNat 0 := by rw [e2, Int.toNat_natCast]
      rw [g1, g2]
      exact .cons _ t₁ (.cons _ t₂ .nil)))
    rw [dictAt_succ] at O₈
    refine O₈.permute ?_
    have e3 : ruleObjs p q as i = ruleObjs p q (fun j => if j = i then r else as j) i := ruleObjs_congr p q i fun j hj => (if_neg (by omega)).symm
    have e4 : ruleObjs p q (fun j => if j = i then r else as j) (i + 1) = (r, iInts (ruleAt p q i)) :: ruleObjs p q as i := by
      rw [e3]; show ((if i = i then r else as i), _) :: _ = _; rw [if_pos rfl]
    show List.Perm _ ((it, P) :: (rd, iMap (dictAt (fun j => if j = i then r else as j) (i + 1)) (i + 1)) :: (s.heap.objs.size + 2, iCell none) :: (s.heap.objs.size + 1, iCell none) :: ruleObjs p q (fun j => if j = i then r else as j) (i + 1))
    rw [e4]
    exact (List.perm_middle (l₁ := [(it, P), (rd, iMap (dictAt (fun j => if j = i then r else as j) (i + 1)) (i + 1)), (s.heap.objs.size + 2, iCell none), (s.heap.objs.size + 1, iCell none)])).symm
  intro m₁ as s₅ S₅ ⟨a1, a2⟩ O₅
  replace O₅ := (O₅.weak (i := 1) (P' := iAnyCell) rfl (fun o h => ⟨_, h⟩)).weak (i := 2) (P' := iAnyCell) rfl (fun o h => ⟨_, h⟩)
  -- for symbol in range(260, 268)
  refine wpAny_execs_cons (forRangeZ (Z := Nat → Addr) 260 8 (fun k as => (rd, iMap (dictAt as (4 + k)) (4 + k)) :: (s.heap.objs.size + 2, iAnyCell) :: (s.heap.objs.size + 1, iAnyCell) :: ruleObjs p q as (4 + k))
    (fun _ _ m => m "pair" = some (.ref tp) ∧ m "rules" = some (.ref rd)) as (h₀ := s.heap) (G.keeps O₅.keep) fit₁.handled ?_ ?_ ?_ (by decide) (by decide) (by decide))
  · exact wpAny_Constant_int (wpAny_Constant_int ⟨_, _, _, rfl, rfl, ⟨rfl, rfl, rfl⟩, O₅, a1, a2⟩)
  · clear O₅ a1 a2 as
    intro E' it i as t m₁ s₆ P hi S₆ ⟨a1, a2⟩ O₆
    have b1 : upd m₁ "symbol" (.int (260 + i) t) "pair" = some (.ref tp) := (upd_ne (by decide)).trans a1
    have b2 : upd m₁ "symbol" (.int (260 + i) t) "rules" = some (.ref rd) := (upd_ne (by decide)).trans a2
    have e1 : Int.fmod (260 + (i : Int)) 4 = ((4 + i) % 4 : Nat) := by rw [Int.fmod_eq_emod_of_nonneg _ (by decide)]; omega
    have e2 : Int.fdiv (260 + (i : Int)) 4 * 4 - 4 = 256 + ((4 + i) / 4 : Nat) * 4 - 4 := by rw [Int.fdiv_eq_ediv_of_nonneg _ (by decide)]; omega
    have hlt : (4 + i) % 4 < 4 := Nat.mod_lt _ (by decide)
    -- first, second = rules[..]
    refine wpAny_execs_cons (Assign_Tuple (Subscript_ (eLocal O₆ b2 (wpAny_BinOp (wpAny_Constant_int (wpAny_BinOp (eLocal O₆ upd_same (wpAny_Constant_int (PyProof.Rows.mod_int (by decide) (add_int ?_))))))))))
    refine subMap (O₆.of (i := 1) rfl) (v := .ref (as ((4 + i) % 4))) ?_ fun s₇ S₇ H₇ => ?_
    · rw [e1]
      unfold dictAt
      rw [if_pos (by omega)]
      rw [show (256 + (((4 + i) % 4 : Nat) : Int) - 256).toNat = (4 + i) % 4 by omega]
    have O₇ := O₆.eqH H₇
    have hl := O₇.at_ _ (.tail _ (.tail _ (.tail _ (.tail _ (ruleObjs_get p q as (4 + i) ((4 + i) % 4) (by omega))))))
    rw [show ruleAt p q ((4 + i) % 4) = kindOf2 p q ((4 + i) % 4) from if_pos hlt] at hl
    unfold kindOf2 at hl
    have hF := pqn ((4 + i) % 4 / 2)
    have hS := pqn ((4 + i) % 4 % 2)
    have hpar : ([p, q].getD ((4 + i) % 4 / 2) 0 + [p, q].getD ((4 + i) % 4 % 2) 0) % 2 = 0 := by
      have : ∀ a b : Nat, a < 2 → b < 2 → ([p, q].getD a 0 + [p, q].getD b 0) % 2 = 0 := by
        intro a b ha hb
        rcases a with _ | _ | a
        · rcases b with _ | _ | b
          · show (p + p) % 2 = 0; omega
          · exact hpq
          · omega
        · rcases b with _ | _ | b
          · show (q + p) % 2 = 0; omega
          · show (q + q) % 2 = 0; omega
          · omega
        · omega
      exact this _ _ (by omega) (by omega)
    generalize hFe : [p, q].getD ((4 + i) % 4 / 2) 0 = F at *
    generalize hSe : [p, q].getD ((4 + i) % 4 % 2) 0 = S at *
    refine unpackPair fit₁.handled O₇ hl fun t₁ t₂ s₈ S₈ O₈ => ?_
    refine assignInOrder_cons (assign_Name (sLocal O₈ fun s₉ S₉ O₉ => ?_))
    refine assignInOrder_cons (assign_Name (sLocal O₉ fun s₁₀ S₁₀ O₁₀ => assignInOrder_nil ?_))
    have c1 : upd (upd (upd m₁ "symbol" (.int (260 + i) t)) "first" (.int F t₁)) "second" (.int S t₂) "first" = some (.int F t₁) := (upd_ne (by decide)).trans upd_same
    have c2 : upd (upd (upd m₁ "symbol" (.int (260 + i) t)) "first" (.int F t₁)) "second" (.int S t₂) "second" = some (.int S t₂) := upd_same
    have c3 : upd (upd (upd m₁ "symbol" (.int (260 + i) t)) "first" (.int F t₁)) "second" (.int S t₂) "symbol" = some (.int (260 + i) t) := (upd_ne (by decide)).trans ((upd_ne (by decide)).trans upd_same)
    have c4 : upd (upd (upd m₁ "symbol" (.int (260 + i) t)) "first" (.int F t₁)) "second" (.int S t₂) "rules" = some (.ref rd) := (upd_ne (by decide)).trans ((upd_ne (by decide)).trans b2)
    have c5 : upd (upd (upd m₁ "symbol" (.int (260 + i) t)) "first" (.int F t₁)) "second" (.int S t₂) "pair" = some (.ref tp) := (upd_ne (by decide)).trans ((upd_ne (by decide)).trans b1)
    generalize upd (upd (upd m₁ "symbol" (.int (260 + i) t)) "first" (.int F t₁)) "second" (.int S t₂) = m₂ at *
    -- bits = [0] * first + [1] * second
    refine wpAny_execs_cons (sCell (c := s.heap.objs.size + 1) (wpAny_BinOp (wpAny_BinOp (List_ (args_cons (wpAny_Constant_int (args_nil (newListO O₁₀ (fun r₁ s₁₁ S₁₁ O₁₁ => eLocal O₁₁ c1 ?_) (Nat.le_of_ble_eq_true rfl))))))))  (by rfl))
    refine mulInts O₁₁ ((O₁₁.of (i := 0) rfl).ints (.cons _ _ .nil)) (by simp) (by omega) (by omega) (by rw [List.length_singleton]; omega) fun r₂ s₁₂ S₁₂ O₁₂ => ?_
    refine wpAny_BinOp (List_ (args_cons (wpAny_Constant_int (args_nil (newListO O₁₂ (fun r₃ s₁₃ S₁₃ O₁₃ => eLocal O₁₃ c2 ?_) (Nat.le_of_ble_eq_true rfl))))))
    refine mulInts O₁₃ ((O₁₃.of (i := 0) rfl).ints (.cons _ _ .nil)) (by simp) (by omega) (by omega) (by rw [List.length_singleton]; omega) fun r₄ s₁₄ S₁₄ O₁₄ => ?_
    have hB : (List.replicate F.toNat [(0 : Int)]).flatten ++ (List.replicate S.toNat [(1 : Int)]).flatten = bitsOf F S := by rw [replicate_one, replicate_one]; rfl
    have hBl : (bitsOf F S).length = F.toNat + S.toNat := by simp [bitsOf]
    refine addInts O₁₄ (O₁₄.of (i := 2) rfl) (O₁₄.of (i := 0) rfl) (by rw [replicate_one, replicate_one, List.length_replicate, List.length_replicate]; omega) fun rb s₁₅ S₁₅ O₁₅ => ?_
    rw [hB] at O₁₅
    replace O₁₅ := O₁₅.sub (.cons_cons _ (.cons _ (.cons _ (.cons _ (.cons _ (List.Sublist.refl _))))))
    refine ⟨_, _, _, 4, iAnyCell, O₁₅, rfl, fun _ h => h, fun s₁₆ S₁₆ O₁₆ => ?_⟩
    -- lower = symbol // 4 * 4 - 4
    refine wpAny_execs_cons (sCell (c := s.heap.objs.size + 2) (wpAny_BinOp (wpAny_BinOp (wpAny_BinOp (eLocal O₁₆ c3 (wpAny_Constant_int (floordiv_int (by decide) (wpAny_Constant_int (mul_int (wpAny_Constant_int (sub_int ?_)))))))))) (by rfl))
    refine ⟨_, _, _, 3, iAnyCell, O₁₆, rfl, fun _ h => h, fun s₁₇ S₁₇ O₁₇ => ?_⟩
    rw [e2] at O₁₇
    -- rules[symbol] = [.. for k in range(0, len(bits), 2)]
    have hB' : Has s₁₇.heap rb (iInts (bitsOf F S)) := O₁₇.of (i := 0) rfl
    refine wpAny_execs_cons (wpAny_Assign_Subscript (compO (f := fun x => ((256 + ((4 + i) / 4 : Nat) * 4 - 4 : Int) + 2 * (bitsOf F S).getD x.toNat 0) + (bitsOf F S).getD (x + 1).toNat 0) fit₁.handled ?_
      (cl := [("lower", s.heap.objs.size + 2), ("bits", s.heap.objs.size + 1)]) (by rfl)))
    refine wpAny_Call_NameR (eBuilt (v := .type "range") (G.keeps O₁₇.keep) (by decide +kernel) (by decide +kernel) ?_ (by decide))
    refine PyProof.Rows.callWith_type1 (args_cons (wpAny_Constant_int (args_cons (Call_ (eBuilt (v := .builtin "len") (G.keeps O₁₇.keep) (by decide +kernel) (by decide +kernel) ?_)))))
    refine PyProof.Rows.callWith_builtin1 (args_cons (eCell (i := 4) (c := s.heap.objs.size + 1) (v := .ref rb) O₁₇ rfl (by rfl) (args_nil ?_)))
    refine lenO hB' (by omega) fun t₃ s₁₈ S₁₈ H₁₈ => ?_
    refine args_cons (wpAny_Constant_int (args_nil ?_))
    refine itRange3 (n := (F.toNat + S.toNat) / 2) (by omega) (by omega) fun v s₁₉ S₁₉ K₁₉ hit => ?_
    have O₁₉ := (O₁₇.eqH H₁₈).keeps K₁₉
    refine ⟨_, Sm.trans ⟨rfl, rfl, rfl⟩ (S₁₈.trans (Sm.trans ⟨rfl, rfl, rfl⟩ S₁₉)), fun b o e => K₁₉ b o (H₁₈ ▸ e), hit, by simp; omega, ?_, ?_⟩
    · intro C x t₄ s₂₀ m₃ E'' hx hC hn hm K
      obtain ⟨j, hj, rfl⟩ := List.mem_map.mp hx
      have hj := List.mem_range.mp hj
      obtain ⟨u, g1⟩ : ∃ u, Has s₂₀.heap (s.heap.objs.size + 2) (iCell (some (.int (256 + ((4 + i) / 4 : Nat) * 4 - 4) u))) := ⟨_, (O₁₉.of (i := 3) rfl).keeps K⟩
      have g2 : Has s₂₀.heap (s.heap.objs.size + 1) (iCell (some (.ref rb))) := (O₁₉.of (i := 4) rfl).keeps K
      have g3 : Has s₂₀.heap rb (iInts (bitsOf F S)) := (O₁₉.of (i := 0) rfl).keeps K
      refine wpAny_BinOp (wpAny_BinOp (eCellH g1 (by rfl) (wpAny_BinOp (wpAny_Constant_int (Subscript_ (eCellH g2 (by rfl) (eLocalN hn hm ?_)))))))
      refine subInt g3 (by omega) (by omega) (by omega) fun t₅ => mul_int (add_int ?_) ?_
      · refine Subscript_ (eCellH g2 (by rfl) (wpAny_BinOp (eLocalN hn hm (wpAny_Constant_int (add_int ?_)))))
        refine subInt g3 (by omega) (by omega) (by omega) fun t₆ => add_int ?_
        exact ⟨⟨_, rfl⟩, ⟨rfl, rfl, rfl⟩, fun _ _ e => e⟩
      · exact IntMulOk.of_left (by decide +kernel)
    · intro D s₂₁ S₂₁ K₂₁ hD hX
      have O₂₁ := O₁₇.add K₂₁ hD hX
      refine eLocal O₂₁ c4 (eLocal O₂₁ c3 ?_)
      refine setMap (i := 3) O₂₁ rfl (by omega) fun s₂₂ S₂₂ O₂₂ => wpAny_execs_nil ⟨.inl rfl, ?_, fun j => if j = 4 + i then D else as j, _, ⟨c5, c4⟩, ?_⟩
      · exact Sm.trans (Sm.trans ⟨rfl, rfl, rfl⟩ S₇) (S₈.trans (S₉.trans (S₁₀.trans (Sm.trans (Sm.trans ⟨rfl, rfl, rfl⟩ S₁₁) (S₁₂.trans (Sm.trans (Sm.trans ⟨rfl, rfl, rfl⟩ S₁₃) (S₁₄.trans (S₁₅.trans (S₁₆.trans (Sm.trans (Sm.trans ⟨rfl, rfl, rfl⟩ S₁₇) (S₂₁.trans S₂₂)))))))))))
      · have hd : (fun x : Int => if x = 260 + (i : Int) then some (Value.ref D) else dictAt as (4 + i) x) = dictAt (fun j => if j = 4 + i then D else as j) (4 + i + 1) := by
          rw [← dictAt_succ]
          have : (260 + (i : Int)) = 256 + ((4 + i : Nat) : Int) := by omega
          rw [this]
        have hu : (((List.range ((F.toNat + S.toNat) / 2)).map fun i : Nat => 2 * (i : Int)).map fun x => ((256 + ((4 + i) / 4 : Nat) * 4 - 4 : Int) + 2 * (bitsOf F S).getD x.toNat 0) + (bitsOf F S).getD (x + 1).toNat 0) = ruleAt p q (4 + i) := by
          rw [show ruleAt p q (4 + i) = upper p q (4 + i) from if_neg (by omega)]
          unfold upper
          rw [hFe, hSe]
        have e3 : ruleObjs p q as (4 + i) = ruleObjs p q (fun j => if j = 4 + i then D else as j) (4 + i) := ruleObjs_congr p q (4 + i) fun j hj => (if_neg (by omega)).symm
        have e4 : ruleObjs p q (fun j => if j = 4 + i then D else as j) (4 + (i + 1)) = (D, iInts (ruleAt p q (4 + i))) :: ruleObjs p q as (4 + i) := by
          rw [e3]; show ((if 4 + i = 4 + i then D else as (4 + i)), iInts (ruleAt p q (4 + i))) :: ruleObjs p q (fun j => if j = 4 + i then D else as j) (4 + i) = _; rw [if_pos rfl]
        rw [hd, hu] at O₂₂
        replace O₂₂ := ((O₂₂.sub (.cons_cons _ (.cons _ (List.Sublist.refl _)))).weak (i := 3) (P' := iAnyCell) rfl (fun o h => ⟨_, h⟩)).weak (i := 4) (P' := iAnyCell) rfl (fun o h => ⟨_, h⟩)
        refine O₂₂.permute ?_
        show List.Perm _ ((it, P) :: (rd, iMap (dictAt (fun j => if j = 4 + i then D else as j) (4 + i + 1)) (4 + i + 1)) :: (s.heap.objs.size + 2, iAnyCell) :: (s.heap.objs.size + 1, iAnyCell) :: ruleObjs p q (fun j => if j = 4 + i then D else as j) (4 + (i + 1)))
        rw [e4]
        exact (List.perm_middle (l₁ := [(it, P), (rd, iMap (dictAt (fun j => if j = 4 + i then D else as j) (4 + i + 1)) (4 + i + 1)), (s.heap.objs.size + 2, iAnyCell), (s.heap.objs.size + 1, iAnyCell)])).symm
  · intro m₁ as s₆ S₆ ⟨a1, a2⟩ O₆
    refine wpAny_execs_cons (wpAny_Return_some (eLocal O₆ a2 ?_))
    have O₇ : Own s.heap s₆.heap s.heap.objs.size m₁ ((rd, iMap (dictAt as 12) 12) :: ruleObjs p q as 12) := O₆.sub (.cons_cons _ (.cons _ (.cons _ (List.Sublist.refl _))))
    exact hQ rd as s₆ (S₁.trans (S₂.trans (S₃.trans (S₅.trans S₆)))) O₇.keep ⟨O₇.at_, O₇.new, (List.nodup_cons.mp O₇.nodup).2⟩
end Mine
namespace Mine
section
variable {w : World} {A : Around} {E : Value → Shared → Prop} {s : Shared} {env : Env} {mg mb m : Str → Option Value} {h₀ : Heap} {cs : List (Addr × (Obj → Prop))} {L : Addr}
theorem eSliceRev {value st : Expr} {p pos : Pos} {Q : Value → Shared → Prop}
    (h : wpAny (model PG w) A (eval value env) (fun o s₁ => wpAny (model PG w) A (eval st env) (fun vk s₃ =>
      ∃ l ns h₀ L m cs t, o = .ref l ∧ vk = .int (-1) t ∧ Has s₃.heap l (iInts ns) ∧ ns.length ≤ 2 ^ 24 ∧ Own h₀ s₃.heap L m cs ∧
        ∀ r s', Sm s₃ s' → Own h₀ s'.heap L m ((r, iInts ns.reverse) :: cs) → Q (.ref r) s') E s₁) E s) :
    wpAny (model PG w) A (eval (.Subscript value (.Slice none none (some st) p) pos) env) Q E s := by
  refine Subscript_ (wpAny_mono h (fun o s₁ h₁ => ?_) fun _ _ e => e)
  refine wpAny_Slice (wpAny_evalPart_none (wpAny_evalPart_none (wpAny_mono h₁ (fun vk s₃ h₃ => ?_) fun _ _ e => e)))
  obtain ⟨l, ns, h₀, L, m, cs, t, rfl, rfl, X, hz, O, hq⟩ := h₃
  obtain ⟨vs, hv, X⟩ := X.vals
  have hl := X.isList.push (o := { cls := .type "slice", data := .fields #[.none, .none, .int (-1) t] })
  refine tail_any (Heap.IsList.typeIs (s := { s₃ with heap := s₃.heap.push { cls := .type "slice", data := .fields #[.none, .none, .int (-1) t] } }) hl) list_getitem_lookup
    (wpAny_getItem_list_slice hl (Heap.IsSliceOf.new ..) .none .none (.int _ _) (by decide) (hq _ _ ⟨rfl, rfl, rfl⟩ ?_) (by rw [List.size_toArray, hv.length, sizeLine_eq]; omega)) (ops := [.ref l, .ref s₃.heap.objs.size]) (by with_unfolding_all rfl)
  exact (O.junk { cls := .type "slice", data := .fields #[.none, .none, .int (-1) t] }).push { cls := .type "list", data := .seq (slicePick vs.toArray none none (some (-1))) } (P := iInts ns.reverse) (ofA (by rw [krv_pick]; simpa using ints_rev hv))

theorem isEof_spec {x : Int} {t : Tok} {Q : Value → Shared → Prop} (G : Gl mg mb s.heap) (fit : Fit A 1)
    (hQ : ∀ s', Sm s s' → Keeps s.heap s'.heap → Q (.bool (x == 0)) s') : wpAny (model PG w) A (call (.ref 84) [.int x t]) Q E s := by
  refine callDef (n := 0) (binds := [("x", .int x t)]) G.f16 G.lim fit (fun _ _ => rfl) (by rfl) fun s₁ S₁ O₁ fit₁ => ?_
  have G₁ := G.keeps O₁.keep
  obtain ⟨u, hu⟩ := G.nm.endMarker
  refine wpAny_execs_cons (wpAny_Return_some (wpAny_Compare1 (eLocal O₁ (v := .int x t) (by rfl) (eGlob G₁ hu (eq_int ?_)))))
  exact hQ _ (S₁.trans ⟨rfl, rfl, rfl⟩) O₁.keep
theorem isNonterminal_spec {x : Int} {t : Tok} {Q : Value → Shared → Prop} (G : Gl mg mb s.heap) (fit : Fit A 1)
    (hQ : ∀ s', Sm s s' → Keeps s.heap s'.heap → Q (.bool (decide (x ≥ 256))) s') : wpAny (model PG w) A (call (.ref 77) [.int x t]) Q E s := by
  refine callDef (n := 0) (binds := [("x", .int x t)]) G.f15 G.lim fit (fun _ _ => rfl) (by rfl) fun s₁ S₁ O₁ fit₁ => ?_
  have G₁ := G.keeps O₁.keep
  obtain ⟨u, hu⟩ := G.nm.ntOffset
  refine wpAny_execs_cons (wpAny_Return_some (wpAny_Compare1 (eLocal O₁ (v := .int x t) (by rfl) (eGlob G₁ hu (ge_int ?_)))))
  exact hQ _ (S₁.trans ⟨rfl, rfl, rfl⟩) O₁.keep
theorem isTerminal_spec {x : Int} {t : Tok} {Q : Value → Shared → Prop} (G : Gl mg mb s.heap) (fit : Fit A 1)
    (hQ : ∀ s', Sm s s' → Keeps s.heap s'.heap → Q (.bool (decide (x < 256))) s') : wpAny (model PG w) A (call (.ref 70) [.int x t]) Q E s := by
  refine callDef (n := 0) (binds := [("x", .int x t)]) G.f14 G.lim fit (fun _ _ => rfl) (by rfl) fun s₁ S₁ O₁ fit₁ => ?_
  have G₁ := G.keeps O₁.keep
  obtain ⟨u, hu⟩ := G.nm.ntOffset
  refine wpAny_execs_cons (wpAny_Return_some (wpAny_Compare1 (eLocal O₁ (v := .int x t) (by rfl) (eGlob G₁ hu (lt_int ?_)))))
  exact hQ _ (S₁.trans ⟨rfl, rfl, rfl⟩) O₁.keep

/-- f(e) for a def of the globals -/
theorem eCall1 {x : Str} {px pos : Pos} {e : Expr} {f c : Addr} {d : DefRec} {Q : Value → Shared → Prop} (G : Gl mg mb s.heap) (hx : mg x = some (.ref f)) (hf : FnAt s.heap f c d)
    (h : wpAny (model PG w) A (eval e env) (fun v s₁ => Keeps s.heap s₁.heap ∧ wpAny (model PG w) A (call (.ref f) [v]) Q E s₁) E s)
    (hk : env.scope.kind = .function := by rfl) (hl : env.kindOf x = some .globalImplicit := by rfl) (hg : env.globals = mainGlobals := by rfl) (hd : (x == ("__debug__" : Str)) = false := by decide)
    (he : starEach [e] env = [(false, eval e env)] := by rfl) :
    wpAny (model PG w) A (eval (.Call (.Name x px) [e] [] pos) env) Q E s := by
  refine wpAny_Call_NameR (eGlob G hx ?_ hk hl hg hd)
  obtain ⟨o, pm, doc, ho, hdata, hcd⟩ := hf
  refine callWith_def hdata (args_cons (wpAny_mono h (fun v s₁ h₁ => args_nil ⟨h₁.1 _ _ ho, h₁.2⟩) fun _ _ e => e) he) he
theorem eCall2 {x : Str} {px pos : Pos} {e e' : Expr} {f c : Addr} {d : DefRec} {Q : Value → Shared → Prop} (G : Gl mg mb s.heap) (hx : mg x = some (.ref f)) (hf : FnAt s.heap f c d)
    (h : wpAny (model PG w) A (eval e env) (fun v s₁ => wpAny (model PG w) A (eval e' env) (fun v' s₂ => Keeps s.heap s₂.heap ∧ wpAny (model PG w) A (call (.ref f) [v, v']) Q E s₂) E s₁) E s)
    (hk : env.scope.kind = .function := by rfl) (hl : env.kindOf x = some .globalImplicit := by rfl) (hg : env.globals = mainGlobals := by rfl) (hd : (x == ("__debug__" : Str)) = false := by decide)
    (he : starEach [e, e'] env = (false, eval e env) :: starEach [e'] env := by rfl) (he' : starEach [e'] env = [(false, eval e' env)] := by rfl) :
    wpAny (model PG w) A (eval (.Call (.Name x px) [e, e'] [] pos) env) Q E s := by
  refine wpAny_Call_NameR (eGlob G hx ?_ hk hl hg hd)
  obtain ⟨o, pm, doc, ho, hdata, hcd⟩ := hf
  refine callWith_def hdata (args_cons (wpAny_mono h (fun v s₁ h₁ => args_cons (wpAny_mono h₁ (fun v' s₂ h₂ => args_nil ⟨h₂.1 _ _ ho, h₂.2⟩) fun _ _ e => e) he') fun _ _ e => e) he) he
end
end Mine
namespace Mine
/-- the level of a symbol: 0 a letter -/
def lev (x : Int) : Nat := if x < 256 then 0 else (x - 256).toNat / 4 + 1
def okSym (x : Int) : Prop := 1 ≤ x ∧ x < 268
/-- a symbol spelled -/
def sp (p q : Int) : Nat → Int → List Int
  | 0, x => [x]
  | n + 1, x => if x < 256 then [x] else (ruleAt p q (x - 256).toNat).flatMap (sp p q n)

theorem bitsOf_mem (a b : Int) (k : Nat) : (bitsOf a b).getD k 0 = 0 ∨ (bitsOf a b).getD k 0 = 1 := by
  rcases Nat.lt_or_ge k (bitsOf a b).length with h | h
  · have hm : (bitsOf a b).getD k 0 ∈ bitsOf a b := by simp [List.getD, h]
    have : ∀ x ∈ bitsOf a b, x = 0 ∨ x = 1 := by
      intro x hx
      rcases List.mem_append.mp hx with hx | hx
      · exact .inl (List.eq_of_mem_replicate hx)
      · exact .inr (List.eq_of_mem_replicate hx)
    exact this _ hm
  · left; simp [List.getD, List.getElem?_eq_none h]

theorem pq_mem {p q : Int} {b : Int} (hp : 1 ≤ p ∧ p ≤ b) (hq : 1 ≤ q ∧ q ≤ b) (k : Nat) (hk : k < 2) : 1 ≤ [p, q].getD k 0 ∧ [p, q].getD k 0 ≤ b := by
  rcases k with _ | _ | k
  · exact hp
  · exact hq
  · omega

theorem ruleAt_mem {p q : Int} (hp : 1 ≤ p ∧ p ≤ 8) (hq : 1 ≤ q ∧ q ≤ 8) {j : Nat} (hj : j < 12) : ∀ y ∈ ruleAt p q j, okSym y ∧ lev y = j / 4 := by
  intro y hy
  unfold ruleAt at hy
  split at hy
  · rename_i h
    have h0 : j / 4 = 0 := by omega
    have key : ∀ k, k < 2 → okSym ([p, q].getD k 0) ∧ lev ([p, q].getD k 0) = j / 4 := by
      intro k hk
      have := pq_mem hp hq k hk
      refine ⟨⟨this.1, by omega⟩, ?_⟩
      rw [h0]; unfold lev; rw [if_pos (by omega)]
    unfold kindOf2 at hy
    rcases List.mem_cons.mp hy with rfl | hy
    · exact key _ (by omega)
    · rw [List.mem_singleton.mp hy]; exact key _ (by omega)
  · rename_i h
    unfold upper at hy
    obtain ⟨x, _, rfl⟩ := List.mem_map.mp hy
    have b1 := bitsOf_mem ([p, q].getD (j % 4 / 2) 0) ([p, q].getD (j % 4 % 2) 0) x.toNat
    have b2 := bitsOf_mem ([p, q].getD (j % 4 / 2) 0) ([p, q].getD (j % 4 % 2) 0) (x + 1).toNat
    generalize (bitsOf ([p, q].getD (j % 4 / 2) 0) ([p, q].getD (j % 4 % 2) 0)).getD x.toNat 0 = u at *
    generalize (bitsOf ([p, q].getD (j % 4 / 2) 0) ([p, q].getD (j % 4 % 2) 0)).getD (x + 1).toNat 0 = v at *
    have hj' : j / 4 = 1 ∨ j / 4 = 2 := by omega
    unfold okSym lev
    rcases hj' with e | e <;> rw [e] <;> rcases b1 with rfl | rfl <;> rcases b2 with rfl | rfl <;> decide

theorem ruleAt_len {p q : Int} (hp : 1 ≤ p ∧ p ≤ 8) (hq : 1 ≤ q ∧ q ≤ 8) (j : Nat) : (ruleAt p q j).length ≤ 8 := by
  unfold ruleAt
  split
  · simp [kindOf2]
  · unfold upper
    have a := pq_mem hp hq (j % 4 / 2) (by omega)
    have b := pq_mem hp hq (j % 4 % 2) (by omega)
    simp only [List.length_map, List.length_range]
    omega

theorem flatMap_congr' {α β : Type} {f g : α → List β} : ∀ {l : List α}, (∀ x ∈ l, f x = g x) → l.flatMap f = l.flatMap g
  | [], _ => rfl
  | x :: l, h => by rw [List.flatMap_cons, List.flatMap_cons, h x (.head _), flatMap_congr' fun y hy => h y (.tail _ hy)]

theorem lev_sym {x : Int} (h : ¬ x < 256) : lev x = (x - 256).toNat / 4 + 1 := if_neg h

theorem sp_stable {p q : Int} (hp : 1 ≤ p ∧ p ≤ 8) (hq : 1 ≤ q ∧ q ≤ 8) : ∀ n x, okSym x → lev x ≤ n → sp p q (n + 1) x = sp p q n x
  | 0, x, hx, hl => by
    have : x < 256 := by
      unfold lev at hl; split at hl
      · assumption
      · omega
    show (if x < 256 then [x] else _) = [x]
    rw [if_pos this]
  | n + 1, x, hx, hl => by
    show (if x < 256 then [x] else _) = (if x < 256 then [x] else _)
    by_cases h : x < 256
    · rw [if_pos h, if_pos h]
    · rw [if_neg h, if_neg h]
      rw [lev_sym h] at hl
      refine flatMap_congr' fun y hy => ?_
      obtain ⟨hy1, hy2⟩ := ruleAt_mem hp hq (by have := hx.2; omega) y hy
      exact sp_stable hp hq n y hy1 (by omega)

theorem sp_step {p q : Int} (hp : 1 ≤ p ∧ p ≤ 8) (hq : 1 ≤ q ∧ q ≤ 8) {x : Int} (hx : okSym x) (h : ¬ x < 256) : sp p q 3 x = (ruleAt p q (x - 256).toNat).flatMap (sp p q 3) := by
  have hx2 := hx.2
  show (if x < 256 then [x] else _) = _
  rw [if_neg h]
  refine flatMap_congr' fun y hy => ?_
  obtain ⟨hy1, hy2⟩ := ruleAt_mem hp hq (by omega) y hy
  exact (sp_stable hp hq 2 y hy1 (by omega)).symm

def meas (l : List Int) : Nat := (l.map fun x => 9 ^ lev x).sum
theorem meas_cons (x : Int) (l : List Int) : meas (x :: l) = 9 ^ lev x + meas l := by simp [meas]
theorem meas_append (a b : List Int) : meas (a ++ b) = meas a + meas b := by simp [meas]
theorem meas_le {k : Nat} : ∀ (l : List Int), (∀ x ∈ l, lev x ≤ k) → meas l ≤ l.length * 9 ^ k
  | [], _ => by simp [meas]
  | x :: l, h => by
    rw [meas_cons, List.length_cons, Nat.succ_mul]
    have := meas_le l fun y hy => h y (.tail _ hy)
    have := Nat.pow_le_pow_right (show 0 < 9 by decide) (h x (.head _))
    omega
theorem len_le_meas : ∀ (l : List Int), l.length ≤ meas l
  | [] => Nat.le_refl _
  | x :: l => by
    rw [meas_cons, List.length_cons]
    have := len_le_meas l
    have := Nat.one_le_pow (lev x) 9 (by decide)
    omega
theorem meas_step {p q : Int} (hp : 1 ≤ p ∧ p ≤ 8) (hq : 1 ≤ q ∧ q ≤ 8) {x : Int} (hx : okSym x) (h : ¬ x < 256) : meas (ruleAt p q (x - 256).toNat) < 9 ^ lev x := by
  have hx2 := hx.2
  have h1 := meas_le (k := (x - 256).toNat / 4) (ruleAt p q (x - 256).toNat) fun y hy => Nat.le_of_eq (ruleAt_mem hp hq (by omega) y hy).2
  have h2 := ruleAt_len hp hq (x - 256).toNat
  have h3 := Nat.mul_le_mul_right (9 ^ ((x - 256).toNat / 4)) h2
  have h4 := Nat.one_le_pow ((x - 256).toNat / 4) 9 (by decide)
  rw [lev_sym h, Nat.pow_succ]
  omega

variable {w : World} {A : Around} {E : Value → Shared → Prop} {s : Shared} {mg mb : Str → Option Value}
set_option pp.maxSteps 600
set_option pp.deepTerms.threshold 6
set_option maxHeartbeats 4000000 in
theorem spelled_spec {l rd : Addr} {st : List Int} {p q : Int} {Q : Value → Shared → Prop} (G : Gl mg mb s.heap) (fit : Fit A 2) (hl : Has s.heap l (iInts st)) (hr : HasRules s.heap rd p q)
   (hp : 1 ≤ p ∧ p ≤ 8) (hq : 1 ≤ q ∧ q ≤ 8) (hst : ∀ x ∈ st, okSym x) (hlen : st.length ≤ 1000)
   (hQ : ∀ r s', Sm s s' → Keeps s.heap s'.heap → s.heap.get? r = none → Has s'.heap r (iInts (st.flatMap (sp p q 3))) → Q (.ref r) s') :
   wpAny (model PG w) A (call (.ref 117) [.ref l, .ref rd]) Q E s := by
  refine callDef (n := 1) (binds := [("start", .ref l), ("rules", .ref rd)]) G.f22 G.lim fit (fun _ _ => rfl) (by rfl) fun s₁ S₁ O₁ fit₁ => ?_
  have h1 : ∀ {s' : Shared}, Keeps s.heap s'.heap → Has s'.heap l (iInts st) := fun k => hl.keeps k
  have h2 : ∀ {s' : Shared}, Keeps s.heap s'.heap → HasRules s'.heap rd p q := fun k => hr.keeps k
  -- pile = [0] + start[::-1]
  refine wpAny_execs_cons (sName (wpAny_BinOp (List_ (args_cons (wpAny_Constant_int (args_nil (newListO O₁ (fun r₁ s₂ S₂ O₂ => ?_) (Nat.le_of_ble_eq_true rfl))))))))
  refine eSliceRev (eLocal O₂ (v := .ref l) (by rfl) (wpAny_UnaryOp (wpAny_Constant_int (neg_int ⟨l, st, _, _, _, _, _, rfl, rfl, h1 O₂.keep, by omega, O₂, fun r₂ s₃ S₃ O₃ => ?_⟩))))
  refine addInts O₃ ((O₃.of (i := 1) rfl).ints (.cons 0 _ .nil)) (O₃.of (i := 0) rfl) (by simp; omega) fun pl s₄ S₄ O₄ => ⟨_, _, _, O₄.sub (.cons_cons _ (.cons _ (.cons _ (List.Sublist.refl _)))), fun s₅ S₅ O₅ => ?_⟩
  -- spelled = []
  refine wpAny_execs_cons (sName (List_ (args_nil (newListO O₅ (fun r s₆ S₆ O₆ => ⟨_, _, _, O₆, fun s₇ S₇ O₇ => ?_⟩) (by decide)))))
  have hmeas := meas_le (k := 3) st fun x hx => by have := (hst x hx).2; unfold lev; split <;> omega
  have hM : meas st ≤ 2 ^ 20 := by
    have : st.length * 9 ^ 3 ≤ 1000 * 9 ^ 3 := Nat.mul_le_mul_right _ hlen
    omega
  have Oi := (O₇.turn (i := 0) (P' := iInts []) rfl (Heap.ExtBut.refl _ _) ((O₇.of (i := 0) rfl).ints .nil)).permute (List.Perm.swap (pl, iInts (0 :: st.reverse)) (r, iInts []) [])
  refine wpAny_execs_cons (wpAny_While (codeAny_whileLoop
    (fun n s' => ∃ m' stack done, Sm s₇ s' ∧ n = meas stack ∧ (∀ x ∈ stack, okSym x) ∧ done ++ stack.flatMap (sp p q 3) = st.flatMap (sp p q 3) ∧ done.length + meas stack ≤ meas st ∧
      m' "rules" = some (.ref rd) ∧ m' "pile" = some (.ref pl) ∧ m' "spelled" = some (.ref r) ∧
      Own s.heap s'.heap s.heap.objs.size m' [(pl, iInts (0 :: stack.reverse)), (r, iInts done)]) ?_ (meas st) ⟨_, st, [], Sm.refl _, rfl, hst, rfl, by simp, by rfl, by rfl, by rfl, Oi⟩))
  · rintro n s₈ ⟨m₈, stack, done, S₈, rfl, hok, hT, hM', b1, b2, b3, O₈⟩
    have hll := len_le_meas stack
    -- not ISEOF(pile[-1])
    refine isTrue_not (isTrue_plain (eCall1 (G.keeps O₈.keep) G.nm.isEof (G.keeps O₈.keep).f16 (Subscript_ (eLocal O₈ b2 (wpAny_UnaryOp (wpAny_Constant_int (neg_int ?_)))))))
    refine subIntNeg (O₈.of (i := 0) rfl) (by decide) (by simp; omega) (by simp; omega) fun t₁ => ⟨fun _ _ e => e, isEof_spec (G.keeps O₈.keep) fit₁ fun s₉ S₉ K₉ => wpAny_truthy_bool ?_⟩
    have O₉ := O₈.keeps K₉
    cases stack with
    | nil =>
      rw [if_neg (by decide)]
      refine wpAny_execs_nil ?_
      refine wpAny_execs_cons (wpAny_Return_some (eLocal O₉ b3 ?_))
      have : done = st.flatMap (sp p q 3) := by simpa using hT
      exact hQ r _ (S₁.trans (Sm.trans (Sm.trans ⟨rfl, rfl, rfl⟩ S₂) (Sm.trans (Sm.trans ⟨rfl, rfl, rfl⟩ S₃) (S₄.trans (S₅.trans (S₆.trans (S₇.trans (S₈.trans (Sm.trans ⟨rfl, rfl, rfl⟩ S₉))))))))) O₉.keep (O₉.fresh (i := 1) rfl) (this ▸ O₉.of (i := 1) rfl)
    | cons x rest =>
      have hx : okSym x := hok x (.head _)
      have hrest : ∀ y ∈ rest, okSym y := fun y hy => hok y (.tail _ hy)
      have e1 : (0 :: (x :: rest).reverse).getD (-1 + ((0 :: (x :: rest).reverse).length : Int)).toNat 0 = x := by
        have : (-1 + ((0 :: (x :: rest).reverse).length : Int)).toNat = (0 :: rest.reverse).length := by simp; omega
        rw [this, List.reverse_cons, ← List.cons_append]
        simp [List.getD]
      have e1' : (0 :: (x :: rest).reverse).getD ((0 :: (x :: rest).reverse).length - 1) 0 = x := by
        have : ((0 :: (x :: rest).reverse).length - 1) = (0 :: rest.reverse).length := by simp
        rw [this, List.reverse_cons, ← List.cons_append]
        simp [List.getD]
      have e2 : (0 :: (x :: rest).reverse).dropLast = 0 :: rest.reverse := by rw [List.reverse_cons, ← List.cons_append, List.dropLast_concat]
      rw [e1, show (x == 0) = false from by have := hx.1; simp; omega]
      show wpAny _ _ (execs _ _) _ _ _
      -- symbol = pile.pop()
      refine wpAny_execs_cons (sName (eListMeth F.slot_list_pop F.type_list_pop (eLocal O₉ b2 ?_)))
      obtain ⟨vs, hv, X⟩ := (O₉.of (i := 0) rfl).vals
      refine ⟨_, _, rfl, X, ?_⟩
      rw [meas_cons] at hM' hll
      have hP9 := Nat.one_le_pow (lev x) 9 (by decide)
      simp only [List.length_cons] at hll
      refine popInts (i := 0) O₉ rfl (by simp) (by simp; omega) fun t₂ s₁₀ S₁₀ O₁₀ => ⟨_, _, _, O₁₀, fun s₁₁ S₁₁ O₁₁ => ?_⟩
      rw [e1', e2] at O₁₁
      have c1 : upd m₈ "symbol" (.int x t₂) "rules" = some (.ref rd) := (upd_ne (by decide)).trans b1
      have c2 : upd m₈ "symbol" (.int x t₂) "pile" = some (.ref pl) := (upd_ne (by decide)).trans b2
      have c3 : upd m₈ "symbol" (.int x t₂) "spelled" = some (.ref r) := (upd_ne (by decide)).trans b3
      have S₁₁' : Sm s₇ s₁₁ := S₈.trans (Sm.trans (Sm.trans ⟨rfl, rfl, rfl⟩ S₉) (S₁₀.trans S₁₁))
      refine wpAny_execs_cons (wpAny_If (isTrue_plain (eCall1 (G.keeps O₁₁.keep) G.nm.isNonterminal (G.keeps O₁₁.keep).f15 (eLocal O₁₁ upd_same ⟨fun _ _ e => e, ?_⟩))))
      refine isNonterminal_spec (G.keeps O₁₁.keep) fit₁ fun s₁₂ S₁₂ K₁₂ => wpAny_truthy_bool ?_
      have O₁₂ := O₁₁.keeps K₁₂
      by_cases hn : x < 256
      · rw [decide_eq_false (show ¬ x ≥ 256 by omega), if_neg (by decide)]
        refine wpAny_execs_cons (wpAny_Expr_any (eListMeth F.slot_list_append F.type_list_append (eLocal O₁₂ c3 ?_)))
        obtain ⟨vs, hv, X⟩ := (O₁₂.of (i := 1) rfl).vals
        refine ⟨_, _, rfl, X, ?_⟩
        refine callWith_method1 (args_cons (eLocal O₁₂ upd_same (args_nil ?_)))
        refine appendInt (i := 1) O₁₂ rfl (by omega) fun s₁₃ S₁₃ O₁₃ => wpAny_execs_nil (wpAny_execs_nil ?_)
        have hl0 : lev x = 0 := if_pos hn
        rw [hl0] at hM'
        refine ⟨meas rest, by rw [meas_cons, hl0]; omega, _, rest, done ++ [x], S₁₁'.trans (S₁₂.trans (Sm.trans ⟨rfl, rfl, rfl⟩ S₁₃)), rfl, hrest, ?_, by simp; omega, c1, c2, c3, O₁₃⟩
        rw [← hT, List.flatMap_cons, List.append_assoc]
        congr 1
        show [x] ++ _ = (if x < 256 then [x] else _) ++ _
        rw [if_pos hn]
      · rw [decide_eq_true (show x ≥ 256 by omega), if_pos rfl]
        refine wpAny_execs_cons (wpAny_Expr_any (eListMeth F.slot_list_extend F.type_list_extend (eLocal O₁₂ c2 ?_)))
        obtain ⟨vs, hv, X⟩ := (O₁₂.of (i := 0) rfl).vals
        refine ⟨_, _, rfl, X, ?_⟩
        obtain ⟨as, hd, hls⟩ := h2 O₁₂.keep
        have hx2 := hx.2
        have hln := ruleAt_len hp hq (x - 256).toNat
        refine callWith_method1 (args_cons (eSliceRev (Subscript_ (eLocal O₁₂ c1 (eLocal O₁₂ upd_same (subMap hd (v := .ref (as (x - 256).toNat)) (if_pos (by omega)) fun s₁₃ S₁₃ H₁₃ => ?_))))))
        have O₁₃ := O₁₂.eqH H₁₃
        have hrl : Has s₁₃.heap (as (x - 256).toNat) (iInts (ruleAt p q (x - 256).toNat)) := by rw [H₁₃]; exact hls _ (by omega)
        refine wpAny_UnaryOp (wpAny_Constant_int (neg_int ⟨_, _, _, _, _, _, _, rfl, rfl, hrl, by omega, O₁₃, fun r₃ s₁₄ S₁₄ O₁₄ => ?_⟩))
        refine args_nil (extendInts (i := 1) O₁₄ rfl (O₁₄.of (i := 0) rfl) (by simp; omega) fun s₁₅ S₁₅ O₁₅ => wpAny_execs_nil (wpAny_execs_nil ?_))
        have hst' := meas_step hp hq hx hn
        refine ⟨meas (ruleAt p q (x - 256).toNat ++ rest), by rw [meas_append, meas_cons]; omega, _, ruleAt p q (x - 256).toNat ++ rest, done, S₁₁'.trans (S₁₂.trans (S₁₃.trans (Sm.trans (Sm.trans ⟨rfl, rfl, rfl⟩ S₁₄) S₁₅))), rfl, ?_, ?_, by rw [meas_append]; omega, c1, c2, c3, ?_⟩
        · intro y hy
          rcases List.mem_append.mp hy with hy | hy
          · exact (ruleAt_mem hp hq (by omega) y hy).1
          · exact hrest y hy
        · rw [← hT, List.flatMap_append, List.flatMap_cons, sp_step hp hq hx hn]
        · have O₁₆ := O₁₅.tail
          have e3 : 0 :: rest.reverse ++ (ruleAt p q (x - 256).toNat).reverse = 0 :: (ruleAt p q (x - 256).toNat ++ rest).reverse := by rw [List.reverse_append]; rfl
          rw [← e3]
          exact O₁₆
end Mine
namespace Mine

abbrev Objs := List (Addr × (Obj → Prop))
/-- the heap without these objects -/
def gh (T : Objs) (h : Heap) : Heap := hideAll h (T.map (·.1))
theorem gh_of {T : Objs} {h : Heap} : Keeps (gh T h) h := fun _ _ e => of_hideAll _ e
theorem gh_get {T : Objs} {h : Heap} {b : Addr} {o : Obj} (e : h.get? b = some o) (n : b ∉ T.map (·.1)) : (gh T h).get? b = some o := hideAll_get _ e n
theorem gh_none {T : Objs} {h : Heap} {b : Addr} (n : b ∈ T.map (·.1)) : (gh T h).get? b = none := hideAll_none _ n
theorem gh_fresh {T : Objs} {h : Heap} {b : Addr} (e : h.get? b = none) : (gh T h).get? b = none := by
  cases q : (gh T h).get? b with
  | none => rfl
  | some o => rw [gh_of _ _ q] at e; cases e

/-- a step that turns the objects T into T' -/
structure Step (T : Objs) (h h' : Heap) (T' : Objs) : Prop where
  keep : Keeps (gh T h) h'
  at_ : ∀ p ∈ T', Has h' p.1 p.2
  new : ∀ p ∈ T', (gh T h).get? p.1 = none
  nodup : (T'.map (·.1)).Nodup

section
variable {h₀ h h' : Heap} {L : Addr} {m : Str → Option Value} {cs T T' : Objs}
theorem Step.of (O : Own (gh T h) h' L m T') : Step T h h' T' := ⟨O.keep, O.at_, O.new, (List.nodup_cons.mp O.nodup).2⟩

theorem Own.notT (O : Own h₀ h L m (cs ++ T)) : L ∉ T.map (·.1) ∧ (∀ p ∈ cs, p.1 ∉ T.map (·.1)) ∧ (T.map (·.1)).Nodup ∧ (L :: cs.map (·.1)).Nodup := by
  have := O.nodup
  rw [List.map_append, ← List.cons_append, List.nodup_append] at this
  obtain ⟨a, b, c⟩ := this
  exact ⟨fun hm => c _ (.head _) _ hm rfl, fun p hp hm => c _ (.tail _ (List.mem_map_of_mem hp)) _ hm rfl, b, a⟩
/-- what was there before and is none of T -/
theorem Own.keepGh (O : Own h₀ h L m (cs ++ T)) : Keeps h₀ (gh T h) := fun b o e => by
  refine gh_get (O.keep _ _ e) fun hm => ?_
  obtain ⟨p, hp, q⟩ := List.mem_map.mp hm
  have := O.new p (List.mem_append_right _ hp)
  rw [show p.1 = b from q, e] at this; cases this
theorem Own.hasGh (O : Own h₀ h L m (cs ++ T)) {a : Addr} {P : Obj → Prop} (hm : (a, P) ∈ cs) : Has (gh T h) a P := by
  obtain ⟨o, e, p⟩ := O.at_ _ (List.mem_append_left _ hm)
  exact ⟨o, gh_get e (O.notT.2.1 _ hm), p⟩
theorem Own.ofT (O : Own h₀ h L m (cs ++ T)) : ∀ p ∈ T, Has h p.1 p.2 := fun p hp => O.at_ p (List.mem_append_right _ hp)

theorem Own.step (O : Own h₀ h L m (cs ++ T)) (S : Step T h h' T') : Own h₀ h' L m (cs ++ T') := by
  have nt := O.notT
  have kg := O.keepGh
  obtain ⟨oL, es, ep, eL, r⟩ := id O.ns
  have hL := gh_get eL nt.1
  have hcs : ∀ p ∈ cs, ∃ o, (gh T h).get? p.1 = some o := fun p hp => by
    obtain ⟨o, e, _⟩ := O.at_ p (List.mem_append_left _ hp)
    exact ⟨o, gh_get e (nt.2.1 p hp)⟩
  refine ⟨⟨oL, es, ep, S.keep _ _ hL, r⟩, fun b o e => S.keep b o (kg b o e), O.newL, ?_, ?_, ?_⟩
  · intro p hp
    rcases List.mem_append.mp hp with hp | hp
    · obtain ⟨o, e, q⟩ := O.at_ p (List.mem_append_left _ hp)
      exact ⟨o, S.keep _ _ (gh_get e (nt.2.1 p hp)), q⟩
    · exact S.at_ p hp
  · intro p hp
    rcases List.mem_append.mp hp with hp | hp
    · exact O.new p (List.mem_append_left _ hp)
    · cases q : h₀.get? p.1 with
      | none => rfl
      | some o => have := S.new p hp; rw [kg _ _ q] at this; cases this
  · rw [List.map_append, ← List.cons_append, List.nodup_append]
    refine ⟨nt.2.2.2, S.nodup, fun a ha b hb e => ?_⟩
    subst e
    obtain ⟨p, hp, q⟩ := List.mem_map.mp hb
    have hn := S.new p hp
    rw [show p.1 = a from q] at hn
    rcases List.mem_cons.mp ha with rfl | ha
    · rw [hL] at hn; cases hn
    · obtain ⟨p', hp', q'⟩ := List.mem_map.mp ha
      obtain ⟨o, e⟩ := hcs p' hp'
      rw [show p'.1 = a from q', hn] at e; cases e

/-- a call's frame over a heap with the objects T -/
theorem Own.begin {h₁ : Heap} (O : Own h h₁ L m cs) (hT : ∀ p ∈ T, Has h p.1 p.2) (nd : (T.map (·.1)).Nodup) : Own (gh T h) h₁ L m (cs ++ T) := by
  refine ⟨O.ns, fun b o e => O.keep b o (gh_of _ _ e), gh_fresh O.newL, ?_, ?_, ?_⟩
  · intro p hp
    rcases List.mem_append.mp hp with hp | hp
    · exact O.at_ p hp
    · exact (hT p hp).keeps O.keep
  · intro p hp
    rcases List.mem_append.mp hp with hp | hp
    · exact gh_fresh (O.new p hp)
    · exact gh_none (List.mem_map_of_mem hp)
  · rw [List.map_append, ← List.cons_append, List.nodup_append]
    refine ⟨O.nodup, nd, fun a ha b hb e => ?_⟩
    subst e
    obtain ⟨p, hp, q⟩ := List.mem_map.mp hb
    obtain ⟨o, e, _⟩ := hT p hp
    rw [show p.1 = a from q] at e
    rcases List.mem_cons.mp ha with rfl | ha
    · rw [O.newL] at e; cases e
    · obtain ⟨p', hp', q'⟩ := List.mem_map.mp ha
      have := O.new p' hp'
      rw [show p'.1 = a from q', e] at this; cases this
/-- objects of one's own, no more known as such, stay in what a step keeps -/
theorem Own.drop (O : Own h₀ h L m (cs ++ T)) : Own h₀ h L m T := O.sub (List.sublist_append_right _ _)
end

def iCode (q : Str) (o : Obj) : Prop := ∃ vs t, o.data = .fields vs ∧ vs[1]? = some (.str q t)
theorem iCode.rec {h : Heap} {c : Addr} {q : Str} (x : Has h c (iCode q)) : h.CodeRec (.ref c) q := let ⟨o, e, vs, t, d, v⟩ := x; ⟨c, o, vs, t, rfl, e, d, v⟩
/-- a def within a def -/
def nestAt (i j : Nat) : DefRec := match (defAt i).body[j]? with
  | some (.FunctionDef n a b _ _ _ sc _ _ pos) => ⟨n, a, b, sc, pos⟩
  | _ => ⟨Str.empty, default, [], default, default⟩
def iFn (d : DefRec) (q : Str) (clos : List (Str × Addr)) (c' : Addr) (o : Obj) : Prop := ∃ doc pm ctv, o = fnMade d.name q d.params d.body d.scope clos doc pm c' ctv

section
variable {w : World} {A : Around} {E : Value → Shared → Prop} {s : Shared} {env : Env} {mg mb m : Str → Option Value} {h₀ : Heap} {cs T : Objs} {L : Addr}
theorem callNest {f c' : Addr} {d : DefRec} {q : Str} {clos : List (Str × Addr)} {args : List Value} {binds : List (Str × Value)} {n : Nat} {Q : Value → Shared → Prop} (hf : Has s.heap f (iFn d q clos c')) (hc : Has s.heap c' (iCode q)) (lim : s.heap.NoLimit) (fit : Fit A (n + 1))
    (hbind : ∀ doc pm ctv, bindArgs (fnX d.name q d.params d.body d.scope clos .none .none doc pm none (.ref c') ctv) ⟨args, []⟩ = pure binds)
    (hloc : (binds.all fun x => decide (d.scope.names.lookup x.1 = some .local)) = true)
    (h : ∀ s₁, Sm s s₁ → Own s.heap s₁.heap s.heap.objs.size (fun x => binds.reverse.lookup x) [] → Fit (A.deeper (envX q d.scope s.heap.objs.size f (.ref c') clos)) n →
      wpAny (model PG w) (A.deeper (envX q d.scope s.heap.objs.size f (.ref c') clos)) (execs d.body (envX q d.scope s.heap.objs.size f (.ref c') clos))
        (fun fl s' => Q (match fl with | .ret v => v | _ => .none) s') (fun _ _ => False) s₁)
    (hco : d.scope.isCoroutine = false := by rfl) (hgen : d.scope.isGenerator = false := by rfl) (hk : d.scope.kind = .function := by rfl)
    (hcell : ∀ x ∈ d.scope.names, x.2 ≠ .cell := by decide +kernel) :
    wpAny (model PG w) A (call (.ref f) args) Q E s := by
  obtain ⟨o, ho, doc, pm, ctv, rfl⟩ := hf
  refine wpAny_call (codeAny_call_def (fd := fnX d.name q d.params d.body d.scope clos .none .none doc pm none (.ref c') ctv) (body := d.body) (binds := binds) fit.room ho rfl lim (iCode.rec hc) rfl (.of_eq (hbind doc pm ctv)) hcell (locs hloc) (fun h₁ hns hk₁ => ?_) hco hgen hk)
  exact wpAny_mono (h _ (by exact ⟨rfl, rfl, rfl⟩) (Own.start ⟨hns, hk₁, Nat.le_refl _⟩) (fit.deeper _)) (fun _ _ x => x) (fun _ _ x => x.elim)

/-- f(e, ..) for a def known by its cell -/
theorem callNested {f : Addr} {pos : Pos} {e : Expr} {rest : List Expr} {d : DefRec} {q : Str} {clos : List (Str × Addr)} {c' : Addr} {Q : Value → Shared → Prop} (x : Has s.heap f (iFn d q clos c'))
    (h : wpAny (model PG w) A (spliced (backTo pos (starEach (e :: rest) env))) (fun vs s₁ => Keeps s.heap s₁.heap ∧ wpAny (model PG w) A (call (.ref f) vs) Q E s₁) E s)
    (he : starEach (e :: rest) env = (false, eval e env) :: starEach rest env := by rfl) :
    wpAny (model PG w) A (callWith pos (.ref f) [] (backTo pos (starEach (e :: rest) env)) []) Q E s := by
  obtain ⟨o, ho, doc, pm, ctv, rfl⟩ := x
  exact callWith_def (o := fnMade d.name q d.params d.body d.scope clos doc pm c' ctv) rfl (wpAny_mono h (fun vs s₁ h₁ => ⟨h₁.1 _ _ ho, h₁.2⟩) fun _ _ e => e) he
end

/-- the code table of a def that makes another: empty, or with the inner def's code -/
def tab1 (P : Addr) (pos : Pos) (q : Str) : Option Addr → Objs
  | none => [(P, fun o => o = tabObj #[])]
  | some c => [(P, fun o => o = tabObj (#[] ++ #[rawInt pos.line, rawInt pos.col, .ref c])), (c, iCode q)]
def q7 : Str := "_int2digits.<locals>.inner"
def q8 : Str := "_digits2int.<locals>.inner"
def tabs (z : Option Addr × Option Addr) : Objs := tab1 37 (nestAt 7 1).pos q7 z.1 ++ tab1 44 (nestAt 8 0).pos q8 z.2

structure Hd (mg : Str → Option Value) (h : Heap) : Prop where
  c7 : CodeHd h 41 37
  c8 : CodeHd h 48 44
  bm : ∃ bm o, mg "__builtins__" = some (.ref bm) ∧ bm ≠ builtinsNs ∧ bm ≠ mainGlobals ∧ bm ≠ 37 ∧ bm ≠ 44 ∧ h.get? bm = some o ∧ o.cls = .type "module" ∧ o.dict = some builtinsNs ∧ o.data = .plain
theorem Hd.keeps {mg : Str → Option Value} {h h' : Heap} (x : Hd mg h) (k : Keeps h h') : Hd mg h' :=
  ⟨x.c7.keeps k, x.c8.keeps k, let ⟨bm, o, a, b, c, d, e, f, r⟩ := x.bm; ⟨bm, o, a, b, c, d, e, k _ _ f, r⟩⟩

section
variable {w : World} {A : Around} {E : Value → Shared → Prop} {s : Shared} {env : Env} {mg mb m : Str → Option Value} {h₀ : Heap} {cs T : Objs} {L : Addr}
/-- def inner(..) within a def: its function, and the table of codes -/
theorem sNest {P c : Addr} {d : DefRec} {q : Str} {z : Option Addr} {clos : List (Str × Addr)} {i : Nat} {cl : Addr} {V : Obj → Prop} {Q : Flow → Shared → Prop} (O : Own h₀ s.heap env.locals m (cs ++ (tab1 P d.pos q z ++ T)))
    (hcl : closureFor d.scope env = pure clos) (hg0 : env.globals = mainGlobals) (hg : s.heap.Ns mainGlobals mg) (hcode : env.code = .ref c) (C : CodeHd s.heap c P) (hgP : mainGlobals ≠ P) (hb : s.heap.BuiltinsAt mg P)
    (hq : qualnameIn env d.name d.name = q) (hi : cs[i]? = some (cl, V)) (hV : ∀ o, V o → iAnyCell o) (hlc : env.cells.lookup d.name = some cl) (hlk : env.kindOf d.name = some .cell)
    (h : ∀ f c' s', Sm s s' → Own h₀ s'.heap env.locals m ((f, iFn d q clos c') :: (cs.set i (cl, iCell (some (.ref f))) ++ (tab1 P d.pos q (some c') ++ T))) → Q .next s')
    (hd0 : d.params.defaults = [] := by rfl) (hk0 : d.params.kw_defaults = [] := by rfl) (ha : annTrees d.params none env = [] := by rfl) (hk : env.scope.kind = .function := by rfl) :
    wpAny (model PG w) A (exec (.FunctionDef d.name d.params d.body [] none [] d.scope none d.name d.pos) env) Q E s := by
  refine nestDef_K hd0 hk0 ha ?_
  rw [hq]
  have fin : ∀ (f c' : Addr) (s' : Shared), Sm s s' → Own h₀ s'.heap env.locals m ((f, iFn d q clos c') :: (cs ++ (tab1 P d.pos q (some c') ++ T))) → wpAny (model PG w) A (storeName env d.name (.ref f)) (fun _ s'' => Q .next s'') E s' := by
    intro f c' s' S O'
    have hi' : ((f, iFn d q clos c') :: (cs ++ (tab1 P d.pos q (some c') ++ T)))[i + 1]? = some (cl, V) := by
      rw [List.getElem?_cons_succ, List.getElem?_append_left (List.getElem?_eq_some_iff.mp hi).1]; exact hi
    obtain ⟨o, ho, p⟩ := O'.of hi'
    obtain ⟨v₀, r⟩ := hV o p
    refine wpAny_storeName_cell hk hlk hlc ⟨o, ho, r⟩ fun h' hn hs' => h f c' _ (S.trans ⟨rfl, rfl, rfl⟩) ?_
    have O₂ := O'.turn (P' := iCell (some (.ref f))) hi' hs'.extBut hn
    rw [List.set_cons_succ, List.set_append_left _ _ (List.getElem?_eq_some_iff.mp hi).1] at O₂
    exact O₂
  cases z with
  | none =>
    have hP : s.heap.get? P = some (tabObj #[]) := by
      obtain ⟨o, ho, rfl⟩ := O.at_ (P, fun o => o = tabObj #[]) (List.mem_append_right _ (.head _)); exact ho
    refine makeFunction_K (mg := mg) hcl hg0 hg hcode C hP trivial rfl hgP hb fun c' ctv doc h' tk hx hge hlt hrec htb => fin _ c' _ (by exact ⟨rfl, rfl, rfl⟩) ?_
    obtain ⟨c₂, oc, vs, t, e2, hoc, hd, hv⟩ := hrec
    cases e2
    have O₁ := O.turn (i := cs.length) (a := P) (P := fun o => o = tabObj #[]) (P' := fun o => o = tabObj (#[] ++ #[rawInt d.pos.line, rawInt d.pos.col, .ref c'])) (by
      rw [List.getElem?_append_right (Nat.le_refl _), Nat.sub_self]; rfl) hx ⟨_, htb, rfl⟩
    rw [List.set_append_right _ _ (Nat.le_refl _), Nat.sub_self] at O₁
    have hcn : s.heap.get? c' = none := none_of_ge hge
    have O₂ : Own h₀ h' env.locals m ((c', iCode q) :: (cs ++ ((P, fun o => o = tabObj (#[] ++ #[rawInt d.pos.line, rawInt d.pos.col, .ref c'])) :: T))) := by
      have nd := O₁.nodup
      refine ⟨O₁.ns, O₁.keep, O₁.newL, ?_, ?_, ?_⟩
      · intro p hp
        rcases List.mem_cons.mp hp with rfl | hp
        · exact ⟨oc, hoc, vs, t, hd, hv⟩
        · exact O₁.at_ p hp
      · intro p hp
        rcases List.mem_cons.mp hp with rfl | hp
        · cases e : h₀.get? c' with
          | none => rfl
          | some o => have := O.keep _ _ e; rw [hcn] at this; cases this
        · exact O₁.new p hp
      · have nd' := List.nodup_cons.mp nd
        refine List.nodup_cons.mpr ⟨fun hm => ?_, List.nodup_cons.mpr ⟨fun hm => ?_, nd'.2⟩⟩
        · rcases List.mem_cons.mp hm with e | hm
          · obtain ⟨o, es, ep, ho, _⟩ := O.ns
            have e' : env.locals = c' := e
            rw [e', hcn] at ho; cases ho
          · exact nd'.1 hm
        · have hm' : c' ∈ (cs ++ (tab1 P d.pos q none ++ T)).map (·.1) := by rw [List.map_append] at hm ⊢; exact hm
          obtain ⟨p, hp, e⟩ := List.mem_map.mp hm'
          obtain ⟨o, ho, _⟩ := O.at_ p hp
          rw [show p.1 = c' from e, hcn] at ho; cases ho
    have O₃ := O₂.push (fnMade d.name q d.params d.body d.scope clos doc ((mg "__name__").getD .none) c' ctv) (P := iFn d q clos c') ⟨doc, _, ctv, rfl⟩
    refine O₃.permute (.cons _ ?_)
    have := (List.perm_middle (a := (c', iCode q)) (l₁ := cs ++ [((P, fun o => o = tabObj (#[] ++ #[rawInt d.pos.line, rawInt d.pos.col, .ref c'])) : Addr × (Obj → Prop))]) (l₂ := T)).symm
    simpa [tab1] using this
  | some c' =>
    obtain ⟨oP, hP, rfl⟩ := O.at_ (P, fun o => o = tabObj (#[] ++ #[rawInt d.pos.line, rawInt d.pos.col, .ref c'])) (List.mem_append_right _ (.head _))
    refine makeFunction_hit (mg := mg) (cv := .ref c') hcl hg0 hg hcode C hP (TriplesOk_snoc _ _ _ [] trivial) (by simpa using codeAmong_snoc (pos := d.pos) (c := .ref c') [] trivial rfl) hb fun ctv doc h' tk hk' _ => fin _ c' _ (by exact ⟨rfl, rfl, rfl⟩) ?_
    exact (O.keeps hk').push (fnMade d.name q d.params d.body d.scope clos doc ((mg "__name__").getD .none) c' ctv) (P := iFn d q clos c') ⟨doc, _, ctv, rfl⟩
end
end Mine
namespace Mine
/-- digits, the lowest first, to the base 2 ^ n -/
def d2i (n : Nat) : List Int → Int
  | [] => 0
  | x :: xs => x + 2 ^ n * d2i n xs
def i2d (n : Nat) : Nat → Int → List Int
  | 0, _ => []
  | k + 1, x => x % 2 ^ n :: i2d n k (x / 2 ^ n)
def digit (n : Nat) (x : Int) : Prop := 0 ≤ x ∧ x < 2 ^ n
theorem two_pos (n : Nat) : (0 : Int) < 2 ^ n := Int.pow_pos (by decide)
theorem d2i_append (n : Nat) : ∀ a b : List Int, d2i n (a ++ b) = d2i n a + 2 ^ (n * a.length) * d2i n b
  | [], b => by simp [d2i]
  | x :: a, b => by
    rw [List.cons_append, d2i, d2i, d2i_append n a b, List.length_cons, Nat.mul_succ, Nat.add_comm, Int.pow_add, Int.mul_add, Int.mul_assoc]
    omega
theorem d2i_bound (n : Nat) : ∀ a : List Int, (∀ x ∈ a, digit n x) → 0 ≤ d2i n a ∧ d2i n a < 2 ^ (n * a.length)
  | [], _ => by simp [d2i]
  | x :: a, h => by
    obtain ⟨h1, h2⟩ := d2i_bound n a fun y hy => h y (.tail _ hy)
    obtain ⟨h3, h4⟩ := h x (.head _)
    rw [d2i, List.length_cons, Nat.mul_succ, Nat.add_comm, Int.pow_add]
    have p := two_pos n
    have a1 : 0 ≤ (2 : Int) ^ n * d2i n a := Int.mul_nonneg (Int.le_of_lt p) h1
    have a2 : (2 : Int) ^ n * (d2i n a + 1) ≤ 2 ^ n * 2 ^ (n * a.length) := Int.mul_le_mul_of_nonneg_left h2 (Int.le_of_lt p)
    rw [Int.mul_add] at a2
    omega
theorem i2d_len (n : Nat) : ∀ k x, (i2d n k x).length = k
  | 0, _ => rfl
  | k + 1, x => by rw [i2d, List.length_cons, i2d_len n k]
theorem i2d_digit (n : Nat) : ∀ k x, ∀ y ∈ i2d n k x, digit n y
  | k + 1, x, y, h => by
    rcases List.mem_cons.mp h with rfl | h
    · exact ⟨Int.emod_nonneg _ (Int.ne_of_gt (two_pos n)), Int.emod_lt_of_pos _ (two_pos n)⟩
    · exact i2d_digit n k _ y h
theorem d2i_i2d (n : Nat) : ∀ k x, 0 ≤ x → x < 2 ^ (n * k) → d2i n (i2d n k x) = x
  | 0, x, h0, h1 => by
    have : x < 1 := by simpa using h1
    have : x = 0 := by omega
    subst this; rfl
  | k + 1, x, h0, h1 => by
    rw [i2d, d2i, d2i_i2d n k (x / 2 ^ n) (Int.ediv_nonneg h0 (Int.le_of_lt (two_pos n)))]
    · have := Int.emod_add_mul_ediv x (2 ^ n); omega
    · apply Int.ediv_lt_of_lt_mul (two_pos n)
      rwa [← Int.pow_add, ← Nat.mul_succ]
theorem i2d_d2i (n : Nat) : ∀ a : List Int, (∀ x ∈ a, digit n x) → i2d n a.length (d2i n a) = a
  | [], _ => rfl
  | x :: a, h => by
    obtain ⟨h3, h4⟩ := h x (.head _)
    have e1 : (x + 2 ^ n * d2i n a) % 2 ^ n = x := by rw [Int.add_mul_emod_self_left, Int.emod_eq_of_lt h3 h4]
    have e2 : (x + 2 ^ n * d2i n a) / 2 ^ n = d2i n a := by rw [Int.add_mul_ediv_left _ _ (Int.ne_of_gt (two_pos n)), Int.ediv_eq_zero_of_lt h3 h4, Int.zero_add]
    rw [List.length_cons, i2d, d2i, e1, e2, i2d_d2i n a fun y hy => h y (.tail _ hy)]
theorem i2d_add (n a b : Nat) (x : Int) (h0 : 0 ≤ x) (h1 : x < 2 ^ (n * (a + b))) : i2d n (a + b) x = i2d n a (x % 2 ^ (n * a)) ++ i2d n b (x / 2 ^ (n * a)) := by
  have hp := two_pos (n * a)
  have e : d2i n (i2d n a (x % 2 ^ (n * a)) ++ i2d n b (x / 2 ^ (n * a))) = x := by
    rw [d2i_append, i2d_len, d2i_i2d n a _ (Int.emod_nonneg _ (Int.ne_of_gt hp)) (Int.emod_lt_of_pos _ hp), d2i_i2d n b _ (Int.ediv_nonneg h0 (Int.le_of_lt hp))]
    · have := Int.emod_add_mul_ediv x (2 ^ (n * a)); omega
    · apply Int.ediv_lt_of_lt_mul hp
      rwa [← Int.pow_add, ← Nat.mul_add, Nat.add_comm]
  have d := i2d_d2i n (i2d n a (x % 2 ^ (n * a)) ++ i2d n b (x / 2 ^ (n * a))) (fun y hy => by
    rcases List.mem_append.mp hy with hy | hy
    · exact i2d_digit _ _ _ _ hy
    · exact i2d_digit _ _ _ _ hy)
  rw [e, List.length_append, i2d_len, i2d_len] at d
  exact d
end Mine
namespace Mine
open Builtin.Int (intBits)
theorem bits_of {x : Int} {m : Nat} (h0 : 0 ≤ x) (h1 : x < 2 ^ m) : intBits x ≤ m := by
  rw [intBits_le_iff]
  have : ((2 : Nat) ^ m : Int) = (2 : Int) ^ m := by norm_cast
  omega
theorem mulOk_small {a b : Int} (h0 : 0 ≤ a) (h1 : a < 2 ^ 64) : IntMulOk a b := IntMulOk.of_left (bits_of h0 h1)

theorem mid_facts {L R M d : Nat} (hM : (L + R) / 2 = M) (hd : R - L ≤ 2 ^ (d + 1)) (hlt : L < R) (hne : ¬ R = L + 1) : L < M ∧ M < R ∧ R - M ≤ 2 ^ d ∧ M - L ≤ 2 ^ d := by
  have hpow : 2 ^ (d + 1) = 2 * 2 ^ d := by rw [Nat.pow_succ, Nat.mul_comm]
  omega
theorem cut_len {ns : List Int} {M R : Nat} (hR : R ≤ ns.length) : ((ns.drop M).take (R - M)).length = R - M := by
  rw [List.length_take, List.length_drop]; omega
theorem cut_join {n L M R : Nat} {ns : List Int} (hLM : L < M) (hMR : M < R) (hR : R ≤ ns.length) :
    d2i n ((ns.drop M).take (R - M)) * 2 ^ ((n * (M - L) : Nat) : Int).toNat + d2i n ((ns.drop L).take (M - L)) = d2i n ((ns.drop L).take (R - L)) := by
  have : (ns.drop L).take (R - L) = (ns.drop L).take (M - L) ++ (ns.drop M).take (R - M) := by
    rw [show R - L = (M - L) + (R - M) by omega, List.take_add, List.drop_drop, show L + (M - L) = M by omega]
  rw [this, d2i_append, cut_len (Nat.le_trans (Nat.le_of_lt hMR) hR), Int.toNat_natCast, Int.mul_comm, Int.add_comm]
structure In8 (h : Heap) (f c' cD cI cN l : Addr) (ns : List Int) (n : Nat) : Prop where
  hf : Has h f (iFn (nestAt 8 0) q8 [("n", cN), ("inner", cI), ("digits", cD)] c')
  hc : Has h c' (iCode q8)
  hD : Has h cD (iCell (some (.ref l)))
  hI : Has h cI (iCell (some (.ref f)))
  hN : ∃ t, Has h cN (iCell (some (.int n t)))
  hl : Has h l (iInts ns)
  lim : h.NoLimit
theorem In8.keeps {h h' : Heap} {f c' cD cI cN l ns n} (x : In8 h f c' cD cI cN l ns n) (k : Keeps h h') : In8 h' f c' cD cI cN l ns n :=
  ⟨x.hf.keeps k, x.hc.keeps k, x.hD.keeps k, x.hI.keeps k, let ⟨t, e⟩ := x.hN; ⟨t, e.keeps k⟩, x.hl.keeps k, x.lim.keeps k⟩

variable {w : World}
set_option pp.maxSteps 600
set_option pp.deepTerms.threshold 6
set_option maxHeartbeats 4000000 in
theorem inner8 {f c' cD cI cN l : Addr} {ns : List Int} {n : Nat} (hdig : ∀ x ∈ ns, digit n x) (hbits : n * ns.length ≤ 2 ^ 20) (hn : n ≤ 2 ^ 20) (hlen : ns.length ≤ 2 ^ 20) :
    ∀ (d : Nat) {A : Around} {E : Value → Shared → Prop} {s : Shared} {L R : Nat} {tL tR : Tok} {Q : Value → Shared → Prop}, R - L ≤ 2 ^ d → L < R → R ≤ ns.length → Fit A (d + 1) → In8 s.heap f c' cD cI cN l ns n →
      (∀ t s', Sm s s' → Keeps s.heap s'.heap → Q (.int (d2i n ((ns.drop L).take (R - L))) t) s') → wpAny (model PG w) A (call (.ref f) [.int L tL, .int R tR]) Q E s := by
  intro d
  induction d with
  | zero =>
    intro A E s L R tL tR Q hd hlt hR fit I hQ
    refine callNest (n := 0) (binds := [("L", .int L tL), ("R", .int R tR)]) I.hf I.hc I.lim fit (fun _ _ _ => rfl) (by rfl) fun s₁ S₁ O₁ fit₁ => ?_
    have I₁ := I.keeps O₁.keep
    have hR1 : R = L + 1 := by omega
    subst hR1
    refine wpAny_execs_cons (wpAny_If (wpAny_isTrue_Compare1 (wpAny_BinOp (eLocal O₁ (v := .int L tL) (by rfl) (wpAny_Constant_int (add_int (eLocal O₁ (v := .int ((L + 1 : Nat) : Int) tR) (by rfl) (eq_int (wpAny_truthy_bool ?_)))))))))
    rw [if_pos (by simp)]
    refine wpAny_execs_cons (wpAny_Return_some (Subscript_ (eFreeH I₁.hD (by rfl) (eLocal O₁ (v := .int L tL) (by rfl) (subInt I₁.hl (by omega) (by omega) (by omega) fun t => ?_)))))
    have e : d2i n ((ns.drop L).take (L + 1 - L)) = ns.getD L 0 := by
      rw [show L + 1 - L = 1 by omega]
      have : (ns.drop L).take 1 = [ns.getD L 0] := by
        rw [List.take_one, List.head?_drop]
        simp [List.getD, List.getElem?_eq_getElem (show L < ns.length by omega)]
      rw [this]; simp [d2i]
    simp only [e] at hQ
    rw [Int.toNat_natCast]
    exact hQ t _ (S₁.trans ⟨rfl, rfl, rfl⟩) O₁.keep
  | succ d ih =>
    intro A E s L R tL tR Q hd hlt hR fit I hQ
    by_cases hR1 : R = L + 1
    · exact ih (by have := Nat.one_le_two_pow (n := d); omega) hlt hR (fit.le (by omega)) I hQ
    refine callNest (n := d + 1) (binds := [("L", .int L tL), ("R", .int R tR)]) I.hf I.hc I.lim fit (fun _ _ _ => rfl) (by rfl) fun s₁ S₁ O₁ fit₁ => ?_
    have I₁ := I.keeps O₁.keep
    refine wpAny_execs_cons (wpAny_If (wpAny_isTrue_Compare1 (wpAny_BinOp (eLocal O₁ (v := .int L tL) (by rfl) (wpAny_Constant_int (add_int (eLocal O₁ (v := .int R tR) (by rfl) (eq_int (wpAny_truthy_bool ?_)))))))))
    rw [if_neg (by simp; omega)]
    refine wpAny_execs_nil ?_
    -- mid = L + R >> 1
    refine wpAny_execs_cons (sName (wpAny_BinOp (wpAny_BinOp (eLocal O₁ (v := .int L tL) (by rfl) (eLocal O₁ (v := .int R tR) (by rfl) (add_int (wpAny_Constant_int (rshift_int (by decide) ⟨_, _, _, O₁, fun s₂ S₂ O₂ => ?_⟩))))))))
    have em : Int.fdiv ((L : Int) + R) (2 ^ (1 : Int).toNat) = ((L + R) / 2 : Nat) := by
      rw [Int.fdiv_eq_ediv_of_nonneg _ (by decide)]
      show ((L : Int) + R) / 2 = _
      omega
    rw [em] at O₂
    generalize hM : (L + R) / 2 = M at *
    obtain ⟨hLM, hMR, hRd, hLd⟩ := mid_facts hM hd hlt hR1
    clear em hM hd
    -- shift = (mid - L) * n
    have I₂ := I.keeps O₂.keep
    obtain ⟨tn, hN₂⟩ := I₂.hN
    refine wpAny_execs_cons (sName (wpAny_BinOp (wpAny_BinOp (eLocal O₂ upd_same (eLocal O₂ (v := .int L tL) (by rfl) (sub_int (eFreeH hN₂ (by rfl) (mul_int ⟨_, _, _, O₂, fun s₃ S₃ O₃ => ?_⟩ (mulOk_small (by omega) (by omega))))))))))
    have I₃ := I.keeps O₃.keep
    have hdr : ∀ a b : Nat, ∀ x ∈ (ns.drop a).take b, digit n x := fun a b x hx => hdig x (List.mem_of_mem_drop (List.mem_of_mem_take hx))
    refine wpAny_execs_cons (wpAny_Return_some (wpAny_BinOp (wpAny_BinOp (Call_ (eFreeH I₃.hI (by rfl) (callNested I₃.hf (args_cons (eLocal O₃ (v := .int M _) (by rfl) (args_cons (eLocal O₃ (v := .int R tR) (by rfl) (args_nil ⟨fun _ _ e => e, ?_⟩)))))))))))
    refine ih hRd hMR hR fit₁ I₃ fun t₁ s₄ S₄ K₄ => ?_
    have O₄ := O₃.keeps K₄
    have I₄ := I.keeps O₄.keep
    have b1 := d2i_bound n _ (hdr M (R - M))
    rw [cut_len hR] at b1
    have hsm : n * (R - M) ≤ 2 ^ 20 := Nat.le_trans (Nat.mul_le_mul_left n (Nat.le_trans (Nat.sub_le _ _) hR)) hbits
    have hsm' : n * (M - L) ≤ 2 ^ 20 := Nat.le_trans (Nat.mul_le_mul_left n (Nat.le_trans (Nat.sub_le _ _) (Nat.le_trans (Nat.le_of_lt hMR) hR))) hbits
    have hsh : ((M : Int) - L) * n = (n * (M - L) : Nat) := by
      rw [Nat.mul_comm]; push_cast; rw [Int.ofNat_sub (Nat.le_of_lt hLM)]
    refine eLocal O₄ (v := .int (((M : Int) - L) * n) _) (by rfl) ?_
    rw [hsh]
    refine lshift_int (by omega) ?_ ?_
    · have := bits_of b1.1 b1.2
      omega
    refine Call_ (eFreeH I₄.hI (by rfl) (callNested I₄.hf (args_cons (eLocal O₄ (v := .int L tL) (by rfl) (args_cons (eLocal O₄ (v := .int M _) (by rfl) (args_nil ⟨fun _ _ e => e, ?_⟩)))))))
    refine ih hLd hLM (Nat.le_trans (Nat.le_of_lt hMR) hR) fit₁ I₄ fun t₂ s₅ S₅ K₅ => add_int ?_
    have O₅ := O₄.keeps K₅
    have e := cut_join (n := n) hLM hMR hR
    rw [e]
    exact hQ _ _ (S₁.trans (Sm.trans (Sm.trans ⟨rfl, rfl, rfl⟩ S₂) (Sm.trans (Sm.trans ⟨rfl, rfl, rfl⟩ S₃) (S₄.trans (Sm.trans (Sm.trans ⟨rfl, rfl, rfl⟩ S₅) ⟨rfl, rfl, rfl⟩))))) O₅.keep
end Mine
namespace Mine
open Builtin.Int (intBits)
theorem Hd.at {mg : Str → Option Value} {h : Heap} (H : Hd mg h) {P : Addr} (hP : P = 37 ∨ P = 44) : h.BuiltinsAt mg P := by
  obtain ⟨bm, o, a, b, c, d, e, r⟩ := H.bm
  exact ⟨bm, o, a, b, c, by rcases hP with rfl | rfl <;> assumption, r⟩
structure TabsIn (z : Option Addr × Option Addr) (h : Heap) : Prop where
  at_ : ∀ p ∈ tabs z, Has h p.1 p.2
  nodup : ((tabs z).map (·.1)).Nodup
variable {w : World} {A : Around} {E : Value → Shared → Prop} {s : Shared} {mg mb : Str → Option Value}
set_option pp.maxSteps 600
set_option pp.deepTerms.threshold 6
set_option maxHeartbeats 4000000 in
theorem digits2int_spec {z : Option Addr × Option Addr} {l : Addr} {ns : List Int} {n : Nat} {tn : Tok} {Q : Value → Shared → Prop} (G : Gl mg mb (gh (tabs z) s.heap)) (H : Hd mg (gh (tabs z) s.heap)) (T : TabsIn z s.heap)
    (fit : Fit A 12) (hl : Has (gh (tabs z) s.heap) l (iInts ns)) (hdig : ∀ x ∈ ns, digit n x) (hlen : ns.length ≤ 2 ^ 9) (hn : n ≤ 2 ^ 11)
    (hQ : ∀ t s' z', Sm s s' → Step (tabs z) s.heap s'.heap (tabs z') → Q (.int (d2i n ns) t) s') :
    wpAny (model PG w) A (call (.ref 49) [.ref l, .int n tn]) Q E s := by
  have G₀ := G.keeps gh_of
  refine callDefC (n := 11) (binds := [("digits", .ref l), ("n", .int n tn)]) ["inner", "n", "digits"] G₀.f8 G₀.lim fit (fun _ _ => rfl) (by
    intro x hx
    rcases List.mem_cons.mp hx with rfl | hx
    · exact .inr ⟨rfl, rfl⟩
    · rw [List.mem_singleton.mp hx]; exact .inr ⟨rfl, rfl⟩) (fun _ => rfl) fun s₁ S₁ O₁ fit₁ => ?_
  replace O₁ : Own s.heap s₁.heap s.heap.objs.size _ [(s.heap.objs.size + 3, iCell none), (s.heap.objs.size + 2, iCell (some (.int n tn))), (s.heap.objs.size + 1, iCell (some (.ref l)))] := O₁
  have O₂ := (O₁.begin T.at_ T.nodup).permute (List.Perm.append_left _ List.perm_append_comm)
  have G₂ := G.keeps O₂.keep
  refine wpAny_execs_cons (sNest (d := nestAt 8 0) (P := 44) (c := 48) (q := q8) (clos := [("n", s.heap.objs.size + 2), ("inner", s.heap.objs.size + 3), ("digits", s.heap.objs.size + 1)]) (i := 0) (cl := s.heap.objs.size + 3) (V := iCell none) O₂
    (by rfl) rfl G₂.g rfl (H.keeps O₂.keep).c8 (by decide) ((H.keeps O₂.keep).at (.inr rfl)) (by rfl) rfl (fun o h => ⟨_, h⟩) (by rfl) (by rfl) fun f c' s₃ S₃ O₃ => ?_)
  -- return inner(0, len(digits)) if digits else 0
  have hl₃ : ∀ {s' : Shared}, Keeps (gh (tabs z) s.heap) s'.heap → Has s'.heap l (iInts ns) := fun k => hl.keeps k
  have hD := O₃.of (i := 3) (a := s.heap.objs.size + 1) (P := iCell (some (.ref l))) rfl
  refine wpAny_execs_cons (wpAny_Return_some (IfExp_ (isTrue_plain (eCellH hD (by rfl) ?_))))
  obtain ⟨vs, hv, X⟩ := (hl₃ O₃.keep).vals
  refine truthy_ints_fit X.isList hv (by omega) ?_
  by_cases h0 : 0 < ns.length
  · rw [decide_eq_true h0, if_pos rfl]
    have I : In8 s₃.heap f c' (s.heap.objs.size + 1) (s.heap.objs.size + 3) (s.heap.objs.size + 2) l ns n :=
      ⟨O₃.of (i := 0) rfl, O₃.of (i := 5) rfl, O₃.of (i := 3) rfl, O₃.of (i := 1) rfl, ⟨tn, O₃.of (i := 2) rfl⟩, hl₃ O₃.keep, (G.keeps O₃.keep).lim⟩
    refine Call_ (eCellH I.hI (by rfl) (callNested I.hf (args_cons (wpAny_Constant_int (args_cons (Call_ (eBuilt (v := .builtin "len") (G.keeps O₃.keep) (by decide +kernel) (by decide +kernel) ?_)))))))
    refine PyProof.Rows.callWith_builtin1 (args_cons (eCellH hD (by rfl) (args_nil ?_)))
    refine lenO (hl₃ O₃.keep) (by omega) fun t₁ s₄ S₄ H₄ => args_nil ?_
    have I₄ : In8 s₄.heap f c' (s.heap.objs.size + 1) (s.heap.objs.size + 3) (s.heap.objs.size + 2) l ns n := by rw [H₄]; exact I
    refine ⟨fun b o e => by rw [H₄]; exact e, ?_⟩
    have hbits : n * ns.length ≤ 2 ^ 20 := by
      have := Nat.mul_le_mul hn hlen
      omega
    refine inner8 hdig hbits (by omega) (by omega) 9 (L := 0) (R := ns.length) (by omega) h0 (Nat.le_refl _) (fit₁.le (by omega)) I₄ fun t₂ s₅ S₅ K₅ => ?_
    have O₅ := (O₃.eqH H₄).keeps K₅
    rw [show (ns.drop 0).take (ns.length - 0) = ns by simp]
    refine hQ _ _ (z.1, some c') (S₁.trans (S₃.trans (Sm.trans (Sm.trans ⟨rfl, rfl, rfl⟩ S₄) S₅))) (.of (L := s.heap.objs.size) (m := _) ((O₅.sub (.cons _ (List.sublist_append_right _ _))).permute ?_))
    exact List.perm_append_comm
  · rw [decide_eq_false h0, if_neg (by decide)]
    have : ns = [] := List.eq_nil_of_length_eq_zero (by omega)
    subst this
    refine wpAny_Constant_int (hQ _ _ (z.1, some c') (S₁.trans (S₃.trans ⟨rfl, rfl, rfl⟩)) (.of (L := s.heap.objs.size) (m := _) ((O₃.sub (.cons _ (List.sublist_append_right _ _))).permute ?_)))
    exact List.perm_append_comm
end Mine
namespace Mine
open Builtin.Int (intBits)
theorem nat_and_high (x k : Nat) : x &&& (x / 2 ^ k * 2 ^ k) = x / 2 ^ k * 2 ^ k := by
  apply Nat.eq_of_testBit_eq
  intro i
  rw [Nat.testBit_and, ← Nat.shiftLeft_eq, Nat.testBit_shiftLeft]
  by_cases h : k ≤ i
  · rw [Nat.testBit_div_two_pow]
    simp [h, show i - k + k = i by omega]
  · simp [h]
theorem xor_high {x : Int} (h : 0 ≤ x) (k : Nat) : Builtin.bitXor x (x / 2 ^ k * 2 ^ k) = x % 2 ^ k := by
  obtain ⟨n, rfl⟩ := Int.eq_ofNat_of_zero_le h
  have e1 : ((n : Int) / 2 ^ k * 2 ^ k) = ((n / 2 ^ k * 2 ^ k : Nat) : Int) := by push_cast; rfl
  rw [bitXor_and, e1]
  have e2 : Builtin.bitAnd (n : Int) ((n / 2 ^ k * 2 ^ k : Nat) : Int) = ((n / 2 ^ k * 2 ^ k : Nat) : Int) := by
    unfold Builtin.bitAnd
    rw [decide_eq_true (by omega), decide_eq_true (by omega)]
    show (((n : Int).toNat &&& ((n / 2 ^ k * 2 ^ k : Nat) : Int).toNat : Nat) : Int) = _
    rw [Int.toNat_natCast, Int.toNat_natCast, nat_and_high]
  rw [e2]
  have := Int.emod_add_mul_ediv (n : Int) (2 ^ k)
  rw [Int.mul_comm] at this
  rw [← e1]
  omega

theorem Has.neq {h : Heap} {a b : Addr} {P P' : Obj → Prop} (x : Has h a P) (y : Has h b P') (c : ∀ o, P o → P' o → False) : a ≠ b := by
  rintro rfl
  obtain ⟨o, e, p⟩ := x
  obtain ⟨o', e', p'⟩ := y
  rw [e] at e'; cases e'; exact c o p p'
theorem iInts_data {ns : List Int} {o : Obj} (h : iInts ns o) : ∃ xs n, o.data = .seq xs n := by
  obtain ⟨vs, _, n, rfl⟩ := h; exact ⟨_, n, rfl⟩

structure In7 (h : Heap) (f c' cA cI cN l : Addr) (n : Nat) : Prop where
  hf : Has h f (iFn (nestAt 7 1) q7 [("n", cN), ("inner", cI), ("a_digits", cA)] c')
  hc : Has h c' (iCode q7)
  hA : Has h cA (iCell (some (.ref l)))
  hI : Has h cI (iCell (some (.ref f)))
  hN : ∃ t, Has h cN (iCell (some (.int n t)))
  lim : h.NoLimit
theorem In7.keeps {h h' : Heap} {f c' cA cI cN l n} (x : In7 h f c' cA cI cN l n) (k : Keeps h h') : In7 h' f c' cA cI cN l n :=
  ⟨x.hf.keeps k, x.hc.keeps k, x.hA.keeps k, x.hI.keeps k, let ⟨t, e⟩ := x.hN; ⟨t, e.keeps k⟩, x.lim.keeps k⟩
theorem In7.ext {h h' : Heap} {f c' cA cI cN l n} {ns : List Int} (x : In7 h f c' cA cI cN l n) (y : Has h l (iInts ns)) (k : Heap.ExtBut l h h') : In7 h' f c' cA cI cN l n := by
  refine ⟨x.hf.extBut k ?_, x.hc.extBut k ?_, x.hA.extBut k ?_, x.hI.extBut k ?_, ?_, ?_⟩
  · exact x.hf.neq y fun o a b => by
      obtain ⟨_, _, e⟩ := iInts_data b; obtain ⟨_, _, _, rfl⟩ := a; cases e
  · exact x.hc.neq y fun o a b => by
      obtain ⟨_, _, e⟩ := iInts_data b; obtain ⟨_, _, d, _⟩ := a; rw [d] at e; cases e
  · exact x.hA.neq y fun o a b => by
      obtain ⟨_, _, e⟩ := iInts_data b; have d : o.data = _ := a; rw [d] at e; cases e
  · exact x.hI.neq y fun o a b => by
      obtain ⟨_, _, e⟩ := iInts_data b; have d : o.data = _ := a; rw [d] at e; cases e
  · obtain ⟨t, z⟩ := x.hN
    refine ⟨t, z.extBut k (z.neq y fun o a b => ?_)⟩
    obtain ⟨_, _, e⟩ := iInts_data b; have d : o.data = _ := a; rw [d] at e; cases e
  · obtain ⟨mc, z, hm⟩ := x.lim
    refine ⟨mc, z.extBut k ?_, hm⟩
    rintro rfl
    obtain ⟨o, es, ep, e, d, _⟩ := z
    obtain ⟨o', e', b⟩ := y
    rw [e] at e'; cases e'
    obtain ⟨_, _, q⟩ := iInts_data b; rw [d] at q; cases q

section
variable {w : World} {A : Around} {E : Value → Shared → Prop} {s : Shared} {env : Env} {m : Str → Option Value} {h₀ : Heap} {cs : List (Addr × (Obj → Prop))} {L : Addr}
theorem setPos {l : Addr} {vs : List Value} {k : Int} {u : Tok} {v : Value} {Q : Unit → Shared → Prop} (hl : s.heap.PlainList l vs.toArray) (h0 : 0 ≤ k) (h1 : k < vs.length) (hfit : k < 2 ^ 63)
    (h : ∀ h', h'.PlainList l (vs.set k.toNat v).toArray → Heap.SameBut l s.heap h' → Q () { s with heap := h' }) : wpAny (model PG w) A (setItem (.ref l) (.int k u) v) Q E s := by
  obtain ⟨n, ho⟩ := id hl
  have hT := hl.isList.typeIs
  unfold setItem
  try with_reducible refine wpAny_holding ?_
  first | refine wpAny_bind (wpAny_pure ?_) | skip
  refine wpAny_bind (wpAny_sequenceKey hT (by decide) ?_)
  refine wpAny_bind (wpAny_callSpecial?_slot (name := Str.ofString "__setitem__") hT slot_list_setitem
    (wpAny_call_entry slot_list_setitem hT entry_list_setitem ?_ (args_list_setitem _ _ _)))
  show wpAny _ _ (Builtin.List.listSubscript? (.int k u) >>= _) _ _ s
  refine wpAny_bind (wpAny_listSubscript_int (fitsIndex_of h0 hfit) ?_)
  clear hfit
  obtain ⟨j, rfl⟩ := Int.eq_ofNat_of_zero_le h0
  have hj : j < vs.toArray.size := by rw [List.size_toArray]; omega
  have hx' : vs.toArray[j]? = some vs.toArray[j] := Array.getElem?_eq_getElem hj
  show wpAny _ _ ((seqItemAt l j >>= fun r => pure (r.map (j, ·))) >>= _) _ _ s
  refine wpAny_bind (wpAny_bind (wpAny_seqItemAt ho rfl (wpAny_pure ?_)))
  rw [hx']
  show wpAny _ _ (setSeqItemAt l j v >>= _) _ _ s
  have e : Obj.mapSeq (·.setIfInBounds j v) ({ cls := .type "list", data := .seq vs.toArray n } : Obj) = { cls := .type "list", data := .seq (vs.set j v).toArray n } := by
    simp [Obj.mapSeq]
  have hfin : (s.heap.update l (Obj.mapSeq (·.setIfInBounds j v))).PlainList l (vs.set j v).toArray := by
    refine ⟨n, ?_⟩
    rw [Heap.get?_update_self _ ho (by rw [e]; rfl), e]
  refine wpAny_bind (wpAny_setSeqItemAt ho rfl ?_)
  first
    | exact wpAny_bind (wpAny_pure (wpAny_pure ⟨.none, rfl, wpAny_pure (h _ hfin (Heap.SameBut.update ..))⟩))
    | exact wpAny_pure ⟨.none, rfl, wpAny_pure (h _ hfin (Heap.SameBut.update ..))⟩
theorem setInt {i : Nat} {l : Addr} {ns : List Int} {k x : Int} {u t : Tok} {Q : Unit → Shared → Prop} (O : Own h₀ s.heap L m cs) (hi : cs[i]? = some (l, iInts ns)) (h0 : 0 ≤ k) (h1 : k < ns.length) (hfit : k < 2 ^ 63)
    (h : ∀ s', Sm s s' → Own h₀ s'.heap L m (cs.set i (l, iInts (ns.set k.toNat x))) → Q () s') : wpAny (model PG w) A (setItem (.ref l) (.int k u) (.int x t)) Q E s := by
  obtain ⟨vs, hv, X⟩ := (O.of hi).vals
  have hl := hv.length
  exact setPos X.plain h0 (by omega) hfit fun h' p hs => h _ ⟨rfl, rfl, rfl⟩ (O.turn hi hs.extBut ((has_vals.mpr p).ints (ints_set hv _)))
end

/-- from a frame over the heap without l -/
theorem Own.endl {h h' : Heap} {L l : Addr} {m : Str → Option Value} {P P' : Obj → Prop} {cs : List (Addr × (Obj → Prop))} (O : Own (gh [(l, P)] h) h' L m ((l, P') :: cs)) : Heap.ExtBut l h h' ∧ Has h' l P' :=
  ⟨fun b o ne e => O.keep b o (gh_get e (by simpa using ne)), O.at_ _ (.head _)⟩

variable {w : World}
theorem seg_g1 {n L M : Nat} {ns : List Int} {y : Int} (hLM : L < M) (hM : M ≤ ns.length) : (ns.take L ++ i2d n (M - L) y).length = M := by
  simp only [List.length_append, List.length_take, i2d_len]; omega
theorem seg_len {n L M : Nat} {ns : List Int} {y : Int} (hLM : L < M) (hM : M ≤ ns.length) : (ns.take L ++ i2d n (M - L) y ++ ns.drop M).length = ns.length := by
  rw [List.length_append, seg_g1 hLM hM, List.length_drop]; omega
theorem seg_sub {L M R : Nat} (hLM : L < M) (hMR : M < R) : R - L = (M - L) + (R - M) := by omega
theorem seg_fin {n L M R K : Nat} {ns : List Int} {x : Int} (hLM : L < M) (hMR : M < R) (hR : R ≤ ns.length) (h0 : 0 ≤ x) (h1 : x < 2 ^ (n * (R - L))) (hKe : n * (M - L) = K) :
    (ns.take L ++ i2d n (M - L) (x % 2 ^ K) ++ ns.drop M).take M ++ i2d n (R - M) (x / 2 ^ K) ++ (ns.take L ++ i2d n (M - L) (x % 2 ^ K) ++ ns.drop M).drop R = ns.take L ++ i2d n (R - L) x ++ ns.drop R := by
  have g1 := seg_g1 (n := n) (y := x % 2 ^ K) hLM (Nat.le_trans (Nat.le_of_lt hMR) hR)
  have g2 : (ns.take L ++ i2d n (M - L) (x % 2 ^ K) ++ ns.drop M).take M = ns.take L ++ i2d n (M - L) (x % 2 ^ K) := List.take_left' g1
  have g3 : (ns.take L ++ i2d n (M - L) (x % 2 ^ K) ++ ns.drop M).drop R = ns.drop R := by
    rw [List.drop_append, g1, List.drop_eq_nil_of_le (by rw [g1]; exact Nat.le_of_lt hMR), List.drop_drop, Nat.add_sub_cancel' (Nat.le_of_lt hMR), List.nil_append]
  rw [g2, g3, seg_sub hLM hMR, i2d_add n (M - L) (R - M) x h0 (by rw [← seg_sub hLM hMR]; exact h1), hKe]
  simp only [List.append_assoc]
set_option pp.maxSteps 600
set_option pp.deepTerms.threshold 6
set_option maxHeartbeats 4000000 in
theorem inner7 {f c' cA cI cN l : Addr} {n : Nat} (hn : n ≤ 2 ^ 11) :
    ∀ (d : Nat) {A : Around} {E : Value → Shared → Prop} {s : Shared} {ns : List Int} {x : Int} {L R : Nat} {tx tL tR : Tok} {Q : Value → Shared → Prop}, R - L ≤ 2 ^ d → L < R → R ≤ ns.length → ns.length ≤ 2 ^ 9 →
      0 ≤ x → x < 2 ^ (n * (R - L)) → Fit A (d + 1) → In7 s.heap f c' cA cI cN l n → Has s.heap l (iInts ns) →
      (∀ s', Sm s s' → Heap.ExtBut l s.heap s'.heap → Has s'.heap l (iInts (ns.take L ++ i2d n (R - L) x ++ ns.drop R)) → Q .none s') → wpAny (model PG w) A (call (.ref f) [.int x tx, .int L tL, .int R tR]) Q E s := by
  intro d
  induction d with
  | zero =>
    intro A E s ns x L R tx tL tR Q hd hlt hR hlen h0 h1 fit I hl hQ
    refine callNest (n := 0) (binds := [("x", .int x tx), ("L", .int L tL), ("R", .int R tR)]) I.hf I.hc I.lim fit (fun _ _ _ => rfl) (by rfl) fun s₁ S₁ O₁ fit₁ => ?_
    have I₁ := I.keeps O₁.keep
    have hR1 : R = L + 1 := by omega
    subst hR1
    have O₂ := O₁.begin (T := [(l, iInts ns)]) (fun p hp => by rw [List.mem_singleton.mp hp]; exact hl) (by simp)
    refine wpAny_execs_cons (wpAny_If (wpAny_isTrue_Compare1 (wpAny_BinOp (eLocal O₁ (v := .int L tL) (by rfl) (wpAny_Constant_int (add_int (eLocal O₁ (v := .int ((L + 1 : Nat) : Int) tR) (by rfl) (eq_int (wpAny_truthy_bool ?_)))))))))
    rw [if_pos (by simp)]
    refine wpAny_execs_cons (wpAny_Assign_Subscript (eLocal O₂ (v := .int x tx) (by rfl) (eFreeH I₁.hA (by rfl) (eLocal O₂ (v := .int L tL) (by rfl) ?_))))
    refine setInt (i := 0) O₂ rfl (by omega) (by omega) (by omega) fun s₂ S₂ O₃ => ?_
    refine wpAny_execs_cons (wpAny_Return_none ?_)
    obtain ⟨X, Y⟩ := O₃.endl
    have e : ns.set (L : Int).toNat x = ns.take L ++ i2d n (L + 1 - L) x ++ ns.drop (L + 1) := by
      rw [show L + 1 - L = 0 + 1 by omega, i2d, i2d, Int.toNat_natCast, Int.emod_eq_of_lt h0 (by simpa [show L + 1 - L = 1 by omega] using h1)]
      rw [List.set_eq_take_append_cons_drop, if_pos (by omega)]
      simp
    rw [e] at Y
    exact hQ s₂ (S₁.trans (Sm.trans ⟨rfl, rfl, rfl⟩ S₂)) X Y
  | succ d ih =>
    intro A E s ns x L R tx tL tR Q hd hlt hR hlen h0 h1 fit I hl hQ
    by_cases hR1 : R = L + 1
    · exact ih (by have := Nat.one_le_two_pow (n := d); omega) hlt hR hlen h0 h1 (fit.le (by omega)) I hl hQ
    refine callNest (n := d + 1) (binds := [("x", .int x tx), ("L", .int L tL), ("R", .int R tR)]) I.hf I.hc I.lim fit (fun _ _ _ => rfl) (by rfl) fun s₁ S₁ O₀ fit₁ => ?_
    have O₁ := O₀.begin (T := [(l, iInts ns)]) (fun p hp => by rw [List.mem_singleton.mp hp]; exact hl) (by simp)
    have I₁ := I.keeps O₀.keep
    refine wpAny_execs_cons (wpAny_If (wpAny_isTrue_Compare1 (wpAny_BinOp (eLocal O₁ (v := .int L tL) (by rfl) (wpAny_Constant_int (add_int (eLocal O₁ (v := .int R tR) (by rfl) (eq_int (wpAny_truthy_bool ?_)))))))))
    rw [if_neg (by simp; omega)]
    refine wpAny_execs_nil ?_
    have Ig : In7 (gh [(l, iInts ns)] s.heap) f c' cA cI cN l n := I.ext hl fun b o ne e => gh_get e (by simpa using ne)
    -- mid = L + R >> 1
    refine wpAny_execs_cons (sName (wpAny_BinOp (wpAny_BinOp (eLocal O₁ (v := .int L tL) (by rfl) (eLocal O₁ (v := .int R tR) (by rfl) (add_int (wpAny_Constant_int (rshift_int (by decide) ⟨_, _, _, O₁, fun s₂ S₂ O₂ => ?_⟩))))))))
    have em : Int.fdiv ((L : Int) + R) (2 ^ (1 : Int).toNat) = ((L + R) / 2 : Nat) := by
      rw [Int.fdiv_eq_ediv_of_nonneg _ (by decide)]
      show ((L : Int) + R) / 2 = _
      omega
    rw [em] at O₂
    generalize hM : (L + R) / 2 = M at *
    obtain ⟨hLM, hMR, hRd, hLd⟩ := mid_facts hM hd hlt hR1
    clear em hM hd
    -- shift = (mid - L) * n
    obtain ⟨tn, hN₂⟩ := (Ig.keeps O₂.keep).hN
    refine wpAny_execs_cons (sName (wpAny_BinOp (wpAny_BinOp (eLocal O₂ upd_same (eLocal O₂ (v := .int L tL) (by rfl) (sub_int (eFreeH hN₂ (by rfl) (mul_int ⟨_, _, _, O₂, fun s₃ S₃ O₃ => ?_⟩ (mulOk_small (by omega) (by omega))))))))))
    have hsh : ((M : Int) - L) * n = (n * (M - L) : Nat) := by
      rw [Nat.mul_comm]; push_cast; rw [Int.ofNat_sub (Nat.le_of_lt hLM)]
    rw [hsh] at O₃
    have hk1 : n * (M - L) ≤ 2 ^ 20 := Nat.le_trans (Nat.mul_le_mul hn (Nat.le_trans (Nat.sub_le _ _) (Nat.le_trans (Nat.le_of_lt hMR) (Nat.le_trans hR hlen)) : M - L ≤ 2 ^ 9)) (by decide)
    have hk2 : n * (R - M) ≤ 2 ^ 20 := Nat.le_trans (Nat.mul_le_mul hn (Nat.le_trans (Nat.sub_le _ _) (Nat.le_trans hR hlen) : R - M ≤ 2 ^ 9)) (by decide)
    have hsum : n * (R - L) = n * (M - L) + n * (R - M) := by rw [← Nat.mul_add, ← seg_sub hLM hMR]
    generalize hKe : n * (M - L) = K at *
    have hp := two_pos K
    -- upper = x >> shift
    refine wpAny_execs_cons (sName (wpAny_BinOp (eLocal O₃ (v := .int x tx) (by rfl) (eLocal O₃ (v := .int K _) (by rfl) (rshift_int (by omega) ⟨_, _, _, O₃, fun s₄ S₄ O₄ => ?_⟩)))))
    have eu : Int.fdiv x (2 ^ (K : Int).toNat) = x / 2 ^ K := by rw [Int.toNat_natCast, Int.fdiv_eq_ediv_of_nonneg _ (Int.le_of_lt hp)]
    rw [eu] at O₄
    have u0 : 0 ≤ x / 2 ^ K := Int.ediv_nonneg h0 (Int.le_of_lt hp)
    have u1 : x / 2 ^ K < 2 ^ (n * (R - M)) := by
      apply Int.ediv_lt_of_lt_mul hp
      rwa [← Int.pow_add, Nat.add_comm, ← hsum]
    -- lower = x ^ upper << shift
    refine wpAny_execs_cons (sName (wpAny_BinOp (eLocal O₄ (v := .int x tx) (by rfl) (wpAny_BinOp (eLocal O₄ (v := .int (x / 2 ^ K) _) (by rfl) (eLocal O₄ (v := .int K _) (by rfl) (lshift_int (by omega) (by have := bits_of u0 u1; omega) (xor_int ⟨_, _, _, O₄, fun s₅ S₅ O₅ => ?_⟩))))))))
    rw [Int.toNat_natCast, xor_high h0] at O₅
    have l0 : 0 ≤ x % 2 ^ K := Int.emod_nonneg _ (Int.ne_of_gt hp)
    have l1 : x % 2 ^ K < 2 ^ K := Int.emod_lt_of_pos _ hp
    -- inner(lower, L, mid)
    have I₅ := Ig.keeps O₅.keep
    refine wpAny_execs_cons (wpAny_Expr_any (Call_ (eFreeH I₅.hI (by rfl) (callNested I₅.hf (args_cons (eLocal O₅ (v := .int (x % 2 ^ K) _) (by rfl) (args_cons (eLocal O₅ (v := .int L tL) (by rfl) (args_cons (eLocal O₅ (v := .int M _) (by rfl) (args_nil ⟨fun _ _ e => e, ?_⟩)))))))))))
    refine ih hLd hLM (Nat.le_trans (Nat.le_of_lt hMR) hR) hlen l0 (by rw [hKe]; exact l1) fit₁ I₅ (O₅.of (i := 0) rfl) fun s₆ S₆ X₆ Y₆ => ?_
    have O₆ := O₅.turn (i := 0) rfl X₆ Y₆
    -- inner(upper, mid, R)
    have I₆ := Ig.keeps O₆.keep
    have hl6 : (ns.take L ++ i2d n (M - L) (x % 2 ^ K) ++ ns.drop M).length = ns.length := seg_len hLM (Nat.le_trans (Nat.le_of_lt hMR) hR)
    refine wpAny_execs_cons (wpAny_Expr_any (Call_ (eFreeH I₆.hI (by rfl) (callNested I₆.hf (args_cons (eLocal O₆ (v := .int (x / 2 ^ K) _) (by rfl) (args_cons (eLocal O₆ (v := .int M _) (by rfl) (args_cons (eLocal O₆ (v := .int R tR) (by rfl) (args_nil ⟨fun _ _ e => e, ?_⟩)))))))))))
    refine ih hRd hMR (hl6 ▸ hR) (hl6 ▸ hlen) u0 u1 fit₁ I₆ Y₆ fun s₇ S₇ X₇ Y₇ => wpAny_execs_nil ?_
    have O₇ := O₆.turn (i := 0) rfl X₇ Y₇
    have hfin := seg_fin (n := n) (x := x) hLM hMR hR h0 h1 hKe
    rw [hfin] at O₇
    obtain ⟨X, Y⟩ := Own.endl O₇
    exact hQ s₇ (S₁.trans (Sm.trans (Sm.trans ⟨rfl, rfl, rfl⟩ S₂) (Sm.trans (Sm.trans ⟨rfl, rfl, rfl⟩ S₃) (Sm.trans (Sm.trans ⟨rfl, rfl, rfl⟩ S₄) (Sm.trans (Sm.trans ⟨rfl, rfl, rfl⟩ S₅) (S₆.trans S₇)))))) X Y
end Mine
namespace Mine
open Builtin.Int (intBits)
theorem lt_bits {x : Int} (h : 0 ≤ x) {m : Nat} (hm : intBits x ≤ m) : x < 2 ^ m := by
  have := intBits_le_iff.mp hm
  have e : ((2 : Nat) ^ m : Int) = (2 : Int) ^ m := by norm_cast
  omega
theorem intBits_zero : intBits 0 = 0 := rfl
def places (n : Nat) (a : Int) : Nat := (intBits a + n - 1) / n
variable {w : World} {A : Around} {E : Value → Shared → Prop} {s : Shared} {env : Env} {mg mb : Str → Option Value}
theorem eBitLength {o : Expr} {apos pos : Pos} {Q : Value → Shared → Prop}
    (h : wpAny (model PG w) A (eval o env) (fun ov s₁ => ∃ a t, ov = .int a t ∧ ∀ u, Q (.int (intBits a) u) { s₁ with toks := s₁.toks + 1 }) E s)
    (hbase : attributeBase o "bit_length" env (eval o env) = eval o env := by rfl)
    (hfew : ((backTo pos (starEach [] env)).all (fun x => !x.1) && (backToKw pos (keywordEach [] env)).all (fun x => x.1.isSome)
      && decide (([] : List Expr).length + ([] : List Keyword).length + (if ([] : List Keyword).isEmpty then 0 else 1) < 30)) = true := by rfl)
    (hline : (apos.endLine == pos.line) = true := by rfl) :
    wpAny (model PG w) A (eval (.Call (.Attribute o "bit_length" apos) [] [] pos) env) Q E s := by
  refine wpAny_Call_method hbase hfew hline F.plainAttrs_int slot_int_bit_length type_int_bit_length (wpAny_mono h (fun ov s₁ h₁ => ?_) fun _ _ e => e)
  obtain ⟨a, t, rfl, hq⟩ := h₁
  exact ⟨typeIs_int _ _ _, (fun _ e => nomatch e), callWith_method0 (call_int_bit_length (hq _))⟩
set_option pp.maxSteps 600
set_option pp.deepTerms.threshold 6
set_option maxHeartbeats 4000000 in
theorem int2digits_spec {z : Option Addr × Option Addr} {a : Int} {n : Nat} {ta tn : Tok} {Q : Value → Shared → Prop} (G : Gl mg mb (gh (tabs z) s.heap)) (H : Hd mg (gh (tabs z) s.heap)) (T : TabsIn z s.heap)
    (fit : Fit A 12) (h0 : 0 ≤ a) (hn : n ≤ 2 ^ 11) (hn1 : 1 ≤ n) (hbits : intBits a ≤ 2 ^ 20) (hlen : places n a ≤ 2 ^ 9)
    (hQ : ∀ r s' z', Sm s s' → Step (tabs z) s.heap s'.heap ((r, iInts (i2d n (places n a) a)) :: tabs z') → Q (.ref r) s') :
    wpAny (model PG w) A (call (.ref 42) [.int a ta, .int n tn]) Q E s := by
  have G₀ := G.keeps gh_of
  refine callDefC (n := 11) (binds := [("a", .int a ta), ("n", .int n tn)]) ["inner", "a_digits", "n"] G₀.f7 G₀.lim fit (fun _ _ => rfl) (by
    intro x hx
    rcases List.mem_cons.mp hx with rfl | hx
    · exact .inl rfl
    · rw [List.mem_singleton.mp hx]; exact .inr ⟨rfl, rfl⟩) (fun _ => rfl) fun s₁ S₁ O₁ fit₁ => ?_
  replace O₁ : Own s.heap s₁.heap s.heap.objs.size _ [(s.heap.objs.size + 3, iCell none), (s.heap.objs.size + 2, iCell none), (s.heap.objs.size + 1, iCell (some (.int n tn)))] := O₁
  have O₂ := O₁.begin T.at_ T.nodup
  -- a_digits = [0] * ((a.bit_length() + n - 1) // n)
  refine wpAny_execs_cons (sCell (c := s.heap.objs.size + 2) (wpAny_BinOp (List_ (args_cons (wpAny_Constant_int (args_nil (newListO O₂ (fun r₁ s₂ S₂ O₃ => ?_) (Nat.le_of_ble_eq_true rfl))))))) (by rfl))
  refine wpAny_BinOp (wpAny_BinOp (wpAny_BinOp (eBitLength (eLocal O₃ (v := .int a ta) (by rfl) ⟨a, ta, rfl, fun u => ?_⟩))))
  refine eCell (i := 3) (c := s.heap.objs.size + 1) (v := .int n tn) O₃ rfl (by rfl) (add_int (wpAny_Constant_int (sub_int (eCell (i := 3) (c := s.heap.objs.size + 1) (v := .int n tn) O₃ rfl (by rfl) (floordiv_int (by omega) ?_ (.inl (PyProof.noPylong_small (by omega))))))))
  have ek : Int.fdiv ((intBits a : Int) + n - 1) n = (places n a : Nat) := by
    rw [Int.fdiv_eq_ediv_of_nonneg _ (by omega)]
    unfold places
    rw [show ((intBits a : Int) + n - 1) = ((intBits a + n - 1 : Nat) : Int) by omega]
    norm_cast
  rw [ek]
  refine mulInts O₃ ((O₃.of (i := 0) rfl).ints (.cons _ _ .nil)) (by simp) (by omega) (by omega) (by rw [Int.toNat_natCast, List.length_singleton]; omega) fun l s₃ S₃ O₄ => ?_
  rw [Int.toNat_natCast, lm_rep_flat_one] at O₄
  replace O₄ := O₄.sub (.cons_cons _ (.cons _ (List.Sublist.refl _)))
  refine ⟨_, _, _, 2, iCell none, O₄, rfl, fun o h => ⟨_, h⟩, fun s₄ S₄ O₅ => ?_⟩
  -- def inner
  refine wpAny_execs_cons (sNest (d := nestAt 7 1) (P := 37) (c := 41) (q := q7) (z := z.1) (clos := [("n", s.heap.objs.size + 1), ("inner", s.heap.objs.size + 3), ("a_digits", s.heap.objs.size + 2)]) (i := 1) (cl := s.heap.objs.size + 3) (V := iCell none)
    (cs := [(l, iInts (List.replicate (places n a) 0)), (s.heap.objs.size + 3, iCell none), (s.heap.objs.size + 2, iCell (some (.ref l))), (s.heap.objs.size + 1, iCell (some (.int n tn)))])
    (T := tab1 44 (nestAt 8 0).pos q8 z.2) O₅
    (by rfl) rfl (G.keeps O₅.keep).g rfl (H.keeps O₅.keep).c7 (by decide) ((H.keeps O₅.keep).at (.inl rfl)) (by rfl) rfl (fun o h => ⟨_, h⟩) (by rfl) (by rfl) fun f c' s₆ S₆ O₆ => ?_)
  replace O₆ : Own (gh (tabs z) s.heap) s₆.heap s.heap.objs.size _ ((f, iFn (nestAt 7 1) q7 [("n", s.heap.objs.size + 1), ("inner", s.heap.objs.size + 3), ("a_digits", s.heap.objs.size + 2)] c') :: (l, iInts (List.replicate (places n a) 0)) :: (s.heap.objs.size + 3, iCell (some (.ref f))) ::
    (s.heap.objs.size + 2, iCell (some (.ref l))) :: (s.heap.objs.size + 1, iCell (some (.int n tn))) :: tabs (some c', z.2)) := O₆
  have I : In7 s₆.heap f c' (s.heap.objs.size + 2) (s.heap.objs.size + 3) (s.heap.objs.size + 1) l n :=
    ⟨O₆.of (i := 0) rfl, O₆.of (i := 6) rfl, O₆.of (i := 3) rfl, O₆.of (i := 2) rfl, ⟨tn, O₆.of (i := 4) rfl⟩, (G.keeps O₆.keep).lim⟩
  have S₆' : Sm s s₆ := S₁.trans (Sm.trans (Sm.trans ⟨rfl, rfl, rfl⟩ S₂) (Sm.trans (Sm.trans ⟨rfl, rfl, rfl⟩ S₃) (S₄.trans S₆)))
  have fin : ∀ s₈, Sm s s₈ → ∀ m, Own (gh (tabs z) s.heap) s₈.heap s.heap.objs.size m ((f, iFn (nestAt 7 1) q7 [("n", s.heap.objs.size + 1), ("inner", s.heap.objs.size + 3), ("a_digits", s.heap.objs.size + 2)] c') :: (l, iInts (i2d n (places n a) a)) :: (s.heap.objs.size + 3, iCell (some (.ref f))) ::
    (s.heap.objs.size + 2, iCell (some (.ref l))) :: (s.heap.objs.size + 1, iCell (some (.int n tn))) :: tabs (some c', z.2)) → Q (.ref l) s₈ := fun s₈ S₈ m O₈ =>
    hQ _ _ (some c', z.2) S₈ (.of (L := s.heap.objs.size) (m := m) (O₈.sub (.cons _ (.cons_cons _ (.cons _ (.cons _ (.cons _ (List.Sublist.refl _))))))))
  refine wpAny_execs_cons (wpAny_If (isTrue_plain (eLocal O₆ (v := .int a ta) (by rfl) (truthy_int ?_))))
  by_cases ha : a = 0
  · subst ha
    rw [if_neg (by decide)]
    have hp0 : places n 0 = 0 := by unfold places; rw [intBits_zero]; exact Nat.div_eq_of_lt (by omega)
    rw [hp0] at O₆ fin
    refine wpAny_execs_nil (wpAny_execs_cons (wpAny_Return_some (eCellH I.hA (by rfl) ?_)))
    exact fin _ (S₆'.trans ⟨rfl, rfl, rfl⟩) _ O₆
  · rw [if_pos (by simpa using ha)]
    have hb1 : 1 ≤ intBits a := by
      unfold intBits; rw [if_neg (by simpa using ha)]; omega
    have hp1 : 0 < places n a := by unfold places; exact Nat.div_pos (by omega) (by omega)
    have hle : intBits a ≤ n * places n a := by
      unfold places
      have h1 := Nat.div_add_mod (intBits a + n - 1) n
      have h2 := Nat.mod_lt (intBits a + n - 1) (show 0 < n by omega)
      omega
    refine wpAny_execs_cons (wpAny_Expr_any (Call_ (eCellH I.hI (by rfl) (callNested I.hf (args_cons (eLocal O₆ (v := .int a ta) (by rfl) (args_cons (wpAny_Constant_int (args_cons (Call_ (eBuilt (v := .builtin "len") (G.keeps O₆.keep) (by decide +kernel) (by decide +kernel) ?_)))))))))))
    refine PyProof.Rows.callWith_builtin1 (args_cons (eCellH I.hA (by rfl) (args_nil ?_)))
    refine lenO (O₆.of (i := 1) rfl) (by rw [List.length_replicate]; omega) fun t₁ s₇ S₇ H₇ => args_nil ⟨fun b o e => by rw [H₇]; exact e, ?_⟩
    rw [List.length_replicate]
    have O₇ := O₆.eqH H₇
    refine inner7 hn 9 (L := 0) (R := places n a) (by omega) hp1 (by rw [List.length_replicate]; exact Nat.le_refl _) (by rw [List.length_replicate]; omega) h0 (lt_bits h0 hle) (fit₁.le (by omega)) (by rw [H₇]; exact I) (O₇.of (i := 1) rfl) fun s₈ S₈ X₈ Y₈ => wpAny_execs_nil ?_
    have O₈ := O₇.turn (i := 1) rfl X₈ Y₈
    refine wpAny_execs_cons (wpAny_Return_some (eCellH (O₈.of (i := 3) rfl) (by rfl) ?_))
    have e : (List.replicate (places n a) (0 : Int)).take 0 ++ i2d n (places n a - 0) a ++ (List.replicate (places n a) 0).drop (places n a) = i2d n (places n a) a := by
      rw [List.take_zero, List.nil_append, List.drop_eq_nil_of_le (by simp), List.append_nil, Nat.sub_zero]
    rw [e] at O₈
    exact fin _ (S₆'.trans (Sm.trans (Sm.trans ⟨rfl, rfl, rfl⟩ S₇) S₈)) _ O₈
end Mine
namespace Mine
open Builtin.Int (intBits)
section
variable {w : World} {A : Around} {E : Value → Shared → Prop} {s : Shared} {env : Env} {mg mb m : Str → Option Value} {h₀ : Heap} {cs T : List (Addr × (Obj → Prop))} {L : Addr}

/-- the state forgotten but for its heap -/
theorem atState {α : Type} {M : Model} {t : Sem α} {Q : α → Shared → Prop} {s₀ : Shared} (S : Sm s₀ s) (H : s.heap = s₀.heap) (h : ∀ s', Sm s₀ s' → s'.heap = s₀.heap → wpAny M A t Q E s') : wpAny M A t Q E s := h s S H
theorem newTupleO {vs : List Value} {ns : List Int} {Q : Value → Shared → Prop} {M : Model} (O : Own h₀ s.heap L m cs) (hv : IntsAre vs ns) (hsz : vs.length ≤ sizeLine) (h : ∀ r s', Sm s s' → Own h₀ s'.heap L m ((r, iTupI ns) :: cs) → Q (.ref r) s') :
    wpAny M A (newTuple vs) Q E s :=
  wpAny_newTuple (h _ { s with heap := s.heap.push { cls := .type "tuple", data := .seq vs.toArray } } ⟨rfl, rfl, rfl⟩ (O.push _ ⟨vs, hv, rfl, _, rfl⟩)) (by show vs.toArray.size ≤ sizeLine; rw [List.size_toArray]; exact hsz)

/-- x, y = a tuple of two ints -/
theorem unpackTup {elts : List Expr} {k} {pos : Pos} {l : Addr} {p q : Int} {Q : Unit → Shared → Prop} {a b : Value → Sem Unit} (hh : A.handled = none) (O : Own h₀ s.heap L m cs) (x : Has s.heap l (iTupI [p, q]))
    (h : ∀ t u s', Sm s s' → Own h₀ s'.heap L m cs → wpAny (model PG w) A (assignInOrder [a, b] [.int p t, .int q u]) Q E s')
    (ha : (assignEach elts env).map (·.2) = [a, b] := by rfl) (hstar : (assignEach elts env).findIdx? (·.1) = none := by rfl) :
    wpAny (model PG w) A (assign (.Tuple elts k pos) env (.ref l)) Q E s := by
  obtain ⟨vs, hv, X⟩ := x.tupI
  rcases hv with _ | ⟨_, t, hv⟩
  rcases hv with _ | ⟨_, u, hv⟩
  cases hv
  have hlen : (assignEach elts env).length = 2 := by rw [← List.length_map (·.2), ha]; rfl
  refine assign_Tuple_tuple hh X hlen hstar fun h' hx => ?_
  rw [ha]
  have hk : Keeps s.heap h' := fun b o e => hx b o (Nat.ne_of_lt (Heap.lt_size e)) e
  exact h t u _ ⟨rfl, rfl, rfl⟩ (O.keeps hk)

theorem ItR.rev (hh : A.handled = none) (it l : Addr) (xs : List Int) : ItR w A it xs.length (fun i => xs.getD (xs.length - 1 - i) 0) (fun i o => o.cls = .type "list_reverseiterator" ∧ o.data = .fields #[.ref l, rawInt ((xs.length : Int) - 1 - (i : Nat))]) fun h => Has h l (iInts xs) where
  item := by
    rintro i s Q E hi ⟨o, ho, hc, hd⟩ hl h
    obtain ⟨vs, hv, X⟩ := hl.vals
    obtain ⟨t, ht⟩ := ints_get hv (i := xs.length - 1 - i) (by omega)
    have e : (xs.length : Int) - 1 - (i : Nat) = ((xs.length - 1 - i : Nat) : Int) := by omega
    rw [e] at hd
    refine wpAny_pyNext_rev_item ⟨o, ho, hc, hd⟩ X.isList (by simpa using ht) fun h₁ hit₁ hs₁ => h _ _ ⟨rfl, rfl, rfl⟩ hs₁.extBut ?_
    have e2 : (xs.length : Int) - 1 - ((i + 1 : Nat) : Int) = ((xs.length - 1 - i : Nat) : Int) - 1 := by omega
    rw [e2]
    exact hit₁
  done := by
    rintro s Q E ⟨o, ho, hc, hd⟩ hl h
    have e : (xs.length : Int) - 1 - (xs.length : Nat) = -1 := by omega
    rw [e] at hd
    exact wpAny_pyNext_rev_end hh ⟨o, ho, hc, hd⟩ fun h₁ he₁ => h _ ⟨rfl, rfl, rfl⟩ he₁

/-- for x in reversed(a list) -/
theorem forRevZ {Z : Type} {x : Str} {px rp cp pos : Pos} {e : Expr} {body : List Stmt} {Q : Flow → Shared → Prop} (xs : List Int) (l : Addr) (C : Nat → Z → List (Addr × (Obj → Prop))) (J : Nat → Z → (Str → Option Value) → Prop) (z₀ : Z)
    (G : Gl mg mb s.heap) (hh : A.handled = none)
    (he : wpAny (model PG w) A (eval e env) (fun v s₁ => ∃ m, v = .ref l ∧ Sm s s₁ ∧ Own h₀ s₁.heap env.locals m (C 0 z₀) ∧ J 0 z₀ m) E s)
    (hK : ∀ i z m h, Own h₀ h env.locals m (C i z) → J i z m → Has h l (iInts xs))
    (turn : ∀ E' (it : Addr) (i : Nat) z t m₁ s₂ P, i < xs.length → Sm s s₂ → J i z m₁ → Own h₀ s₂.heap env.locals (upd m₁ x (.int (xs.getD (xs.length - 1 - i) 0) t)) ((it, P) :: C i z) →
        wpAny (model PG w) A (execs body env) (fun f s₃ => GoesZ s₂ s₃ h₀ env.locals (J (i + 1)) (fun z => (it, P) :: C (i + 1) z) f) E' s₂)
    (done : ∀ m₁ z s₂, Sm s s₂ → J xs.length z m₁ → Own h₀ s₂.heap env.locals m₁ (C xs.length z) → Q .next s₂)
    (hk : env.scope.kind = .function := by rfl) (hl : env.kindOf "reversed" = some .globalImplicit := by rfl) (hg : env.globals = mainGlobals := by rfl) (hb : env.builtins = builtinsNs := by rfl) (hx : env.kindOf x = some .local := by rfl)
    (hs : ∀ x, foldedSetIterable (.Call (.Name "reversed" rp) [e] [] cp) env x = pure x := by intro _; rfl)
    (hst : starEach [e] env = [(false, eval e env)] := by rfl) :
    wpAny (model PG w) A (exec (.For (.Name x px) (.Call (.Name "reversed" rp) [e] [] cp) body [] pos) env) Q E s := by
  refine wpAny_For (wpAny_Call_NameR (eBuilt (v := .type "reversed") G (by decide +kernel) (by decide +kernel) ?_ (by decide) hk hl hg hb)) hs
  refine PyProof.Rows.callWith_type1 (args_cons (wpAny_mono he (fun v s₁ h₁ => ?_) fun _ _ e => e) hst) hst
  obtain ⟨m, rfl, S₁, O, hJ⟩ := h₁
  obtain ⟨vs, hv, X⟩ := (hK _ _ _ _ O hJ).vals
  refine args_nil (call_reversed_list X.isList ?_)
  have O₂ := O.push (revObj l ((vs.toArray.size : Int) - 1)) (P := fun o => o.cls = .type "list_reverseiterator" ∧ o.data = .fields #[.ref l, rawInt ((xs.length : Int) - 1 - (0 : Nat))]) (by
    refine ⟨rfl, ?_⟩
    show Data.fields #[.ref l, rawInt ((vs.toArray.size : Int) - 1)] = _
    rw [List.size_toArray, hv.length]; simp)
  refine wpAny_pyIter_revIter (l := l) (i := (vs.toArray.size : Int) - 1) ⟨_, Heap.get?_push_size _ rfl, rfl, rfl⟩ ?_
  refine forLoopZ (ItR.rev hh _ l xs) C J z₀ O₂ hJ hK (fun E' i z t m₁ s₂ P hi S hJ O => ?_) (fun m₁ z s₂ S hJ O => done m₁ z s₂ (S₁.trans (Sm.trans ⟨rfl, rfl, rfl⟩ S)) hJ O) (by intro _; rfl) hx (by rw [hk]; rfl)
  exact turn E' _ i z t m₁ s₂ P hi (S₁.trans (Sm.trans ⟨rfl, rfl, rfl⟩ S)) hJ O

theorem noPy {a b : Int} {m : Nat} (h0 : 0 ≤ b) (h : b < 2 ^ m) (hm : m ≤ 8999) : Builtin.divisionGoesByPylong a b = false := by
  refine PyProof.noPylong_of_log2 ?_
  have h1 : b.natAbs < 2 ^ m := by
    have e : ((2 : Nat) ^ m : Int) = (2 : Int) ^ m := by norm_cast
    omega
  by_cases hz : b.natAbs = 0
  · rw [hz]; decide
  · have := (Nat.log2_lt hz).mpr h1
    omega

theorem tupPush (h : Heap) {vs : List Value} {ns : List Int} (hv : IntsAre vs ns) : Has (h.push { cls := .type "tuple", data := .seq vs.toArray }) h.objs.size (iTupI ns) :=
  ⟨_, Heap.get?_push_size _ rfl, vs, hv, rfl, 0, rfl⟩
theorem divmodO {a b : Int} {ta tb : Tok} {Q : Value → Shared → Prop} (hb : b ≠ 0) (hp : Builtin.divisionGoesByPylong a b = false)
    (h : ∀ r s', Sm s s' → Keeps s.heap s'.heap → s.heap.get? r = none → Has s'.heap r (iTupI [a.fdiv b, a.fmod b]) → Q (.ref r) s') : wpAny (model PG w) A (call (.builtin "divmod") [.int a ta, .int b tb]) Q E s := by
  have hi : IntsAre [Value.int (a.fdiv b) s.toks, Value.int (a.fmod b) (s.toks + 1)] [a.fdiv b, a.fmod b] := .cons _ _ (.cons _ _ .nil)
  refine divmod_int hb ?_ (.inl hp)
  have hx := tupPush s.heap hi
  refine h _ _ ⟨rfl, rfl, rfl⟩ (fun _ _ e => Heap.get?_push_of_some _ e) (none_of_ge (Nat.le_refl _)) hx
theorem div2n1n_spec {a b : Int} {n : Nat} {ta tb tn : Tok} {Q : Value → Shared → Prop} (G : Gl mg mb s.heap) (fit : Fit A 1) (hb : 0 < b) (hbn : b < 2 ^ n) (hn : n ≤ 2 ^ 11) (ha : intBits a ≤ n + 2000)
    (hQ : ∀ r s', Sm s s' → Keeps s.heap s'.heap → s.heap.get? r = none → Has s'.heap r (iTupI [a.fdiv b, a.fmod b]) → Q (.ref r) s') : wpAny (model PG w) A (call (.ref 28) [.int a ta, .int b tb, .int n tn]) Q E s := by
  refine callDef (n := 0) (binds := [("a", .int a ta), ("b", .int b tb), ("n", .int n tn)]) G.f5 G.lim fit (fun _ _ => rfl) (by rfl) fun s₁ S₁ O₁ fit₁ => ?_
  have G₁ := G.keeps O₁.keep
  obtain ⟨u, hu⟩ := G.nm.divLimit
  refine wpAny_execs_cons (wpAny_If (wpAny_isTrue_Compare1 (wpAny_BinOp (eBitLength (eLocal O₁ (v := .int a ta) (by rfl) ⟨a, ta, rfl, fun u => ?_⟩)))))
  refine eLocal O₁ (v := .int n tn) (by rfl) (sub_int (eGlob G₁ hu (le_int (wpAny_truthy_bool ?_))))
  rw [if_pos (by simp; omega)]
  refine atState (s₀ := s₁) (by exact ⟨rfl, rfl, rfl⟩) rfl fun s₂ S₂ H₂ => ?_
  replace O₁ := O₁.eqH H₂
  replace G₁ : Gl mg mb s₂.heap := H₂ ▸ G₁
  refine wpAny_execs_cons (wpAny_Return_some (Call_ (eBuilt (v := .builtin "divmod") G₁ (by decide +kernel) (by decide +kernel) ?_)))
  refine PyProof.Rows.callWith_builtin1 (args_cons (eLocal O₁ (v := .int a ta) (by rfl) (args_cons (eLocal O₁ (v := .int b tb) (by rfl) (args_nil (divmodO (by omega) (noPy (by omega) hbn (by omega)) fun r s₃ S₃ K₃ hr hX => ?_))))))
  refine hQ r s₃ (S₁.trans (S₂.trans S₃)) (O₁.keep.trans K₃) ?_ hX
  cases q : s.heap.get? r with
  | none => rfl
  | some o => have := O₁.keep _ _ q; rw [hr] at this; cases this
end
end Mine
namespace Mine
open Builtin.Int (intBits)
/-- one step of the long division -/
theorem long_step {b r H d B : Int} (hb : 0 < b) (hr : r = H % b) (h0 : 0 ≤ d) (h1 : d < B) :
    (d + B * H) % b = (r * B + d) % b ∧ (d + B * H) / b = (r * B + d) / b + B * (H / b) ∧ 0 ≤ (r * B + d) / b ∧ (r * B + d) / b < B ∧ 0 ≤ r * B + d ∧ r * B + d < b * B := by
  have hH := Int.emod_add_mul_ediv H b
  have r0 : 0 ≤ r := hr ▸ Int.emod_nonneg _ (Int.ne_of_gt hb)
  have r1 : r < b := hr ▸ Int.emod_lt_of_pos _ hb
  rw [← hr] at hH
  have e : d + B * H = (r * B + d) + b * (B * (H / b)) := by
    have : B * H = B * (r + b * (H / b)) := by rw [hH]
    rw [this, Int.mul_add, Int.mul_comm B r, ← Int.mul_assoc B b, Int.mul_comm B b, Int.mul_assoc]
    omega
  have B0 : 0 < B := by omega
  have t0 : 0 ≤ r * B := Int.mul_nonneg r0 (Int.le_of_lt B0)
  have t1 : (r + 1) * B ≤ b * B := Int.mul_le_mul_of_nonneg_right r1 (Int.le_of_lt B0)
  rw [Int.add_mul] at t1
  refine ⟨by rw [e, Int.add_mul_emod_self_left], by rw [e, Int.add_mul_ediv_left _ _ (Int.ne_of_gt hb)], Int.ediv_nonneg (by omega) (Int.le_of_lt hb), ?_, by omega, by omega⟩
  apply Int.ediv_lt_of_lt_mul hb
  rw [Int.mul_comm B b]; omega

variable {w : World} {A : Around} {E : Value → Shared → Prop} {s : Shared} {env : Env} {mg mb m : Str → Option Value} {h₀ : Heap} {cs : List (Addr × (Obj → Prop))} {L : Addr}
theorem Own.tabsIn {z} {h : Heap} (O : Own h₀ h L m (cs ++ tabs z)) : TabsIn z h := ⟨O.ofT, O.notT.2.2.1⟩

theorem eCall3 {x : Str} {px pos : Pos} {e e' e'' : Expr} {f c : Addr} {d : DefRec} {Q : Value → Shared → Prop} (G : Gl mg mb s.heap) (hx : mg x = some (.ref f)) (hf : FnAt s.heap f c d)
    (h : wpAny (model PG w) A (eval e env) (fun v s₁ => wpAny (model PG w) A (eval e' env) (fun v' s₂ => wpAny (model PG w) A (eval e'' env) (fun v'' s₃ => Keeps s.heap s₃.heap ∧ wpAny (model PG w) A (call (.ref f) [v, v', v'']) Q E s₃) E s₂) E s₁) E s)
    (hk : env.scope.kind = .function := by rfl) (hl : env.kindOf x = some .globalImplicit := by rfl) (hg : env.globals = mainGlobals := by rfl) (hd : (x == ("__debug__" : Str)) = false := by decide)
    (he : starEach [e, e', e''] env = (false, eval e env) :: starEach [e', e''] env := by rfl) (he' : starEach [e', e''] env = (false, eval e' env) :: starEach [e''] env := by rfl) (he'' : starEach [e''] env = [(false, eval e'' env)] := by rfl) :
    wpAny (model PG w) A (eval (.Call (.Name x px) [e, e', e''] [] pos) env) Q E s := by
  refine wpAny_Call_NameR (eGlob G hx ?_ hk hl hg hd)
  obtain ⟨o, pm, doc, ho, hdata, hcd⟩ := hf
  refine callWith_def hdata (args_cons (wpAny_mono h (fun v s₁ h₁ => args_cons (wpAny_mono h₁ (fun v' s₂ h₂ => args_cons (wpAny_mono h₂ (fun v'' s₃ h₃ => args_nil ⟨h₃.1 _ _ ho, h₃.2⟩) fun _ _ e => e) he'') fun _ _ e => e) he') fun _ _ e => e) he) he
set_option pp.maxSteps 600
set_option pp.deepTerms.threshold 6
set_option maxHeartbeats 4000000 in
theorem divmodPos_spec {z : Option Addr × Option Addr} {a b : Int} {ta tb : Tok} {Q : Value → Shared → Prop} (G : Gl mg mb (gh (tabs z) s.heap)) (H : Hd mg (gh (tabs z) s.heap)) (T : TabsIn z s.heap)
    (fit : Fit A 13) (h0 : 0 ≤ a) (hb : 0 < b) (hn : intBits b ≤ 2000) (hbits : intBits a ≤ 2 ^ 20) (hlen : places (intBits b) a ≤ 2 ^ 9)
    (hQ : ∀ r s' z', Sm s s' → Step (tabs z) s.heap s'.heap ((r, iTupI [a / b, a % b]) :: tabs z') → Q (.ref r) s') :
    wpAny (model PG w) A (call (.ref 56) [.int a ta, .int b tb]) Q E s := by
  have G₀ := G.keeps gh_of
  have hn1 : 1 ≤ intBits b := by unfold intBits; rw [if_neg (by simp; omega)]; omega
  have hbn : b < 2 ^ intBits b := lt_bits (Int.le_of_lt hb) (Nat.le_refl _)
  refine callDef (n := 12) (binds := [("a", .int a ta), ("b", .int b tb)]) G₀.f9 G₀.lim fit (fun _ _ => rfl) (by rfl) fun s₁ S₁ O₀ fit₁ => ?_
  have O₁ := O₀.begin T.at_ T.nodup
  -- n = b.bit_length()
  refine wpAny_execs_cons (sName (eBitLength (eLocal O₁ (v := .int b tb) (by rfl) ⟨b, tb, rfl, fun tn => ⟨_, _, _, O₁, fun s₂ S₂ O₂ => ?_⟩⟩)))
  generalize hN : intBits b = N at *
  -- a_digits = _int2digits(a, n)
  have G₂ := G.keeps O₂.keep
  refine wpAny_execs_cons (sName (eCall2 G₂ G.nm.int2digits G₂.f7 (eLocal O₂ (v := .int a ta) (by rfl) (eLocal O₂ (v := .int N tn) (by rfl) ⟨fun _ _ e => e, ?_⟩))))
  refine int2digits_spec (z := z) (G.keeps (O₂.keepGh (cs := []))) (H.keeps (O₂.keepGh (cs := []))) (O₂.tabsIn (cs := [])) (fit₁.le (by omega)) h0 (by omega) hn1 hbits hlen fun dl s₃ z₃ S₃ X₃ => ?_
  have O₃ := O₂.step (cs := []) X₃
  refine ⟨_, _, _, O₃, fun s₄ S₄ O₄ => ?_⟩
  -- r = 0
  refine wpAny_execs_cons (sName (wpAny_Constant_int ⟨_, _, _, O₄, fun s₅ S₅ O₅ => ?_⟩))
  -- q_digits = []
  refine wpAny_execs_cons (sName (List_ (args_nil (newListO O₅ (fun qd s₆ S₆ O₆ => ⟨_, _, _, O₆, fun s₇ S₇ O₇ => ?_⟩) (by decide)))))
  have S₇' : Sm s s₇ := S₁.trans (Sm.trans (Sm.trans ⟨rfl, rfl, rfl⟩ S₂) (S₃.trans (S₄.trans (Sm.trans (Sm.trans ⟨rfl, rfl, rfl⟩ S₅) (S₆.trans S₇)))))
  generalize hK : places N a = k at *
  have hdl : (i2d N k a).length = k := i2d_len ..
  have hdd := i2d_digit N k a
  have hda : d2i N (i2d N k a) = a := d2i_i2d N k a h0 (lt_bits h0 (by
    rw [← hK]; unfold places
    have h1 := Nat.div_add_mod (intBits a + N - 1) N
    have h2 := Nat.mod_lt (intBits a + N - 1) (show 0 < N by omega)
    omega))
  generalize hds : i2d N k a = ds at *
  have O₈ := O₇.turn (i := 0) (P' := iInts []) rfl (Heap.ExtBut.refl _ _) ((O₇.of (i := 0) rfl).ints .nil)
  replace O₈ : Own (gh (tabs z) s.heap) s₇.heap s.heap.objs.size _ ((qd, iInts []) :: (dl, iInts ds) :: tabs z₃) := O₈
  -- for a_digit in reversed(a_digits)
  refine wpAny_execs_cons (forRevZ (Z := Int × List Int) ds dl (fun _ y => (qd, iInts y.2.reverse) :: (dl, iInts ds) :: tabs z₃)
    (fun i y m => y.1 = d2i N (ds.drop (k - i)) % b ∧ d2i N y.2 = d2i N (ds.drop (k - i)) / b ∧ (∀ x ∈ y.2, digit N x) ∧ y.2.length = i ∧ m "n" = some (.int N tn) ∧ (∃ t, m "r" = some (.int y.1 t)) ∧ m "q_digits" = some (.ref qd) ∧ m "b" = some (.int b tb))
    (0, []) (h₀ := gh (tabs z) s.heap) (G.keeps O₈.keep) fit₁.handled ?_ ?_ ?_ ?_)
  · refine eLocal O₈ (v := .ref dl) (by rfl) ⟨_, rfl, Sm.refl _, O₈, ?_⟩
    have e : ds.drop (k - 0) = [] := List.drop_eq_nil_of_le (by omega)
    rw [e]
    exact ⟨by simp [d2i], by simp [d2i], by simp, rfl, by rfl, ⟨_, by rfl⟩, by rfl, by rfl⟩
  · intro i y m h O _
    exact O.of (i := 1) rfl
  · intro E' it i y t m₁ s₉ P hi S₉ ⟨j1, j2, j3, j4, j5, ⟨tr, j6⟩, j7, j8⟩ O₉
    generalize hd : ds.getD (ds.length - 1 - i) 0 = d at *
    have hdg : digit N d := hdd d (by rw [← hd]; simp [List.getD, show ds.length - 1 - i < ds.length by omega])
    have b5 : upd m₁ "a_digit" (.int d t) "n" = some (.int N tn) := (upd_ne (by decide)).trans j5
    have b6 : upd m₁ "a_digit" (.int d t) "r" = some (.int y.1 tr) := (upd_ne (by decide)).trans j6
    have b7 : upd m₁ "a_digit" (.int d t) "q_digits" = some (.ref qd) := (upd_ne (by decide)).trans j7
    have b8 : upd m₁ "a_digit" (.int d t) "b" = some (.int b tb) := (upd_ne (by decide)).trans j8
    obtain ⟨k1, k2, k3, k4, k5, k6⟩ := long_step (B := 2 ^ N) (d := d) hb j1 hdg.1 hdg.2
    have eD : d2i N (ds.drop (k - (i + 1))) = d + 2 ^ N * d2i N (ds.drop (k - i)) := by
      have : ds.drop (k - (i + 1)) = d :: ds.drop (k - i) := by
        rw [List.drop_eq_getElem_cons (show k - (i + 1) < ds.length by omega), show k - (i + 1) + 1 = k - i by omega]
        congr 1
        rw [← hd, show ds.length - 1 - i = k - (i + 1) by omega]
        simp [List.getD, show k - (i + 1) < ds.length by omega]
      rw [this, d2i]
    have G₉ := G.keeps O₉.keep
    have hy0 : 0 ≤ y.1 := j1 ▸ Int.emod_nonneg _ (Int.ne_of_gt hb)
    have hy1 : y.1 < 2 ^ N := Int.lt_trans (j1 ▸ Int.emod_lt_of_pos _ hb) hbn
    have hbB : b * 2 ^ N ≤ 2 ^ (N + N) := by
      rw [Int.pow_add]; exact Int.mul_le_mul_of_nonneg_right (Int.le_of_lt hbn) (Int.le_of_lt (two_pos N))
    -- q_digit, r = _div2n1n((r << n) + a_digit, b, n)
    refine wpAny_execs_cons (Assign_Tuple (eCall3 G₉ G.nm.div2n1n G₉.f5 (wpAny_BinOp (wpAny_BinOp (eLocal O₉ b6 (eLocal O₉ b5 (lshift_int (by omega) (by have := bits_of hy0 hy1; omega) (eLocal O₉ upd_same (add_int ?_)))))))))
    refine eLocal O₉ b8 (eLocal O₉ b5 ⟨fun _ _ e => e, ?_⟩)
    rw [Int.toNat_natCast]
    refine div2n1n_spec G₉ (fit₁.le (by omega)) hb hbn (by omega) (by have := bits_of k5 (Int.lt_of_lt_of_le k6 hbB); omega) fun tp s₁₀ S₁₀ K₁₀ htp hX => ?_
    rw [Int.fdiv_eq_ediv_of_nonneg _ (Int.le_of_lt hb), Int.fmod_eq_emod_of_nonneg _ (Int.le_of_lt hb)] at hX
    have O₁₀ := O₉.add K₁₀ htp hX
    refine unpackTup fit₁.handled O₁₀ (O₁₀.of (i := 0) rfl) fun tq tr' s₁₁ S₁₁ O₁₁ => ?_
    refine assignInOrder_cons (assign_Name (sLocal O₁₁ fun s₁₂ S₁₂ O₁₂ => ?_))
    refine assignInOrder_cons (assign_Name (sLocal O₁₂ fun s₁₃ S₁₃ O₁₃ => assignInOrder_nil ?_))
    have c1 : upd (upd (upd m₁ "a_digit" (.int d t)) "q_digit" (.int ((y.1 * 2 ^ N + d) / b) tq)) "r" (.int ((y.1 * 2 ^ N + d) % b) tr') "q_digit" = some (.int ((y.1 * 2 ^ N + d) / b) tq) := (upd_ne (by decide)).trans upd_same
    have c2 : upd (upd (upd m₁ "a_digit" (.int d t)) "q_digit" (.int ((y.1 * 2 ^ N + d) / b) tq)) "r" (.int ((y.1 * 2 ^ N + d) % b) tr') "r" = some (.int ((y.1 * 2 ^ N + d) % b) tr') := upd_same
    have c3 : upd (upd (upd m₁ "a_digit" (.int d t)) "q_digit" (.int ((y.1 * 2 ^ N + d) / b) tq)) "r" (.int ((y.1 * 2 ^ N + d) % b) tr') "n" = some (.int N tn) := (upd_ne (by decide)).trans ((upd_ne (by decide)).trans b5)
    have c4 : upd (upd (upd m₁ "a_digit" (.int d t)) "q_digit" (.int ((y.1 * 2 ^ N + d) / b) tq)) "r" (.int ((y.1 * 2 ^ N + d) % b) tr') "q_digits" = some (.ref qd) := (upd_ne (by decide)).trans ((upd_ne (by decide)).trans b7)
    have c5 : upd (upd (upd m₁ "a_digit" (.int d t)) "q_digit" (.int ((y.1 * 2 ^ N + d) / b) tq)) "r" (.int ((y.1 * 2 ^ N + d) % b) tr') "b" = some (.int b tb) := (upd_ne (by decide)).trans ((upd_ne (by decide)).trans b8)
    generalize upd (upd (upd m₁ "a_digit" (.int d t)) "q_digit" (.int ((y.1 * 2 ^ N + d) / b) tq)) "r" (.int ((y.1 * 2 ^ N + d) % b) tr') = m₂ at *
    -- q_digits.append(q_digit)
    refine wpAny_execs_cons (wpAny_Expr_any (eListMeth F.slot_list_append F.type_list_append (eLocal O₁₃ c4 ?_)))
    obtain ⟨vs, hv, X⟩ := (O₁₃.of (i := 2) rfl).vals
    refine ⟨_, _, rfl, X, ?_⟩
    refine callWith_method1 (args_cons (eLocal O₁₃ c1 (args_nil ?_)))
    refine appendInt (i := 2) O₁₃ rfl (by rw [List.length_reverse]; omega) fun s₁₄ S₁₄ O₁₄ => wpAny_execs_nil ?_
    have O₁₅ := O₁₄.tail
    have er : y.2.reverse ++ [(y.1 * 2 ^ N + d) / b] = ((y.1 * 2 ^ N + d) / b :: y.2).reverse := by rw [List.reverse_cons]
    rw [er] at O₁₅
    refine ⟨.inl rfl, Sm.trans (Sm.trans ⟨rfl, rfl, rfl⟩ S₁₀) (S₁₁.trans (S₁₂.trans (S₁₃.trans S₁₄))), ((y.1 * 2 ^ N + d) % b, (y.1 * 2 ^ N + d) / b :: y.2), m₂, ⟨?_, ?_, ?_, ?_, c3, ⟨_, c2⟩, c4, c5⟩, O₁₅⟩
    · rw [eD, k1]
    · rw [eD, k2, d2i, j2]
    · intro x hx
      rcases List.mem_cons.mp hx with rfl | hx
      · exact ⟨k3, k4⟩
      · exact j3 x hx
    · rw [List.length_cons, j4]
  · intro m₁ y s₉ S₉ ⟨j1, j2, j3, j4, j5, ⟨tr, j6⟩, j7, j8⟩ O₉
    rw [hdl, Nat.sub_self, List.drop_zero, hda] at j1 j2
    -- q_digits.reverse()
    refine wpAny_execs_cons (wpAny_Expr_any (eListMeth F.slot_list_reverse F.type_list_reverse (eLocal O₉ j7 ?_)))
    obtain ⟨vs, hv, X⟩ := (O₉.of (i := 0) rfl).vals
    refine ⟨_, _, rfl, X, ?_⟩
    refine reverseInts (i := 0) O₉ rfl (by rw [List.length_reverse]; omega) fun s₁₀ S₁₀ O₁₀ => ?_
    rw [List.reverse_reverse] at O₁₀
    replace O₁₀ : Own (gh (tabs z) s.heap) s₁₀.heap s.heap.objs.size m₁ ([(qd, iInts y.2), (dl, iInts ds)] ++ tabs z₃) := O₁₀
    -- q = _digits2int(q_digits, n)
    have G₁₀ := G.keeps O₁₀.keep
    refine wpAny_execs_cons (sName (eCall2 G₁₀ G.nm.digits2int G₁₀.f8 (eLocal O₁₀ j7 (eLocal O₁₀ j5 ⟨fun _ _ e => e, ?_⟩))))
    refine digits2int_spec (z := z₃) (G.keeps O₁₀.keepGh) (H.keeps O₁₀.keepGh) O₁₀.tabsIn (fit₁.le (by omega)) (O₁₀.hasGh (.head _)) j3 (by omega) (by omega) fun tq s₁₁ z₄ S₁₁ X₁₁ => ?_
    refine ⟨_, _, _, O₁₀.step X₁₁, fun s₁₂ S₁₂ O₁₂ => ?_⟩
    -- return (q, r)
    refine wpAny_execs_cons (wpAny_Return_some (Tuple_ (args_cons (eLocal O₁₂ upd_same (args_cons (eLocal O₁₂ ((upd_ne (by decide)).trans j6) (args_nil ?_)))))))
    rw [j2, j1]
    refine newTupleO O₁₂ (.cons _ _ (.cons _ _ .nil)) (Nat.le_of_ble_eq_true rfl) fun rt s₁₃ S₁₃ O₁₃ => ?_
    exact hQ rt s₁₃ z₄ (S₇'.trans (S₉.trans (S₁₀.trans (S₁₁.trans (S₁₂.trans S₁₃))))) (.of (L := s.heap.objs.size) (O₁₃.sub (.cons_cons _ (.cons _ (.cons _ (List.Sublist.refl _))))))
end Mine
namespace Mine
open Builtin.Int (intBits)
variable {w : World} {A : Around} {E : Value → Shared → Prop} {s : Shared} {mg mb : Str → Option Value}
set_option maxHeartbeats 1000000 in
theorem intDivmod_spec {z : Option Addr × Option Addr} {a b : Int} {ta tb : Tok} {Q : Value → Shared → Prop} (G : Gl mg mb (gh (tabs z) s.heap)) (H : Hd mg (gh (tabs z) s.heap)) (T : TabsIn z s.heap)
    (fit : Fit A 14) (h0 : 0 ≤ a) (hb : 0 < b) (hn : intBits b ≤ 2000) (hbits : intBits a ≤ 2 ^ 20) (hlen : places (intBits b) a ≤ 2 ^ 9)
    (hQ : ∀ r s' z', Sm s s' → Step (tabs z) s.heap s'.heap ((r, iTupI [a / b, a % b]) :: tabs z') → Q (.ref r) s') :
    wpAny (model PG w) A (call (.ref 63) [.int a ta, .int b tb]) Q E s := by
  have G₀ := G.keeps gh_of
  refine callDef (n := 13) (binds := [("a", .int a ta), ("b", .int b tb)]) G₀.f10 G₀.lim fit (fun _ _ => rfl) (by rfl) fun s₁ S₁ O₀ fit₁ => ?_
  have O₁ := O₀.begin T.at_ T.nodup
  refine wpAny_execs_cons (wpAny_If (wpAny_isTrue_Compare1 (eLocal O₁ (v := .int b tb) (by rfl) (wpAny_Constant_int (eq_int (wpAny_truthy_bool ?_))))))
  rw [if_neg (by simp; omega)]
  refine wpAny_execs_cons (wpAny_If (wpAny_isTrue_Compare1 (eLocal O₁ (v := .int b tb) (by rfl) (wpAny_Constant_int (lt_int (wpAny_truthy_bool ?_))))))
  rw [if_neg (by simp; omega)]
  refine wpAny_execs_cons (wpAny_If (wpAny_isTrue_Compare1 (eLocal O₁ (v := .int a ta) (by rfl) (wpAny_Constant_int (lt_int (wpAny_truthy_bool ?_))))))
  rw [if_neg (by simp; omega)]
  refine atState (s₀ := s₁) (by exact ⟨rfl, rfl, rfl⟩) rfl fun s₂ S₂ H₂ => ?_
  replace O₁ := O₁.eqH H₂
  have G₁ := G.keeps O₁.keep
  refine wpAny_execs_cons (wpAny_Return_some (eCall2 G₁ G.nm.divmodPos G₁.f9 (eLocal O₁ (v := .int a ta) (by rfl) (eLocal O₁ (v := .int b tb) (by rfl) ⟨fun _ _ e => e, ?_⟩))))
  refine divmodPos_spec (z := z) (G.keeps (O₁.keepGh (cs := []))) (H.keeps (O₁.keepGh (cs := []))) (O₁.tabsIn (cs := [])) fit₁ h0 hb hn hbits hlen fun r s₃ z₃ S₃ X₃ => ?_
  exact hQ r s₃ z₃ (S₁.trans (S₂.trans S₃)) (.of (L := s.heap.objs.size) (O₁.step (cs := []) X₃))
end Mine
namespace Mine
theorem below_go (xs : Array Nat) (j i : Nat) (h1 : ∀ m, m < i → xs.getD m j < j) (h2 : ∀ m, i ≤ m → m < xs.size → j ≤ xs.getD m j) :
    ∀ fuel lo hi, lo ≤ i → i ≤ hi → hi ≤ xs.size → hi - lo ≤ fuel → SetTable.below.go xs j fuel lo hi = i
  | 0, lo, hi, a, b, c, d => by
    show lo = i
    omega
  | fuel + 1, lo, hi, a, b, c, d => by
    show (if lo < hi then (if xs.getD ((lo + hi) / 2) j < j then SetTable.below.go xs j fuel ((lo + hi) / 2 + 1) hi else SetTable.below.go xs j fuel lo ((lo + hi) / 2)) else lo) = i
    split
    · rename_i hlt
      split
      · rename_i hm
        have : (lo + hi) / 2 < i := by
          rcases Nat.lt_or_ge ((lo + hi) / 2) i with h | h
          · exact h
          · have := h2 _ h (by omega); omega
        exact below_go xs j i h1 h2 fuel _ _ (by omega) b c (by omega)
      · rename_i hm
        have : i ≤ (lo + hi) / 2 := by
          rcases Nat.lt_or_ge ((lo + hi) / 2) i with h | h
          · exact absurd (h1 _ h) hm
          · exact h
        exact below_go xs j i h1 h2 fuel _ _ a this (by omega) (by omega)
    · omega
theorem below_eq (xs : Array Nat) (j i : Nat) (hi : i ≤ xs.size) (h1 : ∀ m, m < i → xs.getD m j < j) (h2 : ∀ m, i ≤ m → m < xs.size → j ≤ xs.getD m j) : SetTable.below xs j = i :=
  below_go xs j i h1 h2 _ _ _ (Nat.zero_le _) hi (Nat.le_refl _) (by omega)

def home (k : Int) : Nat := SetTable.bits k % 8
def tabOf (bt : Bool) (ks : List Int) : SetTable := { mask := 7, place := (ks.map home).toArray, dummies := #[], finger := 0, led := !bt, moves := 0, plain := true }
def ents (vs : List Value) (ks : List Int) : Array (Int × Value) := (ks.zip vs).toArray

theorem below_end (bt : Bool) (ks : List Int) (j : Nat) (h : ∀ k ∈ ks, home k < j) : SetTable.below (tabOf bt ks).place j = ks.length := by
  refine below_eq _ _ _ (by simp [tabOf]) (fun m hm => ?_) (fun m h1 h2 => ?_)
  · simp only [tabOf, Array.getD_eq_getD_getElem?, List.getElem?_toArray, List.getElem?_map, List.getElem?_eq_getElem hm, Option.map_some, Option.getD_some]
    exact h _ (List.getElem_mem hm)
  · simp [tabOf] at h2; omega

theorem home_lt (k : Int) : home k < 8 := Nat.mod_lt _ (by decide)

theorem free_end (bt : Bool) (ks : List Int) (k : Int) (h : ∀ x ∈ ks, home x < home k) : (tabOf bt ks).freeSlot k = some (home k, false) := by
  have hb := below_end bt ks (home k) h
  have hs : (tabOf bt ks).slot (home k) = .empty := by
    unfold SetTable.slot
    rw [hb]
    have : (tabOf bt ks).place[ks.length]? = none := by simp [tabOf]
    dsimp only
    rw [this]
    rfl
  unfold SetTable.freeSlot SetTable.probe
  show (match SetTable.probe.go (tabOf bt ks) (fun _ => k + 1) k (219 + 1) ((tabOf bt ks).probeStart k) with | some (.empty j dummy) => some (dummy.getD j, dummy.isSome) | _ => none) = _
  unfold SetTable.probe.go
  have hp : ((tabOf bt ks).probeStart k).j = home k := rfl
  rw [hp, hs]
  rfl

theorem layNew_end (bt : Bool) (ks : List Int) (vs : List Value) (k : Int) (v : Value) (hl : vs.length = ks.length) (hn : ks.length ≤ 5) (h : ∀ x ∈ ks, home x < home k) :
    layNew (tabOf bt ks) (ents vs ks) k v = (ents (vs ++ [v]) (ks ++ [k]), tabOf bt (ks ++ [k]), false, false) := by
  unfold layNew
  rw [free_end bt ks k h]
  have hb := below_end bt ks (home k) h
  have hput : (tabOf bt ks).put (home k) = (tabOf bt (ks ++ [k]), ks.length) := by
    unfold SetTable.put
    rw [hb]
    have h1 : SetTable.insertAt (tabOf bt ks).place ks.length (home k) = (tabOf bt (ks ++ [k])).place := by
      unfold SetTable.insertAt
      simp [tabOf, List.take_of_length_le]
    have h2 : SetTable.has (tabOf bt ks).dummies (home k) = false := rfl
    simp only [h1, h2, Bool.false_eq_true, if_false]
    rfl
  show (match (tabOf bt ks).put (home k) with | (t', p) => (SetTable.insertAt (ents vs ks) p (k, v), t'.orStandIn (SetTable.insertAt (ents vs ks) p (k, v)).size, false, !t'.fits (SetTable.insertAt (ents vs ks) p (k, v)).size)) = _
  rw [hput]
  have h3 : SetTable.insertAt (ents vs ks) ks.length (k, v) = ents (vs ++ [v]) (ks ++ [k]) := by
    unfold SetTable.insertAt ents
    rw [List.zip_append hl.symm]
    have : (ks.zip vs).length = ks.length := by simp [hl]
    simp [hl, List.take_of_length_le (Nat.le_of_eq this), List.drop_eq_nil_of_le (Nat.le_of_eq this)]
  have hf : (tabOf bt (ks ++ [k])).fits (ents (vs ++ [v]) (ks ++ [k])).size = true := by
    unfold SetTable.fits SetTable.fill
    simp [tabOf, ents, hl]
    omega
  dsimp only
  rw [h3, hf]
  unfold SetTable.orStandIn
  rw [hf]
  rfl
end Mine
namespace Mine
def setObj (bt : Bool) (ks : List Int) (vs : List Value) (ep : Nat) : Obj := { cls := .type "set", data := .set (ents vs ks) ep (tabOf bt ks) }

theorem ents_elems {vs : List Value} {ks : List Int} (w : World) (hi : IntsAre vs ks) (hk : ∀ x ∈ ks, hashInt x = x) : ElemsOf (intKind PG w) (ents vs ks).toList := by
  intro e he
  have he' : e ∈ ks.zip vs := by simpa [ents] using he
  induction hi with
  | nil => simp at he'
  | cons n t hi ih =>
    rw [List.zip_cons_cons] at he'
    rcases List.mem_cons.mp he' with rfl | he'
    · exact ⟨⟨n, intKind_is _ _ _ _, (hk n (.head _)).symm⟩, rfl⟩
    · exact ih (fun x hx => hk x (.tail _ hx)) (by simpa [ents] using he') he'
theorem ents_size {vs : List Value} {ks : List Int} (hi : IntsAre vs ks) : (ents vs ks).size = ks.length := by
  have := hi.length
  simp [ents, this]
theorem tab_fits {bt : Bool} {vs : List Value} {ks : List Int} (hi : IntsAre vs ks) (hn : ks.length ≤ 7) : (tabOf bt ks).fits (ents vs ks).size = true := by
  rw [ents_size hi]
  unfold SetTable.fits SetTable.fill
  simp [tabOf]
  exact hn
theorem ents_find {vs : List Value} {ks : List Int} (w : World) (hi : IntsAre vs ks) (k : Int) : ((ents vs ks).toList.findIdx? fun e => (intKind PG w).is k e.2) = ks.findIdx? (· == k) := by
  have : (ents vs ks).toList = ks.zip vs := by simp [ents]
  rw [this]
  induction hi with
  | nil => rfl
  | cons n t hi ih =>
    rw [List.zip_cons_cons, List.findIdx?_cons, List.findIdx?_cons, ih (by simp [ents])]
    have : (intKind PG w).is k (Value.int n t) = (n == k) := by
      show Value.isInt k (.int n t) = _
      simp [Value.isInt]
    rw [this]

section
variable {w : World} {A : Around} {E : Value → Shared → Prop} {s : Shared}
theorem setAdd_old {a : Addr} {bt : Bool} {ks : List Int} {vs : List Value} {ep : Nat} {k : Int} {t : Tok} {Q : Bool → Shared → Prop} (ho : s.heap.get? a = some (setObj bt ks vs ep)) (hi : IntsAre vs ks)
    (hks : ∀ x ∈ ks, hashInt x = x) (hn : ks.length ≤ 3) (hm : k ∈ ks) (h : Q false { s with toks := s.toks + 1 }) : wpAny (model PG w) A (setAdd a (.int k t)) Q E s := by
  have hf := tab_fits (bt := bt) hi (by omega)
  have hb : (ents vs ks).size < scanBound := by rw [ents_size hi]; unfold scanBound; omega
  unfold setAdd
  refine wpAny_holding (wpAny_bind ((intKind PG w).pyHash (k := k) (intKind_is _ _ _ _) ?_))
  unfold setAddHashed setAddHashedIn
  refine wpAny_holding (wpAny_bind (wpAny_setState_of (o := setObj bt ks vs ep) ho rfl hf ?_))
  dsimp only
  rw [byScan_of (knd := intKind PG w) rfl hb (ents_elems w hi hks)]
  simp only [↓reduceIte]
  unfold setAddByScan
  refine wpAny_bind (wpAny_bind (wpAny_rule (wpAny_bind (wpAny_setScan_of (knd := intKind PG w) (k := k) (o := setObj bt ks vs ep) (intKind_is _ _ _ _) ho rfl hf (ents_elems w hi hks) ?_))))
  rw [ents_find w hi]
  cases hr : ks.findIdx? (· == k) with
  | none => exact absurd (List.findIdx?_eq_none_iff.mp hr k hm) (by simp)
  | some j => exact wpAny_pure (wpAny_pure h)

theorem setAdd_new {a : Addr} {bt : Bool} {ks : List Int} {vs : List Value} {ep : Nat} {k : Int} {t : Tok} {Q : Bool → Shared → Prop} (ho : s.heap.get? a = some (setObj bt ks vs ep)) (hi : IntsAre vs ks)
    (hks : ∀ x ∈ ks, hashInt x = x) (hk : hashInt k = k) (hn : ks.length ≤ 3) (hlt : ∀ x ∈ ks, home x < home k)
    (h : ∀ h', h'.get? a = some (setObj bt (ks ++ [k]) (vs ++ [.int k t]) (ep + 1)) → Heap.SameBut a s.heap h' → Q true { s with heap := h', toks := s.toks + 1 }) : wpAny (model PG w) A (setAdd a (.int k t)) Q E s := by
  have hf := tab_fits (bt := bt) hi (by omega)
  have hb : (ents vs ks).size < scanBound := by rw [ents_size hi]; unfold scanBound; omega
  have hm : k ∉ ks := fun hm => Nat.lt_irrefl _ (hlt k hm)
  unfold setAdd
  refine wpAny_holding (wpAny_bind ((intKind PG w).pyHash (k := k) (intKind_is _ _ _ _) ?_))
  unfold setAddHashed setAddHashedIn
  refine wpAny_holding (wpAny_bind (wpAny_setState_of (o := setObj bt ks vs ep) ho rfl hf ?_))
  dsimp only
  rw [byScan_of (knd := intKind PG w) rfl hb (ents_elems w hi hks)]
  simp only [↓reduceIte]
  unfold setAddByScan
  refine wpAny_bind (wpAny_bind (wpAny_rule (wpAny_bind (wpAny_setScan_of (knd := intKind PG w) (k := k) (o := setObj bt ks vs ep) (intKind_is _ _ _ _) ho rfl hf (ents_elems w hi hks) ?_))))
  rw [ents_find w hi]
  have hr : ks.findIdx? (· == k) = none := by
    rw [List.findIdx?_eq_none_iff]
    intro x hx
    simp only [beq_eq_false_iff_ne, ne_eq]
    rintro rfl; exact hm hx
  rw [hr]
  dsimp only
  have hl := hi.length
  have hL := layNew_end bt ks vs k (.int k t) hl (by omega) hlt
  have hh : (intKind PG w).hash k = k := hk
  simp only [hh, hL]
  refine wpAny_bind (show wpAny _ _ (pure ()) _ _ _ from wpAny_pure ?_)
  rw [show (tabOf bt (ks ++ [k])).plain = true from rfl, if_pos rfl, hashByValue_scannable 8 (x := .int k t) rfl]
  refine wpAny_bind (wpAny_pure ?_)
  rw [show plainKind (.int k t) = true from rfl, if_pos rfl]
  have hi' : IntsAre (vs ++ [.int k t]) (ks ++ [k]) := hi.append (.cons k t .nil)
  have hsz : (ents (vs ++ [.int k t]) (ks ++ [k])).size ≤ sizeLine := by rw [ents_size hi', sizeLine_eq]; simp; omega
  refine wpAny_bind (wpAny_storeSet_of (o := setObj bt ks vs ep) (es := ents vs ks) (ep := ep) (t := tabOf bt ks) ho rfl ?_ hsz)
  have htf : (tabOf bt (ks ++ [k])).tooFull = false := by
    unfold SetTable.tooFull SetTable.fill
    simp [tabOf]; omega
  rw [htf]
  refine wpAny_pure (wpAny_pure (h _ ?_ (Heap.SameBut.update ..)))
  rw [Heap.get?_update_self _ ho (by rw [putSet_of _ _ rfl]; rfl), putSet_of _ _ rfl]
  rfl
end
end Mine
namespace Mine
/-- the keys of a list in their order are such that the set of them lays them in it -/
def Laid (val : Nat → Int) (n : Nat) : Prop := ∀ i, i < n → hashInt (val i) = val i ∧ (val i ∈ firstMet val i ∨ ((firstMet val i).length ≤ 3 ∧ ∀ x ∈ firstMet val i, home x < home (val i)))
theorem firstMet_mem {val : Nat → Int} : ∀ i x, x ∈ firstMet val i → ∃ j, j < i ∧ val j = x
  | 0, x, h => by simp [firstMet_zero] at h
  | i + 1, x, h => by
    rw [firstMet_succ] at h
    unfold step_dedup at h
    split at h
    · obtain ⟨j, hj, e⟩ := firstMet_mem i x h; exact ⟨j, by omega, e⟩
    · rcases List.mem_append.mp h with h | h
      · obtain ⟨j, hj, e⟩ := firstMet_mem i x h; exact ⟨j, by omega, e⟩
      · exact ⟨i, by omega, (List.mem_singleton.mp h).symm⟩
section
variable {w : World}
theorem loopSet {S l it : Addr} {bt : Bool} {items : Array Value} {n : Nat} {val : Nat → Int} {A : Around} {R : Result → Shared → Prop} (hh : A.in1.handled = none) (hn : items.size = n) (hval : ∀ i v, items[i]? = some v → ∃ t, v = Value.int (val i) t) (hlaid : Laid val n) (hll : ∀ i, i ≤ n → (firstMet val i).length ≤ 3) (hSit : S ≠ it) (hlit : l ≠ it) (hlS : l ≠ S) :
    ∀ (k i : Nat) (s : Shared) (vs : List Value) (ep : Nat), n - i = k → i ≤ n → s.heap.IsListIter it l i → s.heap.IsList l items → s.heap.get? S = some (setObj bt (firstMet val i) vs ep) → IntsAre vs (firstMet val i) →
      (∀ s' vs' ep', Sm s s' → (∀ b o, b ≠ S → b ≠ it → s.heap.get? b = some o → s'.heap.get? b = some o) → s'.heap.get? S = some (setObj bt (firstMet val n) vs' ep') → IntsAre vs' (firstMet val n) → R (.ok (.ret .none)) s') →
      codeAny (model PG w) A (.builtin "set.update.loop" ⟨[.ref S, .ref it], []⟩) R s := by
  intro k
  induction k with
  | zero =>
    intro i s vs ep hk hi hit hl hS hv hR
    have hin : i = n := by omega
    subst hin
    refine codeAny_builtin F.entry_set_update_loop ?_
    rw [Around.under_plainId F.plain_set_update_loop _]
    show wpAny _ A.in1 (pyNext (.ref it) >>= _) _ _ s
    refine wpAny_bind (wpAny_pyNext_list_end hh hit hl (by simp [hn]) fun h₁ he₁ => ?_)
    show wpAny _ A.in1 (ret Value.none) _ _ _
    exact wpAny_pure (hR _ vs ep ⟨rfl, rfl, rfl⟩ (fun b o _ hb e => he₁ b o hb e) (he₁ _ _ hSit hS) hv)
  | succ k ih =>
    intro i s vs ep hk hi hit hl hS hv hR
    have hlt : i < n := by omega
    have hx : items[i]? = some items[i] := by simp [hn, hlt]
    obtain ⟨t, ht⟩ := hval i _ hx
    obtain ⟨hk1, hk2⟩ := hlaid i hlt
    refine codeAny_builtin F.entry_set_update_loop ?_
    rw [Around.under_plainId F.plain_set_update_loop _]
    show wpAny _ A.in1 (pyNext (.ref it) >>= _) _ _ s
    refine wpAny_bind (wpAny_pyNext_list_item hit hl hx fun h₁ hit₁ hs₁ => ?_)
    rw [ht]
    show wpAny _ A.in1 (holding [Value.int (val i) t] (setAdd S (.int (val i) t)) >>= _) _ _ _
    refine wpAny_bind (wpAny_holding ?_)
    have hS₁ : h₁.get? S = some (setObj bt (firstMet val i) vs ep) := hs₁.extBut _ _ hSit hS
    have hl₁ : h₁.IsList l items := hl.extBut hs₁.extBut hlit
    have hks : ∀ x ∈ firstMet val i, hashInt x = x := fun x hx => by
      obtain ⟨j, hj, rfl⟩ := firstMet_mem i x hx
      exact (hlaid j (by omega)).1
    by_cases hm : val i ∈ firstMet val i
    · refine setAdd_old (s := { s with heap := h₁ }) hS₁ hv hks (hll i hi) hm ?_
      have e : firstMet val (i + 1) = firstMet val i := by
        rw [firstMet_succ]; unfold step_dedup; rw [if_pos (by simpa using hm)]
      refine wpAny_pure ⟨plainId_quiet F.plain_set_update_loop _, ih (i + 1) _ vs ep (by omega) hlt hit₁ hl₁ (by rw [e]; exact hS₁) (by rw [e]; exact hv) fun s' vs' ep' S' K' X' V' => ?_⟩
      exact hR s' vs' ep' (Sm.trans ⟨rfl, rfl, rfl⟩ S') (fun b o h1 h2 q => K' b o h1 h2 (hs₁.extBut b o h2 q)) X' V'
    · obtain ⟨h3, h4⟩ := hk2.resolve_left hm
      refine setAdd_new (s := { s with heap := h₁ }) hS₁ hv hks hk1 h3 h4 fun h₂ hS₂ hsb => ?_
      have e : firstMet val (i + 1) = firstMet val i ++ [val i] := by
        rw [firstMet_succ]; unfold step_dedup; rw [if_neg (by simpa using hm)]
      refine wpAny_pure ⟨plainId_quiet F.plain_set_update_loop _, ih (i + 1) _ (vs ++ [.int (val i) t]) (ep + 1) (by omega) hlt ?_ (hl₁.extBut hsb.extBut hlS) (by rw [e]; exact hS₂) (by rw [e]; exact hv.append (.cons _ t .nil)) fun s' vs' ep' S' K' X' V' => ?_⟩
      · obtain ⟨o, ho, r⟩ := hit₁
        exact ⟨o, hsb.extBut _ _ (Ne.symm hSit) ho, r⟩
      · exact hR s' vs' ep' (Sm.trans ⟨rfl, rfl, rfl⟩ S') (fun b o h1 h2 q => K' b o h1 h2 (hsb.extBut b o h1 (hs₁.extBut b o h2 q))) X' V'

abbrev byText (w : World) : Bool := w.params.followText "set-order"
variable {A : Around} {E : Value → Shared → Prop} {s : Shared}
theorem newSetCode (a : Value) {Q₁ : Value → Shared → Prop}
    (h : Q₁ (.ref s.heap.objs.size) { s with heap := s.heap.push (setObj (byText w) [] [] 0) }) :
    codeAny (model PG w) A (.call (.builtin "set.__new__") ⟨[.type "set", a], []⟩) (wants Q₁ E) s := by
  refine codeAny_of_tree ?_
  show wpAny _ A.in1 (do checkBuiltinCall "set.__new__" ⟨[.type "set", a], []⟩; again (.builtin "set.__new__" ⟨[.type "set", a], []⟩)) _ _ s
  refine wpAny_bind (wpAny_of_eq (F.newCall_set_1 a) (wpAny_pure ⟨plainId_quiet F.plain_set_new _, codeAny_builtin F.entry_set_new ?_⟩))
  rw [Around.under_plainId F.plain_set_new _]
  unfold Builtin.«set.__new__» Builtin.Frozenset.newClass
  have hsub := sub_set_self
  obtain ⟨hp, g, d, tk, os⟩ := s
  dsimp only
  wp_walk
  refine wpAny_askSetting (wpAny_pure ?_)
  dsimp only
  simp only [newObj]
  refine wpAny_bind (wpAny_alloc (wpAny_pure ?_))
  exact wpAny_pure h
end
end Mine
namespace Mine
variable {w : World} {A : Around} {E : Value → Shared → Prop} {s : Shared}
set_option maxHeartbeats 3200000 in
theorem callSet {l : Addr} {items : Array Value} {ns : List Int} {Q : Value → Shared → Prop} (hh : A.handled = none) (hl : s.heap.IsList l items) (hi : IntsAre items.toList ns)
    (hlaid : Laid (fun i => ns.getD i 0) ns.length) (hll : ∀ i, i ≤ ns.length → (firstMet (fun i => ns.getD i 0) i).length ≤ 3)
    (h : ∀ s' vs ep, Sm s s' → Keeps s.heap s'.heap → s'.heap.get? s.heap.objs.size = some (setObj (byText w) (firstMet (fun i => ns.getD i 0) ns.length) vs ep) → IntsAre vs (firstMet (fun i => ns.getD i 0) ns.length) → Q (.ref s.heap.objs.size) s') :
    wpAny (model PG w) A (call (.type "set") [.ref l]) Q E s := by
  obtain ⟨c, tl, hmro⟩ := F.called_set.mro
  have hmade := F.called_set.made
  have hsub := F.called_set.sub
  refine wpAny_call (codeAny_of_tree ?_)
  show wpAny _ _ (callAny (.type "set") _) _ _ _
  refine wpAny_pure ⟨Code.quiet_builtin _ (by decide +kernel), codeAny_builtin F.entry_type_call ?_⟩
  rw [Around.under_plain (weight_type_call_type "set" [.ref l] []) rfl]
  have h1 := F.called_set.notType
  have h2 := F.called_set.canCreate
  have hct := F.typeCall_set_1 (.ref l)
  repeat (any_goals (first | assumption | wp_step))
  refine codeAny_mono (newSetCode (w := w) (.ref l) (E := E) (Q₁ := fun obj s₁ => obj = .ref s.heap.objs.size ∧ s₁ = { s with heap := s.heap.push (setObj (byText w) [] [] 0) }) ⟨rfl, rfl⟩) fun r s₁ hr => ?_
  cases r with
  | error e => exact hr
  | ok fl =>
    cases fl with
    | ret obj =>
      obtain ⟨rfl, rfl⟩ := hr
      have hS : (s.heap.push (setObj (byText w) [] [] 0)).get? s.heap.objs.size = some (setObj (byText w) [] [] 0) := Heap.get?_push_size _ rfl
      have hT : Shared.TypeIs { s with heap := s.heap.push (setObj (byText w) [] [] 0) } (.ref s.heap.objs.size) "set" := ⟨_, hS, rfl⟩
      have hli := F.called_set.init.lookup
      have hbi := F.called_set.init.bind (.ref s.heap.objs.size)
      repeat (any_goals (first | assumption | wp_step))
      refine codeAny_mono (codeAny_call_builtin (R := wants (fun r s₂ => r = .none ∧ Q (.ref s.heap.objs.size) s₂) E) F.called_set.init.plain F.entry_set_init (check_set_init_1 hT ?_)) fun r₂ s₂ hr₂ => ?_
      · obtain ⟨ol, hol, hcl, nl, hdl⟩ := id hl
        obtain ⟨ocls, odict, odata, oslots⟩ := ol
        simp only at hcl hdl
        subst hcl; subst hdl
        have hol' : (s.heap.push (setObj (byText w) [] [] 0)).get? l = some { cls := .type "list", dict := odict, data := .seq items nl, slots := oslots } := Heap.get?_push_of_some _ hol
        have hsls := F.sub_list_set
        have hslf := F.sub_list_frozenset
        have hne : (Value.type "list" == Value.type "dict") = false := by decide
        have hl1 : (s.heap.push (setObj (byText w) [] [] 0)).IsList l items := ⟨_, hol', rfl, nl, rfl⟩
        unfold Builtin.«set.__init__» noKeywords Builtin.Frozenset.updateFrom
        generalize hPI : pyIter = PI
        wp_walk
        subst hPI
        refine wpAny_pyIter_list hl1 ?_
        refine wpAny_bind (wpAny_runValue ?_)
        have hlS : l < s.heap.objs.size := Heap.lt_size hol
        have hh3 : A.in1.in1.in1.handled = none := by simp [hh]
        have hsz : items.size = ns.length := by rw [← hi.length, Array.length_toList]
        have hit : (s.heap.push (setObj (byText w) [] [] 0)).objs.size = s.heap.objs.size + 1 := Heap.size_push ..
        refine loopSet (val := fun i => ns.getD i 0) (items := items) (n := ns.length) hh3 hsz (fun i v hv => PyProof.Rows.IntsAre.int_at hi i v (by rw [Array.getElem?_toList]; exact hv)) hlaid hll
          (by rw [hit]; exact Nat.ne_of_lt (Nat.lt_succ_self _)) (by rw [hit]; exact Nat.ne_of_lt (Nat.lt_succ_of_lt hlS)) (Nat.ne_of_lt hlS)
          ns.length 0 _ [] 0 (by omega) (Nat.zero_le _) ⟨_, Heap.get?_push_size _ rfl, rfl, rfl⟩ (hl1.push _) (Heap.get?_push_of_some _ hS) .nil fun s' vs' ep' S' K' X' V' => ?_
        refine wpAny_pure ?_
        show wpAny _ _ (ret Value.none) _ _ _
        refine wpAny_pure ⟨rfl, h s' vs' ep' (Sm.trans ⟨rfl, rfl, rfl⟩ S') (fun b o e => ?_) X' V'⟩
        refine K' b o (Nat.ne_of_lt (Heap.lt_size e)) (by rw [hit]; exact Nat.ne_of_lt (Nat.lt_succ_of_lt (Heap.lt_size e))) (Heap.get?_push_of_some _ (Heap.get?_push_of_some _ e))
      · cases r₂ with
        | error e => exact hr₂
        | ok fl₂ =>
          cases fl₂ with
          | ret r =>
            obtain ⟨rfl, hq⟩ := hr₂
            repeat (any_goals (first | assumption | wp_step))
          | _ => exact hr₂.elim
    | _ => exact hr.elim
end Mine
namespace Mine
theorem si_owner : Manifest.owners.lookup (String.ofList ['r', 'o', 't', 'a', 'r', 'e', 't', 'i', '_', 't', 'e', 's'].reverse) = some Manifest.sig_set_iterator := by kernel_rfl
theorem si_slot_next : Slot "set_iterator" "__next__" "set_iterator.__next__" :=
  .of (owner := "set_iterator") (n := "__next__") (by rw [typeLookup_type, builtinLookup_eq_fast]; kernel_rfl) (by decide +kernel) (by decide +kernel) (by decide +kernel)
    (by first | exact .inl (by decide +kernel) | exact .inr (by decide +kernel)) (by rw [isSubtype_type]; kernel_rfl)
theorem si_entry_next : entryFor table "set_iterator.__next__" = some Builtin.«set_iterator.__next__» := entryFor_of_tree (by kernel_rfl)
theorem si_args_next (a : Value) : argsOk "set_iterator.__next__" ⟨[a], []⟩ := by
  unfold argsOk; rw [signature?_of (id := "set_iterator.__next__") (n := ['_', '_', 't', 'x', 'e', 'n', '_', '_']) (o := ['r', 'o', 't', 'a', 'r', 'e', 't', 'i', '_', 't', 'e', 's']) (by kernel_rfl) si_owner]; kernel_rfl
theorem si_slot_iter : Slot "set_iterator" "__iter__" "set_iterator.__iter__" :=
  .of (owner := "set_iterator") (n := "__iter__") (by rw [typeLookup_type, builtinLookup_eq_fast]; kernel_rfl) (by decide +kernel) (by decide +kernel) (by decide +kernel)
    (by first | exact .inl (by decide +kernel) | exact .inr (by decide +kernel)) (by rw [isSubtype_type]; kernel_rfl)
theorem si_args_iter (a : Value) : argsOk "set_iterator.__iter__" ⟨[a], []⟩ := by
  unfold argsOk; rw [signature?_of (id := "set_iterator.__iter__") (n := ['_', '_', 'r', 'e', 't', 'i', '_', '_']) (o := ['r', 'o', 't', 'a', 'r', 'e', 't', 'i', '_', 't', 'e', 's']) (by kernel_rfl) si_owner]; kernel_rfl
theorem si_entry_iter : entryFor table "set_iterator.__iter__" = some Builtin.«dict_keyiterator.__iter__» :=
  entryFor_alias (id' := "dict_keyiterator.__iter__") (by kernel_rfl) (by first | rfl | decide +kernel | (unfold String.splitOn; simp +decide [String.splitOnAux])) (by decide +kernel) (by kernel_rfl)
theorem set_entry_iter : entryFor table "set.__iter__" = some Builtin.«frozenset.__iter__» :=
  entryFor_alias (id' := "frozenset.__iter__") (by kernel_rfl) (by first | rfl | decide +kernel | (unfold String.splitOn; simp +decide [String.splitOnAux])) (by decide +kernel) (by kernel_rfl)

/-- the elements in the order in which they are walked -/
def ordOf (w : World) (r : Addr) (ks : List Int) (vs : List Value) (ep : Nat) : Array (Int × Value) := if byText w then pickOrder (w.params.setOrder r ep) (ents vs ks) else ents vs ks
def slotAt (w : World) (ks : List Int) (i : Nat) : Nat := if byText w then 0 else if i = 0 then 0 else home (ks.getD (i - 1) 0) + 1
def itObj (w : World) (r : Addr) (ks : List Int) (ep i : Nat) : Obj := { cls := .type "set_iterator", data := .fields #[rawInt (slotAt w ks i), rawInt i, .ref r, rawInt ks.length, rawInt ep] }
def Rising (ks : List Int) : Prop := ∀ a b, a < b → b < ks.length → home (ks.getD a 0) < home (ks.getD b 0)

theorem pick_perm {α : Type} (next : Nat → Nat) : ∀ (fuel k : Nat) (left : List α) (out : Array α), fuel = left.length → (pickOrder.go next fuel k left out).toList.Perm (out.toList ++ left)
  | 0, k, left, out, h => by
    have : left = [] := List.eq_nil_of_length_eq_zero h.symm
    subst this
    simp [pickOrder.go]
  | fuel + 1, k, left, out, h => by
    have hlt : next k % left.length < left.length := Nat.mod_lt _ (by omega)
    unfold pickOrder.go
    rw [List.getElem?_eq_getElem hlt]
    refine (pick_perm next fuel (k + 1) _ _ (by rw [List.length_eraseIdx, if_pos hlt]; omega)).trans ?_
    rw [Array.toList_push, List.append_assoc]
    refine List.Perm.append_left _ ?_
    have e : left.eraseIdx (next k % left.length) = left.take (next k % left.length) ++ left.drop (next k % left.length + 1) := List.eraseIdx_eq_take_drop_succ ..
    have e2 : left = left.take (next k % left.length) ++ left[next k % left.length] :: left.drop (next k % left.length + 1) := by
      rw [List.getElem_cons_drop, List.take_append_drop]
    rw [e]
    have p := (List.perm_middle (a := left[next k % left.length]) (l₁ := left.take (next k % left.length)) (l₂ := left.drop (next k % left.length + 1))).symm
    rw [← e2] at p
    exact p
theorem ord_perm (w : World) (r : Addr) (ks : List Int) (vs : List Value) (ep : Nat) : (ordOf w r ks vs ep).toList.Perm (ents vs ks).toList := by
  unfold ordOf
  split
  · unfold pickOrder
    simpa using pick_perm (w.params.setOrder r ep) (ents vs ks).size 0 (ents vs ks).toList #[] (by simp)
  · exact .refl _
theorem ord_size (w : World) (r : Addr) (ks : List Int) (vs : List Value) (ep : Nat) (hl : vs.length = ks.length) : (ordOf w r ks vs ep).size = ks.length := by
  rw [← Array.length_toList, (ord_perm w r ks vs ep).length_eq]
  simp [ents, hl]

theorem below_at (bt : Bool) (ks : List Int) (hr : Rising ks) (i : Nat) (hi : i ≤ ks.length) : SetTable.below (tabOf bt ks).place (if i = 0 then 0 else home (ks.getD (i - 1) 0) + 1) = i := by
  have hg : ∀ m, m < ks.length → ∀ d, (tabOf bt ks).place.getD m d = home (ks.getD m 0) := fun m hm d => by
    simp only [tabOf, Array.getD_eq_getD_getElem?, List.getElem?_toArray, List.getElem?_map, List.getElem?_eq_getElem hm, Option.map_some, Option.getD_some, List.getD_eq_getElem?_getD]
  refine below_eq _ _ _ (by simpa [tabOf] using hi) (fun m hm => ?_) (fun m h1 h2 => ?_)
  · rw [hg m (by omega), if_neg (by omega)]
    by_cases e : m = i - 1
    · subst e; omega
    · have := hr m (i - 1) (by omega) (by omega); omega
  · have h2' : m < ks.length := by simpa [tabOf] using h2
    rw [hg m h2']
    by_cases h0 : i = 0
    · rw [if_pos h0]; omega
    · rw [if_neg h0]
      have := hr (i - 1) m (by omega) h2'; omega

variable {w : World} {A : Around} {E : Value → Shared → Prop} {s : Shared}
theorem set_fits {bt : Bool} {ks : List Int} {vs : List Value} (hl : vs.length = ks.length) (hn : ks.length ≤ 3) : (tabOf bt ks).fits (ents vs ks).size = true := by
  unfold SetTable.fits SetTable.fill
  simp [tabOf, ents, hl]; omega
theorem setIter {r : Addr} {ks : List Int} {vs : List Value} {ep : Nat} {Q : Value → Shared → Prop} (hr : s.heap.get? r = some (setObj (byText w) ks vs ep)) (hl : vs.length = ks.length) (hn : ks.length ≤ 3)
    (h : Q (.ref s.heap.objs.size) { s with heap := s.heap.push (itObj w r ks ep 0) }) : wpAny (model PG w) A (pyIter (.ref r)) Q E s := by
  have hT : s.TypeIs (.ref r) "set" := ⟨_, hr, rfl⟩
  have hf := set_fits (bt := byText w) hl hn
  refine wpAny_pyIter_slot hT F.slot_set_iter (wpAny_call_entry F.slot_set_iter hT set_entry_iter ?_ (F.args_set_iter_1 _))
  unfold Builtin.«frozenset.__iter__»
  refine wpAny_bind (wpAny_of_eq (a := r) rfl ?_)
  refine wpAny_bind ?_
  unfold Builtin.Frozenset.sizeOf
  refine wpAny_bind (wpAny_setEntries_of (o := setObj (byText w) ks vs ep) hr rfl hf (wpAny_pure ?_))
  refine wpAny_bind ?_
  unfold setDrawn
  refine wpAny_bind (wpAny_setState_of (o := setObj (byText w) ks vs ep) hr rfl hf ?_)
  dsimp only
  unfold setsByText
  refine wpAny_bind (wpAny_bind (wpAny_askSetting (wpAny_pure ?_)))
  have hd : (!(byText w) && (!(tabOf (byText w) ks).plain && decide ((ents vs ks).size > 1))) = false := by simp [tabOf]
  refine wpAny_of_eq (a := false) (congrArg pure hd) ?_
  rw [if_neg (by decide)]
  refine wpAny_bind (wpAny_pure ?_)
  refine wpAny_bind ?_
  unfold setEpoch
  refine wpAny_bind (wpAny_setState_of (o := setObj (byText w) ks vs ep) hr rfl hf (wpAny_pure ?_))
  have hsz : (ents vs ks).size = ks.length := by simp [ents, hl]
  rw [hsz]
  refine wpAny_bind (wpAny_newObj_type (wpAny_pure ⟨_, rfl, "set_iterator", _, ⟨_, Heap.get?_push_size _ rfl, rfl⟩, si_slot_next.lookup, ?_⟩))
  have e : itObj w r ks ep 0 = { cls := .type "set_iterator", data := .fields #[rawInt 0, rawInt 0, .ref r, rawInt ks.length, rawInt ep] } := by
    unfold itObj slotAt
    cases byText w <;> rfl
  rw [e] at h
  exact h

theorem setNext_any {M : Model} {r : Addr} {ks : List Int} {vs : List Value} {ep i : Nat} {Q : Option (Value × Nat) → Shared → Prop} (hM : M.w = w) (hr : s.heap.get? r = some (setObj (byText w) ks vs ep)) (hl : vs.length = ks.length) (hn : ks.length ≤ 3) (hris : Rising ks) (hi : i ≤ ks.length)
    (h : ∀ y, (i < ks.length → ∃ x, ((ordOf w r ks vs ep)[i]?).map (·.2) = some x ∧ y = some (x, slotAt w ks (i + 1))) → (i = ks.length → y = none) → Q y s) : wpAny M A (setNext r (slotAt w ks i) i ep) Q E s := by
  have hf := set_fits (bt := byText w) hl hn
  have hsz : (ents vs ks).size = ks.length := by simp [ents, hl]
  have hoz := ord_size w r ks vs ep hl
  have st : ∀ {Q' : (Array (Int × Value) × Nat × SetTable) → Shared → Prop}, Q' (ents vs ks, ep, tabOf (byText w) ks) s → wpAny M A (setState r) Q' E s := by
    intro Q' h'
    unfold setState
    refine wpAny_bind (wpAny_load hr ?_)
    show wpAny M A (if ((tabOf (byText w) ks).place.size != (ents vs ks).size || decide ((tabOf (byText w) ks).fill > (tabOf (byText w) ks).mask)) = true then _ else _) _ _ s
    have hc : ((tabOf (byText w) ks).place.size != (ents vs ks).size || decide ((tabOf (byText w) ks).fill > (tabOf (byText w) ks).mask)) = false := by
      simp only [SetTable.fits, Bool.and_eq_true, beq_iff_eq, decide_eq_true_eq] at hf
      simp [hf.1, Nat.not_lt.mpr hf.2]
    rw [hc, if_neg (by decide)]
    exact wpAny_pure h'
  have ask : ∀ {Q' : Bool → Shared → Prop}, Q' (byText w) s → wpAny M A setsByText Q' E s := by
    intro Q' h'
    unfold setsByText
    exact wpAny_bind (wpAny_askSetting (wpAny_pure (hM ▸ h')))
  unfold setNext
  refine wpAny_bind (st ?_)
  dsimp only
  refine wpAny_bind (ask ?_)
  by_cases hb : byText w = true
  · rw [if_pos hb, if_neg (by simp)]
    refine wpAny_bind ?_
    unfold setWalk
    refine wpAny_bind (st ?_)
    dsimp only
    refine wpAny_bind (ask ?_)
    rw [if_pos hb]
    refine wpAny_bind (wpAny_askSetting (wpAny_pure (wpAny_pure ?_)))
    rw [hM]
    have ho : ordOf w r ks vs ep = pickOrder (w.params.setOrder r ep) (ents vs ks) := by unfold ordOf; rw [if_pos hb]
    show Q (((pickOrder (w.params.setOrder r ep) (ents vs ks))[i]?).map fun e => (e.2, slotAt w ks i)) s
    rw [← ho]
    refine h _ (fun hlt => ?_) (fun heq => ?_)
    · have hs0 : ∀ j, slotAt w ks j = 0 := fun j => by unfold slotAt; rw [if_pos hb]
      refine ⟨((ordOf w r ks vs ep)[i]'(by omega)).2, ?_, ?_⟩
      · simp [hoz, hlt]
      · rw [hs0, hs0]; simp [hoz, hlt]
    · have : (ordOf w r ks vs ep)[i]? = none := Array.getElem?_eq_none (by omega)
      rw [this]; rfl
  · have hb' : byText w = false := by simpa using hb
    rw [if_neg hb]
    have hd : (!(tabOf (byText w) ks).plain && decide ((ents vs ks).size > 1)) = false := by simp [tabOf]
    refine wpAny_ite_split (fun hab => absurd (hd.symm.trans hab) (by decide)) (fun _ => ?_)
    refine wpAny_bind ?_
    have hled : (!(tabOf (byText w) ks).led && !(ents vs ks).isEmpty) = false := by simp [tabOf, hb']
    show wpAny M A (if (!(tabOf (byText w) ks).led && !(ents vs ks).isEmpty) = true then _ else _) _ _ s
    rw [hled, if_neg (by decide)]
    refine wpAny_pure (wpAny_pure ?_)
    have ho : ordOf w r ks vs ep = ents vs ks := by unfold ordOf; rw [if_neg hb]
    have hsl : ∀ j, slotAt w ks j = if j = 0 then 0 else home (ks.getD (j - 1) 0) + 1 := fun j => by unfold slotAt; rw [if_neg hb]
    have hbe := below_at (byText w) ks hris i hi
    rw [hsl i, hbe]
    refine h _ (fun hlt => ?_) (fun heq => ?_)
    · refine ⟨((ents vs ks)[i]'(by omega)).2, by rw [ho]; simp [hsz, hlt], ?_⟩
      have g1 : (ents vs ks)[i]? = some ((ents vs ks)[i]'(by omega)) := Array.getElem?_eq_getElem (by omega)
      have g2 : (tabOf (byText w) ks).place[i]? = some (home (ks.getD i 0)) := by
        simp only [tabOf, List.getElem?_toArray, List.getElem?_map, List.getElem?_eq_getElem hlt, Option.map_some, List.getD_eq_getElem?_getD, Option.getD_some]
      rw [g1, g2, hsl (i + 1), if_neg (by omega), Nat.add_sub_cancel]
    · have g1 : (ents vs ks)[i]? = none := Array.getElem?_eq_none (by omega)
      rw [g1]
end Mine
namespace Mine
variable {w : World} {A : Around} {E : Value → Shared → Prop} {s : Shared}
theorem setNextItem {I r : Addr} {ks : List Int} {vs : List Value} {ep i : Nat} {x : Value} {Q : Option Value → Shared → Prop} (hI : s.heap.get? I = some (itObj w r ks ep i)) (hr : s.heap.get? r = some (setObj (byText w) ks vs ep)) (hl : vs.length = ks.length) (hn : ks.length ≤ 3) (hris : Rising ks) (hi : i < ks.length)
    (hx : ((ordOf w r ks vs ep)[i]?).map (·.2) = some x)
    (h : ∀ h', h'.get? I = some (itObj w r ks ep (i + 1)) → Heap.SameBut I s.heap h' → Q (some x) { s with heap := h' }) : wpAny (model PG w) A (pyNext (.ref I)) Q E s := by
  have hT : s.TypeIs (.ref I) "set_iterator" := ⟨_, hI, rfl⟩
  have hf := set_fits (bt := byText w) hl hn
  have hsz : (ents vs ks).size = ks.length := by simp [ents, hl]
  unfold pyNext
  refine wpAny_bind (wpAny_attempt (wpAny_callSpecial?_slot (name := Str.ofString "__next__") hT si_slot_next
    (wpAny_call_entry si_slot_next hT si_entry_next ?_ (si_args_next _))))
  unfold Builtin.«set_iterator.__next__»
  refine wpAny_bind (wpAny_of_eq (a := (Value.ref I, [])) rfl ?_)
  dsimp only
  refine wpAny_bind (wpAny_fieldsOf hI rfl ?_)
  dsimp only
  refine wpAny_bind (wpAny_setEntries_of (o := setObj (byText w) ks vs ep) hr rfl hf ?_)
  rw [hsz, if_neg (by simp)]
  show wpAny _ _ (setNext r (slotAt w ks i) i ep >>= _) _ _ _
  refine wpAny_bind (setNext_any (w := w) rfl hr hl hn hris (Nat.le_of_lt hi) fun y hy _ => ?_)
  obtain ⟨x', hx', rfl⟩ := hy hi
  rw [hx] at hx'; cases hx'
  dsimp only
  refine wpAny_bind (wpAny_setField_rec hI (by simp) fun h₁ hI₁ hs₁ => ?_)
  refine wpAny_bind (wpAny_setField_rec (s := { s with heap := h₁ }) hI₁ (by simp) fun h₂ hI₂ hs₂ => ?_)
  refine wpAny_pure ⟨x, rfl, wpAny_pure (h h₂ ?_ (hs₁.trans hs₂))⟩
  rw [hI₂]
  unfold itObj
  simp

theorem setNextEnd {I r : Addr} {ks : List Int} {vs : List Value} {ep : Nat} {Q : Option Value → Shared → Prop} (hh : A.handled = none) (hI : s.heap.get? I = some (itObj w r ks ep ks.length)) (hr : s.heap.get? r = some (setObj (byText w) ks vs ep)) (hl : vs.length = ks.length) (hn : ks.length ≤ 3) (hris : Rising ks)
    (h : ∀ h', Heap.ExtBut I s.heap h' → Q none { s with heap := h' }) : wpAny (model PG w) A (pyNext (.ref I)) Q E s := by
  have hT : s.TypeIs (.ref I) "set_iterator" := ⟨_, hI, rfl⟩
  have hf := set_fits (bt := byText w) hl hn
  have hsz : (ents vs ks).size = ks.length := by simp [ents, hl]
  unfold pyNext
  refine wpAny_bind (wpAny_attempt (wpAny_callSpecial?_slot (name := Str.ofString "__next__") hT si_slot_next
    (wpAny_call_entry si_slot_next hT si_entry_next ?_ (si_args_next _))))
  unfold Builtin.«set_iterator.__next__»
  refine wpAny_bind (wpAny_of_eq (a := (Value.ref I, [])) rfl ?_)
  dsimp only
  refine wpAny_bind (wpAny_fieldsOf hI rfl ?_)
  dsimp only
  refine wpAny_bind (wpAny_setEntries_of (o := setObj (byText w) ks vs ep) hr rfl hf ?_)
  rw [hsz, if_neg (by simp)]
  show wpAny _ _ (setNext r (slotAt w ks ks.length) ks.length ep >>= _) _ _ _
  refine wpAny_bind (setNext_any (w := w) rfl hr hl hn hris (Nat.le_refl _) fun y _ hy => ?_)
  rw [hy rfl]
  dsimp only
  refine wpAny_bind (wpAny_setField_rec hI (by simp) fun h₁ hI₁ hs₁ => ?_)
  refine wpAny_bind ?_
  simp only [newExc, newTuple]
  refine wpAny_bind (wpAny_newObj_type ?_ (by size_fits))
  refine wpAny_bind (m := firstArgMember _ _) (wpAny_of_eq (a := Value.none) (by first | rfl | (simp only [firstArgMember]; rfl)) ?_)
  refine wpAny_newObj_type ?_ (by size_fits)
  simp only [raiseNew]
  refine wpAny_bind (wpAny_handled ?_)
  rw [show A.in1.handled = none from hh]
  refine wpAny_bind (wpAny_pure (wpAny_throw ?_))
  refine wpAny_bind (wpAny_isInstance (T := "StopIteration") (b := true) ⟨_, Heap.get?_push_size _ rfl, rfl⟩ isSubtype_stop ?_)
  exact wpAny_pure (h _ ((hs₁.extBut.push _).push _))

theorem setSelf {I r : Addr} {ks : List Int} {ep i : Nat} {Q : Value → Shared → Prop} (hI : s.heap.get? I = some (itObj w r ks ep i)) (h : Q (.ref I) s) : wpAny (model PG w) A (pyIter (.ref I)) Q E s := by
  have hT : s.TypeIs (.ref I) "set_iterator" := ⟨_, hI, rfl⟩
  refine wpAny_pyIter_slot hT si_slot_iter (wpAny_call_entry si_slot_iter hT si_entry_iter ?_ (si_args_iter _))
  show wpAny _ _ (ret (.ref I)) _ _ s
  exact wpAny_pure ⟨_, rfl, "set_iterator", _, hT, si_slot_next.lookup, h⟩

theorem setHint {r : Addr} {Q : Bool → Shared → Prop} (hT : s.TypeIs (.ref r) "set") (h : Q false s) : wpAny (model PG w) A (Builtin.List.listLengthHint (.ref r)) Q E s := by
  unfold Builtin.List.listLengthHint
  refine wpAny_bind (wpAny_specialOf hT PySem.F.slot_set_len.lookup ?_)
  generalize hid : ("set.__len__" : String) = id0
  wp_delta
  rw [show splitId id0 = some ("set", "__len__") from by subst hid; decide +kernel]
  subst hid
  refine wpAny_bind (wpAny_isInstance (T := "set") (b := true) hT (by rw [isSubtype_type]; kernel_rfl) ?_)
  refine wpAny_ite_split (fun hab => absurd hab (by decide)) (fun _ => ?_)
  refine wpAny_ite_split (fun _ => ?_) (fun hab => absurd (by decide +kernel) hab)
  refine wpAny_bind (wpAny_typeOf hT ?_)
  exact wpAny_pure h

theorem setWalks {I r : Addr} {ks : List Int} {vs : List Value} {ep : Nat} (hh : A.handled = none) (hIr : r ≠ I) (hl : vs.length = ks.length) (hn : ks.length ≤ 3) (hris : Rising ks) :
    Walks PG w A I [I, r] [I] ks.length (fun i v => ((ordOf w r ks vs ep)[i]?).map (·.2) = some v) (fun i h => h.get? I = some (itObj w r ks ep i) ∧ h.get? r = some (setObj (byText w) ks vs ep)) where
  sub := fun b hb => by simp at hb; simp [hb]
  frame := fun i h h' st hk => ⟨hk I (by simp) _ st.1, hk r (by simp) _ st.2⟩
  item := fun i s Q E hi st hQ => by
    have hoz := ord_size w r ks vs ep hl
    have hx : ((ordOf w r ks vs ep)[i]?).map (·.2) = some ((ordOf w r ks vs ep)[i]'(by omega)).2 := by simp [hoz, hi]
    refine setNextItem st.1 st.2 hl hn hris hi hx fun h' hI' hs' => ?_
    exact hQ _ h' s.toks hx ⟨hI', (hs'.2 r hIr).trans st.2⟩ fun b o hb e => hs'.extBut b o (fun h => hb (by simp [h])) e
  done := fun s Q E st hQ => setNextEnd hh st.1 st.2 hl hn hris fun h' he' => hQ h' s.toks fun b o hb e => he' b o (fun h => hb (by simp [h])) e
  self := fun _ _ _ _ st hQ => setSelf st.1 hQ

theorem setSrc {r : Addr} {ks : List Int} {vs : List Value} {ep : Nat} (hl : vs.length = ks.length) (hn : ks.length ≤ 3) (hris : Rising ks) :
    KdlSrc PG w "set" r r ks.length (fun i v => ((ordOf w r ks vs ep)[i]?).map (·.2) = some v) (fun h => h.get? r = some (setObj (byText w) ks vs ep)) where
  type := fun _ hm => ⟨_, hm, rfl⟩
  there := fun _ hm => ⟨Heap.lt_size hm, Heap.lt_size hm⟩
  keep := fun _ _ hm hk => hk r (.inl rfl) _ hm
  notList := by decide
  notTuple := by decide
  hint := fun _ _ _ _ hm hq => setHint ⟨_, hm, rfl⟩ hq
  iter := fun _ s hh hm => ⟨itObj w r ks ep 0, _, fun _ _ hq => setIter hm hl hn hq, setWalks hh (Nat.ne_of_lt (Heap.lt_size hm)) hl hn hris, ⟨Heap.get?_push_size _ rfl, Heap.get?_push_of_some _ hm⟩⟩
end Mine
namespace Mine
variable {w : World} {A : Around} {E : Value → Shared → Prop} {s : Shared}
theorem zip_ints {vs : List Value} {ks : List Int} (hi : IntsAre vs ks) : ∀ e ∈ ks.zip vs, ∃ t, e.2 = .int e.1 t := by
  induction hi with
  | nil => intro e he; simp at he
  | cons n t hi ih =>
    intro e he
    rw [List.zip_cons_cons] at he
    rcases List.mem_cons.mp he with rfl | he
    · exact ⟨t, rfl⟩
    · exact ih e he
theorem ints_of_pairs : ∀ (l : List (Int × Value)), (∀ e ∈ l, ∃ t, e.2 = .int e.1 t) → IntsAre (l.map (·.2)) (l.map (·.1))
  | [], _ => .nil
  | e :: l, h => by
    obtain ⟨t, ht⟩ := h e (.head _)
    rw [List.map_cons, List.map_cons, ht]
    exact .cons _ t (ints_of_pairs l fun x hx => h x (.tail _ hx))
theorem perm_sorted_eq {a b : List Int} (p : a.Perm b) (ha : a.Pairwise (· ≤ ·)) (hb : b.Pairwise (· ≤ ·)) : a = b :=
  p.eq_of_pairwise (fun x y _ _ h1 h2 => Int.le_antisymm h1 h2) ha hb

theorem sortedSet {r : Addr} {ks : List Int} {vs : List Value} {ep : Nat} {Q : Value → Shared → Prop} (hh : A.handled = none) (hr : s.heap.get? r = some (setObj (byText w) ks vs ep)) (hi : IntsAre vs ks) (hn : ks.length ≤ 3) (hris : Rising ks) (hks : ks.Pairwise (· ≤ ·))
    (h : ∀ D s', Sm s s' → Keeps s.heap s'.heap → s.heap.get? D = none → Has s'.heap D (iInts ks) → Q (.ref D) s') : wpAny (model PG w) A (call (.builtin "sorted") [.ref r]) Q E s := by
  have hl := hi.length
  refine Calls.call_function_entry kind_sorted plain_sorted entry_sorted (args_sorted1 _) ?_
  unfold Builtin.«sorted»
  refine wpAny_bind (m := checkCount "sorted" 1 1 _) (wpAny_pure ?_)
  refine wpAny_bind (kdu_collect (A := A.in1) (setSrc (w := w) (r := r) (ep := ep) hl hn hris) hh hr (by rw [sizeLine_eq]; omega) fun h' tk acc hk hacc => ?_)
  have hoz := ord_size w r ks vs ep hl
  have hacc' : acc.toList = (ordOf w r ks vs ep).toList.map (·.2) := by
    apply List.ext_getElem
    · rw [Array.length_toList, List.length_map, Array.length_toList, hoz]; exact hacc.1
    · intro i h1 h2
      have h1' : i < acc.size := by simpa using h1
      have := hacc.2 i acc[i] (by simp [h1'])
      have h3 : i < (ordOf w r ks vs ep).size := by rw [hoz, ← hacc.1]; exact h1'
      simp only [Array.getElem?_eq_getElem h3, Option.map_some, Option.some.injEq] at this
      simp [this]
  have hpe : ∀ e ∈ (ordOf w r ks vs ep).toList, ∃ t, e.2 = .int e.1 t := fun e he => zip_ints hi e (by simpa [ents] using (ord_perm w r ks vs ep).mem_iff.mp he)
  have hI := ints_of_pairs _ hpe
  rw [← hacc'] at hI
  have hperm : ((ordOf w r ks vs ep).toList.map (·.1)).Perm ks := by
    have := (ord_perm w r ks vs ep).map (·.1)
    have e : (ents vs ks).toList.map (·.1) = ks := by
      simp only [ents]
      rw [List.map_fst_zip (by omega)]
    rwa [e] at this
  have hal : acc.toList.length = ks.length := by rw [Array.length_toList]; exact hacc.1
  refine wpAny_bind (wpAny_newList ?_ (by rw [hal, sizeLine_eq]; omega))
  have hoL : (h'.push (seqObj "list" acc.toList.toArray 0)).get? h'.objs.size = some (seqObj "list" acc.toList.toArray 0) := Heap.get?_push_size _ rfl
  refine wpAny_bind (wpAny_holding (wpAny_call_entry slot_list_sort ⟨_, hoL, rfl⟩ entry_list_sort (list_sort_tree hoL hI (by omega) fun out ns' a1 a2 a3 => ⟨_, rfl, ?_⟩) (args_list_sort _)))
  refine wpAny_pure ⟨_, rfl, ?_⟩
  have hns : ns' = ks := perm_sorted_eq (a2.trans hperm) a3 hks
  subst hns
  have hne : ∀ b o, s.heap.get? b = some o → b ≠ h'.objs.size := fun b o e => Nat.ne_of_lt (Heap.lt_size (hk b o e))
  obtain ⟨e, he⟩ := sortedHeap_at (out := out) hoL
  refine h _ _ (by exact ⟨rfl, rfl, rfl⟩) (fun b o q => ?_) ?_ ⟨_, he, ofA a1⟩
  · rw [sortedHeap_old (hne b o q) (by rw [Heap.size_push]; exact Nat.lt_succ_of_lt (Heap.lt_size (hk b o q)))]
    exact Heap.get?_push_of_some _ (hk b o q)
  · cases q : s.heap.get? h'.objs.size with
    | none => rfl
    | some o => exact absurd rfl (hne _ _ q)
end Mine
namespace Mine
/-- the pairs of letters that the law takes -/
def GoodPair (p q : Int) : Prop := (p, q) ∈ ([(1, 3), (3, 1), (2, 4), (4, 2), (1, 5), (5, 1)] : List (Int × Int))
theorem good_all : ∀ x ∈ ([(1, 3), (3, 1), (2, 4), (4, 2), (1, 5), (5, 1)] : List (Int × Int)), (1 ≤ x.1 ∧ x.1 ≤ 5 ∧ 1 ≤ x.2 ∧ x.2 ≤ 5 ∧ x.1 ≠ x.2) ∧ (1 ≤ x.1 ∧ x.1 ≤ 8) ∧ (1 ≤ x.2 ∧ x.2 ≤ 8) ∧ (x.1 + x.2) % 2 = 0 := by decide
theorem GoodPair.facts {p q : Int} (h : GoodPair p q) : 1 ≤ p ∧ p ≤ 5 ∧ 1 ≤ q ∧ q ≤ 5 ∧ p ≠ q := (good_all _ h).1
theorem GoodPair.p8 {p q : Int} (h : GoodPair p q) : 1 ≤ p ∧ p ≤ 8 := (good_all _ h).2.1
theorem GoodPair.q8 {p q : Int} (h : GoodPair p q) : 1 ≤ q ∧ q ≤ 8 := (good_all _ h).2.2.1
theorem GoodPair.even {p q : Int} (h : GoodPair p q) : (p + q) % 2 = 0 := (good_all _ h).2.2.2
/-- the distinct ones of a list, as they are met -/
def distinct (l : List Int) : List Int := firstMet (fun i => l.getD i 0) l.length
structure PartsOk (l : List Int) : Prop where
  laid : Laid (fun i => l.getD i 0) l.length
  few : ∀ i, i ≤ l.length → (firstMet (fun i => l.getD i 0) i).length ≤ 3
  ris : Rising (distinct l)
  srt : (distinct l).Pairwise (· ≤ ·)
  again : (distinct l).flatMap (fun p => List.replicate (l.count p) p) = l
  pos : 0 < l.length

def laidB (val : Nat → Int) (n : Nat) : Bool := (List.range n).all fun i => hashInt (val i) == val i && ((firstMet val i).contains (val i) || (decide ((firstMet val i).length ≤ 3) && (firstMet val i).all fun x => decide (home x < home (val i))))
def risB (ks : List Int) : Bool := (List.range ks.length).all fun b => (List.range b).all fun a => decide (home (ks.getD a 0) < home (ks.getD b 0))
def srtB : List Int → Bool
  | [] => true
  | x :: l => l.all (fun y => decide (x ≤ y)) && srtB l
def partsB (l : List Int) : Bool := laidB (fun i => l.getD i 0) l.length && (List.range (l.length + 1)).all (fun i => decide ((firstMet (fun i => l.getD i 0) i).length ≤ 3)) && risB (distinct l) && srtB (distinct l) && ((distinct l).flatMap (fun p => List.replicate (l.count p) p) == l) && decide (0 < l.length)
theorem srtB_ok : ∀ l : List Int, srtB l = true → l.Pairwise (· ≤ ·)
  | [], _ => .nil
  | x :: l, h => by
    simp only [srtB, Bool.and_eq_true, List.all_eq_true, decide_eq_true_eq] at h
    exact .cons h.1 (srtB_ok l h.2)
theorem partsB_ok {l : List Int} (h : partsB l = true) : PartsOk l := by
  simp only [partsB, Bool.and_eq_true, laidB, risB, List.all_eq_true, decide_eq_true_eq, List.mem_range, beq_iff_eq, Bool.or_eq_true, List.contains_iff_mem] at h
  obtain ⟨⟨⟨⟨⟨h1, h2⟩, h3⟩, h4⟩, h5⟩, h6⟩ := h
  exact ⟨fun i hi => ⟨(h1 i hi).1, (h1 i hi).2.imp id fun x => ⟨x.1, x.2⟩⟩, fun i hi => h2 i (by omega), fun a b hab hb => h3 b hb a hab, srtB_ok _ h4, h5, h6⟩
theorem parts_all : (([(1, 3), (3, 1), (2, 4), (4, 2), (1, 5), (5, 1)] : List (Int × Int)).all fun pq => (List.range 8).all fun j => partsB (ruleAt pq.1 pq.2 (j + 4))) = true := by decide +kernel
theorem GoodPair.parts {p q : Int} (h : GoodPair p q) {j : Nat} (h4 : 4 ≤ j) (hj : j < 12) : PartsOk (ruleAt p q j) := by
  have := List.all_eq_true.mp (List.all_eq_true.mp parts_all _ h) (j - 4) (List.mem_range.mpr (by omega))
  rw [show j - 4 + 4 = j by omega] at this
  exact partsB_ok this

/-- copies end to end -/
def geo (B : Int) : Nat → Int
  | 0 => 0
  | k + 1 => 1 + B * geo B k
theorem geo_mul (B : Int) : ∀ k, (B - 1) * geo B k = B ^ k - 1
  | 0 => by simp [geo]
  | k + 1 => by
    have ih := geo_mul B k
    rw [geo, Int.mul_add, Int.mul_one, ← Int.mul_assoc, Int.mul_comm (B - 1) B, Int.mul_assoc, ih, Int.pow_succ, Int.mul_sub, Int.mul_one, Int.mul_comm B]
    omega
theorem geo_nonneg {B : Int} (h : 0 ≤ B) : ∀ k, 0 ≤ geo B k
  | 0 => Int.le_refl _
  | k + 1 => by rw [geo]; have := Int.mul_nonneg h (geo_nonneg h k); omega
theorem d2i_copies (n : Nat) (l : List Int) : ∀ k, d2i n (List.replicate k l).flatten = d2i n l * geo (2 ^ (n * l.length)) k
  | 0 => by simp [geo, d2i]
  | k + 1 => by
    rw [List.replicate_succ, List.flatten_cons, d2i_append, d2i_copies n l k, geo, Int.mul_add, Int.mul_one, ← Int.mul_assoc, ← Int.mul_assoc, Int.mul_comm (2 ^ (n * l.length))]
theorem len_copies (l : List Int) (k : Nat) : (List.replicate k l).flatten.length = l.length * k := by
  simp [List.length_flatten, Nat.mul_comm]
theorem div_exact {a b g : Int} (hb : 0 < b) (h : b * g = a) : a / b = g ∧ a % b = 0 := by
  subst h
  exact ⟨Int.mul_ediv_cancel_left _ (Int.ne_of_gt hb), Int.mul_emod_right ..⟩
end Mine
namespace Mine
open Builtin.Int (intBits)
/-- a dict of ints, known at these keys -/
def iMapI (g : Int → Option Int) (n : Nat) (o : Obj) : Prop := ∃ f, iMap f n o ∧ ∀ k v, g k = some v → ∃ t, f k = some (.int v t)
theorem iMapI.mono {g g' : Int → Option Int} {n n' : Nat} (hg : ∀ k v, g' k = some v → g k = some v) (hn : n ≤ n') {o : Obj} (h : iMapI g n o) : iMapI g' n' o := by
  obtain ⟨f, ⟨c, es, ep, d, k, hf, z⟩, hv⟩ := h
  exact ⟨f, ⟨c, es, ep, d, k, hf, Nat.le_trans z hn⟩, fun k v e => hv k v (hg k v e)⟩
section
variable {w : World} {A : Around} {E : Value → Shared → Prop} {s : Shared} {env : Env} {mg mb m : Str → Option Value} {h₀ : Heap} {cs : List (Addr × (Obj → Prop))} {L : Addr}
theorem setMapI {i : Nat} {d : Addr} {g : Int → Option Int} {n : Nat} {k v : Int} {t u : Tok} {Q : Unit → Shared → Prop} (O : Own h₀ s.heap L m cs) (hi : cs[i]? = some (d, iMapI g n)) (hn : n ≤ 2 ^ 20)
    (h : ∀ s', Sm s s' → Own h₀ s'.heap L m (cs.set i (d, iMapI (fun x => if x = k then some v else g x) (n + 1))) → Q () s') : wpAny (model PG w) A (setItem (.ref d) (.int k t) (.int v u)) Q E s := by
  obtain ⟨o, ho, f, hf, hv⟩ := O.of hi
  have O₁ := O.turn (P' := iMap f n) hi (Heap.ExtBut.refl _ _) ⟨o, ho, hf⟩
  have hlt := (List.getElem?_eq_some_iff.mp hi).1
  have hi₁ : (cs.set i (d, iMap f n))[i]? = some (d, iMap f n) := by rw [List.getElem?_set_self hlt]
  refine setMap O₁ hi₁ hn fun s' S O₂ => h s' S ?_
  rw [List.set_set] at O₂
  have hi₂ : (cs.set i (d, iMap (fun x => if x = k then some (Value.int v u) else f x) (n + 1)))[i]? = some (d, iMap (fun x => if x = k then some (Value.int v u) else f x) (n + 1)) := by rw [List.getElem?_set_self hlt]
  have O₃ := O₂.weak (P' := iMapI (fun x => if x = k then some v else g x) (n + 1)) hi₂ fun o ho => ⟨_, ho, fun x y e => by
    dsimp only at e ⊢
    by_cases hx : x = k
    · rw [if_pos hx] at e; cases e; exact ⟨u, if_pos hx⟩
    · rw [if_neg hx] at e
      obtain ⟨t', e'⟩ := hv x y e
      exact ⟨t', (if_neg hx).trans e'⟩⟩
  rwa [List.set_set] at O₃
theorem subMapI {value slice : Expr} {d : Addr} {g : Int → Option Int} {n : Nat} {k v : Int} {u : Tok} {Q : Value → Shared → Prop} (x : Has s.heap d (iMapI g n)) (hv : g k = some v)
    (h : ∀ t s', Sm s s' → s'.heap = s.heap → Q (.int v t) s') (hs : subscripted slice false (.ref d) (.int k u) = operate [.ref d, .int k u] (getItem (.ref d) (.int k u)) := by with_unfolding_all rfl) :
    wpAny (model PG w) A (subscriptTail value slice (.ref d) (.int k u)) Q E s := by
  obtain ⟨o, ho, f, hf, hg⟩ := x
  obtain ⟨t, e⟩ := hg k v hv
  exact subMap ⟨o, ho, hf⟩ e (h t) hs

def isIntEq (k : Int) : Value → Bool
  | .int j _ => j == k
  | _ => false
theorem ints_mem {vs : List Value} {ns : List Int} (hi : IntsAre vs ns) : ∀ y ∈ vs, ∃ j u, y = .int j u := by
  induction hi with
  | nil => intro y hy; cases hy
  | cons n t _ ih =>
    intro y hy
    rcases List.mem_cons.mp hy with rfl | hy
    · exact ⟨n, t, rfl⟩
    · exact ih y hy
theorem ints_count {vs : List Value} {ns : List Int} (hi : IntsAre vs ns) (k : Int) : vs.countP (isIntEq k) = ns.count k := by
  induction hi with
  | nil => rfl
  | cons n t _ ih => rw [List.countP_cons, List.count_cons, ih]; rfl
theorem countInts {l : Addr} {ns : List Int} {e : Expr} {pos : Pos} {k : Int} {Q : Value → Shared → Prop} (hl : Has s.heap l (iInts ns))
    (he : wpAny (model PG w) A (eval e env) (fun v s₁ => ∃ t, v = .int k t ∧ s₁ = s ∧ ∀ u, Q (.int (ns.count k : Nat) u) { s with toks := s.toks + 1 }) E s)
    (hst : backTo pos (starEach [e] env) = [(false, eval e env)] := by rfl) :
    wpAny (model PG w) A (callWith pos (.builtin "list.count") [.ref l] (backTo pos (starEach [e] env)) []) Q E s := by
  rw [hst]
  refine P.count_list (wpAny_mono he (fun v s₁ h₁ => ?_) fun _ _ e => e)
  obtain ⟨t, rfl, rfl, hq⟩ := h₁
  obtain ⟨vs, n, hi, X⟩ := hl.isL
  refine ⟨vs.toArray, n, isIntEq k, X, fun y hy => ?_, ?_⟩
  · obtain ⟨j, u, rfl⟩ := ints_mem hi y (by simpa using hy)
    exact MeetsSeq.EqGives.int j k u t
  · have := ints_count hi k
    simp only [this]
    exact hq _
theorem augName {x : Str} {px pos : Pos} {op : Operator} {value : Expr} {old : Value} {Q : Flow → Shared → Prop} (O : Own h₀ s.heap env.locals m cs) (hm : m x = some old)
    (h : wpAny M A (eval value env) (fun v s₂ => wpAny M A (inplaceOp op old v) (fun r s₃ => ∃ h₀ m cs, Own h₀ s₃.heap env.locals m cs ∧ ∀ s₄, Sm s₃ s₄ → Own h₀ s₄.heap env.locals (upd m x r) cs → Q .next s₄) E s₂) E s)
    (hl : env.kindOf x = some .local := by rfl) (hk : env.scope.kind = .function := by rfl) :
    wpAny M A (exec (.AugAssign (.Name x px) op value pos) env) Q E s := by
  refine wpAny_AugAssign_Name (wpAny_loadName_local hk hl O.ns hm (wpAny_mono h (fun v s₂ h₂ => wpAny_mono h₂ (fun r s₃ h₃ => ?_) fun _ _ e => e) fun _ _ e => e))
  obtain ⟨h₀, m, cs, O, hq⟩ := h₃
  exact wpAny_storeName_local hl O.ns (fun h' hn hs' => hq _ ⟨rfl, rfl, rfl⟩ (O.store hn hs')) (by rw [hk]; rfl)
theorem isTrue_two_or {a b : Expr} {pos : Pos} {whole : Sem Value} {Q : Bool → Shared → Prop} (h : wpAny M A (isTrue a env (eval a env)) (fun c s' => if c then Q true s' else wpAny M A (isTrue b env (eval b env)) (fun c' s'' => Q c' s'') E s') E s) :
    wpAny M A (isTrue (.BoolOp .Or [a, b] pos) env whole) Q E s := by
  refine isTrue_or (wpAny_mono h (fun c s' h' => ?_) fun _ _ e => e)
  cases c with
  | true => exact h'
  | false =>
    refine isTrue_or (wpAny_mono h' (fun c' s'' h'' => ?_) fun _ _ e => e)
    cases c' with
    | true => exact h''
    | false => exact isTrue_or_nil h''
end
end Mine
namespace Mine
open Builtin.Int (intBits)
section
variable {w : World} {A : Around} {E : Value → Shared → Prop} {s : Shared} {env : Env} {mg mb m : Str → Option Value} {h₀ : Heap} {cs : List (Addr × (Obj → Prop))} {L : Addr}
/-- for x in a list made for it -/
theorem forListE {Z : Type} {x : Str} {px pos : Pos} {e : Expr} {body : List Stmt} {Q : Flow → Shared → Prop} (xs : List Int) (C : Nat → Z → List (Addr × (Obj → Prop))) (J : Nat → Z → (Str → Option Value) → Prop) (z₀ : Z)
    (hh : A.handled = none)
    (he : wpAny (model PG w) A (eval e env) (fun v s₁ => ∃ l m, v = .ref l ∧ Sm s s₁ ∧ Own h₀ s₁.heap env.locals m ((l, iInts xs) :: C 0 z₀) ∧ J 0 z₀ m) E s)
    (turn : ∀ E' (it l : Addr) (i : Nat) z t m₁ s₂ P, i < xs.length → Sm s s₂ → J i z m₁ → Own h₀ s₂.heap env.locals (upd m₁ x (.int (xs.getD i 0) t)) ((it, P) :: (l, iInts xs) :: C i z) →
        wpAny (model PG w) A (execs body env) (fun f s₃ => GoesZ s₂ s₃ h₀ env.locals (J (i + 1)) (fun z => (it, P) :: (l, iInts xs) :: C (i + 1) z) f) E' s₂)
    (done : ∀ m₁ z s₂, Sm s s₂ → J xs.length z m₁ → Own h₀ s₂.heap env.locals m₁ (C xs.length z) → Q .next s₂)
    (hk : env.scope.kind = .function := by rfl) (hx : env.kindOf x = some .local := by rfl)
    (hs : ∀ x, foldedSetIterable e env x = pure x := by intro _; rfl) :
    wpAny (model PG w) A (exec (.For (.Name x px) e body [] pos) env) Q E s := by
  refine wpAny_For (wpAny_mono he (fun v s₁ h₁ => ?_) fun _ _ e => e) hs
  obtain ⟨l, m, rfl, S₁, O, hJ⟩ := h₁
  obtain ⟨vs, hv, X⟩ := (O.of (i := 0) rfl).vals
  refine wpAny_pyIter_list X.isList ?_
  have O₂ := O.push { cls := .type "list_iterator", data := .fields #[.ref l, .int 0 0] } (P := fun o => o.cls = .type "list_iterator" ∧ o.data = .fields #[.ref l, .int ((0 : Nat) : Int) 0]) ⟨rfl, rfl⟩
  refine forLoopZ (ItR.list hh _ l xs) (fun i z => (l, iInts xs) :: C i z) J z₀ O₂ hJ (fun i z m h O _ => O.of (i := 0) rfl) (fun E' i z t m₁ s₂ P hi S hJ O => ?_) (fun m₁ z s₂ S hJ O => done m₁ z s₂ (S₁.trans (Sm.trans ⟨rfl, rfl, rfl⟩ S)) hJ O.tail) (by intro _; rfl) hx (by rw [hk]; rfl)
  exact turn E' _ l i z t m₁ s₂ P hi (S₁.trans (Sm.trans ⟨rfl, rfl, rfl⟩ S)) hJ O

/-- sorted(set(e)) -/
theorem eSortedSet {rp rp' pos pos' : Pos} {e : Expr} {l : Addr} {ns : List Int} {Q : Value → Shared → Prop} (G : Gl mg mb s.heap) (hh : A.handled = none) (hl : Has s.heap l (iInts ns)) (ok : PartsOk ns)
    (he : wpAny (model PG w) A (eval e env) (fun v s₁ => v = .ref l ∧ s₁ = s ∧ ∀ D s', Sm s s' → Keeps s.heap s'.heap → s.heap.get? D = none → Has s'.heap D (iInts (distinct ns)) → Q (.ref D) s') E s)
    (hk : env.scope.kind = .function := by rfl) (hl1 : env.kindOf "sorted" = some .globalImplicit := by rfl) (hl2 : env.kindOf "set" = some .globalImplicit := by rfl) (hg : env.globals = mainGlobals := by rfl) (hb : env.builtins = builtinsNs := by rfl)
    (hst : starEach [e] env = [(false, eval e env)] := by rfl)
    (hst' : starEach [.Call (.Name "set" rp') [e] [] pos'] env = [(false, eval (.Call (.Name "set" rp') [e] [] pos') env)] := by rfl) :
    wpAny (model PG w) A (eval (.Call (.Name "sorted" rp) [.Call (.Name "set" rp') [e] [] pos'] [] pos) env) Q E s := by
  refine wpAny_Call_NameR (eBuilt (v := .builtin "sorted") G (by decide +kernel) (by decide +kernel) ?_ (by decide) hk hl1 hg hb)
  refine PyProof.Rows.callWith_builtin1 (args_cons (wpAny_Call_NameR (eBuilt (v := .type "set") G (by decide +kernel) (by decide +kernel) ?_ (by decide) hk hl2 hg hb)) hst') hst'
  refine PyProof.Rows.callWith_type1 (args_cons (wpAny_mono he (fun v s₁ h₁ => ?_) fun _ _ e => e) hst) hst
  obtain ⟨rfl, rfl, hq⟩ := h₁
  refine args_nil ?_
  obtain ⟨vs, hv, X⟩ := hl.vals
  refine callSet hh X.isList (ns := ns) (by simpa using hv) ok.laid ok.few fun s₂ vs' ep S₂ K₂ X₂ V₂ => args_nil ?_
  have hd3 : (distinct ns).length ≤ 3 := ok.few _ (Nat.le_refl _)
  refine sortedSet hh X₂ V₂ hd3 ok.ris ok.srt fun D s₃ S₃ K₃ hD HD => ?_
  refine hq D s₃ (S₂.trans S₃) (K₂.trans K₃) ?_ HD
  cases q : s₁.heap.get? D with
  | none => rfl
  | some o => have := K₂ _ _ q; rw [hD] at this; cases this
end
end Mine
namespace Mine
open Builtin.Int (intBits)
abbrev spl (p q : Int) (x : Int) : List Int := sp p q 3 x
theorem spl_all : (([(1, 3), (3, 1), (2, 4), (4, 2), (1, 5), (5, 1)] : List (Int × Int)).all fun pq => (List.range 12).all fun j => decide ((spl pq.1 pq.2 (256 + (j : Int))).length ≤ 50) && decide (2 ≤ (spl pq.1 pq.2 (256 + (j : Int))).length) && (spl pq.1 pq.2 (256 + (j : Int))).all fun y => decide (1 ≤ y) && decide (y < 256)) = true := by decide +kernel
theorem GoodPair.spl {p q : Int} (h : GoodPair p q) {x : Int} (h1 : 256 ≤ x) (h2 : x < 268) : (spl p q x).length ≤ 50 ∧ 2 ≤ (Mine.spl p q x).length ∧ ∀ y ∈ Mine.spl p q x, digit 8 y := by
  have := List.all_eq_true.mp (List.all_eq_true.mp spl_all _ h) (x - 256).toNat (List.mem_range.mpr (by omega))
  rw [show (256 : Int) + ((x - 256).toNat : Nat) = x by omega] at this
  simp only [Bool.and_eq_true, decide_eq_true_eq, List.all_eq_true] at this
  exact ⟨this.1.1, this.1.2, fun y hy => ⟨by have := (this.2 y hy).1; omega, by have := (this.2 y hy).2; show y < 2 ^ 8; omega⟩⟩

def gS (p q : Int) (st : List Int) (k : Nat) : Int → Option Int := fun x => if 256 ≤ x ∧ x < 256 + k ∧ (x < 264 ∨ x ∈ st) then some (spl p q x).length else none
def gN (p q : Int) (st : List Int) (k : Nat) : Int → Option Int := fun x => if 256 ≤ x ∧ x < 256 + k ∧ (x < 264 ∨ x ∈ st) then some (d2i 8 (spl p q x)) else none
theorem g_step {F : Int → Int} {P : Int → Prop} [DecidablePred P] (k : Nat) {v : Int} (hv : F (256 + k) = v) : ∀ x y, (if 256 ≤ x ∧ x < 256 + ((k + 1 : Nat) : Int) ∧ P x then some (F x) else none) = some y →
    (if x = 256 + (k : Int) then some v else if 256 ≤ x ∧ x < 256 + (k : Int) ∧ P x then some (F x) else none) = some y := by
  intro x y e
  split at e
  · rename_i hc
    by_cases hx : x = 256 + (k : Int)
    · subst hx; rw [if_pos rfl, ← hv]; exact e
    · rw [if_neg hx, if_pos ⟨hc.1, by omega, hc.2.2⟩]; exact e
  · cases e
theorem g_skip {F : Int → Int} {P : Int → Prop} [DecidablePred P] (k : Nat) (hn : ¬ P (256 + k)) : ∀ x y, (if 256 ≤ x ∧ x < 256 + ((k + 1 : Nat) : Int) ∧ P x then some (F x) else none) = some y →
    (if 256 ≤ x ∧ x < 256 + (k : Int) ∧ P x then some (F x) else none) = some y := by
  intro x y e
  split at e
  · rename_i hc
    have hx : x ≠ 256 + (k : Int) := by rintro rfl; exact hn hc.2.2
    rw [if_pos ⟨hc.1, by omega, hc.2.2⟩]; exact e
  · cases e

theorem spl_step {p q : Int} (hp : 1 ≤ p ∧ p ≤ 8) (hq : 1 ≤ q ∧ q ≤ 8) {i : Nat} (hi : i < 12) : spl p q (256 + (i : Int)) = (ruleAt p q i).flatMap (spl p q) := by
  have := sp_step hp hq (x := 256 + (i : Int)) ⟨by omega, by omega⟩ (by omega)
  rw [show (256 + (i : Int) - 256).toNat = i by omega] at this
  exact this
theorem flatMap_single {f : Int → List Int} : ∀ {l : List Int}, (∀ x ∈ l, f x = [x]) → l.flatMap f = l
  | [], _ => rfl
  | x :: l, h => by rw [List.flatMap_cons, h x (.head _), flatMap_single fun y hy => h y (.tail _ hy)]; rfl
theorem spl_letters {p q : Int} (hp : 1 ≤ p ∧ p ≤ 8) (hq : 1 ≤ q ∧ q ≤ 8) {i : Nat} (hi : i < 4) : spl p q (256 + (i : Int)) = ruleAt p q i := by
  rw [spl_step hp hq (by omega)]
  refine flatMap_single fun x hx => ?_
  obtain ⟨h1, h2⟩ := ruleAt_mem hp hq (by omega) x hx
  have : x < 256 := by
    unfold lev at h2; split at h2
    · assumption
    · omega
  show (if x < 256 then [x] else _) = [x]
  rw [if_pos this]
theorem iMapI_S {p q : Int} {st : List Int} {i n : Nat} {v : Int} (hv : ((spl p q (256 + (i : Int))).length : Int) = v) (o : Obj) (h : iMapI (fun x => if x = 256 + (i : Int) then some v else gS p q st i x) n o) : iMapI (gS p q st (i + 1)) n o :=
  h.mono (fun x y e => g_step (F := fun x => ((spl p q x).length : Int)) (P := fun x => x < 264 ∨ x ∈ st) i hv x y e) (Nat.le_refl _)
theorem iMapI_N {p q : Int} {st : List Int} {i n : Nat} {v : Int} (hv : d2i 8 (spl p q (256 + (i : Int))) = v) (o : Obj) (h : iMapI (fun x => if x = 256 + (i : Int) then some v else gN p q st i x) n o) : iMapI (gN p q st (i + 1)) n o :=
  h.mono (fun x y e => g_step (F := fun x => d2i 8 (spl p q x)) (P := fun x => x < 264 ∨ x ∈ st) i hv x y e) (Nat.le_refl _)

theorem pow2_mono {a b : Nat} (h : a ≤ b) : (2 : Int) ^ a ≤ 2 ^ b := by
  have := Nat.pow_le_pow_right (show 0 < 2 by decide) h
  exact_mod_cast this
theorem pow256 (k : Nat) : (256 : Int) ^ k = 2 ^ (8 * k) := by rw [show (256 : Int) = 2 ^ 8 from rfl, ← Int.pow_mul]
theorem bits_ge2 {b : Int} (h : 3 ≤ b) : 2 ≤ intBits b := by
  rcases Nat.lt_or_ge (intBits b) 2 with h' | h'
  · have := lt_bits (x := b) (by omega) (m := 1) (by omega)
    omega
  · exact h'
theorem places_le {n : Nat} {a : Int} (hn : 2 ≤ n) (hn' : n ≤ 400) (ha : intBits a ≤ 400) : places n a ≤ 2 ^ 9 := by
  unfold places
  have : (intBits a + n - 1) / n ≤ (intBits a + n - 1) / 2 := Nat.div_le_div_left hn (by decide)
  omega
/-- the first j kinds of parts, spelled -/
def accAt (p q : Int) (l : List Int) (j : Nat) : List Int := ((distinct l).take j).flatMap fun x => (List.replicate (l.count x) (spl p q x)).flatten
theorem flatMap_flatMap' {f : Int → List Int} {g : Int → List Int} : ∀ l : List Int, (l.flatMap f).flatMap g = l.flatMap fun x => (f x).flatMap g
  | [] => rfl
  | x :: l => by rw [List.flatMap_cons, List.flatMap_append, flatMap_flatMap' l, List.flatMap_cons]
theorem flatMap_rep (f : Int → List Int) (x : Int) : ∀ k, (List.replicate k x).flatMap f = (List.replicate k (f x)).flatten
  | 0 => rfl
  | k + 1 => by rw [List.replicate_succ, List.flatMap_cons, flatMap_rep f x k, List.replicate_succ, List.flatten_cons]
theorem accAt_all {p q : Int} {l : List Int} (ok : PartsOk l) : accAt p q l (distinct l).length = l.flatMap (spl p q) := by
  have e : (l.flatMap (spl p q)) = ((distinct l).flatMap (fun x => List.replicate (l.count x) x)).flatMap (spl p q) := by rw [ok.again]
  rw [e, flatMap_flatMap']
  unfold accAt
  rw [List.take_length]
  exact flatMap_congr' fun x _ => (flatMap_rep _ _ _).symm
theorem accAt_succ {p q : Int} {l : List Int} {j : Nat} (hj : j < (distinct l).length) : accAt p q l (j + 1) = accAt p q l j ++ (List.replicate (l.count ((distinct l).getD j 0)) (spl p q ((distinct l).getD j 0))).flatten := by
  unfold accAt
  rw [List.take_succ, List.getElem?_eq_getElem hj, List.flatMap_append]
  simp [List.getD, hj]
theorem accAt_len {p q : Int} {l : List Int} (j : Nat) : (accAt p q l j).length ≤ (accAt p q l (distinct l).length).length := by
  unfold accAt
  rw [List.take_length]
  have := congrArg List.length (congrArg (fun x => List.flatMap (fun x => (List.replicate (l.count x) (spl p q x)).flatten) x) (List.take_append_drop j (distinct l)))
  simp only [List.flatMap_append, List.length_append] at this
  omega
theorem distinct_mem {l : List Int} {x : Int} (h : x ∈ distinct l) : x ∈ l := by
  obtain ⟨j, hj, rfl⟩ := firstMet_mem _ _ h
  simp [List.getD, hj]

variable {w : World} {A : Around} {E : Value → Shared → Prop} {s : Shared} {mg mb : Str → Option Value}
set_option pp.maxSteps 600
set_option pp.deepTerms.threshold 6
set_option maxHeartbeats 8000000 in
theorem packed_spec {z : Option Addr × Option Addr} {l rd : Addr} {st : List Int} {p q : Int} {Q : Value → Shared → Prop} (G : Gl mg mb (gh (tabs z) s.heap)) (H : Hd mg (gh (tabs z) s.heap)) (T : TabsIn z s.heap)
    (fit : Fit A 16) (hl : Has (gh (tabs z) s.heap) l (iInts st)) (hr : HasRules (gh (tabs z) s.heap) rd p q) (hpq : GoodPair p q) (hst : ∀ x ∈ st, 264 ≤ x ∧ x < 268) (hlen : st.length ≤ 20)
    (hQ : ∀ t s' z', Sm s s' → Step (tabs z) s.heap s'.heap (tabs z') → Q (.int (d2i 8 (st.flatMap (spl p q))) t) s') :
    wpAny (model PG w) A (call (.ref 124) [.ref l, .ref rd]) Q E s := by
  have G₀ := G.keeps gh_of
  have hp := hpq.p8
  have hq := hpq.q8
  obtain ⟨as, hrd, hrl⟩ := hr
  refine callDef (n := 15) (binds := [("start", .ref l), ("rules", .ref rd)]) G₀.f23 G₀.lim fit (fun _ _ => rfl) (by rfl) fun s₁ S₁ O₀ fit₁ => ?_
  have O₁ := O₀.begin T.at_ T.nodup
  -- sizes = {}; numbers = {}
  refine wpAny_execs_cons (sName (newMap O₁ fun sd s₂ S₂ O₂ => ⟨_, _, _, O₂, fun s₃ S₃ O₃ => ?_⟩))
  refine wpAny_execs_cons (sName (newMap O₃ fun nd s₄ S₄ O₄ => ⟨_, _, _, O₄, fun s₅ S₅ O₅ => ?_⟩))
  have e0 : ∀ o, iMap (fun _ => none) 0 o → iMapI (fun _ => none) 0 o := fun o h => ⟨_, h, fun _ _ e => by cases e⟩
  have O₆ := (((O₅.weak (i := 0) (P' := iMapI (gN p q st 0) 0) rfl fun o h => (e0 o h).mono (fun k v e => by unfold gN at e; rw [if_neg (by omega)] at e; cases e) (Nat.le_refl _)).weak (i := 1) (P' := iMapI (gS p q st 0) 0) rfl
    fun o h => (e0 o h).mono (fun k v e => by unfold gS at e; rw [if_neg (by omega)] at e; cases e) (Nat.le_refl _)))
  replace O₆ : Own (gh (tabs z) s.heap) s₅.heap s.heap.objs.size _ ((nd, iMapI (gN p q st 0) 0) :: (sd, iMapI (gS p q st 0) 0) :: tabs z) := O₆
  -- for symbol in range(256, 268)
  refine wpAny_execs_cons (forRangeZ (Z := Option Addr × Option Addr) 256 12 (fun k y => (nd, iMapI (gN p q st k) k) :: (sd, iMapI (gS p q st k) k) :: tabs y)
    (fun _ _ m => m "start" = some (.ref l) ∧ m "rules" = some (.ref rd) ∧ m "sizes" = some (.ref sd) ∧ m "numbers" = some (.ref nd)) z (h₀ := gh (tabs z) s.heap) (G.keeps O₆.keep) fit₁.handled ?_ ?_ ?_ (by decide) (by decide) (by decide))
  · exact wpAny_Constant_int (wpAny_Constant_int ⟨_, _, _, rfl, rfl, ⟨rfl, rfl, rfl⟩, O₆, by rfl, by rfl, by rfl, by rfl⟩)
  · intro E' it i y t m₁ s₆ P hi S₆ ⟨a1, a2, a3, a4⟩ O₇
    have b1 : upd m₁ "symbol" (.int (256 + i) t) "start" = some (.ref l) := (upd_ne (by decide)).trans a1
    have b2 : upd m₁ "symbol" (.int (256 + i) t) "rules" = some (.ref rd) := (upd_ne (by decide)).trans a2
    have b3 : upd m₁ "symbol" (.int (256 + i) t) "sizes" = some (.ref sd) := (upd_ne (by decide)).trans a3
    have b4 : upd m₁ "symbol" (.int (256 + i) t) "numbers" = some (.ref nd) := (upd_ne (by decide)).trans a4
    -- parts = rules[symbol]
    refine wpAny_execs_cons (sName (Subscript_ (eLocal O₇ b2 (eLocal O₇ upd_same (subMap (hrd.keeps O₇.keep) (v := .ref (as i)) ?_ fun s₇ S₇ H₇ => ?_)))))
    · unfold dictAt
      rw [if_pos (by omega), show (256 + (i : Int) - 256).toNat = i by omega]
    refine ⟨_, _, _, O₇.eqH H₇, fun s₈ S₈ O₈ => ?_⟩
    have c1 : upd (upd m₁ "symbol" (.int (256 + i) t)) "parts" (.ref (as i)) "start" = some (.ref l) := (upd_ne (by decide)).trans b1
    have c2 : upd (upd m₁ "symbol" (.int (256 + i) t)) "parts" (.ref (as i)) "rules" = some (.ref rd) := (upd_ne (by decide)).trans b2
    have c3 : upd (upd m₁ "symbol" (.int (256 + i) t)) "parts" (.ref (as i)) "sizes" = some (.ref sd) := (upd_ne (by decide)).trans b3
    have c4 : upd (upd m₁ "symbol" (.int (256 + i) t)) "parts" (.ref (as i)) "numbers" = some (.ref nd) := (upd_ne (by decide)).trans b4
    have c5 : upd (upd m₁ "symbol" (.int (256 + i) t)) "parts" (.ref (as i)) "parts" = some (.ref (as i)) := upd_same
    have c6 : upd (upd m₁ "symbol" (.int (256 + i) t)) "parts" (.ref (as i)) "symbol" = some (.int (256 + i) t) := (upd_ne (by decide)).trans upd_same
    generalize upd (upd m₁ "symbol" (.int (256 + i) t)) "parts" (.ref (as i)) = m₂ at *
    have hpg : Has (gh (tabs z) s.heap) (as i) (iInts (ruleAt p q i)) := hrl i hi
    have hpl := ruleAt_len hp hq i
    have hpp : 0 < (ruleAt p q i).length := by
      by_cases h4 : i < 4
      · rw [show ruleAt p q i = kindOf2 p q i from if_pos h4]; simp [kindOf2]
      · exact (hpq.parts (by omega) hi).pos
    have hg0 : (ruleAt p q i).getD 0 0 ∈ ruleAt p q i := by simp [List.getD, hpp]
    have hg0' := ruleAt_mem hp hq hi _ hg0
    -- if ISTERMINAL(parts[0])
    have G₈ := G.keeps O₈.keep
    refine wpAny_execs_cons (wpAny_If (isTrue_plain (eCall1 G₈ G.nm.isTerminal G₈.f14 (Subscript_ (eLocal O₈ c5 (wpAny_Constant_int (subInt (hpg.keeps O₈.keep) (by decide) (by omega) (by omega) fun t₁ => ⟨fun _ _ e => e, ?_⟩)))))))
    refine isTerminal_spec G₈ (fit₁.le (by omega)) fun s₉ S₉ K₉ => wpAny_truthy_bool ?_
    have O₉ := O₈.keeps K₉
    have S₉' : Sm s₆ s₉ := Sm.trans S₇ (Sm.trans S₈ (Sm.trans ⟨rfl, rfl, rfl⟩ S₉))
    clear O₇ O₈ G₈
    by_cases h4 : i < 4
    · have hlt : (ruleAt p q i).getD (Int.toNat 0) 0 < 256 := by
        have := hg0'.2
        unfold lev at this
        split at this
        · assumption
        · omega
      rw [decide_eq_true hlt, if_pos rfl]
      have hsl := spl_letters hp hq h4
      -- sizes[symbol] = 2
      refine wpAny_execs_cons (wpAny_Assign_Subscript (wpAny_Constant_int (eLocal O₉ c3 (eLocal O₉ c6 (setMapI (i := 2) O₉ rfl (by omega) fun s₁₀ S₁₀ O₁₀ => ?_)))))
      replace O₁₀ : Own (gh (tabs z) s.heap) s₁₀.heap s.heap.objs.size m₂ ([(it, P), (nd, iMapI (gN p q st i) i), (sd, iMapI (fun x => if x = 256 + (i : Int) then some 2 else gS p q st i x) (i + 1))] ++ tabs y) := O₁₀
      have G₁₀ := G.keeps O₁₀.keep
      -- numbers[symbol] = _digits2int(parts, 8)
      refine wpAny_execs_cons (wpAny_Assign_Subscript (eCall2 G₁₀ G.nm.digits2int G₁₀.f8 (eLocal O₁₀ c5 (wpAny_Constant_int ⟨fun _ _ e => e, ?_⟩))))
      refine digits2int_spec (z := y) (n := 8) (ns := ruleAt p q i) (G.keeps O₁₀.keepGh) (H.keeps O₁₀.keepGh) O₁₀.tabsIn (fit₁.le (by omega)) (hpg.keeps O₁₀.keepGh) ?_ (by omega) (by decide) fun tn s₁₁ y' S₁₁ X₁₁ => ?_
      · intro x hx
        obtain ⟨h1, h2⟩ := ruleAt_mem hp hq hi x hx
        have : x < 256 := by
          unfold lev at h2; split at h2
          · assumption
          · omega
        exact ⟨by have := h1.1; omega, this⟩
      have O₁₁ := O₁₀.step X₁₁
      refine eLocal O₁₁ c4 (eLocal O₁₁ c6 (setMapI (i := 1) O₁₁ rfl (by omega) fun s₁₂ S₁₂ O₁₂ => wpAny_execs_nil (wpAny_execs_nil ?_)))
      refine ⟨.inl rfl, S₉'.trans (Sm.trans (Sm.trans ⟨rfl, rfl, rfl⟩ S₁₀) (Sm.trans (Sm.trans ⟨rfl, rfl, rfl⟩ S₁₁) S₁₂)), y', m₂, ⟨c1, c2, c3, c4⟩, ?_⟩
      exact (O₁₂.weak (i := 1) (P' := iMapI (gN p q st (i + 1)) (i + 1)) rfl (iMapI_N (by rw [hsl]))).weak (i := 2) (P' := iMapI (gS p q st (i + 1)) (i + 1)) rfl (iMapI_S (by
        rw [hsl, show ruleAt p q i = kindOf2 p q i from if_pos h4]; rfl))
    · have hge : ¬ (ruleAt p q i).getD (Int.toNat 0) 0 < 256 := by
        intro hlt
        have := hg0'.2
        have hlt' : (ruleAt p q i).getD 0 0 < 256 := hlt
        unfold lev at this
        rw [if_pos hlt'] at this
        omega
      rw [decide_eq_false hge, if_neg (by decide)]
      have ok := hpq.parts (by omega : 4 ≤ i) hi
      -- elif symbol < 264 or symbol in start
      refine wpAny_execs_cons (wpAny_If (wpAny_mono (Q := fun c s' => c = decide (256 + (i : Int) < 264 ∨ 256 + (i : Int) ∈ st) ∧ Sm s₉ s' ∧ s'.heap = s₉.heap) ?_ (fun c s₁₀ h₁₀ => ?_) fun _ _ e => e))
      · refine isTrue_two_or (wpAny_isTrue_Compare1 (eLocal O₉ c6 (wpAny_Constant_int (lt_int (wpAny_truthy_bool ?_)))))
        by_cases h8 : 256 + (i : Int) < 264
        · rw [decide_eq_true h8, if_pos rfl]
          exact ⟨by simp [h8], ⟨rfl, rfl, rfl⟩, rfl⟩
        · rw [decide_eq_false h8, if_neg (by decide)]
          refine wpAny_isTrue_Compare1 (eLocal O₉ c6 (eLocal O₉ c1 (inInts (hl.keeps O₉.keep) (wpAny_truthy_bool ?_))))
          refine ⟨?_, ⟨rfl, rfl, rfl⟩, rfl⟩
          by_cases hm : 256 + (i : Int) ∈ st
          · simp [hm]
          · simp [hm, h8]
            intro x hx e; exact hm (e ▸ hx)
      obtain ⟨rfl, S₁₀, H₁₀⟩ := h₁₀
      have O₁₀ := O₉.eqH H₁₀
      have S₁₀' := S₉'.trans S₁₀
      clear O₉ S₉ S₁₀ H₁₀
      by_cases hpr : 256 + (i : Int) < 264 ∨ 256 + (i : Int) ∈ st
      · rw [decide_eq_true hpr, if_pos rfl]
        -- size = 0; number = 0
        refine wpAny_execs_cons (sName (wpAny_Constant_int ⟨_, _, _, O₁₀, fun s₁₁ S₁₁ O₁₁ => ?_⟩))
        refine wpAny_execs_cons (sName (wpAny_Constant_int ⟨_, _, _, O₁₁, fun s₁₂ S₁₂ O₁₂ => ?_⟩))
        have S₁₂' : Sm s₆ s₁₂ := S₁₀'.trans (Sm.trans (Sm.trans ⟨rfl, rfl, rfl⟩ S₁₁) (Sm.trans ⟨rfl, rfl, rfl⟩ S₁₂))
        have htot : accAt p q (ruleAt p q i) (distinct (ruleAt p q i)).length = spl p q (256 + (i : Int)) := by rw [accAt_all ok, spl_step hp hq hi]
        have h50 := (hpq.spl (x := 256 + (i : Int)) (by omega) (by omega)).1
        have ha50 : ∀ j, (accAt p q (ruleAt p q i) j).length ≤ 50 := fun j => by have := accAt_len (p := p) (q := q) (l := ruleAt p q i) j; rw [htot] at this; omega
        have hdig : ∀ j, ∀ x ∈ accAt p q (ruleAt p q i) j, digit 8 x := by
          intro j x hx
          unfold accAt at hx
          obtain ⟨u, hu, hx⟩ := List.mem_flatMap.mp hx
          obtain ⟨v, hv, hx⟩ := List.mem_flatten.mp hx
          obtain ⟨h1, h2⟩ := ruleAt_mem hp hq hi u (distinct_mem (List.mem_of_mem_take hu))
          have hu6 : 256 ≤ u := by
            unfold lev at h2; split at h2
            · omega
            · omega
          rw [List.eq_of_mem_replicate hv] at hx
          exact (hpq.spl hu6 h1.2).2.2 x hx
        -- for part in sorted(set(parts))
        refine wpAny_execs_cons (forListE (Z := Option Addr × Option Addr) (distinct (ruleAt p q i)) (fun _ y => (it, P) :: (nd, iMapI (gN p q st i) i) :: (sd, iMapI (gS p q st i) i) :: tabs y)
          (fun j _ m => (∃ t, m "size" = some (.int (accAt p q (ruleAt p q i) j).length t)) ∧ (∃ t, m "number" = some (.int (d2i 8 (accAt p q (ruleAt p q i) j)) t)) ∧ m "start" = some (.ref l) ∧ m "rules" = some (.ref rd) ∧ m "sizes" = some (.ref sd) ∧ m "numbers" = some (.ref nd) ∧ m "parts" = some (.ref (as i)) ∧ m "symbol" = some (.int (256 + i) t))
          y (h₀ := gh (tabs z) s.heap) fit₁.handled ?_ ?_ ?_)
        · refine eSortedSet (G.keeps O₁₂.keep) fit₁.handled (hpg.keeps O₁₂.keep) ok (eLocal O₁₂ ((upd_ne (by decide)).trans ((upd_ne (by decide)).trans c5)) ⟨rfl, rfl, fun D s₁₃ S₁₃ K₁₃ hD HD => ?_⟩)
          refine ⟨D, _, rfl, S₁₃, O₁₂.add K₁₃ hD HD, ?_⟩
          exact ⟨⟨_, (upd_ne (by decide)).trans upd_same⟩, ⟨_, upd_same⟩, (upd_ne (by decide)).trans ((upd_ne (by decide)).trans c1), (upd_ne (by decide)).trans ((upd_ne (by decide)).trans c2), (upd_ne (by decide)).trans ((upd_ne (by decide)).trans c3),
            (upd_ne (by decide)).trans ((upd_ne (by decide)).trans c4), (upd_ne (by decide)).trans ((upd_ne (by decide)).trans c5), (upd_ne (by decide)).trans ((upd_ne (by decide)).trans c6)⟩
        · intro E'' it' D j y' t₃ m₃ s₁₃ P' hj S₁₃ ⟨⟨t1, j1⟩, ⟨t2, j2⟩, j3, j4, j5, j6, j7, j8⟩ O₁₃
          have hsucc := accAt_succ (p := p) (q := q) hj
          have hpm : (distinct (ruleAt p q i)).getD j 0 ∈ distinct (ruleAt p q i) := by simp [List.getD, hj]
          generalize (distinct (ruleAt p q i)).getD j 0 = part at *
          obtain ⟨hpo, hplv⟩ := ruleAt_mem hp hq hi part (distinct_mem hpm)
          have hp6 : 256 ≤ part ∧ part < 256 + (i : Int) ∧ part < 264 := by
            unfold lev at hplv
            split at hplv
            · omega
            · have := hpo.2; omega
          obtain ⟨q1, q2, q3⟩ := hpq.spl hp6.1 hpo.2
          generalize hS : spl p q part = S at *
          have hgs : gS p q st i part = some (S.length : Int) := by unfold gS; rw [if_pos ⟨hp6.1, hp6.2.1, .inl hp6.2.2⟩, hS]
          have hgn : gN p q st i part = some (d2i 8 S) := by unfold gN; rw [if_pos ⟨hp6.1, hp6.2.1, .inl hp6.2.2⟩, hS]
          generalize hc : (ruleAt p q i).count part = c at *
          have hcl : S.length * c ≤ 50 := by
            have h1 := ha50 (j + 1)
            rw [hsucc, List.length_append, len_copies] at h1
            omega
          have b1 : upd m₃ "part" (.int part t₃) "size" = some (.int (accAt p q (ruleAt p q i) j).length t1) := (upd_ne (by decide)).trans j1
          have b2 : upd m₃ "part" (.int part t₃) "number" = some (.int (d2i 8 (accAt p q (ruleAt p q i) j)) t2) := (upd_ne (by decide)).trans j2
          have b3 : upd m₃ "part" (.int part t₃) "start" = some (.ref l) := (upd_ne (by decide)).trans j3
          have b4 : upd m₃ "part" (.int part t₃) "rules" = some (.ref rd) := (upd_ne (by decide)).trans j4
          have b5 : upd m₃ "part" (.int part t₃) "sizes" = some (.ref sd) := (upd_ne (by decide)).trans j5
          have b6 : upd m₃ "part" (.int part t₃) "numbers" = some (.ref nd) := (upd_ne (by decide)).trans j6
          have b7 : upd m₃ "part" (.int part t₃) "parts" = some (.ref (as i)) := (upd_ne (by decide)).trans j7
          have b8 : upd m₃ "part" (.int part t₃) "symbol" = some (.int (256 + i) t) := (upd_ne (by decide)).trans j8
          have b9 : upd m₃ "part" (.int part t₃) "part" = some (.int part t₃) := upd_same
          generalize upd m₃ "part" (.int part t₃) = m₄ at *
          -- many = parts.count(part)
          refine wpAny_execs_cons (sName (eListMeth F.slot_list_count F.type_list_count (eLocal O₁₃ b7 ?_)))
          obtain ⟨vs, hv, X⟩ := (hpg.keeps O₁₃.keep).vals
          refine ⟨_, _, rfl, X, countInts (hpg.keeps O₁₃.keep) (eLocal O₁₃ b9 ⟨t₃, rfl, rfl, fun u₁ => ⟨_, _, _, O₁₃, fun s₁₄ S₁₄ O₁₄ => ?_⟩⟩)⟩
          rw [hc] at O₁₄
          have d1 : upd m₄ "many" (.int c u₁) "size" = some (.int (accAt p q (ruleAt p q i) j).length t1) := (upd_ne (by decide)).trans b1
          have d2 : upd m₄ "many" (.int c u₁) "number" = some (.int (d2i 8 (accAt p q (ruleAt p q i) j)) t2) := (upd_ne (by decide)).trans b2
          have d3 : upd m₄ "many" (.int c u₁) "start" = some (.ref l) := (upd_ne (by decide)).trans b3
          have d4 : upd m₄ "many" (.int c u₁) "rules" = some (.ref rd) := (upd_ne (by decide)).trans b4
          have d5 : upd m₄ "many" (.int c u₁) "sizes" = some (.ref sd) := (upd_ne (by decide)).trans b5
          have d6 : upd m₄ "many" (.int c u₁) "numbers" = some (.ref nd) := (upd_ne (by decide)).trans b6
          have d7 : upd m₄ "many" (.int c u₁) "parts" = some (.ref (as i)) := (upd_ne (by decide)).trans b7
          have d8 : upd m₄ "many" (.int c u₁) "symbol" = some (.int (256 + i) t) := (upd_ne (by decide)).trans b8
          have d9 : upd m₄ "many" (.int c u₁) "part" = some (.int part t₃) := (upd_ne (by decide)).trans b9
          have d10 : upd m₄ "many" (.int c u₁) "many" = some (.int c u₁) := upd_same
          generalize upd m₄ "many" (.int c u₁) = m₅ at *
          replace O₁₄ : Own (gh (tabs z) s.heap) s₁₄.heap s.heap.objs.size m₅ ([(it', P'), (D, iInts (distinct (ruleAt p q i))), (it, P), (nd, iMapI (gN p q st i) i), (sd, iMapI (gS p q st i) i)] ++ tabs y') := O₁₄
          -- times, rest = int_divmod(..)
          have G₁₄ := G.keeps O₁₄.keep
          have hcl' : ((S.length : Int) * (c : Int)) = ((S.length * c : Nat) : Int) := by push_cast; rfl
          refine wpAny_execs_cons (Assign_Tuple (eCall2 G₁₄ G.nm.intDivmod G₁₄.f10 (wpAny_BinOp (wpAny_BinOp (wpAny_Constant_int (wpAny_BinOp (Subscript_ (eLocal O₁₄ d5 (eLocal O₁₄ d9 (subMapI (O₁₄.of (i := 4) rfl) hgs fun u₂ s₁₅ S₁₅ H₁₅ => ?_))))))))))
          have O₁₅ := O₁₄.eqH H₁₅
          refine eLocal O₁₅ d10 (mul_int ?_ (mulOk_small (by omega) (by omega)))
          rw [hcl']
          refine pow_int (by omega) (by rw [show intBits 256 = 9 from by decide +kernel]; omega) (wpAny_Constant_int (sub_int ?_))
          rw [Int.toNat_natCast, pow256]
          refine atState (s₀ := s₁₅) (by exact ⟨rfl, rfl, rfl⟩) rfl fun s₁₆ S₁₆ H₁₆ => ?_
          have O₁₆ := O₁₅.eqH H₁₆
          refine wpAny_BinOp (wpAny_BinOp (wpAny_Constant_int (Subscript_ (eLocal O₁₆ d5 (eLocal O₁₆ d9 (subMapI (O₁₆.of (i := 4) rfl) hgs fun u₃ s₁₇ S₁₇ H₁₇ => ?_))))))
          refine pow_int (by omega) (by rw [show intBits 256 = 9 from by decide +kernel]; omega) (wpAny_Constant_int (sub_int ?_))
          rw [Int.toNat_natCast, pow256]
          have O₁₇ := O₁₆.eqH H₁₇
          refine ⟨fun b o e => by
            show s₁₇.heap.get? b = some o
            rw [H₁₇, H₁₆, H₁₅]; exact e, ?_⟩
          refine atState (s₀ := s₁₇) (by exact ⟨rfl, rfl, rfl⟩) rfl fun s₁₈ S₁₈ H₁₈ => ?_
          have O₁₈ := O₁₇.eqH H₁₈
          have hSz : S.length ≤ 50 := q1
          have hB : (2 : Int) ^ 16 ≤ 2 ^ (8 * S.length) := pow2_mono (by omega)
          have hB' : (2 : Int) ^ (8 * S.length) ≤ 2 ^ 400 := pow2_mono (by omega)
          have hK' : (2 : Int) ^ (8 * (S.length * c)) ≤ 2 ^ 400 := pow2_mono (by omega)
          have hK0 := two_pos (8 * (S.length * c))
          have hgeo : ((2 : Int) ^ (8 * S.length) - 1) * geo (2 ^ (8 * S.length)) c = 2 ^ (8 * (S.length * c)) - 1 := by
            rw [geo_mul, ← Int.pow_mul, Nat.mul_assoc]
          have hg0 : 0 ≤ geo (2 ^ (8 * S.length)) c := geo_nonneg (by omega) c
          obtain ⟨hdiv, hmod⟩ := div_exact (by omega) hgeo
          have hgle : geo (2 ^ (8 * S.length)) c < 2 ^ 400 := by
            have h1 : 1 * geo (2 ^ (8 * S.length)) c ≤ ((2 : Int) ^ (8 * S.length) - 1) * geo (2 ^ (8 * S.length)) c := Int.mul_le_mul_of_nonneg_right (by omega) hg0
            rw [hgeo, Int.one_mul] at h1
            omega
          have hib : intBits ((2 : Int) ^ (8 * S.length) - 1) ≤ 400 := bits_of (by omega) (by omega)
          have hia : intBits ((2 : Int) ^ (8 * (S.length * c)) - 1) ≤ 400 := bits_of (by omega) (by omega)
          refine intDivmod_spec (z := y') (G.keeps O₁₈.keepGh) (H.keeps O₁₈.keepGh) O₁₈.tabsIn (fit₁.le (by omega)) (by omega) (by omega) (by omega) (by omega) (places_le (bits_ge2 (by omega)) hib hia) fun rt s₁₉ y'' S₁₉ X₁₉ => ?_
          rw [hdiv, hmod] at X₁₉
          have O₁₉ := O₁₈.step X₁₉
          generalize hg : geo (2 ^ (8 * S.length)) c = g at *
          refine unpackTup fit₁.handled O₁₉ (O₁₉.of (i := 5) rfl) fun tg tz s₂₀ S₂₀ O₂₀ => ?_
          refine assignInOrder_cons (assign_Name (sLocal O₂₀ fun s₂₁ S₂₁ O₂₁ => ?_))
          refine assignInOrder_cons (assign_Name (sLocal O₂₁ fun s₂₂ S₂₂ O₂₂ => assignInOrder_nil ?_))
          have f1 : upd (upd m₅ "times" (.int g tg)) "rest" (.int 0 tz) "size" = some (.int (accAt p q (ruleAt p q i) j).length t1) := (upd_ne (by decide)).trans ((upd_ne (by decide)).trans d1)
          have f2 : upd (upd m₅ "times" (.int g tg)) "rest" (.int 0 tz) "number" = some (.int (d2i 8 (accAt p q (ruleAt p q i) j)) t2) := (upd_ne (by decide)).trans ((upd_ne (by decide)).trans d2)
          have f3 : upd (upd m₅ "times" (.int g tg)) "rest" (.int 0 tz) "start" = some (.ref l) := (upd_ne (by decide)).trans ((upd_ne (by decide)).trans d3)
          have f4 : upd (upd m₅ "times" (.int g tg)) "rest" (.int 0 tz) "rules" = some (.ref rd) := (upd_ne (by decide)).trans ((upd_ne (by decide)).trans d4)
          have f5 : upd (upd m₅ "times" (.int g tg)) "rest" (.int 0 tz) "sizes" = some (.ref sd) := (upd_ne (by decide)).trans ((upd_ne (by decide)).trans d5)
          have f6 : upd (upd m₅ "times" (.int g tg)) "rest" (.int 0 tz) "numbers" = some (.ref nd) := (upd_ne (by decide)).trans ((upd_ne (by decide)).trans d6)
          have f7 : upd (upd m₅ "times" (.int g tg)) "rest" (.int 0 tz) "parts" = some (.ref (as i)) := (upd_ne (by decide)).trans ((upd_ne (by decide)).trans d7)
          have f8 : upd (upd m₅ "times" (.int g tg)) "rest" (.int 0 tz) "symbol" = some (.int (256 + i) t) := (upd_ne (by decide)).trans ((upd_ne (by decide)).trans d8)
          have f9 : upd (upd m₅ "times" (.int g tg)) "rest" (.int 0 tz) "part" = some (.int part t₃) := (upd_ne (by decide)).trans ((upd_ne (by decide)).trans d9)
          have f10 : upd (upd m₅ "times" (.int g tg)) "rest" (.int 0 tz) "many" = some (.int c u₁) := (upd_ne (by decide)).trans ((upd_ne (by decide)).trans d10)
          have f11 : upd (upd m₅ "times" (.int g tg)) "rest" (.int 0 tz) "times" = some (.int g tg) := (upd_ne (by decide)).trans upd_same
          have f12 : upd (upd m₅ "times" (.int g tg)) "rest" (.int 0 tz) "rest" = some (.int 0 tz) := upd_same
          generalize upd (upd m₅ "times" (.int g tg)) "rest" (.int 0 tz) = m₆ at *
          have S₂₂' : Sm s₁₃ s₂₂ := Sm.trans (Sm.trans ⟨rfl, rfl, rfl⟩ S₁₄) (Sm.trans (Sm.trans ⟨rfl, rfl, rfl⟩ S₁₅) (S₁₆.trans (Sm.trans (Sm.trans ⟨rfl, rfl, rfl⟩ S₁₇) (S₁₈.trans (S₁₉.trans (S₂₀.trans (S₂₁.trans S₂₂)))))))
          have hN := d2i_bound 8 S (fun x hx => q3 x hx)
          have hacb := d2i_bound 8 _ (hdig j)
          have haj := ha50 j
          generalize haccg : accAt p q (ruleAt p q i) j = acc at *
          have hN' : d2i 8 S < 2 ^ 400 := Int.lt_of_lt_of_le hN.2 hB'
          -- number += (numbers[part] * times + rest) * 256 ** size
          refine wpAny_execs_cons (augName O₂₂ f2 (wpAny_BinOp (wpAny_BinOp (wpAny_BinOp (Subscript_ (eLocal O₂₂ f6 (eLocal O₂₂ f9 (subMapI (O₂₂.of (i := 3) rfl) hgn fun u₄ s₂₃ S₂₃ H₂₃ => ?_))))))))
          have O₂₃ := O₂₂.eqH H₂₃
          refine eLocal O₂₃ f11 (mul_int (eLocal O₂₃ f12 (add_int (wpAny_BinOp (wpAny_Constant_int (eLocal O₂₃ f1 (pow_int (by omega) (by rw [show intBits 256 = 9 from by decide +kernel]; omega) (mul_int (iadd_int ?_) ?_))))))) (IntMulOk.of_le (bits_of hN.1 hN') (bits_of hg0 hgle) (by decide)))
          rotate_left
          · rw [Int.toNat_natCast, pow256]
            refine IntMulOk.of_le (m := 801) (n := 402) ?_ (bits_of (Int.le_of_lt (two_pos _)) ?_) (by decide)
            · refine bits_of (by have := Int.mul_nonneg hN.1 hg0; omega) ?_
              have h1 : d2i 8 S * g ≤ 2 ^ 400 * 2 ^ 400 := Int.mul_le_mul (Int.le_of_lt hN') (Int.le_of_lt hgle) hg0 (Int.le_of_lt (two_pos _))
              rw [← Int.pow_add] at h1
              have h2 : (2 : Int) ^ (400 + 400) < 2 ^ 801 := by decide
              omega
            · have : (2 : Int) ^ (8 * acc.length) ≤ 2 ^ 400 := pow2_mono (by omega)
              have h2 : (2 : Int) ^ 400 < 2 ^ 402 := by decide
              omega
          refine ⟨_, _, _, O₂₃, fun s₂₄ S₂₄ O₂₄ => ?_⟩
          have d2acc : d2i 8 acc + (d2i 8 S * g + 0) * 256 ^ ((acc.length : Nat) : Int).toNat = d2i 8 (accAt p q (ruleAt p q i) (j + 1)) := by
            rw [hsucc, d2i_append, d2i_copies, hg, Int.toNat_natCast, pow256, Int.add_zero, Int.mul_comm (2 ^ (8 * acc.length))]
          rw [d2acc] at O₂₄
          -- size += sizes[part] * many
          refine wpAny_execs_cons (augName O₂₄ ((upd_ne (by decide)).trans f1) (wpAny_BinOp (Subscript_ (eLocal O₂₄ ((upd_ne (by decide)).trans f5) (eLocal O₂₄ ((upd_ne (by decide)).trans f9) (subMapI (O₂₄.of (i := 4) rfl) hgs fun u₅ s₂₅ S₂₅ H₂₅ => ?_))))))
          have O₂₅ := O₂₄.eqH H₂₅
          refine eLocal O₂₅ ((upd_ne (by decide)).trans f10) (mul_int (iadd_int ⟨_, _, _, O₂₅, fun s₂₆ S₂₆ O₂₆ => wpAny_execs_nil ?_⟩) (mulOk_small (by omega) (by omega)))
          have hlacc : (acc.length : Int) + (S.length : Int) * (c : Int) = ((accAt p q (ruleAt p q i) (j + 1)).length : Int) := by
            rw [hsucc, List.length_append, len_copies]; push_cast; rfl
          rw [hlacc] at O₂₆
          have OF := O₂₆.sub (.cons_cons _ (.cons_cons _ (.cons_cons _ (.cons_cons _ (.cons_cons _ (.cons _ (List.Sublist.refl _)))))))
          refine ⟨.inl rfl, S₂₂'.trans (Sm.trans S₂₃ (Sm.trans (Sm.trans ⟨rfl, rfl, rfl⟩ S₂₄) (Sm.trans S₂₅ (Sm.trans ⟨rfl, rfl, rfl⟩ S₂₆)))), y'', _, ?_, OF⟩
          exact ⟨⟨_, upd_same⟩, ⟨_, (upd_ne (by decide)).trans upd_same⟩, (upd_ne (by decide)).trans ((upd_ne (by decide)).trans f3), (upd_ne (by decide)).trans ((upd_ne (by decide)).trans f4),
            (upd_ne (by decide)).trans ((upd_ne (by decide)).trans f5), (upd_ne (by decide)).trans ((upd_ne (by decide)).trans f6), (upd_ne (by decide)).trans ((upd_ne (by decide)).trans f7), (upd_ne (by decide)).trans ((upd_ne (by decide)).trans f8)⟩
        · intro m₃ y' s₁₃ S₁₃ ⟨⟨t1, j1⟩, ⟨t2, j2⟩, j3, j4, j5, j6, j7, j8⟩ O₁₃
          rw [htot] at j1 j2
          -- sizes[symbol] = size; numbers[symbol] = number
          refine wpAny_execs_cons (wpAny_Assign_Subscript (eLocal O₁₃ j1 (eLocal O₁₃ j5 (eLocal O₁₃ j8 (setMapI (i := 2) O₁₃ rfl (by omega) fun s₁₄ S₁₄ O₁₄ => ?_)))))
          refine wpAny_execs_cons (wpAny_Assign_Subscript (eLocal O₁₄ j2 (eLocal O₁₄ j6 (eLocal O₁₄ j8 (setMapI (i := 1) O₁₄ rfl (by omega) fun s₁₅ S₁₅ O₁₅ => wpAny_execs_nil (wpAny_execs_nil (wpAny_execs_nil ?_)))))))
          refine ⟨.inl rfl, S₁₂'.trans (S₁₃.trans (S₁₄.trans S₁₅)), y', m₃, ⟨j3, j4, j5, j6⟩, ?_⟩
          exact (O₁₅.weak (i := 1) (P' := iMapI (gN p q st (i + 1)) (i + 1)) rfl (iMapI_N rfl)).weak (i := 2) (P' := iMapI (gS p q st (i + 1)) (i + 1)) rfl (iMapI_S rfl)
      · rw [decide_eq_false hpr, if_neg (by decide)]
        refine wpAny_execs_nil (wpAny_execs_nil (wpAny_execs_nil ⟨.inl rfl, S₁₀', y, m₂, ⟨c1, c2, c3, c4⟩, ?_⟩))
        refine (O₁₀.weak (i := 1) (P' := iMapI (gN p q st (i + 1)) (i + 1)) rfl fun o h => h.mono (fun x y e => g_skip (F := fun x => d2i 8 (spl p q x)) (P := fun x => x < 264 ∨ x ∈ st) i hpr x y e) (Nat.le_succ _)).weak (i := 2) (P' := iMapI (gS p q st (i + 1)) (i + 1)) rfl fun o h =>
          h.mono (fun x y e => g_skip (F := fun x => ((spl p q x).length : Int)) (P := fun x => x < 264 ∨ x ∈ st) i hpr x y e) (Nat.le_succ _)
  · intro m₁ y s₆ S₆ ⟨a1, a2, a3, a4⟩ O₇
    -- size = 0; number = 0
    refine wpAny_execs_cons (sName (wpAny_Constant_int ⟨_, _, _, O₇, fun s₇ S₇ O₈ => ?_⟩))
    refine wpAny_execs_cons (sName (wpAny_Constant_int ⟨_, _, _, O₈, fun s₈ S₈ O₉ => ?_⟩))
    have S₈' : Sm s s₈ := S₁.trans (S₂.trans (S₃.trans (S₄.trans (S₅.trans (S₆.trans (Sm.trans (Sm.trans ⟨rfl, rfl, rfl⟩ S₇) (Sm.trans ⟨rfl, rfl, rfl⟩ S₈)))))))
    have hst' : ∀ x ∈ st, 256 ≤ x ∧ x < 268 := fun x hx => by have := hst x hx; omega
    have hdig : ∀ j, ∀ x ∈ (st.take j).flatMap (spl p q), digit 8 x := by
      intro j x hx
      obtain ⟨u, hu, hx⟩ := List.mem_flatMap.mp hx
      have := hst' u (List.mem_of_mem_take hu)
      exact (hpq.spl this.1 this.2).2.2 x hx
    have hln : ∀ l' : List Int, (∀ x ∈ l', 256 ≤ x ∧ x < 268) → (l'.flatMap (spl p q)).length ≤ 50 * l'.length := by
      intro l' h'
      induction l' with
      | nil => simp
      | cons x l' ih =>
        rw [List.flatMap_cons, List.length_append, List.length_cons, Nat.mul_succ]
        have := ih fun x hx => h' x (.tail _ hx)
        have := (hpq.spl (h' x (.head _)).1 (h' x (.head _)).2).1
        omega
    have hl1000 : ∀ j, ((st.take j).flatMap (spl p q)).length ≤ 1000 := fun j => by
      have := hln (st.take j) fun x hx => hst' x (List.mem_of_mem_take hx)
      have h2 : (st.take j).length ≤ 20 := by rw [List.length_take]; omega
      omega
    -- for symbol in start
    refine wpAny_execs_cons (forListZ (Z := Unit) st l (fun _ _ => (nd, iMapI (gN p q st 12) 12) :: (sd, iMapI (gS p q st 12) 12) :: tabs y)
      (fun j _ m => (∃ t, m "size" = some (.int ((st.take j).flatMap (spl p q)).length t)) ∧ (∃ t, m "number" = some (.int (d2i 8 ((st.take j).flatMap (spl p q))) t)) ∧ m "sizes" = some (.ref sd) ∧ m "numbers" = some (.ref nd))
      () (h₀ := gh (tabs z) s.heap) fit₁.handled ?_ ?_ ?_ ?_)
    · refine eLocal O₉ ((upd_ne (by decide)).trans ((upd_ne (by decide)).trans a1)) ⟨_, rfl, Sm.refl _, O₉, ?_⟩
      exact ⟨⟨_, (upd_ne (by decide)).trans upd_same⟩, ⟨_, upd_same⟩, (upd_ne (by decide)).trans ((upd_ne (by decide)).trans a3), (upd_ne (by decide)).trans ((upd_ne (by decide)).trans a4)⟩
    · intro i u m h O _
      exact hl.keeps O.keep
    · intro E' it j u t m₂ s₉ P hj S₉ ⟨⟨t1, j1⟩, ⟨t2, j2⟩, j3, j4⟩ O₁₀
      have htk : st.take (j + 1) = st.take j ++ [st.getD j 0] := by
        rw [List.take_succ, List.getElem?_eq_getElem hj]; simp [List.getD, hj]
      have hm : st.getD j 0 ∈ st := by simp [List.getD, hj]
      generalize st.getD j 0 = x at *
      have hx := hst' x hm
      obtain ⟨q1, q2, q3⟩ := hpq.spl hx.1 hx.2
      have hgs : gS p q st 12 x = some ((spl p q x).length : Int) := if_pos ⟨hx.1, by omega, .inr hm⟩
      have hgn : gN p q st 12 x = some (d2i 8 (spl p q x)) := if_pos ⟨hx.1, by omega, .inr hm⟩
      have b1 : upd m₂ "symbol" (.int x t) "size" = some (.int ((st.take j).flatMap (spl p q)).length t1) := (upd_ne (by decide)).trans j1
      have b2 : upd m₂ "symbol" (.int x t) "number" = some (.int (d2i 8 ((st.take j).flatMap (spl p q))) t2) := (upd_ne (by decide)).trans j2
      have b3 : upd m₂ "symbol" (.int x t) "sizes" = some (.ref sd) := (upd_ne (by decide)).trans j3
      have b4 : upd m₂ "symbol" (.int x t) "numbers" = some (.ref nd) := (upd_ne (by decide)).trans j4
      have b5 : upd m₂ "symbol" (.int x t) "symbol" = some (.int x t) := upd_same
      generalize upd m₂ "symbol" (.int x t) = m₃ at *
      have hN := d2i_bound 8 (spl p q x) q3
      have hacl := hl1000 j
      have hsuc : (st.take (j + 1)).flatMap (spl p q) = (st.take j).flatMap (spl p q) ++ spl p q x := by rw [htk, List.flatMap_append]; simp
      generalize hacc : (st.take j).flatMap (spl p q) = acc at *
      -- number += numbers[symbol] * 256 ** size
      refine wpAny_execs_cons (augName O₁₀ b2 (wpAny_BinOp (Subscript_ (eLocal O₁₀ b4 (eLocal O₁₀ b5 (subMapI (O₁₀.of (i := 1) rfl) hgn fun u₁ s₁₀ S₁₀ H₁₀ => ?_))))))
      have O₁₁ := O₁₀.eqH H₁₀
      refine wpAny_BinOp (wpAny_Constant_int (eLocal O₁₁ b1 (pow_int (by omega) (by rw [show intBits 256 = 9 from by decide +kernel]; omega) (mul_int (iadd_int ?_) ?_))))
      rotate_left
      · rw [Int.toNat_natCast, pow256]
        refine IntMulOk.of_le (bits_of hN.1 hN.2) (m := 8 * (spl p q x).length) (n := 8001) (bits_of (Int.le_of_lt (two_pos _)) ?_) (by omega)
        have : (2 : Int) ^ (8 * acc.length) ≤ 2 ^ 8000 := pow2_mono (by omega)
        have h2 : (2 : Int) ^ 8000 < 2 ^ 8001 := by rw [Int.pow_succ]; have := two_pos 8000; omega
        omega
      refine ⟨_, _, _, O₁₁, fun s₁₁ S₁₁ O₁₂ => ?_⟩
      have e1 : d2i 8 acc + d2i 8 (spl p q x) * 256 ^ ((acc.length : Nat) : Int).toNat = d2i 8 ((st.take (j + 1)).flatMap (spl p q)) := by
        rw [hsuc, d2i_append, Int.toNat_natCast, pow256, Int.mul_comm (2 ^ (8 * acc.length))]
      rw [e1] at O₁₂
      -- size += sizes[symbol]
      refine wpAny_execs_cons (augName O₁₂ ((upd_ne (by decide)).trans b1) (Subscript_ (eLocal O₁₂ ((upd_ne (by decide)).trans b3) (eLocal O₁₂ ((upd_ne (by decide)).trans b5) (subMapI (O₁₂.of (i := 2) rfl) hgs fun u₂ s₁₂ S₁₂ H₁₂ => ?_)))))
      have O₁₃ := O₁₂.eqH H₁₂
      refine iadd_int ⟨_, _, _, O₁₃, fun s₁₃ S₁₃ O₁₄ => wpAny_execs_nil ?_⟩
      have e2 : (acc.length : Int) + ((spl p q x).length : Int) = (((st.take (j + 1)).flatMap (spl p q)).length : Int) := by
        rw [hsuc, List.length_append]; push_cast; rfl
      rw [e2] at O₁₄
      refine ⟨.inl rfl, Sm.trans S₁₀ (Sm.trans (Sm.trans ⟨rfl, rfl, rfl⟩ S₁₁) (Sm.trans S₁₂ (Sm.trans ⟨rfl, rfl, rfl⟩ S₁₃))), (), _, ?_, O₁₄⟩
      exact ⟨⟨_, upd_same⟩, ⟨_, (upd_ne (by decide)).trans upd_same⟩, (upd_ne (by decide)).trans ((upd_ne (by decide)).trans b3), (upd_ne (by decide)).trans ((upd_ne (by decide)).trans b4)⟩
    · intro m₂ u s₉ S₉ ⟨_, ⟨t2, j2⟩, _, _⟩ O₁₀
      rw [List.take_length] at j2
      refine wpAny_execs_cons (wpAny_Return_some (eLocal O₁₀ j2 ?_))
      exact hQ _ s₉ y (S₈'.trans S₉) (.of (L := s.heap.objs.size) O₁₀.tail.tail)
end Mine
namespace Mine
/-- a slice of ints -/
def pickI (ns : List Int) (lo hi st : Option Int) : List Int := (sliceRange (sliceBounds lo hi st ns.length).1 (sliceBounds lo hi st ns.length).2.1 (sliceBounds lo hi st ns.length).2.2).filterMap (ns[·]?)
theorem pick_ints {vs : List Value} {ns : List Int} (hi : IntsAre vs ns) : ∀ is : List Nat, IntsAre (is.filterMap (vs.toArray[·]?)) (is.filterMap (ns[·]?))
  | [] => .nil
  | i :: is => by
    have ih := pick_ints hi is
    rcases Nat.lt_or_ge i ns.length with h | h
    · obtain ⟨t, e⟩ := ints_get hi h
      have e1 : vs.toArray[i]? = some (.int (ns.getD i 0) t) := by simpa using e
      have e2 : ns[i]? = some (ns.getD i 0) := by simp [List.getD, h]
      rw [List.filterMap_cons, List.filterMap_cons, e1, e2]
      exact .cons _ t ih
    · have e1 : vs.toArray[i]? = none := by rw [List.getElem?_toArray]; exact List.getElem?_eq_none (by rw [hi.length]; exact h)
      have e2 : ns[i]? = none := List.getElem?_eq_none h
      rw [List.filterMap_cons, List.filterMap_cons, e1, e2]
      exact ih
theorem slice_ints' {vs : List Value} {ns : List Int} (hi : IntsAre vs ns) (lo up st : Option Int) : IntsAre (slicePick vs.toArray lo up st).toList (pickI ns lo up st) := by
  unfold slicePick pickI
  rw [List.size_toArray, hi.length]
  exact pick_ints hi _
section
variable {w : World} {A : Around} {E : Value → Shared → Prop} {s : Shared} {env : Env} {mg mb m : Str → Option Value} {h₀ : Heap} {cs : List (Addr × (Obj → Prop))} {L : Addr}
theorem sumO {l : Addr} {ns : List Int} {Q : Value → Shared → Prop} (hh : A.handled = none) (hl : Has s.heap l (iInts ns)) (h : ∀ t s', Sm s s' → Keeps s.heap s'.heap → Q (.int (preSum (fun i => ns.getD i 0) ns.length) t) s') :
    wpAny (model PG w) A (call (.builtin "sum") [.ref l]) Q E s := by
  refine call_sum_walkG (iterWalks (A := A.in1) hh (.inl ⟨l, rfl, hl⟩) fun s₂ fp P St W hst hfp hP S₂ K₂ hsz => ⟨_, fp, _, _, P, St, fun i => ns.getD i 0, rfl, W, hst, hfp, fun i v h => (hP i v h).2, fun h' tk t' hk => ?_⟩)
  refine h t' _ (S₂.trans ⟨rfl, rfl, rfl⟩) fun b o e => hk b o (fun z => ?_) (K₂ b o e)
  rw [List.mem_singleton.mp z] at e
  exact absurd (Heap.lt_size e) (Nat.lt_irrefl _)
theorem minO {a b : Int} {t u : Tok} {Q : Value → Shared → Prop} (hh : A.handled = none) (h : ∀ v s', Sm s s' → Keeps s.heap s'.heap → Q (.int (min a b) v) s') : wpAny (model PG w) A (call (.builtin "min") [.int a t, .int b u]) Q E s := by
  refine min_two_ints hh fun h' tk hk => ?_
  by_cases hb : b < a
  · rw [if_pos hb]
    have := h u { s with heap := h', toks := tk } ⟨rfl, rfl, rfl⟩ hk
    rwa [show min a b = b by omega] at this
  · rw [if_neg hb]
    have := h t { s with heap := h', toks := tk } ⟨rfl, rfl, rfl⟩ hk
    rwa [show min a b = a by omega] at this
/-- e[k] of a tuple of ints made on the spot -/
theorem subTupAny {value slice : Expr} {l : Addr} {ns : List Int} {k : Int} {u : Tok} {Q : Value → Shared → Prop} (x : Has s.heap l (iTupI ns)) (h0 : 0 ≤ k) (h1 : k < ns.length) (hz : ns.length < 2 ^ 62)
    (h : ∀ t, Q (.int (ns.getD k.toNat 0) t) s)
    (hs : subscripted slice false (.ref l) (.int k u) = operate [.ref l, .int k u] (getItem (.ref l) (.int k u)) := by with_unfolding_all rfl) :
    wpAny (model PG w) A (subscriptTail value slice (.ref l) (.int k u)) Q E s :=
  kba_turn (value' := Expr.Name (PySem.Str.ofString "_") ⟨0, 0, 0, 0⟩) (fun _ => rfl) (subTup x h0 h1 hz h hs)
theorem subVal {value slice : Expr} {l : Addr} {vs : List Value} {k : Int} {u : Tok} {v : Value} {Q : Value → Shared → Prop} (x : Has s.heap l (iVals vs)) (h0 : 0 ≤ k) (hz : k < 2 ^ 62) (hv : vs[k.toNat]? = some v) (h : Q v s)
    (hs : subscripted slice false (.ref l) (.int k u) = operate [.ref l, .int k u] (getItem (.ref l) (.int k u)) := by with_unfolding_all rfl) :
    wpAny (model PG w) A (subscriptTail value slice (.ref l) (.int k u)) Q E s :=
  tail_any x.isList.typeIs slot_list_getitem.lookup (getVal x h0 hz hv h) hs
/-- e[a:b:c] of a list of ints, anything kept -/
theorem eSlice3 {value lo up st : Expr} {p pos : Pos} {Q : Value → Shared → Prop}
    (h : wpAny (model PG w) A (eval value env) (fun o s₁ => wpAny (model PG w) A (eval lo env) (fun vl s₂ => wpAny (model PG w) A (eval up env) (fun vu s₃ => wpAny (model PG w) A (eval st env) (fun vk s₄ =>
      ∃ l ns a b c ta tb tc, o = .ref l ∧ vl = .int a ta ∧ vu = .int b tb ∧ vk = .int c tc ∧ c ≠ 0 ∧ Has s₄.heap l (iInts ns) ∧ ns.length ≤ 2 ^ 24 ∧
        ∀ r s', Sm s₄ s' → Keeps s₄.heap s'.heap → s₄.heap.get? r = none → Has s'.heap r (iInts (pickI ns (some a) (some b) (some c))) → Q (.ref r) s') E s₃) E s₂) E s₁) E s) :
    wpAny (model PG w) A (eval (.Subscript value (.Slice (some lo) (some up) (some st) p) pos) env) Q E s := by
  refine Subscript_ (wpAny_mono h (fun o s₁ h₁ => ?_) fun _ _ e => e)
  refine wpAny_Slice (wpAny_mono h₁ (fun vl s₂ h₂ => wpAny_mono h₂ (fun vu s₃ h₃ => wpAny_mono h₃ (fun vk s₄ h₄ => ?_) fun _ _ e => e) fun _ _ e => e) fun _ _ e => e)
  obtain ⟨l, ns, a, b, c, ta, tb, tc, rfl, rfl, rfl, rfl, hc, X, hz, hq⟩ := h₄
  obtain ⟨vs, hv, X⟩ := X.vals
  have hl := X.isList.push (o := { cls := .type "slice", data := .fields #[.int a ta, .int b tb, .int c tc] })
  refine tail_any (Heap.IsList.typeIs (s := { s₄ with heap := s₄.heap.push { cls := .type "slice", data := .fields #[.int a ta, .int b tb, .int c tc] } }) hl) list_getitem_lookup
    (wpAny_getItem_list_slice hl (Heap.IsSliceOf.new ..) (.int _ _) (.int _ _) (.int _ _) (by simpa using hc) (hq _ _ ⟨rfl, rfl, rfl⟩ (fun b o e => Heap.get?_push_of_some _ (Heap.get?_push_of_some _ e)) ?_ ⟨_, Heap.get?_push_size _ rfl, ofA (slice_ints' hv _ _ _)⟩) (by rw [List.size_toArray, hv.length, sizeLine_eq]; omega)) (ops := [.ref l, .ref s₄.heap.objs.size]) (by with_unfolding_all rfl)
  exact none_of_ge (by rw [Heap.size_push]; exact Nat.le_succ _)
end
end Mine
namespace Mine
section
variable {w : World} {A : Around} {E : Value → Shared → Prop} {s : Shared} {env : Env} {mg mb m : Str → Option Value} {h₀ h : Heap} {cs ts : List (Addr × (Obj → Prop))} {L : Addr}
theorem newTupleK {M : Model} {vs : List Value} {ns : List Int} {Q : Value → Shared → Prop} (hv : IntsAre vs ns) (hsz : vs.length ≤ sizeLine) (h : ∀ r s', Sm s s' → Keeps s.heap s'.heap → s.heap.get? r = none → Has s'.heap r (iTupI ns) → Q (.ref r) s') :
    wpAny M A (newTuple vs) Q E s :=
  wpAny_newTuple (h _ { s with heap := s.heap.push { cls := .type "tuple", data := .seq vs.toArray } } ⟨rfl, rfl, rfl⟩ (fun _ _ e => Heap.get?_push_of_some _ e) (none_of_ge (Nat.le_refl _)) (tupPush s.heap hv)) (by show vs.toArray.size ≤ sizeLine; rw [List.size_toArray]; exact hsz)
/-- one of some -/
theorem Own.pick (O : Own h₀ h L m (ts ++ cs)) {p : Addr × (Obj → Prop)} (hp : p ∈ ts) : Own h₀ h L m (p :: cs) :=
  O.sub (List.Sublist.append (List.singleton_sublist.mpr hp) (List.Sublist.refl cs))

def GoesB {Z : Type} (s s₂ : Shared) (h₀ : Heap) (L : Addr) (J : Z → (Str → Option Value) → Prop) (C : Z → List (Addr × (Obj → Prop))) (f : Flow) : Prop :=
  (f = .next ∨ f = .cont) ∧ SmB s s₂ ∧ ∃ z m₂, J z m₂ ∧ Own h₀ s₂.heap L m₂ (C z)
theorem forLoopB {Z : Type} {R : Result → Shared → Prop} {x : Str} {px : Pos} {body : List Stmt} {it : Addr} {n : Nat} {xs : Nat → Int} {Pi : Nat → Obj → Prop} {K : Heap → Prop} (I : ItR w A it n xs Pi K)
    (C : Nat → Z → List (Addr × (Obj → Prop))) (J : Nat → Z → (Str → Option Value) → Prop) (z₀ : Z)
    (O : Own h₀ s.heap env.locals m ((it, Pi 0) :: C 0 z₀)) (h0 : J 0 z₀ m) (hK : ∀ i z m h, Own h₀ h env.locals m (C i z) → J i z m → K h)
    (turn : ∀ E' (i : Nat) z t m₁ s₁ P, i < n → SmB s s₁ → J i z m₁ → Own h₀ s₁.heap env.locals (upd m₁ x (.int (xs i) t)) ((it, P) :: C i z) →
      wpAny (model PG w) A (execs body env) (fun f s₂ => GoesB s₁ s₂ h₀ env.locals (J (i + 1)) (fun z => (it, P) :: C (i + 1) z) f) E' s₁)
    (done : ∀ m₁ z s₁, SmB s s₁ → J n z m₁ → Own h₀ s₁.heap env.locals m₁ (C n z) → R (.ok .next) s₁)
    (ht : ∀ v, letOwnedTupleGo (.Name x px) (.ref it) v = pure () := by intro _; rfl)
    (hx : env.kindOf x = some .local := by rfl)
    (hp : (env.scope.kind == .class || (env.scope.kind == .module && env.locals != env.globals)) = false := by rfl) :
    codeAny (model PG w) A (.forLoop (.Name x px) (.ref it) body [] env) R s := by
  refine codeAny_forLoop
    (fun k s' => ∃ m' i z, SmB s s' ∧ i ≤ n ∧ k = n + 1 - i ∧ J i z m' ∧ Own h₀ s'.heap env.locals m' ((it, Pi i) :: C i z)) ?_ (n + 1)
    ⟨m, 0, z₀, SmB.refl s, Nat.zero_le _, rfl, h0, O⟩ ht
  rintro k s' ⟨m', i, z, S, hi, rfl, hJ, O'⟩
  by_cases hlt : i < n
  · refine I.item i _ _ _ hlt (O'.at_ _ (.head _)) (hK _ _ _ _ O'.tail hJ) fun t s₁ S₁ X₁ H₁ => ?_
    have O₁ := O'.turn (i := 0) rfl X₁ H₁
    refine wpAny_assign_Name (wpAny_storeName_local hx O₁.ns (fun h₂ hn₂ hs₂ => ?_) hp)
    refine wpAny_mono (turn _ i z _ m' _ _ hlt (S.trans (Sm.b (S₁.trans ⟨rfl, rfl, rfl⟩))) hJ (O₁.store hn₂ hs₂)) (fun f s₃ h₃ => ?_) fun _ _ e => e
    obtain ⟨hf, S₃, z₃, m₂, hJ₃, O₃⟩ := h₃
    have fin : ∃ k', k' < n + 1 - i ∧ ∃ m' j z, SmB s s₃ ∧ j ≤ n ∧ k' = n + 1 - j ∧ J j z m' ∧ Own h₀ s₃.heap env.locals m' ((it, Pi j) :: C j z) :=
      ⟨n + 1 - (i + 1), by omega, m₂, i + 1, z₃, S.trans ((Sm.b (S₁.trans ⟨rfl, rfl, rfl⟩)).trans S₃), hlt, rfl, hJ₃, O₃⟩
    rcases hf with rfl | rfl <;> exact fin
  · have hin : i = n := by omega
    subst hin
    refine I.done _ _ _ (O'.at_ _ (.head _)) (hK _ _ _ _ O'.tail hJ) fun s₁ S₁ X₁ => wpAny_execs_nil ?_
    exact done m' _ _ (S.trans S₁.b) hJ (O'.lose X₁)
theorem forRangeB {Z : Type} {x : Str} {px rp cp pos : Pos} {eb : Expr} {body : List Stmt} {Q : Flow → Shared → Prop} (n : Nat) (C : Nat → Z → List (Addr × (Obj → Prop))) (J : Nat → Z → (Str → Option Value) → Prop) (z₀ : Z)
    (G : Gl mg mb s.heap) (hh : A.handled = none)
    (he : wpAny (model PG w) A (eval eb env) (fun vb s₁ => ∃ tb m, vb = .int n tb ∧ Sm s s₁ ∧ Own h₀ s₁.heap env.locals m (C 0 z₀) ∧ J 0 z₀ m) E s)
    (turn : ∀ E' (it : Addr) (i : Nat) z t m₁ s₂ P, i < n → SmB s s₂ → J i z m₁ → Own h₀ s₂.heap env.locals (upd m₁ x (.int i t)) ((it, P) :: C i z) →
        wpAny (model PG w) A (execs body env) (fun f s₃ => GoesB s₂ s₃ h₀ env.locals (J (i + 1)) (fun z => (it, P) :: C (i + 1) z) f) E' s₂)
    (done : ∀ m₁ z s₂, SmB s s₂ → J n z m₁ → Own h₀ s₂.heap env.locals m₁ (C n z) → Q .next s₂) (hn : n < 2 ^ 60)
    (hk : env.scope.kind = .function := by rfl) (hl : env.kindOf "range" = some .globalImplicit := by rfl) (hg : env.globals = mainGlobals := by rfl) (hb : env.builtins = builtinsNs := by rfl)
    (hx : env.kindOf x = some .local := by rfl)
    (hs : ∀ x, foldedSetIterable (.Call (.Name "range" rp) [eb] [] cp) env x = pure x := by intro _; rfl)
    (hst : starEach [eb] env = [(false, eval eb env)] := by rfl) :
    wpAny (model PG w) A (exec (.For (.Name x px) (.Call (.Name "range" rp) [eb] [] cp) body [] pos) env) Q E s := by
  refine wpAny_For (wpAny_Call_NameR (eBuilt (v := .type "range") G (by decide +kernel) (by decide +kernel) ?_ (by decide) hk hl hg hb)) hs
  refine PyProof.Rows.callWith_type1 (args_cons (wpAny_mono he (fun vb s₁ h₁ => ?_) fun _ _ e => e) hst) hst
  obtain ⟨tb, m, rfl, S₁, O, hJ⟩ := h₁
  refine args_nil ?_
  refine call_range_1 ?_
  have O₁ := O.junk { cls := .type "range", data := .fields #[.int 0 s₁.toks, .int n tb, .int 1 (s₁.toks + 1)] }
  refine wpAny_pyIter_range (IsRange.new ..) (small_one (by omega) (by omega) (by omega) (by omega)) ?_
  have hz : Builtin.Range.rangeSize 0 (n : Int) 1 = (n : Int) := by rw [rangeSize_one]; split <;> omega
  rw [hz]
  have O₂ := O₁.push { cls := .type "range_iterator", data := .fields #[rawInt 0, rawInt n, rawInt 1] } (P := fun o => o = { cls := .type "range_iterator", data := .fields #[rawInt (0 + (0 : Nat)), rawInt ((n : Int) - (0 : Nat)), rawInt 1] }) (by simp)
  have b : ∀ s₂, SmB { s₁ with heap := _, toks := _ } s₂ → SmB s s₂ := fun s₂ S => (Sm.b S₁).trans (SmB.trans (Sm.b ⟨rfl, rfl, rfl⟩) S)
  refine forLoopB (ItR.range hh _ 0 n) C J z₀ O₂ hJ (fun _ _ _ _ _ _ => trivial) (fun E' i z t m₁ s₂ P hi S hJ O => ?_) (fun m₁ z s₂ S hJ O => done m₁ z s₂ (b _ S) hJ O) (by intro _; rfl) hx (by rw [hk]; rfl)
  exact turn E' _ i z t m₁ s₂ P hi (b _ S) hJ (by simpa using O)
end
end Mine
namespace Mine
open Builtin.Int (intBits)
/-- the k-th draw of a script -/
def drawAt (ns : List Int) (k : Int) : Int := [(0 : Int), 10, 0].getD k.toNat 0 + preSum (fun i => ((pickI ns (some k) (some 60) (some 3)).map fun x => x.fmod 1000003).getD i 0) ((pickI ns (some k) (some 60) (some 3)).map fun x => x.fmod 1000003).length
theorem pickI_le (ns : List Int) (a b c : Option Int) : (pickI ns a b c).length ≤ ns.length := by
  have := slicePick_size_le (ns.map fun x => Value.int x 0).toArray a b c
  have hi : IntsAre (ns.map fun x => Value.int x 0) ns := by
    induction ns with
    | nil => exact .nil
    | cons x ns ih => exact .cons x 0 (ih (slicePick_size_le _ _ _ _))
  have h2 := (slice_ints' hi a b c).length
  rw [← h2]
  simpa using this
variable {w : World} {A : Around} {E : Value → Shared → Prop} {s : Shared} {mg mb m : Str → Option Value} {g : Heap} {cs : Objs} {L : Addr}
abbrev lenv (L : Addr) : Env := envOfC (defAt 24).name (defAt 24).scope L 129 (.ref 128)
set_option pp.maxSteps 600
set_option pp.deepTerms.threshold 6
set_option maxHeartbeats 4000000 in
/-- draws = [..] -/
theorem law_draws {sl : Addr} {ns : List Int} {c1 c2 : Addr × (Obj → Prop)} {Q : Flow → Shared → Prop} (G : Gl mg mb g) (hh : A.handled = none)
    (O : Own g s.heap L m (c1 :: c2 :: (L + 2, iCell none) :: (L + 1, iCell (some (.ref sl))) :: cs)) (hl : Has g sl (iInts ns)) (hlen : ns.length ≤ 100)
    (h : ∀ dl s', Sm s s' → Own g s'.heap L m ((dl, iInts [drawAt ns 0, drawAt ns 1, drawAt ns 2]) :: c1 :: c2 :: (L + 2, iCell (some (.ref dl))) :: (L + 1, iCell (some (.ref sl))) :: cs) →
      wpAny (model PG w) A (execs ((defAt 24).body.drop 1) (lenv L)) Q E s') : wpAny (model PG w) A (execs (defAt 24).body (lenv L)) Q E s := by
  refine wpAny_execs_cons (sCell (c := L + 2) (compO (f := drawAt ns) hh ?_ (cl := [("script", L + 1)]) (by rfl)) (by rfl))
  refine wpAny_Call_NameR (eBuilt (v := .type "range") (G.keeps O.keep) (by decide +kernel) (by decide +kernel) ?_ (by decide))
  refine PyProof.Rows.callWith_type1 (args_cons (wpAny_Constant_int (args_nil (itRange1 (n := 3) (by decide) fun v s₁ S₁ K₁ hit => ?_))))
  refine ⟨_, S₁, K₁, hit, by simp, ?_, ?_⟩
  · intro C x t s₂ m₃ E' hx hC hn hm K
    obtain ⟨j, hj, rfl⟩ := List.mem_map.mp hx
    have hj := List.mem_range.mp hj
    have K₂ : Keeps s.heap s₂.heap := K₁.trans K
    have hsc : ∀ {h'}, Keeps s₂.heap h' → Has h' (L + 1) (iCell (some (.ref sl))) := fun k => ((O.of (i := 3) rfl).keeps K₂).keeps k
    have hG : ∀ {h'}, Keeps s₂.heap h' → Gl mg mb h' := fun k => ((G.keeps O.keep).keeps K₂).keeps k
    have hsl : ∀ {h'}, Keeps s₂.heap h' → Has h' sl (iInts ns) := fun k => ((hl.keeps O.keep).keeps K₂).keeps k
    -- (0, 10, 0)[k]
    refine wpAny_BinOp (Subscript_ (Tuple_ (args_cons (wpAny_Constant_int (args_cons (wpAny_Constant_int (args_cons (wpAny_Constant_int (args_nil ?_)))))))))
    refine newTupleK (.cons _ _ (.cons _ _ (.cons _ _ .nil))) (Nat.le_of_ble_eq_true rfl) fun r s₃ S₃ K₃ _ hr => ?_
    refine eLocalN (hn.keeps K₃) hm (subTupAny hr (by omega) (by simp; omega) (by simp) fun t₁ => ?_)
    -- sum([x % 1000003 for x in script[k:60:3]])
    refine wpAny_Call_NameR (eBuilt (v := .builtin "sum") (hG K₃) (by decide +kernel) (by decide +kernel) ?_ (by decide))
    refine PyProof.Rows.callWith_builtin1 (args_cons (compO (f := fun x => x.fmod 1000003) hh ?_ (cl := []) (by rfl)))
    refine eSlice3 (eCellH (hsc K₃) (by rfl) (eLocalN (hn.keeps K₃) hm (wpAny_Constant_int (wpAny_Constant_int ?_))))
    refine ⟨sl, ns, (j : Int), 60, 3, _, _, _, rfl, rfl, rfl, rfl, by decide, hsl K₃, by omega, fun r₂ s₄ S₄ K₄ _ hr₂ => ?_⟩
    have hpl := pickI_le ns (some (j : Int)) (some 60) (some 3)
    refine ⟨_, Sm.trans ⟨rfl, rfl, rfl⟩ S₄, K₄, .inl ⟨r₂, rfl, hr₂⟩, by omega, ?_, ?_⟩
    · intro C₂ x₂ t₂ s₅ m₅ E₂ hx₂ hC₂ hn₂ hm₂ K₅
      exact wpAny_BinOp (eLocalN hn₂ hm₂ (wpAny_Constant_int (PyProof.Rows.mod_int (by decide) ⟨⟨_, rfl⟩, ⟨rfl, rfl, rfl⟩, fun _ _ e => e⟩)))
    · intro D s₅ S₅ K₅ hD hX
      refine args_nil (sumO hh hX fun t₂ s₆ S₆ K₆ => add_int ?_)
      exact ⟨⟨_, rfl⟩, Sm.trans (Sm.trans ⟨rfl, rfl, rfl⟩ S₃) (Sm.trans S₅ (Sm.trans S₆ ⟨rfl, rfl, rfl⟩)), K₃.trans (K₅.trans K₆)⟩
  · intro D s₂ S₂ K₂ hD hX
    have O₂ := O.add K₂ hD hX
    exact ⟨_, _, _, 3, iCell none, O₂, rfl, fun o h => ⟨_, h⟩, fun s₃ S₃ O₃ => h D s₃ (S₂.trans S₃) O₃⟩
end Mine
namespace Mine
open Builtin.Int (intBits)
variable {w : World} {A : Around} {E : Value → Shared → Prop} {s : Shared} {env : Env} {mg mb m : Str → Option Value} {g : Heap} {cs : Objs} {L : Addr}
/-- tuples of two constants each -/
inductive Pairs : List Expr → List (Int × Int) → Prop
  | nil : Pairs [] []
  | cons {a b : Int} {ka kb k pa pb pos es ps} : Pairs es ps → Pairs (.Tuple [.Constant (.int a) ka pa, .Constant (.int b) kb pb] k pos :: es) ((a, b) :: ps)
theorem pairs_eval {pos : Pos} {es : List Expr} {ps : List (Int × Int)} (P : Pairs es ps) : ∀ {s : Shared} {cs : Objs} {Q : List Value → Shared → Prop}, Own g s.heap L m cs →
    (∀ (rs : List Value) (s' : Shared) (ts : Objs), Sm s s' → rs.length = ps.length → (∀ (i : Nat) (a b : Int), ps[i]? = some (a, b) → ∃ r : Addr, rs[i]? = some (Value.ref r) ∧ (r, iTupI [a, b]) ∈ ts) → Own g s'.heap L m (ts ++ cs) → Q rs s') →
    wpAny (model PG w) A (spliced (backTo pos (starEach es env))) Q E s := by
  induction P with
  | nil => intro s cs Q O h; exact args_nil (h [] s [] (Sm.refl s) rfl (fun i a b e => by simp at e) O)
  | @cons a b ka kb k pa pb pos' es ps P ih =>
    intro s cs Q O h
    refine args_cons (Tuple_ (args_cons (wpAny_Constant_int (args_cons (wpAny_Constant_int (args_nil (newTupleO O (.cons a _ (.cons b _ .nil)) (Nat.le_of_ble_eq_true rfl) fun r s₂ S₂ O₂ => ?_)))))))
    refine ih O₂ fun rs s' ts S hl hm O' => h (.ref r :: rs) s' (ts ++ [(r, iTupI [a, b])]) (Sm.trans (Sm.trans ⟨rfl, rfl, rfl⟩ S₂) S) (by simp [hl]) (fun i x y e => ?_) (by simpa using O')
    cases i with
    | zero =>
      simp only [List.getElem?_cons_zero, Option.some.injEq, Prod.mk.injEq] at e
      obtain ⟨rfl, rfl⟩ := e
      exact ⟨r, rfl, List.mem_append_right _ (.head _)⟩
    | succ i =>
      obtain ⟨r', e1, e2⟩ := hm i x y (by simpa using e)
      exact ⟨r', by simpa using e1, List.mem_append_left _ e2⟩
/-- [..][x] of such a list -/
theorem pairs_pick {es : List Expr} {ps : List (Int × Int)} {p1 p2 p3 : Pos} {x : Str} {c : Int} {tc : Tok} {Q : Value → Shared → Prop} (P : Pairs es ps) (hps : ps.length ≤ 100) (O : Own g s.heap env.locals m cs) (hx : m x = some (.int c tc)) (h0 : 0 ≤ c) (h1 : c < ps.length)
    (h : ∀ tp p q s', ps[c.toNat]? = some (p, q) → Sm s s' → Own g s'.heap env.locals m ((tp, iTupI [p, q]) :: cs) → Q (.ref tp) s')
    (hk : env.scope.kind = .function) (hl : env.kindOf x = some .local) (hd : (x == ("__debug__" : Str)) = false) :
    wpAny (model PG w) A (eval (.Subscript (.List es p1) (.Name x p2) p3) env) Q E s := by
  refine Subscript_ (List_ (pairs_eval P O fun rs s' ts S hl' hm O' => newListO O' (fun rl s₂ S₂ O₂ => ?_) (by rw [hl', sizeLine_eq]; omega)))
  refine eLocal O₂ hx ?_ hk hl hd
  obtain ⟨a, b, hab⟩ : ∃ a b, ps[c.toNat]? = some (a, b) := ⟨(ps[c.toNat]'(by omega)).1, (ps[c.toNat]'(by omega)).2, List.getElem?_eq_getElem _⟩
  obtain ⟨r, e1, e2⟩ := hm _ a b hab
  refine subVal (O₂.of (i := 0) rfl) h0 (by omega) e1 ?_
  exact h r a b s₂ hab (S.trans S₂) (Own.pick (ts := (rl, iVals rs) :: ts) O₂ (.tail _ e2))
end Mine
namespace Mine
/-- the row whose runs are these -/
def wr (p q : Int) (sizes : List Int) : List Int := writtenTo sizes [p, q] sizes.length

theorem writtenTo_pre (pr : List Int) (a b : List Int) : ∀ k, k ≤ a.length → writtenTo (a ++ b) pr k = writtenTo a pr k
  | 0, _ => rfl
  | k + 1, h => by
    have e : (a ++ b).getD k 0 = a.getD k 0 := by
      simp only [List.getD_eq_getElem?_getD]; rw [List.getElem?_append_left (by omega)]
    rw [writtenTo, writtenTo, writtenTo_pre pr a b k (by omega), e]
theorem writtenTo_app (pr : List Int) (a b : List Int) (ha : a.length % 2 = 0) : ∀ k, writtenTo (a ++ b) pr (a.length + k) = writtenTo a pr a.length ++ writtenTo b pr k
  | 0 => by rw [Nat.add_zero, writtenTo_pre pr a b _ (Nat.le_refl _), writtenTo, List.append_nil]
  | k + 1 => by
    have e : (a ++ b).getD (a.length + k) 0 = b.getD k 0 := by
      simp only [List.getD_eq_getElem?_getD]; rw [List.getElem?_append_right (by omega), Nat.add_sub_cancel_left]
    have e2 : (a.length + k) % 2 = k % 2 := by omega
    rw [← Nat.add_assoc, writtenTo, writtenTo_app pr a b ha k, e, e2, writtenTo, List.append_assoc]
theorem wr_app {p q : Int} {a b : List Int} (ha : a.length % 2 = 0) : wr p q (a ++ b) = wr p q a ++ wr p q b := by
  unfold wr; rw [List.length_append, writtenTo_app _ _ _ ha]
theorem wr_flat {α : Type} {p q : Int} {f : α → List Int} : ∀ (l : List α), (∀ x ∈ l, (f x).length % 2 = 0) → wr p q (l.flatMap f) = l.flatMap fun x => wr p q (f x)
  | [], _ => rfl
  | x :: l, h => by
    rw [List.flatMap_cons, List.flatMap_cons, wr_app (h x (.head _)), wr_flat l fun y hy => h y (.tail _ hy)]

theorem written_get (sizes pr : List Int) : ∀ n k j, k < n → j < (sizes.getD k 0).toNat → (writtenTo sizes pr n).getD ((writtenTo sizes pr k).length + j) 0 = pr.getD (k % 2) 0
  | 0, _, _, h, _ => absurd h (Nat.not_lt_zero _)
  | n + 1, k, j, h, hj => by
    have hle : k < n → (writtenTo sizes pr k).length + j < (writtenTo sizes pr n).length := fun hk => by
      have : ∀ d, (writtenTo sizes pr (k + 1)).length ≤ (writtenTo sizes pr (k + 1 + d)).length := by
        intro d
        induction d with
        | zero => exact Nat.le_refl _
        | succ d ih =>
          have e : (writtenTo sizes pr (k + 1 + (d + 1))).length = (writtenTo sizes pr (k + 1 + d)).length + (sizes.getD (k + 1 + d) 0).toNat := by
            rw [← Nat.add_assoc, writtenTo, List.length_append, List.length_replicate]
          omega
      have h2 := this (n - (k + 1))
      rw [show k + 1 + (n - (k + 1)) = n by omega, writtenTo, List.length_append, List.length_replicate] at h2
      omega
    rcases Nat.lt_or_ge k n with hk | hk
    · have ih := written_get sizes pr n k j hk hj
      rw [writtenTo]
      simp only [List.getD_eq_getElem?_getD] at ih ⊢
      rw [List.getElem?_append_left (hle hk)]
      exact ih
    · have : k = n := by omega
      subst this
      rw [writtenTo]
      simp only [List.getD_eq_getElem?_getD] at hj ⊢
      rw [List.getElem?_append_right (by omega), Nat.add_sub_cancel_left, List.getElem?_replicate, if_pos hj]
      rfl

theorem runs_written {p q : Int} (hpq : p ≠ q) (sizes : List Int) (hs : ∀ k, k < sizes.length → 1 ≤ sizes.getD k 0) : ∀ k, k ≤ sizes.length → runsTo (wr p q sizes) (writtenTo sizes [p, q] k).length = sizes.take k
  | 0, _ => rfl
  | k + 1, hk => by
    have ih := runs_written hpq sizes hs k (by omega)
    have hk1 := hs k (by omega)
    have key : ∀ j, j < (sizes.getD k 0).toNat → runsTo (wr p q sizes) ((writtenTo sizes [p, q] k).length + (j + 1)) = sizes.take k ++ [((j : Int) + 1)] := by
      intro j
      induction j with
      | zero =>
        intro hj
        rw [Nat.zero_add, runsTo, if_neg, ih]
        · rfl
        · rintro ⟨h0, he⟩
          have e1 := written_get sizes [p, q] sizes.length k 0 (by omega) hj
          rw [Nat.add_zero] at e1
          cases k with
          | zero => simp [writtenTo] at h0
          | succ k =>
            have hk2 := hs k (by omega)
            have e2 := written_get sizes [p, q] sizes.length k ((sizes.getD k 0).toNat - 1) (by omega) (by omega)
            have e3 : (writtenTo sizes [p, q] (k + 1)).length - 1 = (writtenTo sizes [p, q] k).length + ((sizes.getD k 0).toNat - 1) := by
              rw [writtenTo, List.length_append, List.length_replicate]; omega
            rw [show wr p q sizes = writtenTo sizes [p, q] sizes.length from rfl, e1, e3, e2] at he
            have : k % 2 = 0 ∨ k % 2 = 1 := by omega
            rcases this with h | h
            · rw [h, show (k + 1) % 2 = 1 by omega] at he
              exact hpq (by simpa using he.symm)
            · rw [h, show (k + 1) % 2 = 0 by omega] at he
              exact hpq (by simpa using he)
      | succ j ihj =>
        intro hj
        have ihj := ihj (by omega)
        rw [← Nat.add_assoc, runsTo, if_pos, ihj]
        · rw [List.length_append, List.length_singleton, Nat.add_sub_cancel]
          have hl : (sizes.take k).length = k := by rw [List.length_take]; omega
          have e : (sizes.take k ++ [((j : Int) + 1)]).getD (sizes.take k).length 0 = (j : Int) + 1 := by simp
          rw [e, List.set_append_right _ _ (Nat.le_refl _), Nat.sub_self, List.set_cons_zero]
          push_cast; rfl
        · have e1 := written_get sizes [p, q] sizes.length k (j + 1) (by omega) hj
          have e2 := written_get sizes [p, q] sizes.length k j (by omega) (by omega)
          refine ⟨by omega, ?_⟩
          rw [show (writtenTo sizes [p, q] k).length + (j + 1) - 1 = (writtenTo sizes [p, q] k).length + j by omega]
          exact e1.trans e2.symm
    have := key ((sizes.getD k 0).toNat - 1) (by omega)
    rw [writtenTo, List.length_append, List.length_replicate]
    rw [show (sizes.getD k 0).toNat - 1 + 1 = (sizes.getD k 0).toNat by omega] at this
    rw [this, List.take_add_one]
    congr 1
    have e : sizes[k]? = some (sizes.getD k 0) := by
      simp [List.getD, List.getElem?_eq_getElem (show k < sizes.length by omega)]
    rw [e]
    simp only [Option.toList_some, List.cons.injEq, and_true]
    omega
theorem runs_wr {p q : Int} (hpq : p ≠ q) {sizes : List Int} (hs : ∀ x ∈ sizes, 1 ≤ x) : runsTo (wr p q sizes) (wr p q sizes).length = sizes := by
  have := runs_written hpq sizes (fun k hk => by
    simp only [List.getD_eq_getElem?_getD, List.getElem?_eq_getElem hk, Option.getD_some]; exact hs _ (List.getElem_mem hk)) sizes.length (Nat.le_refl _)
  rw [List.take_length] at this
  exact this

theorem wr_mem {p q : Int} (sizes : List Int) : ∀ x ∈ wr p q sizes, x = p ∨ x = q := by
  have : ∀ k, ∀ x ∈ writtenTo sizes [p, q] k, x = p ∨ x = q := by
    intro k
    induction k with
    | zero => intro x hx; cases hx
    | succ k ih =>
      intro x hx
      rw [writtenTo, List.mem_append] at hx
      rcases hx with hx | hx
      · exact ih x hx
      · have e := (List.mem_replicate.mp hx).2
        have : k % 2 = 0 ∨ k % 2 = 1 := by omega
        rcases this with h | h <;> rw [h] at e
        · exact .inl (by simpa using e)
        · exact .inr (by simpa using e)
  exact this _
theorem wr_len {p q : Int} {b : Nat} (sizes : List Int) (hb : ∀ x ∈ sizes, x ≤ b) : (wr p q sizes).length ≤ b * sizes.length := writtenTo_le sizes [p, q] b hb _

/-- what is told of a row and its ending -/
theorem toldTo_row (row e : List Int) : toldTo (row ++ e) row.length row.length = row := by
  unfold toldTo
  refine List.ext_getElem? fun i => ?_
  rw [List.getElem?_map]
  rcases Nat.lt_or_ge i row.length with h | h
  · rw [List.getElem?_range h, List.getElem?_eq_getElem h]
    simp only [Option.map_some, vl, if_pos h, List.getD_eq_getElem?_getD, List.getElem?_append_left h, List.getElem?_eq_getElem h, Option.getD_some]
  · rw [List.getElem?_eq_none (by rw [List.length_range]; exact h), List.getElem?_eq_none h]; rfl
theorem toldTo_two (row e : List Int) (h : 0 < row.length) : toldTo (row ++ e) row.length (row.length + 2) = row ++ [row.getD (row.length - 1) 0, row.getD (row.length - 1) 0] := by
  have v : ∀ j, row.length ≤ j → vl (row ++ e) row.length j = row.getD (row.length - 1) 0 := fun j hj => by
    unfold vl
    rw [if_neg (by omega)]
    simp only [List.getD_eq_getElem?_getD]; rw [List.getElem?_append_left (by omega)]
  rw [toldTo_succ, toldTo_succ, toldTo_row, v _ (Nat.le_refl _), v _ (by omega), List.append_assoc]; rfl

/-- the pairs of a row of bits -/
def prs (bs : List Int) : List (Int × Int) := (List.range (bs.length / 2)).map fun i => (bs.getD (2 * i) 0, bs.getD (2 * i + 1) 0)
theorem prs_flat (bs : List Int) (h : bs.length % 2 = 0) : (prs bs).flatMap (fun x => [x.1, x.2]) = bs := by
  have : ∀ n (bs : List Int), bs.length = 2 * n → ((List.range n).map fun i => (bs.getD (2 * i) 0, bs.getD (2 * i + 1) 0)).flatMap (fun x => [x.1, x.2]) = bs := by
    intro n
    induction n with
    | zero => intro bs h; have : bs = [] := List.length_eq_zero_iff.mp (by omega); subst this; rfl
    | succ n ih =>
      intro bs h
      match bs, h with
      | a :: b :: bs, h =>
        rw [List.range_succ_eq_map, List.map_cons, List.map_map, List.flatMap_cons]
        have e := ih bs (by simpa using (by simp at h; omega))
        have : ((fun i => ((a :: b :: bs).getD (2 * i) 0, (a :: b :: bs).getD (2 * i + 1) 0)) ∘ Nat.succ) = fun i => (bs.getD (2 * i) 0, bs.getD (2 * i + 1) 0) := by
          funext i
          show (_, _) = _
          rw [show 2 * Nat.succ i = 2 * i + 1 + 1 by omega]
          rfl
        rw [this, e]; rfl
      | [a], h => simp at h; omega
      | [], h => simp at h
  exact this (bs.length / 2) bs (by omega)
end Mine
namespace Mine
open Builtin.Int (intBits)
def pk (p q b : Int) : Int := [p, q].getD b.toNat 0
/-- a row of bits -/
def Bits (bs : List Int) : Prop := bs.length % 2 = 0 ∧ 4 ≤ bs.length ∧ bs.length ≤ 20 ∧ ∀ x ∈ bs, x = 0 ∨ x = 1
def row0 (p q : Int) (bs : List Int) : List Int := bs.map (pk p q)
def row1 (p q : Int) (bs : List Int) : List Int := wr p q (row0 p q bs)
def row2 (p q : Int) (bs : List Int) : List Int := wr p q (row1 p q bs)
def symOf (x : Int × Int) : Int := 264 + 2 * x.1 + x.2
def startOf (bs : List Int) : List Int := (prs bs).map symOf
theorem all_syms : (([(1, 3), (3, 1), (2, 4), (4, 2), (1, 5), (5, 1)] : List (Int × Int)).all fun pq => ([(0, 0), (0, 1), (1, 0), (1, 1)] : List (Int × Int)).all fun ab =>
    spl pq.1 pq.2 (symOf ab) == wr pq.1 pq.2 (wr pq.1 pq.2 [pk pq.1 pq.2 ab.1, pk pq.1 pq.2 ab.2]) && (wr pq.1 pq.2 [pk pq.1 pq.2 ab.1, pk pq.1 pq.2 ab.2]).length % 2 == 0) = true := by decide +kernel
theorem GoodPair.sym {p q a b : Int} (h : GoodPair p q) (ha : a = 0 ∨ a = 1) (hb : b = 0 ∨ b = 1) : Mine.spl p q (symOf (a, b)) = wr p q (wr p q [pk p q a, pk p q b]) ∧ (wr p q [pk p q a, pk p q b]).length % 2 = 0 := by
  have := List.all_eq_true.mp (List.all_eq_true.mp all_syms _ h) (a, b) (by
    rcases ha with rfl | rfl <;> rcases hb with rfl | rfl <;> simp)
  simp only [Bool.and_eq_true, beq_iff_eq] at this
  exact this
theorem prs_mem {bs : List Int} (h : Bits bs) : ∀ x ∈ prs bs, (x.1 = 0 ∨ x.1 = 1) ∧ (x.2 = 0 ∨ x.2 = 1) := by
  intro x hx
  obtain ⟨i, hi, rfl⟩ := List.mem_map.mp hx
  have hi := List.mem_range.mp hi
  have g : ∀ j, j < bs.length → bs.getD j 0 = 0 ∨ bs.getD j 0 = 1 := fun j hj => by
    simp only [List.getD_eq_getElem?_getD, List.getElem?_eq_getElem hj, Option.getD_some]; exact h.2.2.2 _ (List.getElem_mem hj)
  exact ⟨g _ (by omega), g _ (by omega)⟩
theorem spelled_eq {p q : Int} {bs : List Int} (hpq : GoodPair p q) (h : Bits bs) : (startOf bs).flatMap (spl p q) = row2 p q bs := by
  have e0 : row0 p q bs = (prs bs).flatMap fun x => [pk p q x.1, pk p q x.2] := by
    have := congrArg (List.map (pk p q)) (prs_flat bs h.1)
    rw [List.map_flatMap] at this
    exact this.symm
  have e1 : row1 p q bs = (prs bs).flatMap fun x => wr p q [pk p q x.1, pk p q x.2] := by
    rw [row1, e0]; exact wr_flat _ fun x _ => by simp
  rw [row2, e1, wr_flat _ fun x hx => (hpq.sym (prs_mem h x hx).1 (prs_mem h x hx).2).2, startOf, List.flatMap_map]
  exact flatMap_congr' fun x hx => (hpq.sym (prs_mem h x hx).1 (prs_mem h x hx).2).1
theorem pk_or {p q b : Int} (hb : b = 0 ∨ b = 1) : pk p q b = p ∨ pk p q b = q := by
  rcases hb with rfl | rfl
  · exact .inl rfl
  · exact .inr rfl
theorem row0_mem {p q : Int} {bs : List Int} (h : Bits bs) : ∀ x ∈ row0 p q bs, x = p ∨ x = q := by
  intro x hx
  obtain ⟨b, hb, rfl⟩ := List.mem_map.mp hx
  exact pk_or (h.2.2.2 b hb)
theorem letters {p q x : Int} (hpq : GoodPair p q) (h : x = p ∨ x = q) : 1 ≤ x ∧ x ≤ 5 := by
  have := hpq.facts
  rcases h with rfl | rfl <;> omega
theorem row0_len {p q : Int} {bs : List Int} : (row0 p q bs).length = bs.length := List.length_map ..
theorem row1_len {p q : Int} {bs : List Int} (hpq : GoodPair p q) (h : Bits bs) : (row1 p q bs).length ≤ 100 := by
  have := wr_len (p := p) (q := q) (b := 5) (row0 p q bs) fun x hx => (letters hpq (row0_mem h x hx)).2
  rw [row0_len] at this
  have := h.2.2.1
  unfold row1; omega
theorem row2_len {p q : Int} {bs : List Int} (hpq : GoodPair p q) (h : Bits bs) : (row2 p q bs).length ≤ 500 := by
  have := wr_len (p := p) (q := q) (b := 5) (row1 p q bs) fun x hx => (letters hpq (wr_mem _ x hx)).2
  have := row1_len hpq h
  unfold row2; omega
theorem wr_pos {p q : Int} : ∀ {sizes : List Int}, 0 < sizes.length → (∀ x ∈ sizes, 1 ≤ x) → 0 < (wr p q sizes).length
  | x :: l, _, h => by
    have h1 := h x (.head _)
    have := written_get (x :: l) [p, q] (l.length + 1) 0 0 (by omega) (by simp; omega)
    have e : ∀ k, 1 ≤ k → 0 < (writtenTo (x :: l) [p, q] k).length := by
      intro k hk
      induction k with
      | zero => omega
      | succ k ih =>
        rw [writtenTo, List.length_append, List.length_replicate]
        rcases Nat.eq_zero_or_pos k with rfl | hk
        · have : ((x :: l).getD 0 0).toNat = x.toNat := rfl
          omega
        · have := ih hk; omega
    exact e _ (by simp)
theorem row1_pos {p q : Int} {bs : List Int} (hpq : GoodPair p q) (h : Bits bs) : 0 < (row1 p q bs).length :=
  wr_pos (by rw [row0_len]; have := h.2.1; omega) fun x hx => (letters hpq (row0_mem h x hx)).1
theorem row2_pos {p q : Int} {bs : List Int} (hpq : GoodPair p q) (h : Bits bs) : 0 < (row2 p q bs).length :=
  wr_pos (row1_pos hpq h) fun x hx => (letters hpq (wr_mem _ x hx)).1
theorem start_mem {bs : List Int} (h : Bits bs) : ∀ x ∈ startOf bs, 264 ≤ x ∧ x < 268 := by
  intro x hx
  obtain ⟨y, hy, rfl⟩ := List.mem_map.mp hx
  have := prs_mem h y hy
  unfold symOf
  omega
theorem start_len {bs : List Int} (h : Bits bs) : (startOf bs).length ≤ 10 := by
  have := h.2.2.1
  unfold startOf prs
  rw [List.length_map, List.length_map, List.length_range]; omega
theorem d2i_low : ∀ (l : List Int), 0 < l.length → (∀ x ∈ l, 1 ≤ x ∧ x < 256) → 2 ^ (8 * (l.length - 1)) ≤ d2i 8 l
  | [x], _, h => by have := (h x (.head _)).1; simp [d2i]; exact this
  | x :: y :: l, _, h => by
    have ih := d2i_low (y :: l) (by simp) fun z hz => h z (.tail _ hz)
    have hx := (h x (.head _)).1
    rw [d2i]
    have e : 8 * ((x :: y :: l).length - 1) = 8 + 8 * ((y :: l).length - 1) := by simp; omega
    rw [e, Int.pow_add]
    have := Int.mul_le_mul_of_nonneg_left ih (show (0 : Int) ≤ 2 ^ 8 by decide)
    omega
theorem places_row {l : List Int} (h0 : 0 < l.length) (h : ∀ x ∈ l, 1 ≤ x ∧ x < 256) : places 8 (d2i 8 l) = l.length ∧ i2d 8 (places 8 (d2i 8 l)) (d2i 8 l) = l := by
  have hd : ∀ x ∈ l, digit 8 x := fun x hx => by
    have := h x hx
    exact ⟨by omega, by show x < 2 ^ 8; omega⟩
  have e : places 8 (d2i 8 l) = l.length := by
    have h1 := d2i_low l h0 h
    obtain ⟨h2, h3⟩ := d2i_bound 8 l hd
    have b1 : intBits (d2i 8 l) ≤ 8 * l.length := bits_of h2 h3
    have b2 : 8 * (l.length - 1) < intBits (d2i 8 l) := by
      refine Nat.lt_of_not_le fun hle => ?_
      rw [intBits_le_iff] at hle
      have : ((2 : Nat) ^ (8 * (l.length - 1)) : Int) = (2 : Int) ^ (8 * (l.length - 1)) := by norm_cast
      omega
    unfold places
    omega
  refine ⟨e, ?_⟩
  rw [e]; exact i2d_d2i 8 l hd
end Mine
namespace Mine
open Builtin.Int (intBits)
variable {w : World} {A : Around} {E : Value → Shared → Prop} {s : Shared} {env : Env} {mg mb m : Str → Option Value} {g : Heap} {cs : Objs} {L : Addr}
/-- the k-th statement of the law's body -/
def stL (i : Nat) : Stmt := match (defAt 24).body[i]? with
  | some st => st
  | none => .Pass default
theorem law_body : (defAt 24).body = [stL 0, stL 1, stL 2, stL 3, stL 4, stL 5, stL 6, stL 7, stL 8, stL 9, stL 10, stL 11, stL 12] := rfl
theorem cScript : (lenv L).cells.lookup ("script" : Str) = some (L + 1) := rfl
theorem cDraws : (lenv L).cells.lookup ("draws" : Str) = some (L + 2) := rfl
theorem cPair : (lenv L).cells.lookup ("pair" : Str) = some (L + 3) := rfl
theorem cBits : (lenv L).cells.lookup ("bits" : Str) = some (L + 4) := rfl
/-- written ints -/
inductive Consts : List Expr → List Int → Prop
  | nil : Consts [] []
  | cons {a : Int} {k pos es ns} : Consts es ns → Consts (.Constant (.int a) k pos :: es) (a :: ns)
theorem consts_eval {pos : Pos} {es : List Expr} {ns : List Int} (P : Consts es ns) : ∀ {s : Shared} {Q : List Value → Shared → Prop},
    (∀ (vs : List Value) (s' : Shared), IntsAre vs ns → Sm s s' → s'.heap = s.heap → Q vs s') → wpAny (model PG w) A (spliced (backTo pos (starEach es env))) Q E s := by
  induction P with
  | nil => intro s Q h; exact args_nil (h [] s .nil (Sm.refl s) rfl)
  | @cons a k pos' es ns P ih =>
    intro s Q h
    refine args_cons (wpAny_Constant_int (ih fun vs s' hv S H => h _ s' (.cons a _ hv) (Sm.trans ⟨rfl, rfl, rfl⟩ S) H))
/-- written lists of ints -/
inductive CLists : List Expr → List (List Int) → Prop
  | nil : CLists [] []
  | cons {fs ns pos es nss} : Consts fs ns → ns.length ≤ 100 → CLists es nss → CLists (.List fs pos :: es) (ns :: nss)
theorem clists_eval {pos : Pos} {es : List Expr} {nss : List (List Int)} (P : CLists es nss) : ∀ {s : Shared} {cs : Objs} {Q : List Value → Shared → Prop}, Own g s.heap L m cs →
    (∀ (rs : List Value) (s' : Shared) (ts : Objs), Sm s s' → rs.length = nss.length → (∀ (i : Nat) ns, nss[i]? = some ns → ∃ r : Addr, rs[i]? = some (Value.ref r) ∧ (r, iInts ns) ∈ ts) → Own g s'.heap L m (ts ++ cs) → Q rs s') →
    wpAny (model PG w) A (spliced (backTo pos (starEach es env))) Q E s := by
  induction P with
  | nil => intro s cs Q O h; exact args_nil (h [] s [] (Sm.refl s) rfl (fun i a e => by simp at e) O)
  | @cons fs ns pos' es nss C hz P ih =>
    intro s cs Q O h
    refine args_cons (List_ (consts_eval C fun vs s₁ hv S₁ H₁ => ?_))
    refine newListO (O.eqH H₁) (fun r s₂ S₂ O₂ => ?_) (by rw [hv.length, sizeLine_eq]; omega)
    have O₂' := O₂.weak (i := 0) (P' := iInts ns) rfl fun o ho => ⟨vs, hv, ho⟩
    refine ih O₂' fun rs s' ts S hl hm O' => h (.ref r :: rs) s' (ts ++ [(r, iInts ns)]) (S₁.trans (S₂.trans S)) (by simp [hl]) (fun i x e => ?_) (by simpa using O')
    cases i with
    | zero =>
      simp only [List.getElem?_cons_zero, Option.some.injEq] at e
      subst e
      exact ⟨r, rfl, List.mem_append_right _ (.head _)⟩
    | succ i =>
      obtain ⟨r', e1, e2⟩ := hm i x (by simpa using e)
      exact ⟨r', by simpa using e1, List.mem_append_left _ e2⟩
/-- choice = draws[0] % 6 -/
theorem law_choice {st : Stmt} (hst : st = stL 1) {dl : Addr} {d0 d1 d2 : Int} {c4 c3 c1 : Addr × (Obj → Prop)} {Q : Flow → Shared → Prop}
    (O : Own g s.heap L m ((dl, iInts [d0, d1, d2]) :: c4 :: c3 :: (L + 2, iCell (some (.ref dl))) :: c1 :: cs))
    (h : ∀ t s', Sm s s' → Own g s'.heap L (upd m "choice" (.int (d0.fmod 6) t)) ((dl, iInts [d0, d1, d2]) :: c4 :: c3 :: (L + 2, iCell (some (.ref dl))) :: c1 :: cs) → Q .next s') :
    wpAny (model PG w) A (exec st (lenv L)) Q E s := by
  subst hst
  refine sName (wpAny_BinOp (Subscript_ (eCellH (O.of (i := 3) rfl) cDraws (wpAny_Constant_int (subInt (O.of (i := 0) rfl) (by decide) (by simp) (by simp) fun t₁ => wpAny_Constant_int (PyProof.Rows.mod_int (by decide) ⟨_, _, _, O, fun s₁ S₁ O₁ => ?_⟩))))))
  exact h _ s₁ (Sm.trans ⟨rfl, rfl, rfl⟩ S₁) O₁
theorem pairsAre : ∃ es p1 p2 p3 p4 p5, stL 2 = .Assign [.Name "pair" p1] (.Subscript (.List es p2) (.Name "choice" p3) p4) p5 ∧ Pairs es [(1, 3), (3, 1), (2, 4), (4, 2), (1, 5), (5, 1)] :=
  ⟨_, _, _, _, _, _, rfl, .cons (.cons (.cons (.cons (.cons (.cons .nil)))))⟩
/-- pair = [..][choice] -/
theorem law_pair {st : Stmt} (hst : st = stL 2) {c : Int} {tc : Tok} {p1 c4 : Addr × (Obj → Prop)} {Q : Flow → Shared → Prop}
    (O : Own g s.heap L m (p1 :: c4 :: (L + 3, iCell none) :: cs)) (hc : m "choice" = some (.int c tc)) (h0 : 0 ≤ c) (h1 : c < 6)
    (h : ∀ tp p q s', GoodPair p q → Sm s s' → Own g s'.heap L m ((tp, iTupI [p, q]) :: p1 :: c4 :: (L + 3, iCell (some (.ref tp))) :: cs) → Q .next s') :
    wpAny (model PG w) A (exec st (lenv L)) Q E s := by
  subst hst
  obtain ⟨es, p1, p2, p3, p4, p5, e, P⟩ := pairsAre
  rw [e]
  refine sCell (pairs_pick P (Nat.le_of_ble_eq_true rfl) O hc h0 h1 (fun tp p q s₁ e S₁ O₁ => ?_) rfl rfl (by decide)) cPair
  refine ⟨_, _, _, 3, iCell none, O₁, rfl, fun o h => ⟨_, h⟩, fun s₂ S₂ O₂ => h tp p q s₂ ?_ (S₁.trans S₂) O₂⟩
  exact List.mem_of_getElem? e
theorem mostAre : ∃ es p1 p2 p3 e p5, stL 3 = .Assign [.Name "most" p1] (.Subscript (.List es p2) e p3) p5 ∧ Consts es [48, 18, 12] ∧ ∃ p6 k p7 p8, e = .BinOp (.Name "choice" p6) .FloorDiv (.Constant (.int 2) k p7) p8 :=
  ⟨_, _, _, _, _, _, rfl, .cons (.cons (.cons .nil)), _, _, _, _, rfl⟩
/-- most = [48, 18, 12][choice // 2] -/
theorem law_most {st : Stmt} (hst : st = stL 3) {c : Int} {tc : Tok} {Q : Flow → Shared → Prop}
    (O : Own g s.heap L m cs) (hc : m "choice" = some (.int c tc)) (h0 : 0 ≤ c) (h1 : c < 6)
    (h : ∀ most t s', 0 ≤ most ∧ most ≤ 48 → Sm s s' → Own g s'.heap L (upd m "most" (.int most t)) cs → Q .next s') :
    wpAny (model PG w) A (exec st (lenv L)) Q E s := by
  subst hst
  have hm0 : 0 ≤ Int.fdiv c 2 := by rw [Int.fdiv_eq_ediv_of_nonneg _ (by decide)]; omega
  have hm1 : Int.fdiv c 2 < 3 := by rw [Int.fdiv_eq_ediv_of_nonneg _ (by decide)]; omega
  obtain ⟨es, p1, p2, p3, ei, p5, e, P, p6, k, p7, p8, e2⟩ := mostAre
  rw [e]
  refine sName (Subscript_ (List_ (consts_eval P fun vs s₀ hv S₀ H₀ => ?_)))
  refine newListO (O.eqH H₀) (fun ml s₁ S₁ O₁ => ?_) (by rw [hv.length]; exact Nat.le_of_ble_eq_true rfl)
  rw [e2]
  refine wpAny_BinOp (eLocal O₁ hc (wpAny_Constant_int (floordiv_int (by decide) ?_)))
  refine subInt ((O₁.of (i := 0) rfl).ints hv) hm0 hm1 (by simp) fun tm => ⟨_, _, _, O₁.tail, fun s₂ S₂ O₂ => h _ tm s₂ ?_ ?_ O₂⟩
  · have : Int.fdiv c 2 = 0 ∨ Int.fdiv c 2 = 1 ∨ Int.fdiv c 2 = 2 := by omega
    rcases this with e | e | e <;> rw [e] <;> decide
  · exact S₀.trans (S₁.trans (Sm.trans ⟨rfl, rfl, rfl⟩ S₂))
end Mine
namespace Mine
open Builtin.Int (intBits)
variable {w : World} {A : Around} {E : Value → Shared → Prop} {s : Shared} {env : Env} {mg mb m : Str → Option Value} {g : Heap} {cs : Objs} {L : Addr}
def bitOf (d : Int) (k : Int) : Int := (d.fdiv (2 ^ k.toNat)).fmod 2
def bitsOfDraw (d : Int) (n : Nat) : List Int := ((List.range n).map fun i : Nat => (i : Int)).map (bitOf d)
theorem Bits.ofDraw {d : Int} {n : Nat} (h1 : n % 2 = 0) (h2 : 4 ≤ n) (h3 : n ≤ 20) : Bits (bitsOfDraw d n) := by
  refine ⟨by simpa [bitsOfDraw] using h1, by simpa [bitsOfDraw] using h2, by simpa [bitsOfDraw] using h3, fun x hx => ?_⟩
  obtain ⟨k, _, rfl⟩ := List.mem_map.mp hx
  have a := Int.fmod_nonneg_of_pos (d.fdiv (2 ^ k.toNat)) (show (0 : Int) < 2 by decide)
  have b := Int.fmod_lt_of_pos (d.fdiv (2 ^ k.toNat)) (show (0 : Int) < 2 by decide)
  unfold bitOf; omega
set_option maxHeartbeats 1000000 in
/-- bits = [..] -/
theorem law_bits {st : Stmt} (hst : st = stL 4) {dl sl : Addr} {ns : List Int} {d0 d1 d2 most : Int} {tm : Tok} {c1 c2 : Addr × (Obj → Prop)} {Q : Flow → Shared → Prop} (G : Gl mg mb g) (hh : A.handled = none)
    (O : Own g s.heap L m (c1 :: (dl, iInts [d0, d1, d2]) :: (L + 4, iCell none) :: c2 :: (L + 2, iCell (some (.ref dl))) :: (L + 1, iCell (some (.ref sl))) :: cs))
    (hl : Has g sl (iInts ns)) (hlen : ns.length ≤ 100) (hm : m "most" = some (.int most tm)) (h0 : 0 ≤ most) (h1 : most ≤ 48)
    (h : ∀ bl bs s', Bits bs → Sm s s' → Own g s'.heap L m ((bl, iInts bs) :: c1 :: (dl, iInts [d0, d1, d2]) :: (L + 4, iCell (some (.ref bl))) :: c2 :: (L + 2, iCell (some (.ref dl))) :: (L + 1, iCell (some (.ref sl))) :: cs) → Q .next s') :
    wpAny (model PG w) A (exec st (lenv L)) Q E s := by
  subst hst
  have hsl := O.old hl
  refine sCell (compO (f := bitOf d1) hh ?_ (show closureFor _ (lenv L) = pure [(("draws" : Str), L + 2)] from rfl)) cBits
  refine wpAny_Call_NameR (eBuilt (v := .type "range") (G.keeps O.keep) (by decide +kernel) (by decide +kernel) ?_ (by decide))
  refine PyProof.Rows.callWith_type1 (args_cons ?_)
  refine wpAny_BinOp (wpAny_Constant_int (wpAny_BinOp (wpAny_BinOp ?_)))
  refine wpAny_Call_NameR (eBuilt (v := .builtin "min") (G.keeps O.keep) (by decide +kernel) (by decide +kernel) ?_ (by decide))
  refine PyProof.Rows.callWith_builtin1 (args_cons ?_)
  refine wpAny_Call_NameR (eBuilt (v := .builtin "len") (G.keeps O.keep) (by decide +kernel) (by decide +kernel) ?_ (by decide))
  refine PyProof.Rows.callWith_builtin1 (args_cons (eCellH (O.of (i := 5) rfl) cScript (args_nil ?_)))
  refine lenO hsl (by omega) fun t₁ s₁ S₁ H₁ => ?_
  refine args_cons (eLocal (O.eqH H₁) hm (args_nil (minO hh fun v s₂ S₂ K₂ => ?_)))
  refine wpAny_Constant_int (floordiv_int (by decide) (wpAny_Constant_int (mul_int (add_int (args_nil ?_)))))
  have hmn : 0 ≤ min (ns.length : Int) most ∧ min (ns.length : Int) most ≤ 48 := by omega
  generalize min (ns.length : Int) most = k at *
  obtain ⟨n, hn, hn1, hn2, hn3⟩ : ∃ n : Nat, 4 + Int.fdiv k 6 * 2 = (n : Int) ∧ n % 2 = 0 ∧ 4 ≤ n ∧ n ≤ 20 := by
    rw [Int.fdiv_eq_ediv_of_nonneg _ (by decide)]
    exact ⟨(4 + k / 6 * 2).toNat, by omega, by omega, by omega, by omega⟩
  rw [hn]
  refine itRange1 (by omega) fun v₃ s₃ S₃ K₃ hit => ?_
  have KK : Keeps s.heap s₃.heap := fun b o e => K₃ b o (K₂ b o (by rw [H₁]; exact e))
  refine ⟨_, S₁.trans (S₂.trans (Sm.trans ⟨rfl, rfl, rfl⟩ S₃)), KK, hit, by simp; omega, ?_, ?_⟩
  · intro C x t s₄ m₃ E' hx hC hns hm₃ K₄
    obtain ⟨j, hj, rfl⟩ := List.mem_map.mp hx
    have hj := List.mem_range.mp hj
    have K₅ := KK.trans K₄
    have h24 : ((2 : Int) ^ ((j : Int)).toNat).natAbs < 1073741824 := by
      rw [Int.toNat_natCast, Int.natAbs_pow]
      exact Nat.lt_of_le_of_lt (Nat.pow_le_pow_right (by decide) (show j ≤ 20 by omega)) (by decide)
    have hpos : ((2 : Int) ^ ((j : Int)).toNat) ≠ 0 := Int.ne_of_gt (two_pos _)
    refine wpAny_BinOp (wpAny_BinOp (Subscript_ (eCellH ((O.of (i := 4) rfl).keeps K₅) (by rfl) (wpAny_Constant_int (subInt ((O.of (i := 1) rfl).keeps K₅) (by decide) (by simp) (by simp) fun t₅ => ?_)))))
    refine wpAny_BinOp (wpAny_Constant_int (eLocalN hns hm₃ (pow_int (by omega) (by rw [show intBits 2 = 2 from by decide +kernel]; omega) ?_)))
    refine floordiv_int hpos (wpAny_Constant_int (PyProof.Rows.mod_int (by decide) ?_)) (.inl (PyProof.noPylong_small h24))
    exact ⟨⟨_, rfl⟩, ⟨rfl, rfl, rfl⟩, fun _ _ e => e⟩
  · intro D s₄ S₄ K₄ hD hX
    have O₄ := O.add K₄ hD hX
    exact ⟨_, _, _, 3, iCell none, O₄, rfl, fun o h => ⟨_, h⟩, fun s₅ S₅ O₅ => h D _ s₅ (.ofDraw hn1 hn2 hn3) (S₄.trans S₅) O₅⟩
theorem endingAre : ∃ es p1 p2 p3 e p5, stL 5 = .Assign [.Name "ending" p1] (.Subscript (.List es p2) e p3) p5 ∧ CLists es [[0, 7], [127, 7], []] ∧ ∃ p6 k p7 p8 k' p9 p10 , e = .BinOp (.Subscript (.Name "draws" p6) (.Constant (.int 2) k p7) p8) .Mod (.Constant (.int 3) k' p9) p10 :=
  ⟨_, _, _, _, _, _, rfl, .cons (.cons (.cons .nil)) (by decide) (.cons (.cons (.cons .nil)) (by decide) (.cons .nil (by decide) .nil)), _, _, _, _, _, _, _, rfl⟩
def Ending (en : List Int) : Prop := en = [0, 7] ∨ en = [127, 7] ∨ en = []
/-- ending = [..][..] -/
theorem law_ending {st : Stmt} (hst : st = stL 5) {dl : Addr} {d0 d1 d2 : Int} {c1 c2 c3 c4 : Addr × (Obj → Prop)} {Q : Flow → Shared → Prop}
    (O : Own g s.heap L m (c1 :: c2 :: (dl, iInts [d0, d1, d2]) :: c3 :: c4 :: (L + 2, iCell (some (.ref dl))) :: cs))
    (h : ∀ el en s', Ending en → Sm s s' → Own g s'.heap L (upd m "ending" (.ref el)) ((el, iInts en) :: c1 :: c2 :: (dl, iInts [d0, d1, d2]) :: c3 :: c4 :: (L + 2, iCell (some (.ref dl))) :: cs) → Q .next s') :
    wpAny (model PG w) A (exec st (lenv L)) Q E s := by
  subst hst
  obtain ⟨es, p1, p2, p3, ei, p5, e, P, p6, k, p7, p8, k', p9, p10, e2⟩ := endingAre
  rw [e]
  refine sName (Subscript_ (List_ (clists_eval P O fun rs s₀ ts S₀ hrl hrs O₀ => ?_)))
  refine newListO O₀ (fun ml s₁ S₁ O₁ => ?_) (by rw [hrl]; exact Nat.le_of_ble_eq_true rfl)
  have O₁' : Own g s₁.heap L m (c1 :: c2 :: (dl, iInts [d0, d1, d2]) :: c3 :: c4 :: (L + 2, iCell (some (.ref dl))) :: cs) := O₁.sub (.cons _ (List.sublist_append_right _ _))
  rw [e2]
  refine wpAny_BinOp (Subscript_ (eCellH (O₁'.of (i := 5) rfl) cDraws (wpAny_Constant_int (subInt (O₁'.of (i := 2) rfl) (by decide) (by simp) (by simp) fun t₁ => wpAny_Constant_int (PyProof.Rows.mod_int (by decide) ?_)))))
  have c0 := Int.fmod_nonneg_of_pos ([d0, d1, d2].getD (Int.toNat 2) 0) (show (0 : Int) < 3 by decide)
  have c1 := Int.fmod_lt_of_pos ([d0, d1, d2].getD (Int.toNat 2) 0) (show (0 : Int) < 3 by decide)
  generalize ([d0, d1, d2].getD (Int.toNat 2) 0).fmod 3 = c at *
  obtain ⟨en, hen, hE⟩ : ∃ en, ([[0, 7], [127, 7], []] : List (List Int))[c.toNat]? = some en ∧ Ending en := by
    have : c = 0 ∨ c = 1 ∨ c = 2 := by omega
    rcases this with rfl | rfl | rfl
    · exact ⟨_, rfl, .inl rfl⟩
    · exact ⟨_, rfl, .inr (.inl rfl)⟩
    · exact ⟨_, rfl, .inr (.inr rfl)⟩
  obtain ⟨r, e3, e4⟩ := hrs _ _ hen
  refine subVal (O₁.of (i := 0) rfl) c0 (by omega) e3 ⟨_, _, _, Own.pick (ts := (ml, iVals rs) :: ts) O₁ (.tail _ e4), fun s₂ S₂ O₂ => h r en s₂ hE (S₀.trans (S₁.trans (Sm.trans ⟨rfl, rfl, rfl⟩ S₂))) O₂⟩
/-- rows = [[pair[bit] for bit in bits]] -/
theorem law_rows {st : Stmt} (hst : st = stL 6) {tp bl : Addr} {bs : List Int} {p q : Int} {c1 c3 : Addr × (Obj → Prop)} {Q : Flow → Shared → Prop} (hh : A.handled = none) (hbs : Bits bs)
    (O : Own g s.heap L m (c1 :: (bl, iInts bs) :: (tp, iTupI [p, q]) :: c3 :: (L + 4, iCell (some (.ref bl))) :: (L + 3, iCell (some (.ref tp))) :: cs))
    (h : ∀ rl r0 s', Sm s s' → Own g s'.heap L (upd m "rows" (.ref rl)) ((rl, iVals [.ref r0]) :: (r0, iInts (row0 p q bs)) :: c1 :: (bl, iInts bs) :: (tp, iTupI [p, q]) :: c3 :: (L + 4, iCell (some (.ref bl))) :: (L + 3, iCell (some (.ref tp))) :: cs) → Q .next s') :
    wpAny (model PG w) A (exec st (lenv L)) Q E s := by
  subst hst
  refine sName (List_ (args_cons (compO (f := pk p q) hh ?_ (show closureFor _ (lenv L) = pure [(("pair" : Str), L + 3)] from rfl))))
  refine eCellH (O.of (i := 4) rfl) cBits ⟨bs, Sm.refl s, Keeps.refl _, .inl ⟨bl, rfl, O.of (i := 1) rfl⟩, by have := hbs.2.2.1; omega, ?_, ?_⟩
  · intro C x t s₄ m₃ E' hx hC hns hm₃ K₄
    have hx' := hbs.2.2.2 x hx
    refine Subscript_ (eCellH ((O.of (i := 5) rfl).keeps K₄) (by rfl) (eLocalN hns hm₃ (subTup ((O.of (i := 2) rfl).keeps K₄) (by omega) (by simp; omega) (by simp) fun t₅ => ?_)))
    exact ⟨⟨_, rfl⟩, ⟨rfl, rfl, rfl⟩, fun _ _ e => e⟩
  · intro D s₄ S₄ K₄ hD hX
    have O₄ := O.add K₄ hD hX
    exact args_nil (newListO O₄ (fun rl s₅ S₅ O₅ => ⟨_, _, _, O₅, fun s₆ S₆ O₆ => h rl D s₆ (S₄.trans (S₅.trans S₆)) O₆⟩) (Nat.le_of_ble_eq_true rfl))
end Mine
namespace Mine
open Builtin.Int (intBits)
variable {w : World} {A : Around} {E : Value → Shared → Prop} {s : Shared} {env : Env} {mg mb m : Str → Option Value} {g h₀ : Heap} {cs : Objs} {L : Addr}
theorem appendVal {i : Nat} {l : Addr} {vs : List Value} {v : Value} {Q : Value → Shared → Prop} (O : Own h₀ s.heap L m cs) (hi : cs[i]? = some (l, iVals vs)) (hz : vs.length ≤ 2 ^ 24)
    (h : ∀ s', Sm s s' → Own h₀ s'.heap L m (cs.set i (l, iVals (vs ++ [v]))) → Q .none s') : wpAny (model PG w) A (call (.builtin "list.append") [.ref l, v]) Q E s := by
  have X := O.of hi
  refine wpAny_list_append_plain X.plain (fun h' p hs => h _ ⟨rfl, rfl, rfl⟩ (O.turn hi hs.extBut (has_vals.mpr (by simpa using p)))) ?_
  rw [List.size_toArray]; exact hz
/-- f(e) for a def of the globals, what it is known from kept -/
theorem eCall1G {x : Str} {px pos : Pos} {e : Expr} {f c : Addr} {d : DefRec} {Q : Value → Shared → Prop} (G : Gl mg mb s.heap) (hx : mg x = some (.ref f)) (hf : FnAt g f c d)
    (h : wpAny (model PG w) A (eval e env) (fun v s₁ => Keeps g s₁.heap ∧ wpAny (model PG w) A (call (.ref f) [v]) Q E s₁) E s)
    (hk : env.scope.kind = .function := by rfl) (hl : env.kindOf x = some .globalImplicit := by rfl) (hg : env.globals = mainGlobals := by rfl) (hd : (x == ("__debug__" : Str)) = false := by decide)
    (he : starEach [e] env = [(false, eval e env)] := by rfl) :
    wpAny (model PG w) A (eval (.Call (.Name x px) [e] [] pos) env) Q E s := by
  refine wpAny_Call_NameR (eGlob G hx ?_ hk hl hg hd)
  obtain ⟨o, pm, doc, ho, hdata, hcd⟩ := hf
  refine callWith_def hdata (args_cons (wpAny_mono h (fun v s₁ h₁ => args_nil ⟨h₁.1 _ _ ho, h₁.2⟩) fun _ _ e => e) he) he
theorem eCall2G {x : Str} {px pos : Pos} {e e' : Expr} {f c : Addr} {d : DefRec} {Q : Value → Shared → Prop} (G : Gl mg mb s.heap) (hx : mg x = some (.ref f)) (hf : FnAt g f c d)
    (h : wpAny (model PG w) A (eval e env) (fun v s₁ => wpAny (model PG w) A (eval e' env) (fun v' s₂ => Keeps g s₂.heap ∧ wpAny (model PG w) A (call (.ref f) [v, v']) Q E s₂) E s₁) E s)
    (hk : env.scope.kind = .function := by rfl) (hl : env.kindOf x = some .globalImplicit := by rfl) (hg : env.globals = mainGlobals := by rfl) (hd : (x == ("__debug__" : Str)) = false := by decide)
    (he : starEach [e, e'] env = (false, eval e env) :: starEach [e'] env := by rfl) (he' : starEach [e'] env = [(false, eval e' env)] := by rfl) :
    wpAny (model PG w) A (eval (.Call (.Name x px) [e, e'] [] pos) env) Q E s := by
  refine wpAny_Call_NameR (eGlob G hx ?_ hk hl hg hd)
  obtain ⟨o, pm, doc, ho, hdata, hcd⟩ := hf
  refine callWith_def hdata (args_cons (wpAny_mono h (fun v s₁ h₁ => args_cons (wpAny_mono h₁ (fun v' s₂ h₂ => args_nil ⟨h₂.1 _ _ ho, h₂.2⟩) fun _ _ e => e) he') fun _ _ e => e) he) he
def bodyT : List Stmt := match stL 7 with
  | .For _ _ b _ _ => b
  | _ => []
def bT (i : Nat) : Stmt := match bodyT[i]? with
  | some st => st
  | none => .Pass default
theorem bodyT_eq : bodyT = [bT 0, bT 1, bT 2, bT 3] := rfl
/-- what is told behind a row -/
def tailOf (row en : List Int) : List Int := if en = [0, 7] then [row.getD (row.length - 1) 0, row.getD (row.length - 1) 0] else []
/-- row = rows[turn] -/
theorem t_row {i : Nat} {t : Tok} {rl : Addr} {vs : List Value} {v : Value} {c0 : Addr × (Obj → Prop)} {Q : Flow → Shared → Prop} (O : Own g s.heap L m (c0 :: (rl, iVals vs) :: cs)) (hr : m "rows" = some (.ref rl)) (ht : m "turn" = some (.int i t)) (hi : i < 100) (hv : vs[i]? = some v)
    (h : ∀ s', Sm s s' → Own g s'.heap L (upd m "row" v) (c0 :: (rl, iVals vs) :: cs) → Q .next s') : wpAny (model PG w) A (exec (bT 0) (lenv L)) Q E s := by
  refine sName (Subscript_ (eLocal O hr (eLocal O ht (subVal (O.of (i := 1) rfl) (by omega) (by omega) (by simpa using hv) ⟨_, _, _, O, fun s₁ S₁ O₁ => h s₁ S₁ O₁⟩))))
theorem told_row {row en : List Int} (hE : Ending en) (h0 : 0 < row.length) :
    toldTo (row ++ en) row.length (if row.length < (row ++ en).length ∧ (row ++ en).getD row.length 0 = 0 then row.length + 2 else row.length) = row ++ tailOf row en := by
  have e : (row ++ en).getD row.length 0 = en.getD 0 0 := by
    simp only [List.getD_eq_getElem?_getD]; rw [List.getElem?_append_right (Nat.le_refl _), Nat.sub_self]
  rcases hE with rfl | rfl | rfl
  · rw [if_pos ⟨by simp, by rw [e]; rfl⟩, toldTo_two _ _ h0, tailOf, if_pos rfl]
  · rw [if_neg (by rw [e]; simp), toldTo_row, tailOf, if_neg (by decide), List.append_nil]
  · rw [if_neg (by simp), toldTo_row, tailOf, if_neg (by decide), List.append_nil]
/-- told = _law_told(row + ending, len(row) + 2) -/
theorem t_told {row en : List Int} {ra el : Addr} {Q : Flow → Shared → Prop} (G : Gl mg mb g) (fit : Fit A 4) (O : Own g s.heap L m cs) (hr : m "row" = some (.ref ra)) (he : m "ending" = some (.ref el))
    (mr : (ra, iInts row) ∈ cs) (me : (el, iInts en) ∈ cs) (hE : Ending en) (hp : ∀ x ∈ row, 1 ≤ x ∧ x ≤ 5) (h0 : 0 < row.length) (hz : row.length ≤ 600)
    (h : ∀ td s', SmB s s' → Own g s'.heap L (upd m "told" (.ref td)) ((td, iInts (row ++ tailOf row en)) :: cs) → Q .next s') : wpAny (model PG w) A (exec (bT 1) (lenv L)) Q E s := by
  have hel : en.length ≤ 2 := by rcases hE with rfl | rfl | rfl <;> simp
  have G₁ := G.keeps O.keep
  refine sName (eCall2G G₁ G₁.nm.told G.f18 ?_)
  refine wpAny_BinOp (eLocal O hr (eLocal O he (addInts O (O.at_ _ mr) (O.at_ _ me) (by omega) fun r s₁ S₁ O₁ => ?_)))
  refine wpAny_BinOp ?_
  refine wpAny_Call_NameR (eBuilt (v := .builtin "len") (G.keeps O₁.keep) (by decide +kernel) (by decide +kernel) ?_ (by decide))
  refine PyProof.Rows.callWith_builtin1 (args_cons (eLocal O₁ hr (args_nil ?_)))
  refine lenO (O₁.at_ _ (.tail _ mr)) (by omega) fun t₂ s₂ S₂ H₂ => wpAny_Constant_int (add_int ?_)
  have O₂ := O₁.eqH H₂
  have e2 : ((row.length : Int) + 2) = ((row.length + 2 : Nat) : Int) := by omega
  rw [e2]
  refine ⟨O₂.keep, ?_⟩
  refine told_spec (G.keeps O₂.keep) (fit.le (by omega)) (O₂.of (i := 0) rfl) (fun i hi => ?_) h0 (by rw [List.length_append]; omega) ?_ (by rw [List.length_append]; omega) fun td s₃ S₃ K₃ hn hX => ?_
  · have e : (row ++ en).getD i 0 = row.getD i 0 := by
      simp only [List.getD_eq_getElem?_getD]; rw [List.getElem?_append_left hi]
    have := hp (row.getD i 0) (by simp [List.getD, List.getElem?_eq_getElem hi])
    rw [e]; omega
  · have e : (row ++ en).getD row.length 0 = en.getD 0 0 := by
      simp only [List.getD_eq_getElem?_getD]; rw [List.getElem?_append_right (Nat.le_refl _), Nat.sub_self]
    rw [e]
    rcases hE with rfl | rfl | rfl
    · exact .inr (.inr rfl)
    · exact .inr (.inl rfl)
    · exact .inl (by simp)
  · rw [told_row hE h0] at hX
    have O₃ := (O₂.sub (.cons _ (List.Sublist.refl _))).add K₃ hn hX
    refine ⟨_, _, _, O₃, fun s₄ S₄ O₄ => h td s₄ ?_ O₄⟩
    exact (Sm.b (S₁.trans (Sm.trans ⟨rfl, rfl, rfl⟩ (Sm.trans S₂ ⟨rfl, rfl, rfl⟩)))).trans (SmB.trans S₃ S₄.b)
/-- if told[len(row):] != (..): return False -/
theorem t_if {row en : List Int} {ra el td : Addr} {Q : Flow → Shared → Prop} (G : Gl mg mb g) (fit : Fit A 14) (O : Own g s.heap L m cs) (hr : m "row" = some (.ref ra)) (he : m "ending" = some (.ref el)) (ht : m "told" = some (.ref td))
    (mr : (ra, iInts row) ∈ cs) (me : (el, iInts en) ∈ cs) (mt : (td, iInts (row ++ tailOf row en)) ∈ cs) (hE : Ending en) (h0 : 0 < row.length) (hz : row.length ≤ 600)
    (h : ∀ s', Sm s s' → Own g s'.heap L m cs → Q .next s') : wpAny (model PG w) A (exec (bT 2) (lenv L)) Q E s := by
  have hel : en.length ≤ 2 := by rcases hE with rfl | rfl | rfl <;> simp
  have htl : (row ++ tailOf row en).length ≤ 602 := by
    rw [List.length_append]; unfold tailOf; split <;> simp <;> omega
  have hu : A.units + 64 < cLine := by have := fit.units; omega
  refine wpAny_If (wpAny_isTrue_Compare1 ?_)
  refine eSlice (eLocal O ht (wpAny_evalPart_some ?_))
  refine wpAny_Call_NameR (eBuilt (v := .builtin "len") (G.keeps O.keep) (by decide +kernel) (by decide +kernel) ?_ (by decide))
  refine PyProof.Rows.callWith_builtin1 (args_cons (eLocal O hr (args_nil ?_)))
  refine lenO (O.at_ _ mr) (by omega) fun t₁ s₁ S₁ H₁ => wpAny_evalPart_none ?_
  have O₁ := O.eqH H₁
  refine ⟨td, _, _, _, tailOf row en, _, _, _, _, rfl, O₁.at_ _ mt, by omega, .int _ _, .none, fun vs hv => ?_, O₁, fun a s₂ S₂ O₂ => ?_⟩
  · have := kmk_from (x := (row.length : Int)) hv (by omega)
    rw [Int.toNat_natCast, List.drop_left] at this
    exact this
  -- row[-1:] * 2 if ending[:1] == [0] else []
  refine IfExp_ (wpAny_isTrue_Compare1 ?_)
  refine eSlice (eLocal O₂ he (wpAny_evalPart_none (wpAny_evalPart_some (wpAny_Constant_int ?_))))
  refine ⟨el, _, _, _, en.take 1, _, _, _, _, rfl, O₂.at_ _ (.tail _ me), by omega, .none, .int _ _, fun vs hv => kmk_upto hv (by decide), O₂, fun b s₃ S₃ O₃ => ?_⟩
  refine List_ (args_cons (wpAny_Constant_int (args_nil (newListO O₃ (fun c s₄ S₄ O₄ => ?_) (Nat.le_of_ble_eq_true rfl)))))
  refine eqInts (O₄.of (i := 1) rfl) ((O₄.of (i := 0) rfl).ints (.cons _ _ .nil)) hu (wpAny_truthy_bool ?_)
  have S' : Sm s s₄ := Sm.trans (Sm.trans ⟨rfl, rfl, rfl⟩ S₁) (S₂.trans (Sm.trans (Sm.trans ⟨rfl, rfl, rfl⟩ S₃) (Sm.trans ⟨rfl, rfl, rfl⟩ S₄)))
  have ee : decide (en.take 1 = [0]) = decide (en = [0, 7]) := by rcases hE with rfl | rfl | rfl <;> decide
  rw [ee]
  by_cases h7 : en = [0, 7]
  · rw [decide_eq_true h7, if_pos rfl]
    refine wpAny_BinOp ?_
    refine eSlice (eLocal O₄ hr (wpAny_evalPart_some (wpAny_UnaryOp (wpAny_Constant_int (neg_int (wpAny_evalPart_none ?_))))))
    refine ⟨ra, row, _, _, row.drop (row.length - 1), _, _, _, _, rfl, O₄.at_ _ (.tail _ (.tail _ (.tail _ mr))), by omega, .int _ _, .none, fun vs hv => kmk_from_neg hv (by decide), O₄, fun d s₅ S₅ O₅ => ?_⟩
    have el1 : row.drop (row.length - 1) = [row.getD (row.length - 1) 0] := by
      rw [List.drop_eq_getElem_cons (by omega), List.drop_of_length_le (by omega)]
      simp [List.getD, List.getElem?_eq_getElem (show row.length - 1 < row.length by omega)]
    rw [el1] at O₅
    refine wpAny_Constant_int (mulInts O₅ (O₅.of (i := 0) rfl) (by simp) (by decide) (by decide) (by simp) fun e s₆ S₆ O₆ => ?_)
    refine neInts (O₆.of (i := 4) rfl) (O₆.of (i := 0) rfl) hu (wpAny_truthy_bool ?_)
    have et : tailOf row en = (List.replicate (Int.toNat 2) [row.getD (row.length - 1) 0]).flatten := by rw [tailOf, if_pos h7]; rfl
    rw [decide_eq_true et]
    rw [if_neg (by decide)]
    exact wpAny_execs_nil (h s₆ (S'.trans (Sm.trans (Sm.trans ⟨rfl, rfl, rfl⟩ S₅) (Sm.trans ⟨rfl, rfl, rfl⟩ S₆))) (O₆.sub (.cons _ (.cons _ (.cons _ (.cons _ (.cons _ (List.Sublist.refl _))))))))
  · rw [decide_eq_false h7, if_neg (by decide)]
    refine List_ (args_nil (newListO O₄ (fun e s₅ S₅ O₅ => ?_) (Nat.le_of_ble_eq_true rfl)))
    refine neInts (O₅.of (i := 3) rfl) ((O₅.of (i := 0) rfl).ints .nil) hu (wpAny_truthy_bool ?_)
    rw [decide_eq_true (show tailOf row en = [] from if_neg h7)]
    rw [if_neg (by decide)]
    exact wpAny_execs_nil (h s₅ (S'.trans S₅) (O₅.sub (.cons _ (.cons _ (.cons _ (.cons _ (List.Sublist.refl _)))))))
/-- rows.append(_law_written(told[:len(row)], pair)) -/
theorem t_append {row en : List Int} {p q : Int} {ra td tp rl : Addr} {vs : List Value} {i : Nat} {Q : Flow → Shared → Prop} (G : Gl mg mb g) (fit : Fit A 2) (O : Own g s.heap L m cs) (hr : m "row" = some (.ref ra)) (ht : m "told" = some (.ref td)) (hrs : m "rows" = some (.ref rl))
    (hi : cs[i]? = some (rl, iVals vs)) (mr : (ra, iInts row) ∈ cs) (mt : (td, iInts (row ++ tailOf row en)) ∈ cs) (mp : (tp, iTupI [p, q]) ∈ cs) (mc : (L + 3, iCell (some (.ref tp))) ∈ cs) (hp : ∀ x ∈ row, 1 ≤ x ∧ x ≤ 5) (hz : row.length ≤ 600) (hvs : vs.length ≤ 100)
    (h : ∀ D s', Sm s s' → Own g s'.heap L m ((D, iInts (wr p q row)) :: cs.set i (rl, iVals (vs ++ [.ref D]))) → Q .next s') : wpAny (model PG w) A (exec (bT 3) (lenv L)) Q E s := by
  have htl : (row ++ tailOf row en).length ≤ 602 := by
    rw [List.length_append]; unfold tailOf; split <;> simp <;> omega
  refine wpAny_Expr_any (eListMeth F.slot_list_append F.type_list_append (eLocal O hrs ⟨rl, vs, rfl, O.of hi, ?_⟩))
  have G₁ := G.keeps O.keep
  refine callWith_method1 (args_cons (eCall2G G₁ G₁.nm.written G.f19 ?_))
  refine eSlice (eLocal O ht (wpAny_evalPart_none (wpAny_evalPart_some ?_)))
  refine wpAny_Call_NameR (eBuilt (v := .builtin "len") (G.keeps O.keep) (by decide +kernel) (by decide +kernel) ?_ (by decide))
  refine PyProof.Rows.callWith_builtin1 (args_cons (eLocal O hr (args_nil ?_)))
  refine lenO (O.at_ _ mr) (by omega) fun t₁ s₁ S₁ H₁ => ?_
  have O₁ := O.eqH H₁
  refine ⟨td, _, _, _, row, _, _, _, _, rfl, O₁.at_ _ mt, by omega, .none, .int _ _, fun vs hv => ?_, O₁, fun a s₂ S₂ O₂ => ?_⟩
  · have := kmk_upto (y := (row.length : Int)) hv (by omega)
    rw [Int.toNat_natCast, List.take_left] at this
    exact this
  refine eCellH (O₂.at_ _ (.tail _ mc)) cPair ⟨O₂.keep, ?_⟩
  refine written_spec (G.keeps O₂.keep) (fit.le (by omega)) (O₂.of (i := 0) rfl) (O₂.at_ _ (.tail _ mp)) (by omega) (fun x hx => by have := hp x hx; omega) fun D s₃ S₃ K₃ hn hX => args_nil ?_
  have O₃ := O₂.add K₃ hn hX
  have hi₃ : ((D, iInts (writtenTo row [p, q] row.length)) :: (a, iInts row) :: cs)[i + 1 + 1]? = some (rl, iVals vs) := hi
  refine appendVal O₃ hi₃ (by omega) fun s₄ S₄ O₄ => h D s₄ ?_ ?_
  · exact S₁.trans (S₂.trans (S₃.trans S₄))
  · exact O₄.sub (.cons_cons _ (.cons _ (List.Sublist.refl _)))
end Mine
namespace Mine
open Builtin.Int (intBits)
variable {w : World} {A : Around} {E : Value → Shared → Prop} {s : Shared} {env : Env} {mg mb m : Str → Option Value} {g h₀ : Heap} {cs : Objs} {L : Addr}
def rowAt (p q : Int) (bs : List Int) : Nat → List Int
  | 0 => row0 p q bs
  | k + 1 => wr p q (rowAt p q bs k)
def rowObjs (p q : Int) (bs : List Int) (as : Nat → Addr) : Nat → Objs
  | 0 => []
  | k + 1 => (as k, iInts (rowAt p q bs k)) :: rowObjs p q bs as k
def refsTo (as : Nat → Addr) (n : Nat) : List Value := (List.range n).map fun j => Value.ref (as j)
theorem rowObjs_congr (p q : Int) (bs : List Int) {as as' : Nat → Addr} : ∀ k, (∀ j, j < k → as j = as' j) → rowObjs p q bs as k = rowObjs p q bs as' k
  | 0, _ => rfl
  | k + 1, h => by unfold rowObjs; rw [h k (Nat.lt_succ_self k), rowObjs_congr p q bs k fun j hj => h j (by omega)]
theorem refsTo_succ (as : Nat → Addr) (n : Nat) (D : Addr) : refsTo as n ++ [Value.ref D] = refsTo (fun j => if j = n then D else as j) (n + 1) := by
  unfold refsTo
  rw [List.range_succ, List.map_append, List.map_singleton]
  dsimp only
  rw [if_pos rfl]
  congr 1
  exact List.map_congr_left fun j hj => by have := List.mem_range.mp hj; rw [if_neg (by omega)]
theorem refsTo_get (as : Nat → Addr) {i n : Nat} (h : i < n) : (refsTo as n)[i]? = some (.ref (as i)) := by
  unfold refsTo; rw [List.getElem?_map, List.getElem?_range h]; rfl
theorem refsTo_len (as : Nat → Addr) (n : Nat) : (refsTo as n).length = n := by simp [refsTo]
theorem rowAt_ok {p q : Int} {bs : List Int} (hpq : GoodPair p q) (h : Bits bs) {i : Nat} (hi : i < 2) : 0 < (rowAt p q bs i).length ∧ (rowAt p q bs i).length ≤ 600 ∧ ∀ x ∈ rowAt p q bs i, 1 ≤ x ∧ x ≤ 5 := by
  have : i = 0 ∨ i = 1 := by omega
  rcases this with rfl | rfl
  · refine ⟨?_, ?_, fun x hx => letters hpq (row0_mem h x hx)⟩
    · show 0 < (row0 p q bs).length; rw [row0_len]; have := h.2.1; omega
    · show (row0 p q bs).length ≤ 600; rw [row0_len]; have := h.2.2.1; omega
  · refine ⟨row1_pos hpq h, ?_, fun x hx => letters hpq (wr_mem _ x hx)⟩
    have := row1_len hpq h
    show (row1 p q bs).length ≤ 600; omega
theorem turnsAre : ∃ px rp cp pos k kp, stL 7 = .For (.Name "turn" px) (.Call (.Name "range" rp) [.Constant (.int 2) k kp] [] cp) bodyT [] pos := ⟨_, _, _, _, _, _, rfl⟩
/-- one turn -/
theorem law_turn {p q : Int} {bs en : List Int} {tp el rl it : Addr} {as : Nat → Addr} {i : Nat} {t : Tok} {P : Obj → Prop} (G : Gl mg mb g) (fit : Fit A 14) (hpq : GoodPair p q) (hbs : Bits bs) (hE : Ending en) (hi : i < 2)
    (O : Own g s.heap L (upd m "turn" (.int i t)) ((it, P) :: (rl, iVals (refsTo as (i + 1))) :: (rowObjs p q bs as (i + 1) ++ cs)))
    (me : (el, iInts en) ∈ cs) (mp : (tp, iTupI [p, q]) ∈ cs) (mc : (L + 3, iCell (some (.ref tp))) ∈ cs) (hr : m "rows" = some (.ref rl)) (he : m "ending" = some (.ref el)) :
    wpAny (model PG w) A (execs bodyT (lenv L)) (fun f s₃ => GoesB s s₃ g L (fun (_ : Nat → Addr) m => m "rows" = some (.ref rl) ∧ m "ending" = some (.ref el)) (fun as => (it, P) :: (rl, iVals (refsTo as (i + 1 + 1))) :: (rowObjs p q bs as (i + 1 + 1) ++ cs)) f) E s := by
  obtain ⟨h0, hz, hp⟩ := rowAt_ok hpq hbs hi
  have c1 : upd m "turn" (.int i t) "rows" = some (.ref rl) := (upd_ne (by decide)).trans hr
  have c2 : upd m "turn" (.int i t) "ending" = some (.ref el) := (upd_ne (by decide)).trans he
  rw [bodyT_eq]
  refine wpAny_execs_cons (t_row O c1 upd_same (by omega) (refsTo_get as (Nat.lt_succ_self i)) fun s₁ S₁ O₁ => ?_)
  have m1 : (as i, iInts (rowAt p q bs i)) ∈ (((it, P) :: (rl, iVals (refsTo as (i + 1))) :: (rowObjs p q bs as (i + 1) ++ cs)) : Objs) := .tail _ (.tail _ (.head _))
  have m2 : ∀ {x}, x ∈ cs → x ∈ (((it, P) :: (rl, iVals (refsTo as (i + 1))) :: (rowObjs p q bs as (i + 1) ++ cs)) : Objs) := fun hx => .tail _ (.tail _ (List.mem_append_right _ hx))
  have d1 := (upd_ne (m := upd m "turn" (.int i t)) (x := "row") (v := .ref (as i)) (y := "rows") (by decide)).trans c1
  have d2 := (upd_ne (m := upd m "turn" (.int i t)) (x := "row") (v := .ref (as i)) (y := "ending") (by decide)).trans c2
  refine wpAny_execs_cons (t_told G (fit.le (by omega)) O₁ upd_same d2 m1 (m2 me) hE hp h0 hz fun td s₂ S₂ O₂ => ?_)
  have e1 : upd (upd (upd m "turn" (.int i t)) "row" (.ref (as i))) "told" (.ref td) "rows" = some (.ref rl) := (upd_ne (by decide)).trans d1
  have e2 : upd (upd (upd m "turn" (.int i t)) "row" (.ref (as i))) "told" (.ref td) "ending" = some (.ref el) := (upd_ne (by decide)).trans d2
  have e3 : upd (upd (upd m "turn" (.int i t)) "row" (.ref (as i))) "told" (.ref td) "row" = some (.ref (as i)) := (upd_ne (by decide)).trans upd_same
  refine wpAny_execs_cons (t_if G fit O₂ e3 e2 upd_same (.tail _ m1) (.tail _ (m2 me)) (.head _) hE h0 hz fun s₃ S₃ O₃ => ?_)
  refine wpAny_execs_cons (t_append (i := 2) G (fit.le (by omega)) O₃ e3 upd_same e1 rfl (.tail _ m1) (.head _) (.tail _ (m2 mp)) (.tail _ (m2 mc)) hp hz (by rw [refsTo_len]; omega) fun D s₄ S₄ O₄ => wpAny_execs_nil ?_)
  refine ⟨.inl rfl, S₁.b.trans (S₂.trans (S₃.trans S₄).b), fun j => if j = i + 1 then D else as j, _, ⟨e1, e2⟩, ?_⟩
  rw [refsTo_succ] at O₄
  dsimp only
  have e3 : rowObjs p q bs (fun j => if j = i + 1 then D else as j) (i + 1 + 1) = (D, iInts (wr p q (rowAt p q bs i))) :: rowObjs p q bs as (i + 1) := by
    show ((if i + 1 = i + 1 then D else as (i + 1)), iInts (wr p q (rowAt p q bs i))) :: rowObjs p q bs (fun j => if j = i + 1 then D else as j) (i + 1) = _
    rw [if_pos rfl, rowObjs_congr p q bs (as := fun j => if j = i + 1 then D else as j) (as' := as) (i + 1) fun j hj => if_neg (by omega)]
  rw [e3]
  have O₅ : Own g s₄.heap L _ ((D, iInts (wr p q (rowAt p q bs i))) :: (it, P) :: (rl, iVals (refsTo (fun j => if j = i + 1 then D else as j) (i + 1 + 1))) :: (rowObjs p q bs as (i + 1) ++ cs)) := O₄.sub (.cons_cons _ (.cons _ (List.Sublist.refl _)))
  refine O₅.permute ?_
  exact (List.perm_middle (l₁ := [(it, P), (rl, iVals (refsTo (fun j => if j = i + 1 then D else as j) (i + 1 + 1)))])).symm
/-- for turn in range(2) -/
theorem law_turns {st : Stmt} (hst : st = stL 7) {p q : Int} {bs en : List Int} {tp el rl r0 : Addr} {Q : Flow → Shared → Prop} (G : Gl mg mb g) (fit : Fit A 14) (hpq : GoodPair p q) (hbs : Bits bs) (hE : Ending en)
    (O : Own g s.heap L m ((rl, iVals [.ref r0]) :: (r0, iInts (row0 p q bs)) :: cs))
    (me : (el, iInts en) ∈ cs) (mp : (tp, iTupI [p, q]) ∈ cs) (mc : (L + 3, iCell (some (.ref tp))) ∈ cs) (hr : m "rows" = some (.ref rl)) (he : m "ending" = some (.ref el))
    (h : ∀ r0 r1 r2 m' s', SmB s s' → m' "rows" = some (.ref rl) → Own g s'.heap L m' ((rl, iVals [.ref r0, .ref r1, .ref r2]) :: (r2, iInts (row2 p q bs)) :: (r1, iInts (row1 p q bs)) :: (r0, iInts (row0 p q bs)) :: cs) → Q .next s') :
    wpAny (model PG w) A (exec st (lenv L)) Q E s := by
  subst hst
  obtain ⟨px, rp, cp, pos, k, kp, e⟩ := turnsAre
  rw [e]
  refine forRangeB (Z := Nat → Addr) 2 (fun i as => (rl, iVals (refsTo as (i + 1))) :: (rowObjs p q bs as (i + 1) ++ cs)) (fun _ _ m => m "rows" = some (.ref rl) ∧ m "ending" = some (.ref el)) (fun _ => r0) (h₀ := g) (G.keeps O.keep) fit.handled
    (wpAny_Constant_int ⟨_, m, rfl, ⟨rfl, rfl, rfl⟩, O, hr, he⟩) (fun E' it i as t m₁ s₂ P hi S hJ O₂ => ?_) (fun m₁ as s₂ S hJ O₂ => h (as 0) (as 1) (as 2) m₁ s₂ S hJ.1 O₂) (by decide)
  exact law_turn G fit hpq hbs hE hi O₂ me mp mc hJ.1 hJ.2
end Mine
namespace Mine
open Builtin.Int (intBits)
variable {w : World} {A : Around} {E : Value → Shared → Prop} {s : Shared} {env : Env} {mg mb m : Str → Option Value} {g h₀ : Heap} {cs : Objs} {L : Addr}
theorem row1_le {p q : Int} {bs : List Int} (hpq : GoodPair p q) (h : Bits bs) : (row1 p q bs).length ≤ 2 ^ 20 := Nat.le_trans (row1_len hpq h) (by decide)
theorem row2_le {p q : Int} {bs : List Int} (hpq : GoodPair p q) (h : Bits bs) : (row2 p q bs).length ≤ 2 ^ 20 := Nat.le_trans (row2_len hpq h) (by decide)
theorem runs2 {p q : Int} {bs : List Int} (hpq : GoodPair p q) : runsTo (row2 p q bs) (row2 p q bs).length = row1 p q bs :=
  runs_wr hpq.facts.2.2.2.2 fun x hx => (letters hpq (wr_mem _ x hx)).1
theorem runs1 {p q : Int} {bs : List Int} (hpq : GoodPair p q) (h : Bits bs) : runsTo (row1 p q bs) (row1 p q bs).length = row0 p q bs :=
  runs_wr hpq.facts.2.2.2.2 fun x hx => (letters hpq (row0_mem h x hx)).1
/-- if _law_runs(rows[2]) != rows[1] or ..: return False -/
theorem law_if_runs {st : Stmt} (hst : st = stL 8) {p q : Int} {bs : List Int} {rl r0 r1 r2 : Addr} {Q : Flow → Shared → Prop} (G : Gl mg mb g) (fit : Fit A 14) (hpq : GoodPair p q) (hbs : Bits bs) (hr : m "rows" = some (.ref rl))
    (O : Own g s.heap L m ((rl, iVals [.ref r0, .ref r1, .ref r2]) :: (r2, iInts (row2 p q bs)) :: (r1, iInts (row1 p q bs)) :: (r0, iInts (row0 p q bs)) :: cs))
    (h : ∀ s', Sm s s' → Own g s'.heap L m ((rl, iVals [.ref r0, .ref r1, .ref r2]) :: (r2, iInts (row2 p q bs)) :: (r1, iInts (row1 p q bs)) :: (r0, iInts (row0 p q bs)) :: cs) → Q .next s') :
    wpAny (model PG w) A (exec st (lenv L)) Q E s := by
  subst hst
  have hu : A.units + 64 < cLine := by have := fit.units; omega
  have G₁ := G.keeps O.keep
  refine wpAny_If (isTrue_two_or (wpAny_isTrue_Compare1 ?_))
  refine eCall1G G₁ G₁.nm.runs G.f20 (Subscript_ (eLocal O hr (wpAny_Constant_int (subVal (O.of (i := 0) rfl) (by decide) (by decide) rfl ⟨O.keep, ?_⟩))))
  refine runs_spec (G.keeps O.keep) (fit.le (by omega)) (O.of (i := 1) rfl) (row2_le hpq hbs) fun a s₁ S₁ K₁ hn₁ X₁ => ?_
  rw [runs2 hpq] at X₁
  have O₁ := O.add K₁ hn₁ X₁
  refine Subscript_ (eLocal O₁ hr (wpAny_Constant_int (subVal (O₁.of (i := 1) rfl) (by decide) (by decide) rfl ?_)))
  refine neInts (O₁.of (i := 0) rfl) (O₁.of (i := 3) rfl) hu (wpAny_truthy_bool ?_)
  rw [decide_eq_true rfl, if_neg (by decide)]
  refine wpAny_isTrue_Compare1 ?_
  have G₂ := G.keeps O₁.keep
  refine eCall1G G₂ G₂.nm.runs G.f20 (Subscript_ (eLocal O₁ hr (wpAny_Constant_int (subVal (O₁.of (i := 1) rfl) (by decide) (by decide) rfl ⟨O₁.keep, ?_⟩))))
  refine runs_spec (G.keeps O₁.keep) (fit.le (by omega)) (O₁.of (i := 3) rfl) (row1_le hpq hbs) fun b s₂ S₂ K₂ hn₂ X₂ => ?_
  rw [runs1 hpq hbs] at X₂
  have O₂ := O₁.add K₂ hn₂ X₂
  refine Subscript_ (eLocal O₂ hr (wpAny_Constant_int (subVal (O₂.of (i := 2) rfl) (by decide) (by decide) rfl ?_)))
  refine neInts (O₂.of (i := 0) rfl) (O₂.of (i := 5) rfl) hu (wpAny_truthy_bool ?_)
  rw [decide_eq_true rfl, if_neg (by decide)]
  exact wpAny_execs_nil (h _ (Sm.trans (Sm.trans ⟨rfl, rfl, rfl⟩ S₁) (Sm.trans (Sm.trans ⟨rfl, rfl, rfl⟩ S₂) ⟨rfl, rfl, rfl⟩)) (O₂.sub (.cons _ (.cons _ (List.Sublist.refl _)))))
/-- rules = _law_rules(pair) -/
theorem law_rules {st : Stmt} (hst : st = stL 9) {p q : Int} {tp : Addr} {Q : Flow → Shared → Prop} (G : Gl mg mb g) (fit : Fit A 14) (hpq : GoodPair p q) (O : Own g s.heap L m cs) (mp : (tp, iTupI [p, q]) ∈ cs) (mc : (L + 3, iCell (some (.ref tp))) ∈ cs)
    (h : ∀ rd as s', Sm s s' → Own g s'.heap L (upd m "rules" (.ref rd)) (((rd, iMap (dictAt as 12) 12) :: ruleObjs p q as 12) ++ cs) → Q .next s') :
    wpAny (model PG w) A (exec st (lenv L)) Q E s := by
  subst hst
  have G₁ := G.keeps O.keep
  refine sName (eCall1G G₁ G₁.nm.rules G.f21 (eCellH (O.at_ _ mc) cPair ⟨O.keep, ?_⟩))
  have hp := hpq.p8
  have hq := hpq.q8
  refine rules_spec (G.keeps O.keep) (fit.le (by omega)) (O.at_ _ mp) (by omega) (by omega) hpq.even fun rd as s₁ S₁ K₁ F₁ => ⟨_, _, _, O.addAll K₁ F₁, fun s₂ S₂ O₂ => h rd as s₂ (S₁.trans S₂) O₂⟩
theorem start_eq (bs : List Int) : (((List.range (bs.length / 2)).map fun i : Nat => 2 * (i : Int)).map fun k => (264 + 2 * bs.getD k.toNat 0) + bs.getD (k + 1).toNat 0) = startOf bs := by
  unfold startOf prs
  rw [List.map_map, List.map_map]
  refine List.map_congr_left fun i _ => ?_
  show (264 + 2 * bs.getD (2 * (i : Int)).toNat 0) + bs.getD (2 * (i : Int) + 1).toNat 0 = _
  rw [show (2 * (i : Int)).toNat = 2 * i by omega, show (2 * (i : Int) + 1).toNat = 2 * i + 1 by omega]
  rfl
/-- start = [..] -/
theorem law_start {st : Stmt} (hst : st = stL 10) {bl : Addr} {bs : List Int} {Q : Flow → Shared → Prop} (G : Gl mg mb g) (hh : A.handled = none) (hbs : Bits bs) (O : Own g s.heap L m cs) (mb' : (bl, iInts bs) ∈ cs) (mc : (L + 4, iCell (some (.ref bl))) ∈ cs)
    (h : ∀ st s', Sm s s' → Own g s'.heap L (upd m "start" (.ref st)) ((st, iInts (startOf bs)) :: cs) → Q .next s') :
    wpAny (model PG w) A (exec st (lenv L)) Q E s := by
  subst hst
  have hb0 := hbs.1
  have hb1 := hbs.2.1
  have hb2 := hbs.2.2.1
  refine compStoreO (h₀ := g) (f := fun k => (264 + 2 * bs.getD k.toNat 0) + bs.getD (k + 1).toNat 0) hh ?_ (show closureFor _ (lenv L) = pure [(("bits" : Str), L + 4)] from rfl)
  refine wpAny_Call_NameR (eBuilt (v := .type "range") (G.keeps O.keep) (by decide +kernel) (by decide +kernel) ?_ (by decide))
  refine PyProof.Rows.callWith_type1 (args_cons (wpAny_Constant_int (args_cons (Call_ (eBuilt (v := .builtin "len") (G.keeps O.keep) (by decide +kernel) (by decide +kernel) ?_)))))
  refine PyProof.Rows.callWith_builtin1 (args_cons (eCellH (O.at_ _ mc) cBits (args_nil ?_)))
  refine lenO (O.at_ _ mb') (by omega) fun t₁ s₁ S₁ H₁ => ?_
  refine args_cons (wpAny_Constant_int (args_nil ?_))
  refine itRange3 (n := bs.length / 2) (by omega) (by omega) fun v s₂ S₂ K₂ hit => ?_
  have O₂ := (O.eqH H₁).keeps K₂
  have S' : Sm s s₂ := Sm.trans ⟨rfl, rfl, rfl⟩ (S₁.trans (Sm.trans ⟨rfl, rfl, rfl⟩ S₂))
  refine ⟨_, m, cs, S', O₂, hit, by simp; omega, ?_, ?_⟩
  · intro C x t₄ s₃ m₃ E'' hx hC hn hm K
    obtain ⟨j, hj, rfl⟩ := List.mem_map.mp hx
    have hj := List.mem_range.mp hj
    have g2 := (O₂.at_ _ mc).keeps K
    have g3 := (O₂.at_ _ mb').keeps K
    refine wpAny_BinOp (wpAny_BinOp (wpAny_Constant_int (wpAny_BinOp (wpAny_Constant_int (Subscript_ (eCellH g2 (by rfl) (eLocalN hn hm ?_)))))))
    refine subInt g3 (by omega) (by omega) (by omega) fun t₅ => mul_int (add_int ?_)
    refine Subscript_ (eCellH g2 (by rfl) (wpAny_BinOp (eLocalN hn hm (wpAny_Constant_int (add_int ?_)))))
    refine subInt g3 (by omega) (by omega) (by omega) fun t₆ => add_int ?_
    exact ⟨⟨_, rfl⟩, ⟨rfl, rfl, rfl⟩, fun _ _ e => e⟩
  · intro D s₃ S₃ O₃
    rw [start_eq] at O₃
    exact h D s₃ S₃ O₃
theorem Own.hasRules {p q : Int} {as : Nat → Addr} {rd : Addr} {h : Heap} (O : Own h₀ h L m cs) (mr : ∀ x ∈ (rd, iMap (dictAt as 12) 12) :: ruleObjs p q as 12, x ∈ cs) : HasRules h rd p q :=
  ⟨as, O.at_ _ (mr _ (.head _)), fun j hj => O.at_ _ (mr _ (.tail _ (ruleObjs_get p q as 12 j hj)))⟩
/-- if _law_spelled(start, rules) != rows[2]: return False -/
theorem law_if_spelled {stm : Stmt} (hst : stm = stL 11) {p q : Int} {bs : List Int} {as : Nat → Addr} {rl r0 r1 r2 rd st : Addr} {Q : Flow → Shared → Prop} (G : Gl mg mb g) (fit : Fit A 14) (hpq : GoodPair p q) (hbs : Bits bs)
    (hs : m "start" = some (.ref st)) (hr : m "rules" = some (.ref rd)) (hrs : m "rows" = some (.ref rl)) (O : Own g s.heap L m cs) (ms : (st, iInts (startOf bs)) ∈ cs)
    (mr : ∀ x ∈ (rd, iMap (dictAt as 12) 12) :: ruleObjs p q as 12, x ∈ cs) (ml : (rl, iVals [.ref r0, .ref r1, .ref r2]) ∈ cs) (m2 : (r2, iInts (row2 p q bs)) ∈ cs)
    (h : ∀ s', Sm s s' → Own g s'.heap L m cs → Q .next s') :
    wpAny (model PG w) A (exec stm (lenv L)) Q E s := by
  subst hst
  have hu : A.units + 64 < cLine := by have := fit.units; omega
  have G₁ := G.keeps O.keep
  have hp := hpq.p8
  have hq := hpq.q8
  have hst := start_mem hbs
  have hsl := start_len hbs
  refine wpAny_If (wpAny_isTrue_Compare1 ?_)
  refine eCall2G G₁ G₁.nm.spelled G.f22 (eLocal O hs (eLocal O hr ⟨O.keep, ?_⟩))
  refine spelled_spec (G.keeps O.keep) (fit.le (by omega)) (O.at_ _ ms) (O.hasRules mr) hp hq (fun x hx => by have := hst x hx; exact ⟨by omega, by omega⟩) (by omega) fun a s₁ S₁ K₁ hn₁ X₁ => ?_
  have e : (startOf bs).flatMap (sp p q 3) = row2 p q bs := spelled_eq hpq hbs
  rw [e] at X₁
  have O₁ := O.add K₁ hn₁ X₁
  refine Subscript_ (eLocal O₁ hrs (wpAny_Constant_int (subVal (O₁.at_ _ (.tail _ ml)) (by decide) (by decide) rfl ?_)))
  refine neInts (O₁.of (i := 0) rfl) (O₁.at_ _ (.tail _ m2)) hu (wpAny_truthy_bool ?_)
  rw [decide_eq_true rfl, if_neg (by decide)]
  exact wpAny_execs_nil (h _ (S₁.trans ⟨rfl, rfl, rfl⟩) O₁.tail)
/-- return _int2digits(_law_packed(start, rules), 8) == rows[2] -/
theorem law_return {stm : Stmt} (hst : stm = stL 12) {p q : Int} {bs : List Int} {as : Nat → Addr} {rl r0 r1 r2 rd st : Addr} {z : Option Addr × Option Addr} {Q : Flow → Shared → Prop} (G : Gl mg mb g) (H : Hd mg g) (fit : Fit A 16) (hpq : GoodPair p q) (hbs : Bits bs)
    (hs : m "start" = some (.ref st)) (hr : m "rules" = some (.ref rd)) (hrs : m "rows" = some (.ref rl)) (O : Own g s.heap L m (cs ++ tabs z)) (ms : (st, iInts (startOf bs)) ∈ cs)
    (mr : ∀ x ∈ (rd, iMap (dictAt as 12) 12) :: ruleObjs p q as 12, x ∈ cs) (ml : (rl, iVals [.ref r0, .ref r1, .ref r2]) ∈ cs) (m2 : (r2, iInts (row2 p q bs)) ∈ cs)
    (h : ∀ z' s', Sm s s' → Own g s'.heap L m (tabs z') → Q (.ret (.bool true)) s') :
    wpAny (model PG w) A (exec stm (lenv L)) Q E s := by
  subst hst
  have hu : A.units + 64 < cLine := by have := fit.units; omega
  have G₁ := G.keeps O.keep
  have hst := start_mem hbs
  have hsl := start_len hbs
  refine wpAny_Return_some (wpAny_Compare1 ?_)
  refine eCall2G G₁ G₁.nm.int2digits G.f7 (eCall2G G₁ G₁.nm.packed G.f23 (eLocal O hs (eLocal O hr ⟨O.keep, ?_⟩)))
  have hR : HasRules (gh (tabs z) s.heap) rd p q := ⟨as, O.hasGh (mr _ (.head _)), fun j hj => O.hasGh (mr _ (.tail _ (ruleObjs_get p q as 12 j hj)))⟩
  refine packed_spec (G.keeps O.keepGh) (H.keeps O.keepGh) O.tabsIn fit (O.hasGh ms) hR hpq hst (by omega) fun t₁ s₁ z₁ S₁ X₁ => ?_
  have O₁ := O.step X₁
  have er : (startOf bs).flatMap (spl p q) = row2 p q bs := spelled_eq hpq hbs
  rw [er]
  have hl : ∀ x ∈ row2 p q bs, 1 ≤ x ∧ x < 256 := fun x hx => by have := letters hpq (wr_mem _ x hx); omega
  have hl0 := row2_pos hpq hbs
  have hlen := row2_len hpq hbs
  obtain ⟨e1, e2⟩ := places_row hl0 hl
  have hd := d2i_bound 8 (row2 p q bs) fun x hx => by have := hl x hx; exact ⟨by omega, by show x < 2 ^ 8; omega⟩
  have hbits : intBits (d2i 8 (row2 p q bs)) ≤ 8 * (row2 p q bs).length := bits_of hd.1 hd.2
  refine wpAny_Constant_int ⟨O₁.keep, ?_⟩
  refine int2digits_spec (z := z₁) (G.keeps O₁.keepGh) (H.keeps O₁.keepGh) O₁.tabsIn (fit.le (by omega)) hd.1 (by decide) (by decide) (by omega) (by rw [e1]; omega) fun a s₂ z₂ S₂ X₂ => ?_
  rw [e2] at X₂
  have O₂ := O₁.step X₂
  refine Subscript_ (eLocal O₂ hrs (wpAny_Constant_int (subVal (O₂.at_ _ (List.mem_append_left _ ml)) (by decide) (by decide) rfl ?_)))
  refine eqInts (O₂.at_ _ (List.mem_append_right _ (.head _))) (O₂.at_ _ (List.mem_append_left _ m2)) hu ?_
  rw [decide_eq_true rfl]
  exact h z₂ _ (S₁.trans (Sm.trans (Sm.trans ⟨rfl, rfl, rfl⟩ S₂) ⟨rfl, rfl, rfl⟩)) O₂.drop.tail
end Mine
namespace Mine
open Builtin.Int (intBits)
variable {w : World} {A : Around} {E : Value → Shared → Prop} {s : Shared} {env : Env} {mg mb m : Str → Option Value} {g h₀ : Heap} {cs : Objs} {L : Addr}
theorem law_open : ∃ t1 t2 t3 t4 t5 t6 t7 t8 t9 t10 t11 t12, (defAt 24).body.drop 1 = [t1, t2, t3, t4, t5, t6, t7, t8, t9, t10, t11, t12] ∧ t1 = stL 1 ∧ t2 = stL 2 ∧ t3 = stL 3 ∧ t4 = stL 4 ∧ t5 = stL 5 ∧ t6 = stL 6 ∧ t7 = stL 7 ∧ t8 = stL 8 ∧ t9 = stL 9 ∧ t10 = stL 10 ∧ t11 = stL 11 ∧ t12 = stL 12 :=
  ⟨_, _, _, _, _, _, _, _, _, _, _, _, congrArg (List.drop 1) law_body, rfl, rfl, rfl, rfl, rfl, rfl, rfl, rfl, rfl, rfl, rfl, rfl⟩
theorem law_walk {sl : Addr} {ns : List Int} {z : Option Addr × Option Addr} {Q : Flow → Shared → Prop} (G : Gl mg mb g) (H : Hd mg g) (fit : Fit A 16) (hl : Has g sl (iInts ns)) (hlen : ns.length ≤ 100)
    (O : Own g s.heap L m ((L + 4, iCell none) :: (L + 3, iCell none) :: (L + 2, iCell none) :: (L + 1, iCell (some (.ref sl))) :: tabs z))
    (h : ∀ z' m' s', SmB s s' → Own g s'.heap L m' (tabs z') → Q (.ret (.bool true)) s') :
    wpAny (model PG w) A (execs (defAt 24).body (lenv L)) Q E s := by
  have hh := fit.handled
  have fit' : Fit A 14 := fit.le (by decide)
  refine law_draws G hh O hl hlen fun dl s₁ S₁ O₁ => ?_
  generalize drawAt ns 0 = d0 at *
  generalize drawAt ns 1 = d1 at *
  generalize drawAt ns 2 = d2 at *
  obtain ⟨t1, t2, t3, t4, t5, t6, t7, t8, t9, t10, t11, t12, e, e1, e2, e3, e4, e5, e6, e7, e8, e9, e10, e11, e12⟩ := law_open
  rw [e]
  refine wpAny_execs_cons (law_choice e1 O₁ fun tc s₂ S₂ O₂ => ?_)
  have hc0 : 0 ≤ d0.fmod 6 := Int.fmod_nonneg_of_pos _ (by decide)
  have hc1 : d0.fmod 6 < 6 := Int.fmod_lt_of_pos _ (by decide)
  refine wpAny_execs_cons (law_pair e2 O₂ upd_same hc0 hc1 fun tp p q s₃ hpq S₃ O₃ => ?_)
  refine wpAny_execs_cons (law_most e3 O₃ upd_same hc0 hc1 fun most tm s₄ hm S₄ O₄ => ?_)
  refine wpAny_execs_cons (law_bits e4 G hh O₄ hl hlen upd_same hm.1 hm.2 fun bl bs s₅ hbs S₅ O₅ => ?_)
  refine wpAny_execs_cons (law_ending e5 O₅ fun el en s₆ hE S₆ O₆ => ?_)
  have S' : Sm s s₆ := S₁.trans (S₂.trans (S₃.trans (S₄.trans (S₅.trans S₆))))
  have me' : upd (upd (upd m "choice" (.int (d0.fmod 6) tc)) "most" (.int most tm)) "ending" (.ref el) "ending" = some (.ref el) := upd_same
  generalize upd (upd (upd m "choice" (.int (d0.fmod 6) tc)) "most" (.int most tm)) "ending" (.ref el) = m₆ at *
  replace O₆ : Own g s₆.heap L m₆ ((el, iInts en) :: (bl, iInts bs) :: (tp, iTupI [p, q]) :: (dl, iInts [d0, d1, d2]) :: (L + 4, iCell (some (.ref bl))) :: (L + 3, iCell (some (.ref tp))) :: (L + 2, iCell (some (.ref dl))) :: (L + 1, iCell (some (.ref sl))) :: tabs z) := O₆
  refine wpAny_execs_cons (law_rows e6 hh hbs O₆ fun rl r0 s₇ S₇ O₇ => ?_)
  have mr' : upd m₆ "rows" (.ref rl) "rows" = some (.ref rl) := upd_same
  have me'' : upd m₆ "rows" (.ref rl) "ending" = some (.ref el) := (upd_ne (by decide)).trans me'
  generalize upd m₆ "rows" (.ref rl) = m₇ at *
  refine wpAny_execs_cons (law_turns e7 G fit' hpq hbs hE O₇ (.head _) (.tail _ (.tail _ (.head _))) (.tail _ (.tail _ (.tail _ (.tail _ (.tail _ (.head _)))))) mr' me'' fun r0 r1 r2 m₈ s₈ S₈ mr₈ O₈ => ?_)
  refine wpAny_execs_cons (law_if_runs e8 G fit' hpq hbs mr₈ O₈ fun s₉ S₉ O₉ => ?_)
  refine wpAny_execs_cons (law_rules e9 G fit' hpq O₉ (.tail _ (.tail _ (.tail _ (.tail _ (.tail _ (.tail _ (.head _))))))) (.tail _ (.tail _ (.tail _ (.tail _ (.tail _ (.tail _ (.tail _ (.tail _ (.tail _ (.head _)))))))))) fun rd as s₁₀ S₁₀ O₁₀ => ?_)
  have mR : ∀ st : Value, upd (upd m₈ "rules" (.ref rd)) "start" st "rules" = some (.ref rd) := fun st => (upd_ne (by decide)).trans upd_same
  have mW : ∀ st : Value, upd (upd m₈ "rules" (.ref rd)) "start" st "rows" = some (.ref rl) := fun st => (upd_ne (by decide)).trans ((upd_ne (by decide)).trans mr₈)
  refine wpAny_execs_cons (law_start e10 G hh hbs O₁₀ (List.mem_append_right _ (.tail _ (.tail _ (.tail _ (.tail _ (.tail _ (.head _))))))) (List.mem_append_right _ (.tail _ (.tail _ (.tail _ (.tail _ (.tail _ (.tail _ (.tail _ (.tail _ (.head _)))))))))) fun st s₁₁ S₁₁ O₁₁ => ?_)
  refine wpAny_execs_cons (law_if_spelled e11 G fit' hpq hbs upd_same (mR _) (mW _) O₁₁ (.head _) (fun x hx => .tail _ (List.mem_append_left _ hx)) (.tail _ (List.mem_append_right _ (.head _))) (.tail _ (List.mem_append_right _ (.tail _ (.head _)))) fun s₁₂ S₁₂ O₁₂ => ?_)
  have O₁₃ : Own g s₁₂.heap L (upd (upd m₈ "rules" (.ref rd)) "start" (.ref st)) (((st, iInts (startOf bs)) :: (((rd, iMap (dictAt as 12) 12) :: ruleObjs p q as 12) ++ [(rl, iVals [.ref r0, .ref r1, .ref r2]), (r2, iInts (row2 p q bs))])) ++ tabs z) := by
    refine O₁₂.sub ?_
    rw [List.cons_append, List.append_assoc]
    refine .cons_cons _ (List.Sublist.append (List.Sublist.refl _) (.cons_cons _ (.cons_cons _ ?_)))
    exact .cons _ (.cons _ (.cons _ (.cons _ (.cons _ (.cons _ (.cons _ (.cons _ (.cons _ (.cons _ (List.Sublist.refl _))))))))))
  refine wpAny_execs_cons (law_return e12 G H fit hpq hbs upd_same (mR _) (mW _) O₁₃ (.head _) (fun x hx => .tail _ (List.mem_append_left _ hx)) (.tail _ (List.mem_append_right _ (.head _))) (.tail _ (List.mem_append_right _ (.tail _ (.head _)))) fun z' s₁₃ S₁₃ O₁₄ => ?_)
  exact h z' _ s₁₃ ((S'.trans S₇).b.trans (S₈.trans (S₉.trans (S₁₀.trans (S₁₁.trans (S₁₂.trans S₁₃)))).b)) O₁₄
set_option maxHeartbeats 1000000 in
theorem law_spec {sl : Addr} {ns : List Int} {z : Option Addr × Option Addr} {Q : Value → Shared → Prop} (G : Gl mg mb (gh (tabs z) s.heap)) (H : Hd mg (gh (tabs z) s.heap)) (T : TabsIn z s.heap)
    (f24 : FnAt (gh (tabs z) s.heap) 129 128 (defAt 24)) (fit : Fit A 17) (hl : Has (gh (tabs z) s.heap) sl (iInts ns)) (hlen : ns.length ≤ 100)
    (hQ : ∀ s' z', SmB s s' → Step (tabs z) s.heap s'.heap (tabs z') → Q (.bool true) s') :
    wpAny (model PG w) A (call (.ref 129) [.ref sl]) Q E s := by
  refine callDefC (n := 16) (binds := [("script", .ref sl)]) ["bits", "pair", "draws", "script"] (f24.keeps gh_of) (G.keeps gh_of).lim fit (fun _ _ => rfl) (by
    intro x hx
    rw [List.mem_singleton.mp hx]; exact .inr ⟨rfl, rfl⟩) (fun _ => rfl) fun s₁ S₁ O₁ fit₁ => ?_
  have O₂ := O₁.begin T.at_ T.nodup
  refine law_walk (z := z) G H fit₁ hl hlen O₂ fun z' m' s' S O => ?_
  exact hQ s' z' (S₁.b.trans S) (.of O)
end Mine
namespace Mine
open Builtin.Int (intBits)
variable {w : World} {A : Around} {E : Value → Shared → Prop} {s : Shared} {env : Env} {mg mb m : Str → Option Value} {g h h₀ : Heap} {cs : Objs} {L : Addr} {T : Objs}
theorem ns_gh {a : Addr} (x : h.Ns a m) (n : a ∉ T.map (·.1)) : (gh T h).Ns a m := let ⟨o, es, ep, e, r⟩ := x; ⟨o, es, ep, gh_get e n, r⟩
theorem FnAt.gh {a c : Addr} {d : DefRec} (x : FnAt h a c d) (n : a ∉ T.map (·.1)) (n' : c ∉ T.map (·.1)) : FnAt (gh T h) a c d := by
  obtain ⟨o, pm, doc, e, p, c', oc, vs, t, e2, e3, r⟩ := x
  cases e2
  exact ⟨o, pm, doc, gh_get e n, p, c, oc, vs, t, rfl, gh_get e3 n', r⟩
theorem codeHd_gh {c P : Addr} (x : CodeHd h c P) (n : c ∉ T.map (·.1)) : CodeHd (gh T h) c P := by
  obtain ⟨o, vs, file, tf, flags, tg, inF, text, tt, e, r⟩ := x
  exact ⟨o, vs, file, tf, flags, tg, inF, text, tt, gh_get e n, r⟩
abbrev T0 : Objs := tabs (none, none)
theorem t0_not {a : Addr} (h1 : a ≠ 37 := by decide) (h2 : a ≠ 44 := by decide) : a ∉ T0.map (·.1) := by
  show a ∉ [37, 44]
  simp only [List.mem_cons, List.not_mem_nil, or_false, not_or]
  exact ⟨h1, h2⟩
theorem Gl.gh0 (G : Gl mg mb h) : Gl mg mb (gh T0 h) where
  nm := G.nm
  g := ns_gh G.g t0_not
  b := ns_gh G.b t0_not
  lim := let ⟨mc, x, y⟩ := G.lim; ⟨mc, ns_gh x t0_not, y⟩
  f2 := G.f2.gh t0_not t0_not
  f5 := G.f5.gh t0_not t0_not
  f7 := G.f7.gh t0_not t0_not
  f8 := G.f8.gh t0_not t0_not
  f9 := G.f9.gh t0_not t0_not
  f10 := G.f10.gh t0_not t0_not
  f14 := G.f14.gh t0_not t0_not
  f15 := G.f15.gh t0_not t0_not
  f16 := G.f16.gh t0_not t0_not
  f18 := G.f18.gh t0_not t0_not
  f19 := G.f19.gh t0_not t0_not
  f20 := G.f20.gh t0_not t0_not
  f21 := G.f21.gh t0_not t0_not
  f22 := G.f22.gh t0_not t0_not
  f23 := G.f23.gh t0_not t0_not
/-- what the top leaves -/
structure Base (mg mb : Str → Option Value) (h : Heap) : Prop where
  gl : Gl mg mb h
  c7 : CodeHd h 41 37
  c8 : CodeHd h 48 44
  t7 : h.get? 37 = some (tabObj #[])
  t8 : h.get? 44 = some (tabObj #[])
  bm : ∃ bm o, mg "__builtins__" = some (.ref bm) ∧ bm ≠ builtinsNs ∧ bm ≠ mainGlobals ∧ bm ≠ 37 ∧ bm ≠ 44 ∧ h.get? bm = some o ∧ o.cls = .type "module" ∧ o.dict = some builtinsNs ∧ o.data = .plain
  f24 : FnAt h 129 128 (defAt 24)
theorem Base.hd (B : Base mg mb h) : Hd mg (gh T0 h) where
  c7 := codeHd_gh B.c7 t0_not
  c8 := codeHd_gh B.c8 t0_not
  bm := let ⟨bm, o, a, b, c, d, e, f, r⟩ := B.bm; ⟨bm, o, a, b, c, d, e, gh_get f (t0_not d e), r⟩
theorem Base.tabsIn (B : Base mg mb h) : TabsIn (none, none) h where
  at_ := by
    intro p hp
    have : p = (37, fun o => o = tabObj #[]) ∨ p = (44, fun o => o = tabObj #[]) := by
      rcases List.mem_cons.mp hp with rfl | hp
      · exact .inl rfl
      · exact .inr (List.mem_singleton.mp hp)
    rcases this with rfl | rfl
    · exact ⟨_, B.t7, rfl⟩
    · exact ⟨_, B.t8, rfl⟩
  nodup := by show [37, 44].Nodup; decide
theorem grown {P : Addr} {pos : Pos} {q : Str} {z : Option Addr} {h' : Heap} (x : ∀ p ∈ tab1 P pos q z, Has h' p.1 p.2) : ∃ ps, h'.get? P = some (tabObj ps) := by
  cases z with
  | none => obtain ⟨o, e, rfl⟩ := x _ (.head _); exact ⟨_, e⟩
  | some c => obtain ⟨o, e, rfl⟩ := x _ (.head _); exact ⟨_, e⟩
theorem Base.oldK {h' : Heap} {z : Option Addr × Option Addr} (B : Base mg mb h) (X : Step T0 h h' (tabs z)) : OldK h h' := by
  obtain ⟨p7, g7⟩ := grown (P := 37) (pos := (nestAt 7 1).pos) (q := q7) (z := z.1) fun p hp => X.at_ p (List.mem_append_left _ hp)
  obtain ⟨p8, g8⟩ := grown (P := 44) (pos := (nestAt 8 0).pos) (q := q8) (z := z.2) fun p hp => X.at_ p (List.mem_append_right _ hp)
  have i7 : isCodeTable h 37 := (B.c7.tab B.t7).isCodeTable
  have i8 : isCodeTable h 44 := (B.c8.tab B.t8).isCodeTable
  refine ⟨fun b o e => ?_, fun b o e => ?_⟩
  · by_cases h7 : b = 37
    · subst h7
      rw [B.t7] at e; cases e
      exact .inr (.inl ⟨i7, rfl, #[], p7, rfl, by rw [g7, Array.empty_append]⟩)
    · by_cases h8 : b = 44
      · subst h8
        rw [B.t8] at e; cases e
        exact .inr (.inl ⟨i8, rfl, #[], p8, rfl, by rw [g8, Array.empty_append]⟩)
      · exact .inl (X.keep _ _ (gh_get e (t0_not h7 h8)))
  · by_cases h7 : b = 37
    · subst h7; exact ⟨_, g7⟩
    · by_cases h8 : b = 44
      · subst h8; exact ⟨_, g8⟩
      · exact ⟨o, X.keep _ _ (gh_get e (t0_not h7 h8))⟩
/-- the law's call, as the claim asks for it -/
theorem law_holds {c : ClaimW} {cl : Str → Option Addr} {mean : ExcName → Option Value} {args : List WData} {s₁ : Shared} {sl : Addr} {vs : List Value} {ns : List Int} (B : Base mg mb s₁.heap) (hg : s₁.gens = #[])
    (hl : s₁.heap.get? sl = some { cls := .type "list", data := .seq vs.toArray }) (hi : IntsAre vs ns) (hlen : ns.length ≤ 100) (fit : Fit A 17)
    (hr : ∀ cls, c.raises args cls = false) (hp : c.post args (.bool true) args = true) :
    wpAny (model PG w) A (call (.ref 129) [.ref sl]) (fun v s' => GoodWG c cl mean args s₁ (.ok (.ret v)) s') E s₁ := by
  have hsl : Has (gh T0 s₁.heap) sl (iInts ns) := by
    refine ⟨_, gh_get hl (t0_not ?_ ?_), vs, hi, 0, rfl⟩
    · rintro rfl; rw [B.t7] at hl; cases hl
    · rintro rfl; rw [B.t8] at hl; cases hl
  refine law_spec (z := (none, none)) B.gl.gh0 B.hd B.tabsIn (B.f24.gh t0_not t0_not) fit hsl hlen fun s' z' S X => ?_
  exact ⟨.inl ⟨_, _, [], rfl, hr, ReadsW.bool true, hp, fun _ => ⟨List.nodup_nil, fun _ hm => (nomatch hm)⟩⟩, B.oldK X, S.2.1, S.2.2 (by rw [hg]; exact AllBare.empty)⟩
def kObj (K : Frag) (a : Addr) : Obj := match K.lookup a with
  | some o => o
  | none => { cls := .none, data := .plain }
def kPm (o : Obj) : Value := match o.data with
  | .func f => f.pyModule
  | _ => .none
def kDoc (o : Obj) : Value := match o.data with
  | .func f => f.doc
  | _ => .none
def kVs (o : Obj) : Array Value := match o.data with
  | .fields vs => vs
  | _ => #[]
def kTok (o : Obj) : Tok := match ((kVs o)[1]? : Option Value) with
  | some (.str _ t) => t
  | _ => 0
/-- a def of the head's heap -/
theorem fnAt_of {K : Frag} (X : K.In h) {a c : Addr} {d : DefRec} (e : K.lookup a = some (kObj K a)) (hd : (kObj K a).data = .func (Calls.docDef d.name d.params d.body d.scope (kPm (kObj K a)) (.ref c) (kDoc (kObj K a))))
    (e2 : K.lookup c = some (kObj K c)) (hc : (kObj K c).data = .fields (kVs (kObj K c))) (hv : (kVs (kObj K c))[1]? = some (.str d.name (kTok (kObj K c)))) : FnAt h a c d :=
  ⟨_, _, _, X _ _ e, hd, c, _, _, _, rfl, X _ _ e2, hc, hv⟩
end Mine
open PySem.W.X
set_option maxRecDepth 100000 in
set_option maxHeartbeats 8000000 in
theorem PySem.Challenge.cw_ul0004_01_holds : PySem.Challenge.rw_ul0004_01.Holds := by
  w_on; o_law; z_head; (case hw => w_witness2)
  k_fill
  intro w s₀ s₁ mg mb G Y fa o pm cd doc dV kV ho hd hcd hD hmg hg args vals as L hpre hlay hrd hwl hlo
  z_open Y L KX ZH ZN ZT
  refine Ground.open G ?_
  intro T B D TE TW
  wrow_args hpre hlay hrd hwl hlo
  x_fa T KX hmg
  have BB : Mine.Base mg mb s₁.heap := {
    gl := {
      nm := {
        builtins := T.builtins
        none_ := by
          intro x hx
          simp only [List.mem_cons, List.not_mem_nil, or_false] at hx
          rcases hx with rfl | rfl | rfl | rfl | rfl | rfl | rfl | rfl <;> exact mg_none_of KX T.g (by k_is)
        charMax := ⟨_, mg_of KX T.g (by k_is)⟩
        divLimit := ⟨_, mg_of KX T.g (by k_is)⟩
        endMarker := ⟨_, mg_of KX T.g (by k_is)⟩
        ntOffset := ⟨_, mg_of KX T.g (by k_is)⟩
        grouping := mg_of KX T.g (by k_is)
        div2n1n := mg_of KX T.g (by k_is)
        int2digits := mg_of KX T.g (by k_is)
        digits2int := mg_of KX T.g (by k_is)
        divmodPos := mg_of KX T.g (by k_is)
        intDivmod := mg_of KX T.g (by k_is)
        isTerminal := mg_of KX T.g (by k_is)
        isNonterminal := mg_of KX T.g (by k_is)
        isEof := mg_of KX T.g (by k_is)
        told := mg_of KX T.g (by k_is)
        written := mg_of KX T.g (by k_is)
        runs := mg_of KX T.g (by k_is)
        rules := mg_of KX T.g (by k_is)
        spelled := mg_of KX T.g (by k_is)
        packed := mg_of KX T.g (by k_is) }
      g := T.g
      b := T.b
      lim := T.nolimit
      f2 := Mine.fnAt_of KX (by kernel_rfl) (by kernel_rfl) (by kernel_rfl) (by kernel_rfl) (by kernel_rfl)
      f5 := Mine.fnAt_of KX (by kernel_rfl) (by kernel_rfl) (by kernel_rfl) (by kernel_rfl) (by kernel_rfl)
      f7 := Mine.fnAt_of KX (by kernel_rfl) (by kernel_rfl) (by kernel_rfl) (by kernel_rfl) (by kernel_rfl)
      f8 := Mine.fnAt_of KX (by kernel_rfl) (by kernel_rfl) (by kernel_rfl) (by kernel_rfl) (by kernel_rfl)
      f9 := Mine.fnAt_of KX (by kernel_rfl) (by kernel_rfl) (by kernel_rfl) (by kernel_rfl) (by kernel_rfl)
      f10 := Mine.fnAt_of KX (by kernel_rfl) (by kernel_rfl) (by kernel_rfl) (by kernel_rfl) (by kernel_rfl)
      f14 := Mine.fnAt_of KX (by kernel_rfl) (by kernel_rfl) (by kernel_rfl) (by kernel_rfl) (by kernel_rfl)
      f15 := Mine.fnAt_of KX (by kernel_rfl) (by kernel_rfl) (by kernel_rfl) (by kernel_rfl) (by kernel_rfl)
      f16 := Mine.fnAt_of KX (by kernel_rfl) (by kernel_rfl) (by kernel_rfl) (by kernel_rfl) (by kernel_rfl)
      f18 := Mine.fnAt_of KX (by kernel_rfl) (by kernel_rfl) (by kernel_rfl) (by kernel_rfl) (by kernel_rfl)
      f19 := Mine.fnAt_of KX (by kernel_rfl) (by kernel_rfl) (by kernel_rfl) (by kernel_rfl) (by kernel_rfl)
      f20 := Mine.fnAt_of KX (by kernel_rfl) (by kernel_rfl) (by kernel_rfl) (by kernel_rfl) (by kernel_rfl)
      f21 := Mine.fnAt_of KX (by kernel_rfl) (by kernel_rfl) (by kernel_rfl) (by kernel_rfl) (by kernel_rfl)
      f22 := Mine.fnAt_of KX (by kernel_rfl) (by kernel_rfl) (by kernel_rfl) (by kernel_rfl) (by kernel_rfl)
      f23 := Mine.fnAt_of KX (by kernel_rfl) (by kernel_rfl) (by kernel_rfl) (by kernel_rfl) (by kernel_rfl) }
    c7 := codeHd_of_K KX (by kernel_rfl)
    c8 := codeHd_of_K KX (by kernel_rfl)
    t7 := KX 37 _ (by kernel_rfl)
    t8 := KX 44 _ (by kernel_rfl)
    bm := ⟨_, _, mg_of KX T.g (by k_is), by decide, by decide, by decide, by decide, KX _ _ (by k_is), rfl, rfl, rfl⟩
    f24 := Mine.fnAt_of KX (by kernel_rfl) (by kernel_rfl) (by kernel_rfl) (by kernel_rfl) (by kernel_rfl) }
  refine Mine.law_holds BB hg (script_obj L (by assumption)) (by assumption) (by omega) ⟨rfl, by decide, by decide⟩ (fun _ => rfl) ?_
  first | rfl | wrow_post
