import PyProof.Rows.All
import Wide.All
import OpenK.AllK
import Wide.FinOn
import PySem.Challenge.RW_mq0206_01
open PySem PySem.W PyProof.Rows PySem.Calls
set_option Elab.async false
set_option maxRecDepth 100000
section
namespace Mine
set_option maxRecDepth 100000 in
set_option maxHeartbeats 8000000 in
open_top hd for PySem.Challenge.rw_mq0206_01
end Mine

end
section
set_option maxRecDepth 100000
namespace Mine

/-- a table of code objects, of the interpreter's own -/
def TabOk (h : Heap) (P : Addr) (q : Str) : Prop :=
  ∃ ps, h.get? P = some (tabObj ps) ∧ TriplesOk ps.toList ∧ ∀ pos cv, codeAmong pos ps.toList = some cv → h.CodeRec cv q

def qKind : Str := Str.ofString "_law_by_kind.<locals>.<lambda>"
def qLaid : Str := Str.ofString "_law_laid.<locals>.<lambda>"
def qSorted : Str := Str.ofString "_law_sorted.<locals>.<lambda>"

def tabs : List (Addr × Str) := [(140, qKind), (145, qLaid), (159, qSorted)]

structure Gd (w : World) (mg mb : Str → Option Value) (g₀ : Heap) : Prop where
  X : (hd.heap_39 w.params).In g₀
  g : g₀.Ns mainGlobals mg
  b : g₀.Ns builtinsNs mb
  nolimit : g₀.NoLimit
  builtins : ∀ x : Str, x ≠ "__name__" → mb x = bootBuiltins x
  bmain : ∃ bm ob, mg "__builtins__" = some (.ref bm) ∧ bm ≠ builtinsNs ∧ g₀.get? bm = some ob ∧ ob.cls = .type "module" ∧ ob.dict = some builtinsNs ∧ ob.data = .plain
  c1 : CodeHd g₀ 142 140
  c2 : CodeHd g₀ 149 145
  c3 : CodeHd g₀ 163 159
  none : ∀ p ∈ tabs, g₀.get? p.1 = none

structure Ok (g₀ h : Heap) : Prop where
  keep : ∀ b o, g₀.get? b = some o → h.get? b = some o
  tab : ∀ p ∈ tabs, TabOk h p.1 p.2

/-- all stays but the tables -/
def Keep (h h' : Heap) : Prop := ∀ b o, h.get? b = some o → h'.get? b = some o ∨ ∃ ps, o = tabObj ps ∧ TriplesOk ps.toList

theorem triples_one {l : List Value} (h : TriplesOk l) {q : Str} {t : Tok} (e : l[1]? = some (.str q t)) : False := by
  match l, h with
  | [], _ => simp at e
  | .int _ _ :: .int _ _ :: _ :: rest, _ => simp at e

theorem Keep.refl (h : Heap) : Keep h h := fun _ _ e => .inl e
theorem Keep.of {h h' : Heap} (k : ∀ b o, h.get? b = some o → h'.get? b = some o) : Keep h h' := fun b o e => .inl (k b o e)
theorem Keep.trans {h₁ h₂ h₃ : Heap} (a : Keep h₁ h₂) (b : Keep h₂ h₃) : Keep h₁ h₃ := fun x o e => (a x o e).elim (fun e' => b x o e') .inr
theorem Keep.get {h h' : Heap} (k : Keep h h') {b : Addr} {o : Obj} (e : h.get? b = some o) (hn : ∀ ps, o ≠ tabObj ps) : h'.get? b = some o :=
  (k b o e).elim id fun ⟨ps, q, _⟩ => absurd q (hn ps)
theorem Keep.getT {h h' : Heap} (k : Keep h h') {b : Addr} {o : Obj} (e : h.get? b = some o) {T : String} (hc : o.cls = .type T) : h'.get? b = some o :=
  k.get e fun ps q => by rw [q] at hc; cases hc
theorem Keep.list {h h' : Heap} (k : Keep h h') {a : Addr} {xs : Array Value} (x : h.IsList a xs) : h'.IsList a xs :=
  let ⟨o, e, c, r⟩ := x; ⟨o, k.getT e c, c, r⟩
theorem Keep.plainL {h h' : Heap} (k : Keep h h') {a : Addr} {xs : Array Value} (x : PlainL h a xs) : PlainL h' a xs :=
  let ⟨o, n, e, c, r⟩ := x; ⟨o, n, k.getT e c, c, r⟩
theorem Keep.tuple {h h' : Heap} (k : Keep h h') {a : Addr} {xs : Array Value} (x : h.IsTuple a xs) : h'.IsTuple a xs :=
  let ⟨o, e, c, r⟩ := x; ⟨o, k.getT e c, c, r⟩
theorem Keep.ns {h h' : Heap} (k : Keep h h') {a : Addr} {m : Str → Option Value} (x : h.Ns a m) : h'.Ns a m :=
  let ⟨o, es, ep, e, d, r⟩ := x; ⟨o, es, ep, k.get e (fun ps q => by rw [q] at d; cases d), d, r⟩
theorem Keep.cell {h h' : Heap} (k : Keep h h') {a : Addr} {v : Option Value} (x : h.IsCell a v) : h'.IsCell a v :=
  let ⟨o, e, d⟩ := x; ⟨o, k.get e (fun ps q => by rw [q] at d; cases d), d⟩
theorem Keep.code {h h' : Heap} (k : Keep h h') {cd : Value} {q : Str} (x : h.CodeRec cd q) : h'.CodeRec cd q :=
  let ⟨c, o, vs, t, e, g, d, v⟩ := x
  ⟨c, o, vs, t, e, (k c o g).elim id fun ⟨ps, q, ht⟩ => by
    rw [q] at d; cases d
    exact (triples_one ht (by rw [Array.getElem?_toList]; exact v)).elim, d, v⟩
theorem Keep.listIter {h h' : Heap} (k : Keep h h') {a l : Addr} {i : Nat} (x : h.IsListIter a l i) : h'.IsListIter a l i :=
  let ⟨o, e, c, r⟩ := x; ⟨o, k.getT e c, c, r⟩
theorem Keep.tupleIter {h h' : Heap} (k : Keep h h') {a l : Addr} {i : Nat} (x : h.IsTupleIter a l i) : h'.IsTupleIter a l i :=
  let ⟨o, e, c, r⟩ := x; ⟨o, k.getT e c, c, r⟩

structure Grow (g₀ : Heap) (s s' : Shared) : Prop where
  same : ∃ h tk, s' = { s with heap := h, toks := tk }
  keep : Keep s.heap s'.heap
  ok : Ok g₀ s'.heap

theorem TabOk.of {h h' : Heap} {P : Addr} {q : Str} (x : TabOk h P q) (k : Keep h h') (e : ∀ ps, h.get? P = some (tabObj ps) → h'.get? P = some (tabObj ps)) : TabOk h' P q :=
  let ⟨ps, g, t, c⟩ := x; ⟨ps, e ps g, t, fun pos cv hc => k.code (c pos cv hc)⟩
theorem Ok.all {g₀ h h' : Heap} (O : Ok g₀ h) (k : ∀ b o, h.get? b = some o → h'.get? b = some o) : Ok g₀ h' :=
  ⟨fun b o e => k b o (O.keep b o e), fun p hp => (O.tab p hp).of (.of k) fun _ e => k _ _ e⟩
theorem Grow.refl {g₀ : Heap} {s : Shared} (O : Ok g₀ s.heap) : Grow g₀ s s := ⟨⟨s.heap, s.toks, rfl⟩, .refl _, O⟩
theorem Grow.trans {g₀ : Heap} {s₁ s₂ s₃ : Shared} (a : Grow g₀ s₁ s₂) (b : Grow g₀ s₂ s₃) : Grow g₀ s₁ s₃ :=
  ⟨let ⟨h, tk, e⟩ := a.same; let ⟨h', tk', e'⟩ := b.same; ⟨h', tk', by rw [e', e]⟩, a.keep.trans b.keep, b.ok⟩
theorem Grow.toks {g₀ : Heap} {s₀ s : Shared} (G : Grow g₀ s₀ s) (tk : Nat) : Grow g₀ s₀ { s with toks := tk } :=
  ⟨let ⟨h, _, e⟩ := G.same; ⟨h, tk, by rw [e]⟩, G.keep, G.ok⟩
theorem Grow.to {g₀ : Heap} {s₀ s : Shared} (G : Grow g₀ s₀ s) {h' : Heap} (k : ∀ b o, s.heap.get? b = some o → h'.get? b = some o) : Grow g₀ s₀ { s with heap := h' } :=
  ⟨let ⟨_, tk, e⟩ := G.same; ⟨h', tk, by rw [e]⟩, G.keep.trans (.of k), G.ok.all k⟩
theorem Grow.push {g₀ : Heap} {s₀ s : Shared} (G : Grow g₀ s₀ s) (o : Obj) : Grow g₀ s₀ { s with heap := s.heap.push o } :=
  G.to (fun _ _ e => Heap.get?_push_of_some _ e)
theorem Grow.next {g₀ : Heap} {s₀ s : Shared} {h' : Heap} {tk : Nat} (G : Grow g₀ s₀ { s with heap := h', toks := tk }) : Grow g₀ s₀ { s with heap := h', toks := tk } := G

/-- an object of the call's own is changed -/
theorem Grow.but {g₀ : Heap} {s₀ s : Shared} {a : Addr} {oa : Obj} (G : Grow g₀ s₀ s) (ha : s₀.heap.objs.size ≤ a) {h' : Heap} (hs : Heap.ExtBut a s.heap h')
    (O₀ : Ok g₀ s₀.heap) (hoa : s.heap.get? a = some oa) (hnc : ∀ vs (q : Str) t, oa.data = .fields vs → vs[1]? ≠ some (.str q t)) : Grow g₀ s₀ { s with heap := h' } := by
  have hlt : ∀ b o, s₀.heap.get? b = some o → b ≠ a := fun b o e q => by subst q; exact Nat.lt_irrefl _ (Nat.lt_of_lt_of_le (Heap.lt_size e) ha)
  have code : ∀ cv q, s.heap.CodeRec cv q → h'.CodeRec cv q := fun cv q ⟨c, o, vs, t, e1, e2, e3, e4⟩ => ⟨c, o, vs, t, e1, hs c o (fun qq => by
    subst qq; rw [hoa] at e2; cases e2; exact hnc vs q t e3 e4) e2, e3, e4⟩
  have tab : ∀ P q, TabOk s₀.heap P q → TabOk s.heap P q → TabOk h' P q := fun P q ⟨_, p0, _⟩ ⟨ps, p1, p2, p3⟩ => ⟨ps, hs P _ (hlt _ _ p0) p1, p2, fun pos cv hc => code cv q (p3 pos cv hc)⟩
  refine ⟨let ⟨_, tk, e⟩ := G.same; ⟨h', tk, by rw [e]⟩, fun b o e => (G.keep b o e).imp (fun e' => hs b o (hlt b o e) e') id,
    ⟨fun b o e => hs b o (hlt b o (O₀.keep b o e)) (G.ok.keep b o e), fun p hp => tab _ _ (O₀.tab p hp) (G.ok.tab p hp)⟩⟩

theorem mem_of_lookup {y : Str} {v : Value} : ∀ {l : List (Str × Value)}, l.lookup y = some v → (y, v) ∈ l
  | [], e => by cases e
  | (x, u) :: r, e => by
    rw [List.lookup_cons] at e
    by_cases h : (y == x) = true
    · rw [h] at e; cases e; rw [beq_iff_eq.mp h]; exact .head _
    · have h' : (y == x) = false := by simpa using h
      rw [h'] at e; exact .tail _ (mem_of_lookup e)

/-- a frame: what is known of its names -/
structure Fm (g₀ : Heap) (s₀ : Shared) (L : Addr) (l : List (Str × Value)) (s : Shared) : Prop where
  grow : Grow g₀ s₀ s
  ok₀ : Ok g₀ s₀.heap
  above : s₀.heap.objs.size ≤ L
  ns : ∃ m, s.heap.Ns L m ∧ ∀ y v, l.lookup y = some v → m y = some v

theorem Fm.call {g₀ : Heap} {s₀ s s' : Shared} {L : Addr} {l : List (Str × Value)} (F : Fm g₀ s₀ L l s) (G : Grow g₀ s s') : Fm g₀ s₀ L l s' :=
  ⟨F.grow.trans G, F.ok₀, F.above, let ⟨m, n, r⟩ := F.ns; ⟨m, G.keep.ns n, r⟩⟩
theorem Fm.lt {g₀ : Heap} {s₀ s : Shared} {L : Addr} {l : List (Str × Value)} (F : Fm g₀ s₀ L l s) : L < s.heap.objs.size := let ⟨_, n, _⟩ := F.ns; n.lt
theorem Fm.toks {g₀ : Heap} {s₀ s : Shared} {L : Addr} {l : List (Str × Value)} (F : Fm g₀ s₀ L l s) (tk : Nat) : Fm g₀ s₀ L l { s with toks := tk } :=
  F.call ((Grow.refl F.grow.ok).toks tk)
theorem Fm.push {g₀ : Heap} {s₀ s : Shared} {L : Addr} {l : List (Str × Value)} (F : Fm g₀ s₀ L l s) (o : Obj) : Fm g₀ s₀ L l { s with heap := s.heap.push o } :=
  F.call ((Grow.refl F.grow.ok).push o)
theorem Fm.sub {g₀ : Heap} {s₀ s : Shared} {L : Addr} {l l' : List (Str × Value)} (F : Fm g₀ s₀ L l s) (h : ∀ p ∈ l', l.lookup p.1 = some p.2) : Fm g₀ s₀ L l' s :=
  ⟨F.grow, F.ok₀, F.above, let ⟨m, n, r⟩ := F.ns; ⟨m, n, fun y v e => r y v (h (y, v) (mem_of_lookup e))⟩⟩
theorem Fm.but {g₀ : Heap} {s₀ s : Shared} {L a : Addr} {oa : Obj} {l : List (Str × Value)} (F : Fm g₀ s₀ L l s) (ha : s₀.heap.objs.size ≤ a) (haL : L ≠ a) {h' : Heap} (hs : Heap.ExtBut a s.heap h')
    (hoa : s.heap.get? a = some oa) (hnc : ∀ vs (q : Str) t, oa.data = .fields vs → vs[1]? ≠ some (.str q t)) : Fm g₀ s₀ L l { s with heap := h' } :=
  ⟨F.grow.but ha hs F.ok₀ hoa hnc, F.ok₀, F.above, let ⟨m, n, r⟩ := F.ns; ⟨m, n.extBut hs haL, r⟩⟩

theorem Keep.isTup {h h' : Heap} (k : Keep h h') {a : Addr} {xs : Array Value} (x : IsTup h a xs) : IsTup h' a xs :=
  let ⟨o, e, c, r⟩ := x; ⟨o, k.getT e c, c, r⟩
theorem codeAmong_app {pos : Pos} {r : List Value} : ∀ {l : List Value}, TriplesOk l → codeAmong pos (l ++ r) = (codeAmong pos l).or (codeAmong pos r)
  | [], _ => by simp [codeAmong]
  | .int a t :: .int b u :: c :: l, h => by
    have ih := codeAmong_app (pos := pos) (r := r) (l := l) h
    simp only [List.cons_append, codeAmong, ih]
    split <;> simp
theorem triples_app {r : List Value} (hr : TriplesOk r) : ∀ {l : List Value}, TriplesOk l → TriplesOk (l ++ r)
  | [], _ => hr
  | .int _ _ :: .int _ _ :: _ :: l, h => triples_app (l := l) hr h

/-- a table has grown by one code object -/
theorem grow_tab {g₀ : Heap} {s : Shared} {h' : Heap} {tk : Nat} {P c' : Addr} {q : Str} {ps : Array Value} {pos : Pos} (O : Ok g₀ s.heap) (hg : g₀.get? P = none) (hP : (P, q) ∈ tabs) (hps : s.heap.get? P = some (tabObj ps)) (ht : TriplesOk ps.toList)
    (hx : Heap.ExtBut P s.heap h') (hcd : h'.CodeRec (.ref c') q) (hnew : h'.get? P = some (tabObj (ps ++ #[rawInt pos.line, rawInt pos.col, .ref c']))) : Grow g₀ s { s with heap := h', toks := tk } := by
  have code : ∀ cv q, s.heap.CodeRec cv q → h'.CodeRec cv q := fun cv q ⟨c, o, vs, t, e1, e2, e3, e4⟩ => ⟨c, o, vs, t, e1, hx c o (fun qq => by
    subst qq; rw [hps] at e2; cases e2; cases e3; exact triples_one ht (by rw [Array.getElem?_toList]; exact e4)) e2, e3, e4⟩
  refine ⟨⟨h', tk, rfl⟩, fun b o e => ?_, ⟨fun b o e => hx b o (fun qq => by rw [qq, hg] at e; cases e) (O.keep b o e), fun p hp => ?_⟩⟩
  · by_cases hb : b = P
    · subst hb; rw [hps] at e; cases e; exact .inr ⟨ps, rfl, ht⟩
    · exact .inl (hx b o hb e)
  · obtain ⟨ps', e1, e2, e3⟩ := O.tab p hp
    by_cases hb : p.1 = P
    · have hq : p.2 = q := by
        obtain ⟨P', q'⟩ := p
        simp only at hb; subst hb
        simp only [tabs, List.mem_cons, List.not_mem_nil, or_false, Prod.mk.injEq] at hp hP
        rcases hp with ⟨a, b⟩ | ⟨a, b⟩ | ⟨a, b⟩ <;> rcases hP with ⟨c, d⟩ | ⟨c, d⟩ | ⟨c, d⟩ <;> first | exact b.trans d.symm | (rw [a] at c; exact absurd c (by decide))
      rw [hb, hps] at e1
      cases e1
      refine ⟨ps ++ #[rawInt pos.line, rawInt pos.col, .ref c'], by rw [hb]; exact hnew, ?_, fun pos' cv hc => ?_⟩
      · rw [Array.toList_append]; exact triples_app (by simp [TriplesOk, rawInt]) ht
      · rw [Array.toList_append, codeAmong_app ht] at hc
        cases h1 : codeAmong pos' ps.toList with
        | some v => rw [h1] at hc; cases hc; exact code _ _ (e3 pos' _ h1)
        | none =>
          rw [h1] at hc
          simp only [Option.none_or, codeAmong, rawInt] at hc
          split at hc
          · cases hc; rw [hq]; exact hcd
          · cases hc
    · exact ⟨ps', hx _ _ hb e1, e2, fun pos cv hc => code _ _ (e3 pos cv hc)⟩
end Mine

end
section
set_option maxRecDepth 100000
namespace Mine

theorem boot_range : bootBuiltins (Str.ofString "range") = some (.type "range") := by decide +kernel
theorem boot_enumerate : bootBuiltins (Str.ofString "enumerate") = some (.type "enumerate") := by decide +kernel
theorem boot_sorted : bootBuiltins (Str.ofString "sorted") = some (.builtin "sorted") := by decide +kernel
theorem n_range {w : World} : nsIn (hd.heap_39 w.params) mainGlobals (Str.ofString "range") = some none := by rfl
theorem n_enumerate {w : World} : nsIn (hd.heap_39 w.params) mainGlobals (Str.ofString "enumerate") = some none := by rfl
theorem n_sorted {w : World} : nsIn (hd.heap_39 w.params) mainGlobals (Str.ofString "sorted") = some none := by rfl
theorem ne_range : Str.ofString "range" ≠ "__name__" := by decide
theorem ne_enumerate : Str.ofString "enumerate" ≠ "__name__" := by decide
theorem ne_sorted : Str.ofString "sorted" ≠ "__name__" := by decide
/-- room for n frames more -/
structure Rm (A : Around) (n : Nat) : Prop where
  hand : A.handled = none
  depth : A.depth + n < 1000
  units : A.units + 4 * n + 100 < 9900
theorem Rm.le {A : Around} {n m : Nat} (R : Rm A n) (h : m ≤ n) : Rm A m := ⟨R.hand, by have := R.depth; omega, by have := R.units; omega⟩
theorem Rm.deeper {A : Around} {n : Nat} {env : Env} (R : Rm A (n + 1)) : Rm (A.deeper env) n :=
  ⟨R.hand, by have := R.depth; show A.depth + 1 + n < 1000; omega, by have := R.units; show A.units + 3 + 4 * n + 100 < 9900; omega⟩
theorem Rm.in1 {A : Around} {n : Nat} (R : Rm A (n + 1)) : Rm A.in1 n :=
  ⟨R.hand, by have := R.depth; show A.depth + n < 1000; omega, by have := R.units; show A.units + 1 + 4 * n + 100 < 9900; omega⟩
theorem Rm.room {A : Around} {n : Nat} (R : Rm A n) : A.depth < recursionLimit := by have := R.depth; show A.depth < 1000; omega

section
variable {M : Model} {A : Around} {E : Value → Shared → Prop} {s s₀ : Shared} {g₀ : Heap} {env : Env} {l : List (Str × Value)} {w : World} {mg mb : Str → Option Value}

theorem ev_loc {x : Str} {pos : Pos} {v : Value} {Q : Value → Shared → Prop} (F : Fm g₀ s₀ env.locals l s) (hv : l.lookup x = some v) (h : Q v s)
    (hk : env.scope.kind = .function := by rfl) (hx : env.kindOf x = some .local := by rfl) (hd : (x == ("__debug__" : Str)) = false := by decide) :
    wpAny M A (eval (.Name x pos) env) Q E s := let ⟨_, n, r⟩ := F.ns; wpAny_Name (wpAny_loadName_local hk hx n (r _ _ hv) h) hd
theorem ev_glo {x : Str} {pos : Pos} {v : Value} {Q : Value → Shared → Prop} (G : Gd w mg mb g₀) (O : Ok g₀ s.heap) (e : nsIn (hd.heap_39 w.params) mainGlobals x = some (some v)) (h : Q v s)
    (hk : env.scope.kind = .function := by rfl) (hx : env.kindOf x = some .globalImplicit := by rfl) (hge : env.globals = mainGlobals := by rfl) (hd : (x == ("__debug__" : Str)) = false := by decide) :
    wpAny M A (eval (.Name x pos) env) Q E s :=
  Name_function_global hk hx (loadGlobal_global (env := env) (mg := mg) (by rw [hge]; exact G.g.keeps O.keep) (mg_of G.X G.g e) h) hd
theorem ev_bui {x : Str} {pos : Pos} {v : Value} {Q : Value → Shared → Prop} (G : Gd w mg mb g₀) (O : Ok g₀ s.heap) (e : nsIn (hd.heap_39 w.params) mainGlobals x = some none) (hv : bootBuiltins x = some v) (hn : x ≠ "__name__") (h : Q v s)
    (hk : env.scope.kind = .function := by rfl) (hx : env.kindOf x = some .globalImplicit := by rfl) (hge : env.globals = mainGlobals := by rfl) (hbe : env.builtins = builtinsNs := by rfl) (hd : (x == ("__debug__" : Str)) = false := by decide) :
    wpAny M A (eval (.Name x pos) env) Q E s :=
  Name_function_global hk hx (loadGlobal_builtin (env := env) (mg := mg) (mb := mb) (by rw [hge]; exact G.g.keeps O.keep) (mg_none_of G.X G.g e) (by rw [hbe]; exact G.b.keeps O.keep) ((G.builtins x hn).trans hv) h) hd
theorem st_loc {x : Str} {v : Value} {Q : Unit → Shared → Prop} (F : Fm g₀ s₀ env.locals l s)
    (h : ∀ s', Fm g₀ s₀ env.locals ((x, v) :: l) s' → (∀ b, b ≠ env.locals → s'.heap.get? b = s.heap.get? b) → s'.heap.objs.size = s.heap.objs.size → Q () s')
    (hk : env.scope.kind = .function := by rfl) (hx : env.kindOf x = some .local := by rfl) : wpAny M A (storeName env x v) Q E s := by
  obtain ⟨m, n, r⟩ := F.ns
  refine wpAny_storeName_local hx n (fun h' hn hs => ?_) (by rw [hk]; rfl)
  have hz : s.heap.objs.size = h'.objs.size := hs.1.symm
  obtain ⟨o, es, ep, e, d, _⟩ := id n
  have F' : Fm g₀ s₀ env.locals ((x, v) :: l) { s with heap := h' } := ⟨F.grow.but F.above hs.extBut F.ok₀ e (fun vs q t dd => by rw [d] at dd; cases dd), F.ok₀, F.above, _, hn, fun y u hy => ?_⟩
  · exact h _ (F'.toks _) (fun b hb => hs.2 b hb) hz.symm
  · rw [List.lookup_cons] at hy
    by_cases q : y = x
    · subst q; rw [beq_self_eq_true] at hy; cases hy; exact if_pos rfl
    · have q' : (y == x) = false := by simpa using q
      rw [q'] at hy; exact (if_neg q).trans (r y u hy)

theorem ex_assign {x : Str} {pos' pos : Pos} {value : Expr} {Q : Flow → Shared → Prop}
    (h : wpAny M A (eval value env) (fun v s₁ => ∃ l, Fm g₀ s₀ env.locals l s₁ ∧ ∀ s', Fm g₀ s₀ env.locals ((x, v) :: l) s' → (∀ b, b ≠ env.locals → s'.heap.get? b = s₁.heap.get? b) → s'.heap.objs.size = s₁.heap.objs.size → Q .next s') E s)
    (hk : env.scope.kind = .function := by rfl) (hx : env.kindOf x = some .local := by rfl) (hs : swapsWith value (some (.Name x pos')) pos.line env = pure false := by rfl) :
    wpAny M A (exec (.Assign [.Name x pos'] value pos) env) Q E s :=
  wpAny_Assign_Name (wpAny_mono h (fun _ _ ⟨_, F, k⟩ => st_loc F k hk hx) fun _ _ e => e) hs
end

section
variable {prog : Program} {w : World} {A : Around} {s : Shared} {g₀ : Heap} {mg mb : Str → Option Value} {R : Result → Shared → Prop}
/-- a def of the text is entered -/
theorem enter {a : Addr} {o : Obj} {fd : FuncData} {body : List Stmt} {args : Args} {binds : List (Str × Value)} (G : Gd w mg mb g₀) (O : Ok g₀ s.heap) (hroom : A.depth < recursionLimit)
    (ho : (hd.heap_39 w.params).lookup a = some o) (hdata : o.data = .func fd) (hcd : codeIn (hd.heap_39 w.params) fd.code fd.qualname = true) (hbody : fd.body = .stmts body)
    (hbind : bindArgs fd args = pure binds) (hcell : ∀ x ∈ fd.scope.names, x.2 ≠ .cell) (hloc : ∀ x ∈ binds, fd.scope.names.lookup x.1 = some .local)
    (hco : fd.scope.isCoroutine = false) (hgen : fd.scope.isGenerator = false) (hk : fd.scope.kind = .function)
    (h : ∀ E s₁ L, Fm g₀ s L binds.reverse s₁ → wpAny (model prog w) (A.deeper (callEnv fd L a)) (execs body (callEnv fd L a)) (fun f s' => R (.ok (.ret (match f with | .ret v => v | _ => .none))) s') E s₁) :
    codeAny (model prog w) A (.call (.ref a) args) R s :=
  codeAny_call_def hroom (O.keep _ _ (G.X _ _ ho)) hdata (G.nolimit.keeps O.keep) ((codeRec_of G.X hcd).keeps O.keep) hbody (BindsTo.of_eq hbind) hcell hloc
    (fun h₁ hns hk₁ => h _ _ _ ⟨((Grow.refl O).to hk₁).toks _, O, Nat.le_refl _, _, hns, fun _ _ e => e⟩) hco hgen hk
end

section
variable {M : Model} {w : World} {A : Around} {E : Value → Shared → Prop} {s : Shared} {env : Env} {g₀ : Heap} {mg mb : Str → Option Value}
theorem cl_own {pos : Pos} {f : Addr} {o : Obj} {fd : FuncData} {e : Expr} {rest : List Expr} {Q : Value → Shared → Prop} (G : Gd w mg mb g₀) (ho : (hd.heap_39 w.params).lookup f = some o) (hdat : o.data = .func fd)
    (h : wpAny M A (spliced (backTo pos (starEach (e :: rest) env))) (fun vs s₁ => Ok g₀ s₁.heap ∧ wpAny M A (call (.ref f) vs) Q E s₁) E s)
    (he : starEach (e :: rest) env = (false, eval e env) :: starEach rest env := by rfl) :
    wpAny M A (callWith pos (.ref f) [] (backTo pos (starEach (e :: rest) env)) []) Q E s :=
  callWith_def hdat (wpAny_mono h (fun _ _ ⟨O, k⟩ => ⟨O.keep _ _ (G.X _ _ ho), k⟩) fun _ _ e => e) he
end
end Mine

end
section
set_option maxRecDepth 100000
namespace Mine
local macro_rules | `(tactic| walk_at "m") => `(tactic| first
  | with_reducible refine wpAny_execs_cons ?_ | with_reducible refine wpAny_Return_some ?_ | with_reducible refine wpAny_BinOp ?_ | with_reducible refine args_nil ?_ | with_reducible refine wpAny_Constant_int ?_ | with_reducible refine Tuple_ ?_ | with_reducible refine List_ ?_
  | ((with_reducible show wpAny _ _ (eval (Expr.Compare _ [_] [_] _) _) _ _ _); refine wpAny_Compare1 ?_)
  | ((with_reducible show wpAny _ _ (eval (Expr.Call (Expr.Name _ _) _ [] _) _) _ _ _); refine Call_ ?_)
  | ((with_reducible show wpAny _ _ (spliced (backTo _ (starEach (_ :: _) _))) _ _ _); refine args_cons ?_))
section
variable {prog : Program} {w : World} {A : Around} {s : Shared} {g₀ : Heap} {mg mb : Str → Option Value} {R : Result → Shared → Prop}

theorem c_fmt (G : Gd w mg mb g₀) (O : Ok g₀ s.heap) (hr : Rm A 1) {x : Int} {t : Tok} (k : ∀ s' u, Grow g₀ s s' → R (.ok (.ret (.int (Builtin.bitAnd x 61440) u))) s') :
    codeAny (model prog w) A (.call (.ref 35) ⟨[.int x t], []⟩) R s := by
  refine enter (binds := [(Str.ofString "mode", .int x t)]) G O hr.room rfl rfl rfl rfl rfl (by decide) (locs rfl) rfl rfl rfl fun E s₁ L F => ?_
  repeat walk_at "m"
  refine ev_loc F rfl ?_
  walk_at "m"
  exact and_int (k _ _ ((F.toks _).toks _).grow)

theorem c_isreg (G : Gd w mg mb g₀) (O : Ok g₀ s.heap) (hr : Rm A 2) {x : Int} {t : Tok} (k : ∀ s', Grow g₀ s s' → R (.ok (.ret (.bool (Builtin.bitAnd x 61440 == 32768)))) s') :
    codeAny (model prog w) A (.call (.ref 63) ⟨[.int x t], []⟩) R s := by
  refine enter (binds := [(Str.ofString "mode", .int x t)]) G O hr.room rfl rfl rfl rfl rfl (by decide) (locs rfl) rfl rfl rfl fun E s₁ L F => ?_
  repeat walk_at "m"
  refine ev_glo G F.grow.ok rfl ?_
  refine cl_own G rfl rfl ?_
  walk_at "m"
  refine ev_loc F rfl ?_
  walk_at "m"
  refine ⟨F.grow.ok, wpAny_call (c_fmt G F.grow.ok hr.deeper fun s₂ u g => ?_)⟩
  exact ev_glo G g.ok rfl (eq_int (k _ (F.grow.trans g)))
end
end Mine

end
section
set_option maxRecDepth 100000
namespace Mine
section
variable {prog : Program} {w : World} {A : Around} {E : Value → Shared → Prop} {s s₀ : Shared} {g₀ : Heap} {env : Env} {l : List (Str × Value)} {mg mb : Str → Option Value}

theorem PlainL.noCode {h : Heap} {a : Addr} {its : Array Value} (x : PlainL h a its) : ∃ oa, h.get? a = some oa ∧ ∀ vs (q : Str) t, oa.data = .fields vs → vs[1]? ≠ some (.str q t) :=
  let ⟨o, n, e, _, _, d⟩ := x; ⟨o, e, fun vs q t dd => by rw [d] at dd; cases dd⟩

theorem ex_append {nm : Str} {p1 apos pos epos : Pos} {elt : Expr} {D : Addr} {its : Array Value} {Q : Flow → Shared → Prop} (F : Fm g₀ s₀ env.locals l s) (hv : l.lookup nm = some (.ref D)) (hD : PlainL s.heap D its)
    (hDa : s₀.heap.objs.size ≤ D) (hDL : env.locals ≠ D) (hsz : its.size ≤ 1000)
    (h : wpAny (model prog w) A (eval elt env) (fun v s₂ => ∃ l₂, Fm g₀ s₀ env.locals l₂ s₂ ∧ PlainL s₂.heap D its ∧
      ∀ s', Fm g₀ s₀ env.locals l₂ s' → PlainL s'.heap D (its.push v) → (∀ b, b ≠ D → s'.heap.get? b = s₂.heap.get? b) → Q .next s') E s)
    (hk : env.scope.kind = .function := by rfl) (hx : env.kindOf nm = some .local := by rfl) (hd : (nm == ("__debug__" : Str)) = false := by decide)
    (hbase : attributeBase (.Name nm p1) "append" env (eval (.Name nm p1) env) = eval (.Name nm p1) env := by rfl)
    (hfew : ((backTo pos (starEach [elt] env)).all (fun x => !x.1) && (backToKw pos (keywordEach [] env)).all (fun x => x.1.isSome)
      && decide (([elt] : List Expr).length + ([] : List Keyword).length + (if ([] : List Keyword).isEmpty then 0 else 1) < 30)) = true := by rfl)
    (hline : (apos.endLine == pos.line) = true := by rfl)
    (htrees : backTo pos (starEach [elt] env) = [(false, eval elt env)] := by rfl)
    (hi : interactive env = false := by rfl) (hs : swapsWith (.Call (.Attribute (.Name nm p1) "append" apos) [elt] [] pos) none epos.line env = pure false := by rfl) :
    wpAny (model prog w) A (exec (.Expr (.Call (.Attribute (.Name nm p1) "append" apos) [elt] [] pos) epos) env) Q E s := by
  refine wpAny_Expr (wpAny_Call_append hbase hfew hline htrees (ev_loc F hv ⟨D, its, rfl, hD, wpAny_mono h (fun v s₂ h₂ => ?_) fun _ _ e => e⟩ hk hx hd)) hi hs
  obtain ⟨l₂, F₂, hD₂, k⟩ := h₂
  refine list_append_plainL hD₂ (fun h' hD' hs' => ?_) (by rw [sizeLine_eq]; omega)
  obtain ⟨oa, e, hn⟩ := PlainL.noCode hD₂
  exact k _ (F₂.but hDa hDL hs'.extBut e hn) hD' fun b hb => hs'.2 b hb

/-- what a question's answer tells -/
def Says (r : Value) (b : Bool) : Prop := r = .bool b ∨ ∃ k t, r = .int k t ∧ (k != 0) = b
theorem Says.truthy {r : Value} {b : Bool} (h : Says r b) {Q : Bool → Shared → Prop} (k : Q b s) : wpAny (model prog w) A (truthy r) Q E s := by
  rcases h with rfl | ⟨i, t, rfl, rfl⟩
  · exact wpAny_truthy_bool k
  · exact truthy_int k
end

section
variable {prog : Program} {w : World} {A : Around} {s : Shared} {g₀ : Heap} {mg mb : Str → Option Value} {R : Result → Shared → Prop}

/-- a function that answers a question about each of the values -/
def Asks (prog : Program) (w : World) (g₀ : Heap) (n : Nat) (p : Addr) (val : Nat → Value) (is : List Nat) (P : Nat → Bool) (s : Shared) : Prop :=
  ∀ i ∈ is, ∀ (A' : Around) (s' : Shared) (R' : Result → Shared → Prop), Rm A' n → Grow g₀ s s' →
    (∀ r s'', Grow g₀ s' s'' → Says r (P i) → R' (.ok (.ret r)) s'') → codeAny (model prog w) A' (.call (.ref p) ⟨[val i], []⟩) R' s'

theorem c_split (G : Gd w mg mb g₀) (O : Ok g₀ s.heap) {n : Nat} (hr : Rm A (n + 1)) {l p : Addr} {val : Nat → Value} {is : List Nat} {P : Nat → Bool} {po : Obj} {pfd : FuncData}
    (hl : s.heap.IsList l (is.map val).toArray) (hp : s.heap.get? p = some po) (hpd : po.data = .func pfd) (hlen : is.length ≤ 64) (ask : Asks prog w g₀ n p val is P s)
    (k : ∀ s' T Y N, Grow g₀ s s' → s.heap.objs.size ≤ Y → s.heap.objs.size ≤ N → s'.heap.IsTuple T #[.ref Y, .ref N] → PlainL s'.heap Y ((is.filter P).map val).toArray → PlainL s'.heap N ((is.filter fun i => !P i).map val).toArray → R (.ok (.ret (.ref T))) s') :
    codeAny (model prog w) A (.call (.ref 21) ⟨[.ref l, .ref p], []⟩) R s := by
  refine enter (binds := [(Str.ofString "s", .ref l), (Str.ofString "predicate", .ref p)]) G O hr.room rfl rfl rfl rfl rfl (by decide) (locs rfl) rfl rfl rfl fun E s₁ L F => ?_
  refine wpAny_execs_cons (wpAny_Assign_Name (List_ (args_nil (wpAny_newList (st_loc (F.push _) fun s₂ F₂ k₂ _ => ?_)))))
  refine wpAny_execs_cons (wpAny_Assign_Name (List_ (args_nil (wpAny_newList (st_loc (F₂.push _) fun s₃ F₃ k₃ _ => ?_)))))
  have hLY : L < s₁.heap.objs.size := F.lt
  have hY₂ : PlainL s₂.heap s₁.heap.objs.size #[] := ⟨_, _, (k₂ _ (Nat.ne_of_gt hLY)).trans (Heap.get?_push_size _ rfl), rfl, rfl, rfl⟩
  have hYN : s₁.heap.objs.size < s₂.heap.objs.size := hY₂.lt
  have hLN : L < s₂.heap.objs.size := Nat.lt_trans hLY hYN
  have hY₃ : PlainL s₃.heap s₁.heap.objs.size #[] := by
    obtain ⟨o, n, e, r⟩ := hY₂
    exact ⟨o, n, (k₃ _ (Nat.ne_of_gt hLY)).trans (Heap.get?_push_of_some _ e), r⟩
  have hN₃ : PlainL s₃.heap s₂.heap.objs.size #[] := ⟨_, _, (k₃ _ (Nat.ne_of_gt hLN)).trans (Heap.get?_push_size _ rfl), rfl, rfl, rfl⟩
  have hl₃ : s₃.heap.IsList l (is.map val).toArray := F₃.grow.keep.list hl
  have hNI : s₂.heap.objs.size < s₃.heap.objs.size := hN₃.lt
  have hLI : L < s₃.heap.objs.size := F₃.lt
  have hsL : s.heap.objs.size ≤ L := F.above
  generalize s₁.heap.objs.size = Y at *
  generalize s₂.heap.objs.size = N at *
  refine wpAny_execs_cons (wpAny_For (ev_loc F₃ rfl (wpAny_pyIter_list hl₃ ?_)))
  have F₄ := F₃.push { cls := .type "list_iterator", data := .fields #[.ref l, .int 0 0] }
  have hit₄ : (s₃.heap.push { cls := .type "list_iterator", data := .fields #[.ref l, .int 0 0] }).IsListIter s₃.heap.objs.size l 0 := ⟨_, Heap.get?_push_size _ rfl, rfl, rfl⟩
  have hY₄ := hY₃.keeps fun b o e => Heap.get?_push_of_some { cls := .type "list_iterator", data := .fields #[.ref l, .int 0 0] } e
  have hN₄ := hN₃.keeps fun b o e => Heap.get?_push_of_some { cls := .type "list_iterator", data := .fields #[.ref l, .int 0 0] } e
  generalize s₃.heap.objs.size = I at *
  refine codeAny_forLoop (fun nn s' => ∃ i, i ≤ is.length ∧ nn = is.length - i ∧
    Fm g₀ s L [(Str.ofString "no", .ref N), (Str.ofString "yes", .ref Y), (Str.ofString "predicate", .ref p), (Str.ofString "s", .ref l)] s' ∧ s'.heap.IsListIter I l i ∧
    PlainL s'.heap Y (((is.take i).filter P).map val).toArray ∧ PlainL s'.heap N (((is.take i).filter fun i => !P i).map val).toArray) ?_ is.length
    ⟨0, Nat.zero_le _, by omega, F₄, hit₄, hY₄, hN₄⟩
  rintro nn s₅ ⟨i, hi, rfl, F₅, hit, hY, hN⟩
  have hl₅ := F₅.grow.keep.list hl
  have hlI : s.heap.objs.size ≤ I := Nat.le_trans hsL (Nat.le_of_lt hLI)
  have hYI : Y ≠ I := Nat.ne_of_lt (Nat.lt_trans hYN hNI)
  have hNI' : N ≠ I := Nat.ne_of_lt hNI
  cases hv : is[i]? with
  | none =>
    have hi' : i = is.length := by have := List.getElem?_eq_none_iff.mp hv; omega
    refine wpAny_pyNext_list_end (show A.handled = none from hr.hand) hit hl₅ (by simp [hv]) fun h' he => ?_
    obtain ⟨oa, ea, ca, da⟩ := hit
    have F₆ := F₅.but hlI (Nat.ne_of_lt hLI) he ea (fun vs q t dd => by rw [da] at dd; cases dd; simp)
    refine wpAny_execs_nil ?_
    dsimp only
    refine wpAny_execs_cons (wpAny_Return_some (Tuple_ (args_cons (ev_loc F₆ rfl (args_cons (ev_loc F₆ rfl (args_nil (wpAny_newTuple ?_))))))))
    rw [hi', List.take_length] at hY hN
    refine k _ _ Y N (F₆.push _).grow (Nat.le_trans hsL (Nat.le_of_lt hLY)) (Nat.le_trans hsL (Nat.le_of_lt hLN)) ⟨_, Heap.get?_push_size _ rfl, rfl, _, rfl⟩ ?_ ?_
    · obtain ⟨o, n, e, r⟩ := hY
      exact ⟨o, n, Heap.get?_push_of_some _ (he _ _ hYI e), r⟩
    · obtain ⟨o, n, e, r⟩ := hN
      exact ⟨o, n, Heap.get?_push_of_some _ (he _ _ hNI' e), r⟩
  | some j =>
    have hlt : i < is.length := (List.getElem?_eq_some_iff.mp hv).1
    have hj : j ∈ is := List.mem_of_getElem? hv
    refine wpAny_pyNext_list_item hit hl₅ (x := val j) (by simp [hv]) fun h' hit' hs' => ?_
    obtain ⟨oa, ea, ca, da⟩ := hit
    have F₆ := F₅.but hlI (Nat.ne_of_lt hLI) hs'.extBut ea (fun vs q t dd => by rw [da] at dd; cases dd; simp)
    refine wpAny_assign_Name (st_loc F₆ fun s₇ F₇ k₇ _ => ?_)
    have hY₇ : PlainL s₇.heap Y (((is.take i).filter P).map val).toArray := by
      obtain ⟨o, n, e, r⟩ := hY
      exact ⟨o, n, (k₇ _ (Nat.ne_of_gt hLY)).trans ((hs'.2 _ hYI).trans e), r⟩
    have hN₇ : PlainL s₇.heap N (((is.take i).filter fun i => !P i).map val).toArray := by
      obtain ⟨o, n, e, r⟩ := hN
      exact ⟨o, n, (k₇ _ (Nat.ne_of_gt hLN)).trans ((hs'.2 _ hNI').trans e), r⟩
    have hit₇ : s₇.heap.IsListIter I l (i + 1) := by
      obtain ⟨o, e, r⟩ := hit'
      exact ⟨o, (k₇ _ (Nat.ne_of_gt hLI)).trans e, r⟩
    refine wpAny_execs_cons (wpAny_If (isTrue_plain (Call_ (ev_loc F₇ rfl (callWith_def hpd (args_cons (ev_loc F₇ rfl (args_nil ⟨F₇.grow.keep.get hp (fun ps q => by rw [q] at hpd; cases hpd), wpAny_call (ask j hj _ _ _ hr.deeper F₇.grow fun r s₈ g₈ hb => ?_)⟩))))))))
    refine hb.truthy ?_
    have F₈ := F₇.call g₈
    have hY₈ := g₈.keep.plainL hY₇
    have hN₈ := g₈.keep.plainL hN₇
    have hit₈ := g₈.keep.listIter hit₇
    have hYs : s.heap.objs.size ≤ Y := Nat.le_trans hsL (Nat.le_of_lt hLY)
    have hNs : s.heap.objs.size ≤ N := Nat.le_trans hsL (Nat.le_of_lt hLN)
    have htk : is.take (i + 1) = is.take i ++ [j] := by rw [List.take_add_one, hv]; rfl
    have hle : ∀ f : Nat → Bool, ((((is.take i).filter f).map val).toArray).size ≤ 1000 := fun f => by
      have h1 : ((is.take i).filter f).length ≤ (is.take i).length := List.length_filter_le ..
      simp only [List.size_toArray, List.length_map]
      rw [List.length_take] at h1
      omega
    cases hP : P j with
    | true =>
      rw [if_pos rfl]
      refine wpAny_execs_cons (ex_append F₈ rfl hY₈ hYs (Nat.ne_of_lt hLY) (hle _) (ev_loc F₈ rfl ⟨_, F₈, hY₈, fun s₉ F₉ hD₉ k₉ => ?_⟩))
      refine wpAny_execs_nil (wpAny_execs_nil ?_)
      refine ⟨is.length - (i + 1), by omega, i + 1, by omega, rfl, F₉.sub ?_, ?_, ?_, ?_⟩
      · exact List.forall_mem_cons.mpr ⟨rfl, List.forall_mem_cons.mpr ⟨rfl, List.forall_mem_cons.mpr ⟨rfl, List.forall_mem_cons.mpr ⟨rfl, List.forall_mem_nil _⟩⟩⟩⟩
      · obtain ⟨o, e, r⟩ := hit₈
        exact ⟨o, (k₉ _ hYI.symm).trans e, r⟩
      · rw [htk, List.filter_append, List.map_append]
        simpa [hP] using hD₉
      · obtain ⟨o, n, e, r⟩ := hN₈
        refine ⟨o, n, (k₉ _ (Nat.ne_of_gt hYN)).trans e, ?_⟩
        rw [htk, List.filter_append, List.map_append]
        simpa [hP] using r
    | false =>
      rw [if_neg (by decide)]
      refine wpAny_execs_cons (ex_append F₈ rfl hN₈ hNs (Nat.ne_of_lt hLN) (hle _) (ev_loc F₈ rfl ⟨_, F₈, hN₈, fun s₉ F₉ hD₉ k₉ => ?_⟩))
      refine wpAny_execs_nil (wpAny_execs_nil ?_)
      refine ⟨is.length - (i + 1), by omega, i + 1, by omega, rfl, F₉.sub ?_, ?_, ?_, ?_⟩
      · exact List.forall_mem_cons.mpr ⟨rfl, List.forall_mem_cons.mpr ⟨rfl, List.forall_mem_cons.mpr ⟨rfl, List.forall_mem_cons.mpr ⟨rfl, List.forall_mem_nil _⟩⟩⟩⟩
      · obtain ⟨o, e, r⟩ := hit₈
        exact ⟨o, (k₉ _ hNI'.symm).trans e, r⟩
      · obtain ⟨o, n, e, r⟩ := hY₈
        refine ⟨o, n, (k₉ _ (Nat.ne_of_lt hYN)).trans e, ?_⟩
        rw [htk, List.filter_append, List.map_append]
        simpa [hP] using r
      · rw [htk, List.filter_append, List.map_append]
        simpa [hP] using hD₉
end
end Mine

end
section
set_option maxRecDepth 100000
namespace Mine
section
variable {M : Model} {A : Around} {E : Value → Shared → Prop} {s s₀ : Shared} {g₀ : Heap} {env : Env} {l : List (Str × Value)} {w : World} {mg mb : Str → Option Value}

theorem ev_cell {x : Str} {pos : Pos} {v : Value} {c : Addr} {Q : Value → Shared → Prop} (hc : env.cells.lookup x = some c) (hv : s.heap.IsCell c (some v)) (h : Q v s)
    (hk : env.scope.kind = .function := by rfl) (hx : env.kindOf x = some .cell := by rfl) (hd : (x == ("__debug__" : Str)) = false := by decide) :
    wpAny M A (eval (.Name x pos) env) Q E s := wpAny_Name (wpAny_loadName_cell hk hx hc hv h) hd
theorem ev_free {x : Str} {pos : Pos} {v : Value} {c : Addr} {Q : Value → Shared → Prop} (hc : env.cells.lookup x = some c) (hv : s.heap.IsCell c (some v)) (h : Q v s)
    (hk : env.scope.kind = .function := by rfl) (hx : env.kindOf x = some .free := by rfl) (hd : (x == ("__debug__" : Str)) = false := by decide) (hn : (x == ("__classdict__" : Str)) = false := by decide) :
    wpAny M A (eval (.Name x pos) env) Q E s := wpAny_Name (wpAny_loadName_free hk hx hc hv h hn) hd
theorem st_cell {x : Str} {v : Value} {v₀ : Option Value} {c : Addr} {Q : Unit → Shared → Prop} (F : Fm g₀ s₀ env.locals l s) (hc : env.cells.lookup x = some c) (hv : s.heap.IsCell c v₀) (hab : env.locals < c)
    (h : ∀ s', Fm g₀ s₀ env.locals l s' → s'.heap.IsCell c (some v) → (∀ b, b ≠ c → s'.heap.get? b = s.heap.get? b) → Q () s')
    (hk : env.scope.kind = .function := by rfl) (hx : env.kindOf x = some .cell := by rfl) : wpAny M A (storeName env x v) Q E s := by
  refine wpAny_storeName_cell hk hx hc hv fun h' hv' hs' => ?_
  obtain ⟨o, e, d⟩ := hv
  exact h _ (F.but (Nat.le_trans F.above (Nat.le_of_lt hab)) (Nat.ne_of_lt hab) hs'.extBut e (fun vs q t dd => by rw [d] at dd; cases dd)) hv' fun b hb => hs'.2 b hb

theorem mem_kind : (140, qKind) ∈ tabs := .head _
theorem mem_laid : (145, qLaid) ∈ tabs := .tail _ (.head _)
theorem mem_sorted : (159, qSorted) ∈ tabs := .tail _ (.tail _ (.head _))
theorem Fm.ne_list {L a : Addr} {xs : Array Value} (F : Fm g₀ s₀ L l s) (x : s.heap.IsList a xs) : a ≠ L := fun q => by
  obtain ⟨m, ⟨o, es, ep, e, d, _⟩, _⟩ := F.ns
  obtain ⟨o', e', _, n', d'⟩ := x
  rw [q, e] at e'; cases e'; rw [d] at d'; cases d'
theorem list_same {h h' : Heap} {a L : Addr} {xs : Array Value} (x : h.IsList a xs) (k : ∀ b, b ≠ L → h'.get? b = h.get? b) (ne : a ≠ L) : h'.IsList a xs :=
  let ⟨o, e, r⟩ := x; ⟨o, (k a ne).trans e, r⟩
theorem cell_same {h h' : Heap} {a L : Addr} {v : Option Value} (x : h.IsCell a v) (k : ∀ b, b ≠ L → h'.get? b = h.get? b) (ne : a ≠ L) : h'.IsCell a v :=
  let ⟨o, e, r⟩ := x; ⟨o, (k a ne).trans e, r⟩
/-- a lambda's object -/
def IsLam (h : Heap) (f : Addr) (q : Str) (params : Arguments) (body : Expr) (scope : Scope) (clos : List (Str × Addr)) : Prop :=
  ∃ pm cv ctv, h.get? f = some { cls := .type "function", data := .func (kla_fn "<lambda>" q params body scope clos pm cv ctv) } ∧ h.CodeRec cv q
theorem Keep.lam {h h' : Heap} (k : Keep h h') {f : Addr} {q : Str} {params : Arguments} {body : Expr} {scope : Scope} {clos : List (Str × Addr)} (x : IsLam h f q params body scope clos) : IsLam h' f q params body scope clos :=
  let ⟨pm, cv, ctv, e, c⟩ := x; ⟨pm, cv, ctv, k.getT e rfl, k.code c⟩

theorem ev_lam {params : Arguments} {body : Expr} {scope : Scope} {pos : Pos} {P c : Addr} {q : Str} {clos : List (Str × Addr)} {Q : Value → Shared → Prop} (G : Gd w mg mb g₀) (O : Ok g₀ s.heap) (C : CodeHd g₀ c P) (hP : (P, q) ∈ tabs)
    (h : ∀ f s', Grow g₀ s s' → s.heap.objs.size ≤ f → IsLam s'.heap f q params body scope clos → Q (.ref f) s')
    (hcl : closureFor scope env = pure clos) (hq : env.qual ++ (Str.ofString "<lambda>") = q)
    (hcode : env.code = .ref c := by rfl) (hge : env.globals = mainGlobals := by rfl) (hdef : defaultsOf params env = ([], []) := by rfl) : wpAny M A (eval (.Lambda params body scope pos) env) Q E s := by
  obtain ⟨ps, hps, ht, hcd⟩ := O.tab (P, q) hP
  have hgs := G.g.keeps O.keep
  obtain ⟨bm, ob, b1, b2, b3, b4, b5, b6⟩ := G.bmain
  have hgP : mainGlobals ≠ P := fun q => by
    obtain ⟨o, es, ep, e, hd, _⟩ := hgs
    rw [q, hps] at e; cases e; cases hd
  have hbP : bm ≠ P := fun q => by
    have e := O.keep _ _ b3
    rw [q, hps] at e; cases e; cases b4
  have hbG : bm ≠ mainGlobals := fun q => by
    obtain ⟨o, es, ep, e, hd, _⟩ := G.g
    rw [q, e] at b3; cases b3; rw [hd] at b6; cases b6
  refine kla_eval hdef ?_
  show wpAny M A (makeFunction (Str.ofString "<lambda>") (env.qual ++ (Str.ofString "<lambda>")) params (.expr body) scope env [] [] [] pos pos.line) Q E s
  rw [hq]
  cases ha : codeAmong pos ps.toList with
  | none =>
    refine kla_makeFunction (mg := mg) hcl hge hgs hcode (C.keeps O.keep) hps ht ha hgP ⟨bm, ob, b1, b2, hbG, hbP, O.keep _ _ b3, b4, b5, b6⟩ fun c' ctv h' tk hx hge' hlt hrec htb => ?_
    have g1 : Grow g₀ s { s with heap := h', toks := tk } := grow_tab O (G.none _ hP) hP hps ht hx hrec htb
    exact h _ _ (g1.push _) (Nat.le_of_lt (Nat.lt_of_le_of_lt hge' hlt)) ⟨_, _, _, Heap.get?_push_size _ rfl, hrec.push _⟩
  | some cv =>
    refine kla_makeFunctionHit (mg := mg) hcl hge hgs hcode (C.keeps O.keep) hps ht ha ⟨bm, ob, b1, b2, hbG, hbP, O.keep _ _ b3, b4, b5, b6⟩ fun ctv h' tk hk hsz => ?_
    have g1 : Grow g₀ s { s with heap := h', toks := tk } := ((Grow.refl O).to hk).toks tk
    exact h _ _ (g1.push _) hsz ⟨_, _, _, Heap.get?_push_size _ rfl, ((hcd pos cv ha).keeps hk).push _⟩
end

section
variable {prog : Program} {w : World} {A : Around} {s : Shared} {g₀ : Heap} {mg mb : Str → Option Value} {R : Result → Shared → Prop} {E : Value → Shared → Prop}

def lamEnv (q : Str) (scope : Scope) (L f : Addr) (cv : Value) (clos : List (Str × Addr)) : Env := envX q scope L f cv clos

theorem call_lam {f : Addr} {q : Str} {params : Arguments} {body : Expr} {scope : Scope} {clos : List (Str × Addr)} {args : Args} {binds : List (Str × Value)} (G : Gd w mg mb g₀) (O : Ok g₀ s.heap) (hroom : A.depth < recursionLimit)
    (hf : IsLam s.heap f q params body scope clos) (hbind : ∀ pm cv ctv, bindArgs (kla_fn "<lambda>" q params body scope clos pm cv ctv) args = pure binds) (hcell : ∀ x ∈ scope.names, x.2 ≠ .cell) (hloc : ∀ x ∈ binds, scope.names.lookup x.1 = some .local)
    (hco : scope.isCoroutine = false) (hgen : scope.isGenerator = false) (hk : scope.kind = .function)
    (h : ∀ E s₁ L cv, Fm g₀ s L binds.reverse s₁ → wpAny (model prog w) (A.deeper (envX q scope L f cv clos)) (eval body (envX q scope L f cv clos)) (fun v s' => R (.ok (.ret v)) s') E s₁) :
    codeAny (model prog w) A (.call (.ref f) args) R s := by
  obtain ⟨pm, cv, ctv, ho, hcd⟩ := hf
  refine kla_callFunE hroom ho rfl hco hgen rfl hcd ?_
  rw [hbind]
  refine wpAny_pure (wpAny_newFunctionEnv hcell hloc (fun h₁ hns hsb => ⟨(G.nolimit.keeps O.keep).fresh _ hsb, ?_⟩) hk)
  show codeAny _ _ (.expr body (envX q scope s.heap.objs.size f cv clos)) _ _
  have hk₁ : ∀ b o, s.heap.get? b = some o → h₁.get? b = some o := fun b o e => hsb.extBut b o (Nat.ne_of_lt (Heap.lt_size e)) (Heap.get?_push_of_some _ e)
  exact kla_codeExpr (h _ _ _ _ ⟨((Grow.refl O).to hk₁).toks _, O, Nat.le_refl _, _, hns, fun _ _ e => e⟩)

theorem enterC {a : Addr} {o : Obj} {fd : FuncData} {body : List Stmt} {vals : List Value} {binds l : List (Str × Value)} (G : Gd w mg mb g₀) (O : Ok g₀ s.heap) (hroom : A.depth < recursionLimit)
    (ho : (hd.heap_39 w.params).lookup a = some o) (hdata : o.data = .func fd) (hcd : codeIn (hd.heap_39 w.params) fd.code fd.qualname = true) (hbody : fd.body = .stmts body)
    (hbind : bindArgs fd ⟨vals, []⟩ = pure binds) (hclo : fd.closure = [])
    (hkind : (binds.all fun y => fd.scope.names.lookup y.1 == some .local || fd.scope.names.lookup y.1 == some .cell) = true)
    (hl : ∀ p ∈ l, bindL (fun x => fd.scope.names.lookup x) binds (fun _ => none) p.1 = some p.2)
    (hco : fd.scope.isCoroutine = false) (hgen : fd.scope.isGenerator = false) (hk : fd.scope.kind = .function)
    (h : ∀ E s₁ L, Fm g₀ s L l s₁ → (∀ n c, (cellsFrom (L + 1) fd.scope.names []).lookup n = some c → s₁.heap.IsCell c (bindC (fun x => fd.scope.names.lookup x) binds (fun _ => none) n)) →
      wpAny (model prog w) (A.deeper (callEnvC fd L a)) (execs body (callEnvC fd L a)) (fun f s' => R (.ok (.ret (match f with | .ret v => v | _ => .none))) s') E s₁) :
    codeAny (model prog w) A (.call (.ref a) ⟨vals, []⟩) R s := by
  refine codeAny_call_cells hroom (O.keep _ _ (G.X _ _ ho)) hdata (G.nolimit.keeps O.keep) ((codeRec_of G.X hcd).keeps O.keep) hbody hbind hclo (kindsX hkind _) (fun s₁ x => ?_) hco hgen hk
  obtain ⟨h', tk, rfl, hk₁⟩ := x.done
  refine h _ _ _ ⟨((Grow.refl O).to hk₁).toks _, O, Nat.le_refl _, _, x.toInCall.ns, fun y v e => ?_⟩ fun n c hc => x.cell n c hc
  exact hl (y, v) (mem_of_lookup e)

theorem add_ll {a b : Addr} {vs ws : List Value} {Q : Value → Shared → Prop} (ha : s.heap.IsList a vs.toArray) (hb : s.heap.IsList b ws.toArray)
    (h : Q (.ref s.heap.objs.size) { s with heap := s.heap.push { cls := .type "list", data := .seq (vs ++ ws).toArray } })
    (hsz : vs.length + ws.length ≤ 1000) : wpAny (model prog w) A (binaryOp .Add (.ref a) (.ref b)) Q E s := by
  obtain ⟨⟨cls, dd, data, sl⟩, ho, hc, n, hd⟩ := id ha
  obtain ⟨⟨cls2, dd2, data2, sl2⟩, ho2, hc2, n2, hd2⟩ := id hb
  simp only at hc hd hc2 hd2
  subst hc hd hc2 hd2
  have e : vs.toArray ++ ws.toArray = (vs ++ ws).toArray := by simp
  refine concat_meets ⟨_, ho, rfl⟩ ⟨_, ho2, rfl⟩ noFill_list_add seq_list_add PySem.F.slot_list_add PySem.F.entry_list_add (PySem.F.args_list_add_2 _ _) (list_addW a b vs.toArray ws.toArray n n2 dd dd2 sl sl2 (by simp only [List.size_toArray]; rw [sizeLine_eq]; omega)) ⟨ho, ho2, ?_⟩
  rw [e]
  exact h
end

section
variable {prog : Program} {w : World} {A : Around} {E : Value → Shared → Prop} {s s₀ : Shared} {g₀ : Heap} {env : Env} {l : List (Str × Value)} {mg mb : Str → Option Value}
theorem as_pair {a b : Str} {pa pb pos : Pos} {k : Nat} {T : Addr} {u v : Value} {Q : Unit → Shared → Prop} (hh : A.handled = none) (F : Fm g₀ s₀ env.locals l s) (hT : s.heap.IsTuple T #[u, v])
    (h : ∀ s', Fm g₀ s₀ env.locals ((b, v) :: (a, u) :: l) s' → (∀ x o, x ≠ env.locals → s.heap.get? x = some o → s'.heap.get? x = some o) → Q () s')
    (hk : env.scope.kind = .function := by rfl) (ha : env.kindOf a = some .local := by rfl) (hb : env.kindOf b = some .local := by rfl) :
    wpAny (model prog w) A (assign (.Tuple [.Name a pa, .Name b pb] k pos) env (.ref T)) Q E s := by
  refine wpAny_assign_Tuple hh hT rfl rfl fun h' hx => ?_
  have hk' : ∀ b o, s.heap.get? b = some o → h'.get? b = some o := fun b o e => hx b o (Nat.ne_of_lt (Heap.lt_size e)) e
  have F₁ := F.call ((Grow.refl F.grow.ok).to hk')
  show wpAny _ A (do holding [v] (assign (.Name a pa) env u); do holding [] (assign (.Name b pb) env v); pure ()) _ _ _
  refine wpAny_bind (wpAny_holding (wpAny_assign_Name (st_loc F₁ (fun s₂ F₂ k₂ _ => ?_) hk ha)))
  refine wpAny_bind (wpAny_holding (wpAny_assign_Name (st_loc F₂ (fun s₃ F₃ k₃ _ => wpAny_pure (h s₃ F₃ fun x o hx' e => ?_)) hk hb)))
  exact (k₃ x hx').trans ((k₂ x hx').trans (hk' x o e))
theorem as_pairC {a b : Str} {pa pb pos : Pos} {k : Nat} {T ca cb : Addr} {u v : Value} {x0 y0 : Option Value} {Q : Unit → Shared → Prop} (hh : A.handled = none) (F : Fm g₀ s₀ env.locals l s) (hT : s.heap.IsTuple T #[u, v])
    (hca : env.cells.lookup a = some ca) (hcb : env.cells.lookup b = some cb) (hva : s.heap.IsCell ca x0) (hvb : s.heap.IsCell cb y0) (la : env.locals < ca) (lb : env.locals < cb) (hab : ca ≠ cb)
    (h : ∀ s', Fm g₀ s₀ env.locals l s' → s'.heap.IsCell ca (some u) → s'.heap.IsCell cb (some v) → Q () s')
    (hk : env.scope.kind = .function := by rfl) (ha : env.kindOf a = some .cell := by rfl) (hb : env.kindOf b = some .cell := by rfl) :
    wpAny (model prog w) A (assign (.Tuple [.Name a pa, .Name b pb] k pos) env (.ref T)) Q E s := by
  refine wpAny_assign_Tuple hh hT rfl rfl fun h' hx => ?_
  have hk' : ∀ b o, s.heap.get? b = some o → h'.get? b = some o := fun b o e => hx b o (Nat.ne_of_lt (Heap.lt_size e)) e
  have F₁ := F.call ((Grow.refl F.grow.ok).to hk')
  show wpAny _ A (do holding [v] (assign (.Name a pa) env u); do holding [] (assign (.Name b pb) env v); pure ()) _ _ _
  refine wpAny_bind (wpAny_holding (wpAny_assign_Name (st_cell F₁ hca (hva.keeps hk') la (fun s₂ F₂ c₂ k₂ => ?_) hk ha)))
  have hb₂ : s₂.heap.IsCell cb y0 := by
    obtain ⟨o, e, d⟩ := hvb
    exact ⟨o, (k₂ cb hab.symm).trans (hk' _ _ e), d⟩
  refine wpAny_bind (wpAny_holding (wpAny_assign_Name (st_cell F₂ hcb hb₂ lb (fun s₃ F₃ c₃ k₃ => wpAny_pure (h s₃ F₃ ?_ c₃)) hk hb)))
  obtain ⟨o, e, d⟩ := c₂
  exact ⟨o, (k₃ ca hab).trans e, d⟩
end
end Mine

end
section
set_option maxRecDepth 100000
namespace Mine
section
variable {prog : Program} {w : World} {A : Around} {s : Shared} {g₀ : Heap} {mg mb : Str → Option Value} {R : Result → Shared → Prop}

def parted (P : Nat → Bool) (is : List Nat) : List Nat := (is.filter fun i => !P i) ++ is.filter P

theorem parted_length (P : Nat → Bool) (is : List Nat) : (parted P is).length = is.length := by
  unfold parted
  rw [List.length_append]
  induction is with
  | nil => rfl
  | cons i is ih => cases h : P i <;> simp [h] <;> omega

theorem c_lsplit (G : Gd w mg mb g₀) (O : Ok g₀ s.heap) {n : Nat} (hr : Rm A (n + 2)) {l p : Addr} {val : Nat → Value} {is : List Nat} {P : Nat → Bool} {po : Obj} {pfd : FuncData}
    (hl : s.heap.IsList l (is.map val).toArray) (hp : s.heap.get? p = some po) (hpd : po.data = .func pfd) (hlen : is.length ≤ 64) (ask : Asks prog w g₀ n p val is P s)
    (k : ∀ s' D, Grow g₀ s s' → s.heap.objs.size ≤ D → s'.heap.IsList D ((parted P is).map val).toArray → R (.ok (.ret (.ref D))) s') :
    codeAny (model prog w) A (.call (.ref 138) ⟨[.ref l, .ref p], []⟩) R s := by
  refine enter (binds := [(Str.ofString "row", .ref l), (Str.ofString "ask", .ref p)]) G O hr.room rfl rfl rfl rfl rfl (by decide) (locs rfl) rfl rfl rfl fun E s₁ L F => ?_
  refine wpAny_execs_cons (Assign_Tuple (Call_ (ev_glo G F.grow.ok rfl (cl_own G rfl rfl (args_cons (ev_loc F rfl (args_cons (ev_loc F rfl (args_nil ⟨F.grow.ok, wpAny_call ?_⟩)))))))))
  refine c_split G F.grow.ok hr.deeper (F.grow.keep.list hl) (F.grow.keep.get hp fun ps q => by rw [q] at hpd; cases hpd) hpd hlen (fun i hi A' s' R' hA' hg hk => ask i hi A' s' R' hA' (F.grow.trans hg) hk) fun s₂ T Y N g₂ _ _ hT hY hN => ?_
  have F₂ := F.call g₂
  refine as_pair (show A.handled = none from hr.hand) F₂ hT fun s₃ F₃ k₃ => ?_
  have hYL : Y ≠ L := fun q => by
    obtain ⟨m, ⟨o, es, ep, e, d, _⟩, _⟩ := F₂.ns
    obtain ⟨o', n', e', _, _, d'⟩ := hY
    rw [q, e] at e'; cases e'; rw [d] at d'; cases d'
  have hNL : N ≠ L := fun q => by
    obtain ⟨m, ⟨o, es, ep, e, d, _⟩, _⟩ := F₂.ns
    obtain ⟨o', n', e', _, _, d'⟩ := hN
    rw [q, e] at e'; cases e'; rw [d] at d'; cases d'
  have hY₃ : s₃.heap.IsList Y ((is.filter P).map val).toArray := let ⟨o, n', e, c, _, d⟩ := hY; ⟨o, k₃ _ _ hYL e, c, n', d⟩
  have hN₃ : s₃.heap.IsList N ((is.filter fun i => !P i).map val).toArray := let ⟨o, n', e, c, _, d⟩ := hN; ⟨o, k₃ _ _ hNL e, c, n', d⟩
  refine wpAny_execs_cons (wpAny_Return_some (wpAny_BinOp (ev_loc F₃ rfl (ev_loc F₃ rfl (add_ll hN₃ hY₃ ?_ ?_)))))
  · refine k _ _ (F₃.push _).grow (Nat.le_trans F₃.above (Nat.le_of_lt F₃.lt)) ?_
    rw [parted, List.map_append]
    exact ⟨_, Heap.get?_push_size _ rfl, rfl, _, rfl⟩
  · have := parted_length P is
    unfold parted at this
    rw [List.length_append] at this
    simp only [List.length_map]
    omega

/-- the records: place, mode, rights, signs -/
def Recs (h : Heap) (val : Nat → Value) (n : Nat) (md : Nat → Int) (fm : Nat → Str) : Prop :=
  ∀ i, i < n → ∃ a t0 t1 t2 t3, val i = .ref a ∧ IsTup h a #[.int i t0, .int (md i) t1, .int (Builtin.bitAnd (md i) 4095) t2, .str (fm i) t3]
theorem Recs.keep {h h' : Heap} {val : Nat → Value} {n : Nat} {md : Nat → Int} {fm : Nat → Str} (x : Recs h val n md fm) (k : Keep h h') : Recs h' val n md fm :=
  fun i hi => let ⟨a, t0, t1, t2, t3, e, r⟩ := x i hi; ⟨a, t0, t1, t2, t3, e, k.isTup r⟩

def im (md : Nat → Int) (i : Nat) : Int := Builtin.bitAnd (md i) 4095
def right (k : Int) : Int := 2 ^ (k - 1).toNat
def above (k : Int) : Int := 2 ^ (9 + k.fdiv 3).toNat
def qR (md : Nat → Int) (k : Int) (i : Nat) : Bool := Builtin.bitAnd (im md i) (right k) != 0
def qU (md : Nat → Int) (k : Int) (i : Nat) : Bool := (Builtin.bitAnd (im md i) (right k) == 0) != (Builtin.bitAnd (im md i) (above k) == 0)
def laid (md : Nat → Int) (k : Int) (is : List Nat) : List Nat := parted (qR md k) (if k.fmod 3 = 1 then parted (qU md k) is else is)

theorem parted_mem {P : Nat → Bool} {is : List Nat} {i : Nat} (h : i ∈ parted P is) : i ∈ is := by
  unfold parted at h
  rcases List.mem_append.mp h with h | h <;> exact (List.mem_filter.mp h).1

theorem c_laid (G : Gd w mg mb g₀) (O : Ok g₀ s.heap) (hr : Rm A 5) {l : Addr} {val : Nat → Value} {is : List Nat} {n : Nat} {md : Nat → Int} {fm : Nat → Str} {k : Int} {t : Tok} (h1 : 1 ≤ k) (h9 : k ≤ 9)
    (hl : s.heap.IsList l (is.map val).toArray) (hlen : is.length ≤ 64) (hrec : Recs s.heap val n md fm) (his : ∀ i ∈ is, i < n)
    (kk : ∀ s' D, Grow g₀ s s' → s.heap.objs.size ≤ D → s'.heap.IsList D ((laid md k is).map val).toArray → R (.ok (.ret (.ref D))) s') :
    codeAny (model prog w) A (.call (.ref 150) ⟨[.ref l, .int k t], []⟩) R s := by
  refine enterC (binds := [(Str.ofString "row", .ref l), (Str.ofString "k", .int k t)]) (l := [(Str.ofString "row", .ref l), (Str.ofString "k", .int k t)]) G O hr.room rfl rfl rfl rfl rfl rfl rfl
    (List.forall_mem_cons.mpr ⟨rfl, List.forall_mem_cons.mpr ⟨rfl, List.forall_mem_nil _⟩⟩) rfl rfl rfl fun E s₁ L F hc => ?_
  have hA : s₁.heap.IsCell (L + 1) none := hc (Str.ofString "above") (L + 1) rfl
  have hR : s₁.heap.IsCell (L + 1 + 1) none := hc (Str.ofString "right") (L + 1 + 1) rfl
  clear hc
  refine wpAny_execs_cons (wpAny_If (wpAny_isTrue_Compare1 (ev_loc F rfl (wpAny_Constant_int (eq_int (wpAny_truthy_bool ?_))))))
  rw [show (k == 10) = false from by simp; omega, if_neg (by decide)]
  refine wpAny_execs_nil ?_
  refine wpAny_execs_cons (Assign_Tuple (Tuple_ (args_cons (wpAny_BinOp (wpAny_Constant_int (wpAny_BinOp (ev_loc (F.toks _) rfl (wpAny_Constant_int (sub_int ?_)))))))))
  have hb2 : (Builtin.Int.intBits 2 : Int) = 2 := by decide
  have hf : k.fdiv 3 = k / 3 := Int.fdiv_eq_ediv_of_nonneg k (by decide)
  refine pow_int (by omega) (by rw [hb2]; omega) ?_
  refine args_cons (wpAny_BinOp (wpAny_Constant_int (wpAny_BinOp (wpAny_Constant_int (wpAny_BinOp (ev_loc (F.toks _) rfl (wpAny_Constant_int (floordiv_int (by decide) (add_int ?_)))))))))
  refine pow_int (by omega) (by rw [hb2]; omega) (args_nil (wpAny_newTuple ?_))
  have hL1 : L < L + 1 := Nat.lt_succ_self L
  have hL2 : L < L + 1 + 1 := Nat.lt_succ_of_lt hL1
  refine as_pairC (ca := L + 1 + 1) (cb := L + 1) (show A.handled = none from hr.hand) ((F.toks _).push _) ⟨_, Heap.get?_push_size _ rfl, rfl, _, rfl⟩ rfl rfl
    (hR.keeps fun _ _ e => Heap.get?_push_of_some _ e) (hA.keeps fun _ _ e => Heap.get?_push_of_some _ e) hL2 hL1 (Nat.ne_of_gt (Nat.lt_succ_self _)) fun s₂ F₂ hR₂ hA₂ => ?_
  have hL₂ : s₂.heap.IsList l (is.map val).toArray := F₂.grow.keep.list hl
  refine wpAny_execs_cons (wpAny_If (wpAny_isTrue_Compare1 (wpAny_BinOp (ev_loc F₂ rfl (wpAny_Constant_int (mod_int' (by decide) (wpAny_Constant_int (eq_int (wpAny_truthy_bool ?_)))))))))
  by_cases hm : k.fmod 3 = 1
  · rw [show (k.fmod 3 == 1) = true from by simp [hm], if_pos rfl]
    refine wpAny_execs_cons (wpAny_Assign_Name (Call_ (ev_glo G F₂.grow.ok rfl (cl_own G rfl rfl (args_cons (ev_loc ((F₂.toks _).toks _) rfl (args_cons (ev_lam G F₂.grow.ok G.c2 mem_laid (fun f s₃ g₃ hsz hlam => args_nil ⟨g₃.ok, wpAny_call ?_⟩) rfl rfl))))))))
    have F₃ := (((F₂.toks _).toks _).toks _).call g₃
    have hlam' := hlam
    obtain ⟨pm, cv, ctv, hfo, _⟩ := hlam'
    refine c_lsplit (P := qU md k) (n := 2) G g₃.ok hr.deeper (F₃.grow.keep.list hl) hfo rfl hlen (fun i hi A' s' R' hA' hg hk => ?_) fun s₄ D g₄ _ hD => ?_
    · obtain ⟨a, t0, t1, t2, t3, ev, ht⟩ := hrec i (his i hi)
      rw [ev]
      refine call_lam (binds := [(Str.ofString "one", .ref a)]) G hg.ok hA'.room (hg.keep.lam hlam) (fun _ _ _ => rfl) (by decide) (locs rfl) rfl rfl rfl fun E' s₅ L' cv' F₅ => ?_
      have ht₅ : IsTup s₅.heap a _ := (F₃.grow.keep.trans (hg.keep.trans F₅.grow.keep)).isTup ht
      have hR₅ := (g₃.keep.trans (hg.keep.trans F₅.grow.keep)).cell hR₂
      have hA₅ := (g₃.keep.trans (hg.keep.trans F₅.grow.keep)).cell hA₂
      refine wpAny_Compare1 <| wpAny_Compare1 <| wpAny_BinOp <| Subscript_ <| ev_loc F₅ rfl <| wpAny_Constant_int <| item_tuple ht₅ (by decide) (by decide) rfl rfl <| ev_free rfl hR₅ <| and_int <| wpAny_Constant_int <| eq_int ?_
      refine wpAny_Compare1 <| wpAny_BinOp <| Subscript_ <| ev_loc (F₅.toks _) rfl <| wpAny_Constant_int <| item_tuple ht₅ (by decide) (by decide) rfl rfl <| ev_free rfl hA₅ <| and_int <| wpAny_Constant_int <| eq_int <| ne_bool ?_
      exact hk _ _ (F₅.toks _).grow (.inl rfl)
    refine st_loc (F₃.call g₄) fun s₅ F₅ k₅ _ => wpAny_execs_nil ?_
    have hD₅ := list_same hD k₅ ((F₃.call g₄).ne_list hD)
    have hlen₅ : (parted (qU md k) is).length ≤ 64 := by rw [parted_length]; exact hlen
    have hsub : ∀ i ∈ parted (qU md k) is, i ∈ is := fun i hi => parted_mem hi
    have hR₅ := cell_same ((g₃.keep.trans g₄.keep).cell hR₂) k₅ (Nat.ne_of_gt hL2)
    have hlaid : (if k.fmod 3 = 1 then parted (qU md k) is else is) = parted (qU md k) is := if_pos hm
    refine wpAny_execs_cons <| wpAny_Return_some <| Call_ <| ev_glo G F₅.grow.ok rfl <| cl_own G rfl rfl <| args_cons <| ev_loc F₅ rfl <| args_cons <| ev_lam G F₅.grow.ok G.c2 mem_laid (fun f s₆ g₆ hsz hlam => args_nil ⟨g₆.ok, wpAny_call ?_⟩) rfl rfl
    have F₆ := F₅.call g₆
    have hlam' := hlam
    obtain ⟨pm, cv, ctv, hfo, _⟩ := hlam'
    refine c_lsplit (P := qR md k) (n := 2) G g₆.ok hr.deeper (g₆.keep.list hD₅) hfo rfl hlen₅ (fun i hi A' s' R' hA' hg hk => ?_) fun s₇ D' g₇ hz₇ hD' => ?_
    · obtain ⟨a, t0, t1, t2, t3, ev, ht⟩ := hrec i (his i (hsub i hi))
      rw [ev]
      refine call_lam (binds := [(Str.ofString "one", .ref a)]) G hg.ok hA'.room (hg.keep.lam hlam) (fun _ _ _ => rfl) (by decide) (locs rfl) rfl rfl rfl fun E' s₈ L' cv' F₈ => ?_
      have ht₈ : IsTup s₈.heap a _ := (F₆.grow.keep.trans (hg.keep.trans F₈.grow.keep)).isTup ht
      have hR₈ := (g₆.keep.trans (hg.keep.trans F₈.grow.keep)).cell hR₅
      refine wpAny_BinOp <| Subscript_ <| ev_loc F₈ rfl <| wpAny_Constant_int <| item_tuple ht₈ (by decide) (by decide) rfl rfl <| ev_free rfl hR₈ <| and_int ?_
      exact hk _ _ (F₈.toks _).grow (.inr ⟨_, _, rfl, rfl⟩)
    · refine kk _ _ (F₆.call g₇).grow (Nat.le_trans (Nat.le_trans F₆.above (Nat.le_of_lt F₆.lt)) hz₇) ?_
      rw [laid, hlaid]
      exact hD'
  · rw [show (k.fmod 3 == 1) = false from by simp [hm], if_neg (by decide)]
    have F₅ := F₂.toks (s₂.toks + 1 + 1 + 1)
    have hD₅ := hL₂
    have hlen₅ := hlen
    have hsub : ∀ i ∈ is, i ∈ is := fun i hi => hi
    have hR₅ := hR₂
    have hlaid : (if k.fmod 3 = 1 then parted (qU md k) is else is) = is := if_neg hm
    refine wpAny_execs_nil ?_
    refine wpAny_execs_cons <| wpAny_Return_some <| Call_ <| ev_glo G F₅.grow.ok rfl <| cl_own G rfl rfl <| args_cons <| ev_loc F₅ rfl <| args_cons <| ev_lam G F₅.grow.ok G.c2 mem_laid (fun f s₆ g₆ hsz hlam => args_nil ⟨g₆.ok, wpAny_call ?_⟩) rfl rfl
    have F₆ := F₅.call g₆
    have hlam' := hlam
    obtain ⟨pm, cv, ctv, hfo, _⟩ := hlam'
    refine c_lsplit (P := qR md k) (n := 2) G g₆.ok hr.deeper (g₆.keep.list hD₅) hfo rfl hlen₅ (fun i hi A' s' R' hA' hg hk => ?_) fun s₇ D' g₇ hz₇ hD' => ?_
    · obtain ⟨a, t0, t1, t2, t3, ev, ht⟩ := hrec i (his i (hsub i hi))
      rw [ev]
      refine call_lam (binds := [(Str.ofString "one", .ref a)]) G hg.ok hA'.room (hg.keep.lam hlam) (fun _ _ _ => rfl) (by decide) (locs rfl) rfl rfl rfl fun E' s₈ L' cv' F₈ => ?_
      have ht₈ : IsTup s₈.heap a _ := (F₆.grow.keep.trans (hg.keep.trans F₈.grow.keep)).isTup ht
      have hR₈ := (g₆.keep.trans (hg.keep.trans F₈.grow.keep)).cell hR₅
      refine wpAny_BinOp <| Subscript_ <| ev_loc F₈ rfl <| wpAny_Constant_int <| item_tuple ht₈ (by decide) (by decide) rfl rfl <| ev_free rfl hR₈ <| and_int ?_
      exact hk _ _ (F₈.toks _).grow (.inr ⟨_, _, rfl, rfl⟩)
    · refine kk _ _ (F₆.call g₇).grow (Nat.le_trans (Nat.le_trans F₆.above (Nat.le_of_lt F₆.lt)) hz₇) ?_
      rw [laid, hlaid]
      exact hD'
end
end Mine

end
section
set_option maxRecDepth 100000
namespace Mine
section
variable {prog : Program} {w : World} {A : Around} {E : Value → Shared → Prop} {s s₀ : Shared} {g₀ : Heap} {env : Env} {l : List (Str × Value)} {mg mb : Str → Option Value}

/-- what is known of the names of a frame further out -/
def Ns2 (h : Heap) (L : Addr) (l : List (Str × Value)) : Prop := ∃ m, h.Ns L m ∧ ∀ y v, l.lookup y = some v → m y = some v
theorem Ns2.keep {h h' : Heap} {L : Addr} {l : List (Str × Value)} (x : Ns2 h L l) (k : Keep h h') : Ns2 h' L l := let ⟨m, n, r⟩ := x; ⟨m, k.ns n, r⟩
theorem Ns2.ext {h h' : Heap} {L a : Addr} {l : List (Str × Value)} (x : Ns2 h L l) (k : Heap.ExtBut a h h') (ne : L ≠ a) : Ns2 h' L l := let ⟨m, n, r⟩ := x; ⟨m, n.extBut k ne, r⟩
theorem Ns2.same {h h' : Heap} {L a : Addr} {l : List (Str × Value)} (x : Ns2 h L l) (k : ∀ b, b ≠ a → h'.get? b = h.get? b) (ne : L ≠ a) : Ns2 h' L l :=
  let ⟨m, ⟨o, es, ep, e, d⟩, r⟩ := x; ⟨m, ⟨o, es, ep, (k L ne).trans e, d⟩, r⟩
theorem Ns2.ne_list {h : Heap} {L a : Addr} {l : List (Str × Value)} {xs : Array Value} (x : Ns2 h L l) (y : h.IsList a xs) : a ≠ L := fun q => by
  obtain ⟨m, ⟨o, es, ep, e, d, _⟩, _⟩ := x
  obtain ⟨o', e', _, n', d'⟩ := y
  rw [q, e] at e'; cases e'; rw [d] at d'; cases d'
theorem Ns2.fm {s₁ : Shared} {L C : Addr} {l l' : List (Str × Value)} (x : Ns2 s₁.heap L l) (F : Fm g₀ s₀ C l' s₁) (ha : s₀.heap.objs.size ≤ L) : Fm g₀ s₀ L l s₁ := ⟨F.grow, F.ok₀, ha, x⟩

theorem ev_comp {elt target iter : Expr} {rest : List Comprehension} {scope : Scope} {cl : List (Str × Addr)} {pos : Pos} {Q : Value → Shared → Prop}
    (hclos : closureFor scope env = pure cl) (hcell : ∀ y ∈ scope.names, y.2 ≠ .cell) (hkind : scope.kind = .function)
    (hnames : ∀ y ∈ scope.names, y.2 = .local → scope.names.lookup y.1 = some .local)
    (h : wpAny (model prog w) A (eval iter env) (fun x s₁ => wpAny (model prog w) A (pyIter x) (fun it s₂ => ∃ l, Fm g₀ s₀ env.locals l s₂ ∧
      ∀ s₃, Fm g₀ s₀ (s₂.heap.objs.size + 1) [] s₃ → Ns2 s₃.heap env.locals l → PlainL s₃.heap s₂.heap.objs.size #[] → (∀ b o, s₂.heap.get? b = some o → s₃.heap.get? b = some o) →
        (∀ (Q' : Value → Shared → Prop) E', Q' it s₃ → wpAny (model prog w) A (pyIter it) Q' E' s₃) ∧
        codeAny (model prog w) A (.compLoop (.ListComp elt (⟨target, iter, [], 0⟩ :: rest) scope pos) 0 it (.ref s₂.heap.objs.size) (compEnvC scope cl (s₂.heap.objs.size + 1) env))
          (fun r s' => r = .ok .next ∧ (∃ m, s'.heap.Ns (s₂.heap.objs.size + 1) m) ∧ ∀ h', Heap.SameBut (s₂.heap.objs.size + 1) s'.heap h' → Q (.ref s₂.heap.objs.size) { s' with heap := h' }) s₃) E s₁) E s)
    (hs : ∀ x, foldedSetIterable iter env x = pure x := by intro _; rfl) :
    wpAny (model prog w) A (eval (.ListComp elt (⟨target, iter, [], 0⟩ :: rest) scope pos) env) Q E s := by
  rw [eval_ListComp]
  refine wpAny_comprehension_free (use := none) rfl hs hclos hkind hnames (wpAny_mono h (fun x s₁ h₁ => wpAny_mono h₁ (fun it s₂ h₂ => ?_) fun _ _ e => e) fun _ _ e => e)
  obtain ⟨l, F₀, h₂⟩ := h₂
  refine wpAny_newObj_type (wpAny_newFunctionEnv hcell (by intro y hy; simp at hy) (fun h₁ hns₁ hsb₁ => ?_) hkind)
  dsimp only at hns₁ hsb₁ ⊢
  have hz : (s₂.heap.push { cls := .type "list", data := .seq ([] : List Value).toArray }).objs.size = s₂.heap.objs.size + 1 := Heap.size_push ..
  have kp : ∀ b o, (s₂.heap.push { cls := .type "list", data := .seq ([] : List Value).toArray }).get? b = some o → h₁.get? b = some o := fun b o e =>
    hsb₁.extBut b o (Nat.ne_of_lt (Heap.lt_size e)) (Heap.get?_push_of_some _ e)
  have k₁ : ∀ b o, s₂.heap.get? b = some o → h₁.get? b = some o := fun b o e => kp b o (Heap.get?_push_of_some _ e)
  rw [hz] at hns₁
  have G₁ : Grow g₀ s₂ { s₂ with heap := h₁, toks := s₂.toks + ([] : List (Str × Value)).length } := ((Grow.refl F₀.grow.ok).to k₁).toks _
  have F : Fm g₀ s₀ (s₂.heap.objs.size + 1) [] { s₂ with heap := h₁, toks := s₂.toks + ([] : List (Str × Value)).length } :=
    ⟨F₀.grow.trans G₁, F₀.ok₀, Nat.le_trans F₀.above (Nat.le_trans (Nat.le_of_lt F₀.lt) (Nat.le_succ _)), _, hns₁, fun _ _ e => by cases e⟩
  obtain ⟨hit, hl⟩ := h₂ _ F (F₀.call G₁).ns ⟨_, _, kp _ _ (Heap.get?_push_size _ rfl), rfl, rfl, rfl⟩ k₁
  have hl' := codeAny_mono hl (R' := compPost (model prog w) A E none Q (.ref s₂.heap.objs.size) (s₂.heap.objs.size + 1)) fun r s' hr => by
    obtain ⟨rfl, ⟨m, hm⟩, hq⟩ := hr
    exact ⟨m, hm, hq⟩
  rw [hz]
  exact codeAny_compStart_list hl' (hit _ _ hl')

theorem it_list {value slice : Expr} {a : Addr} {xs : Array Value} {k : Int} {u : Tok} {x : Value} {Q : Value → Shared → Prop} (hl : s.heap.IsList a xs) (h0 : 0 ≤ k) (hk : k < 2 ^ 63) (hx : xs[k.toNat]? = some x) (h : Q x s)
    (hs : subscripted slice false (.ref a) (.int k u) = operate [.ref a, .int k u] (getItem (.ref a) (.int k u)) := by with_unfolding_all rfl) :
    wpAny (model prog w) A (subscriptTail value slice (.ref a) (.int k u)) Q E s := tail_any hl.typeIs slot_list_getitem.lookup (wpAny_getItem_list hl h0 hk hx h) hs

theorem ep_int {i : Int} {k : Nat} {pos : Pos} {Q : Value → Shared → Prop} (h : Q (.int i s.toks) { s with toks := s.toks + 1 }) : wpAny (model prog w) A (evalPart (some (.Constant (.int i) k pos)) env) Q E s := wpAny_Constant_int (k := k) (pos := pos) h
theorem ep_some {e : Expr} {Q : Value → Shared → Prop} (h : wpAny (model prog w) A (eval e env) Q E s) : wpAny (model prog w) A (evalPart (some e) env) Q E s := h
theorem ep_none {Q : Value → Shared → Prop} (h : Q .none s) : wpAny (model prog w) A (evalPart none env) Q E s := wpAny_pure h

theorem compTurn_two0 (elt t0 i0 t1 i1 : Expr) (scope : Scope) (pos : Pos) (it acc : Value) (env : Env) :
    compTurn (.ListComp elt [⟨t0, i0, [], 0⟩, ⟨t1, i1, [], 0⟩] scope pos) 0 it acc env = (standAt i0.pos >>= fun _ => pyNext it >>= fun r => match r with
      | none => pure (.done .next)
      | some v => letOwnedTupleGo t0 it v >>= fun _ => assign t0 env v >>= fun _ =>
        eval i1 env >>= fun x => standAt i1.pos >>= fun _ => foldedSetIterable i1 env x >>= fun x => holding [x] (pyIter x) >>= fun it' =>
          runOwn (.compStart (.ListComp elt [⟨t0, i0, [], 0⟩, ⟨t1, i1, [], 0⟩] scope pos) 1 it' acc env) env >>= fun _ =>
          again (.compLoop (.ListComp elt [⟨t0, i0, [], 0⟩, ⟨t1, i1, [], 0⟩] scope pos) 0 it acc env)) := by rfl
theorem compTurn_two1 (elt t0 i0 t1 i1 : Expr) (scope : Scope) (pos : Pos) (it acc : Value) (env : Env) :
    compTurn (.ListComp elt [⟨t0, i0, [], 0⟩, ⟨t1, i1, [], 0⟩] scope pos) 1 it acc env = (standAt i1.pos >>= fun _ => pyNext it >>= fun r => match r with
      | none => pure (.done .next)
      | some v => letOwnedTupleGo t1 it v >>= fun _ => assign t1 env v >>= fun _ =>
        (eval elt env >>= fun x => call (.builtin "list.append") [acc, x] >>= fun _ => pure ()) >>= fun _ =>
          again (.compLoop (.ListComp elt [⟨t0, i0, [], 0⟩, ⟨t1, i1, [], 0⟩] scope pos) 1 it acc env)) := by rfl

theorem comp_two0 {elt t0 i0 t1 i1 : Expr} {scope : Scope} {pos : Pos} {it acc : Value} {env : Env} {R : Result → Shared → Prop} (I : Nat → Shared → Prop)
    (turn : ∀ n s, I n s → wpAny (model prog w) A (pyNext it) (fun r s₁ => match r with
      | none => R (.ok .next) s₁
      | some v => wpAny (model prog w) A (assign t0 env v) (fun _ s₂ => wpAny (model prog w) A (eval i1 env) (fun x s₃ =>
          wpAny (model prog w) A (pyIter x) (fun it' s₄ => codeAny (model prog w) A (.compStart (.ListComp elt [⟨t0, i0, [], 0⟩, ⟨t1, i1, [], 0⟩] scope pos) 1 it' acc env) (fun r s₅ => r = .ok .next ∧ ∃ m, m < n ∧ I m s₅) s₄) (fun _ _ => False) s₃) (fun _ _ => False) s₂) (fun _ _ => False) s₁) (fun _ _ => False) s)
    (n : Nat) (h : I n s) (ht : ∀ v, letOwnedTupleGo t0 it v = pure ()) (hs : ∀ x, foldedSetIterable i1 env x = pure x) :
    codeAny (model prog w) A (.compLoop (.ListComp elt [⟨t0, i0, [], 0⟩, ⟨t1, i1, [], 0⟩] scope pos) 0 it acc env) R s := by
  refine codeAny_loop rfl I (fun n s hI => ?_) n h
  show wpAny _ _ ((compTurn (.ListComp elt [⟨t0, i0, [], 0⟩, ⟨t1, i1, [], 0⟩] scope pos) 0 it acc env).onRaise (fun x => do noteFrame x env; theTreesLotGoes x)) _ _ s
  refine wpAny_noted ?_
  rw [compTurn_two0]
  refine wpAny_bind (wpAny_standAt (wpAny_bind (wpAny_mono (turn n s hI) (fun r s₁ h₁ => ?_) fun _ _ f => f.elim)))
  cases r with
  | none => exact wpAny_pure h₁
  | some v =>
    refine wpAny_bind (wpAny_of_eq (ht v) ?_)
    refine wpAny_bind (wpAny_mono h₁ (fun _ s₂ h₂ => wpAny_bind (wpAny_mono h₂ (fun x s₃ h₃ => ?_) fun _ _ f => f.elim)) fun _ _ f => f.elim)
    refine wpAny_bind (wpAny_standAt (wpAny_bind (wpAny_of_eq (hs x) (wpAny_bind (wpAny_holding (wpAny_mono h₃ (fun it' s₄ h₄ => ?_) fun _ _ f => f.elim))))))
    refine wpAny_bind (wpAny_runOwn (codeAny_mono h₄ fun r s₅ h₅ => ?_))
    obtain ⟨rfl, h₅⟩ := h₅
    exact wpAny_pure ⟨rfl, h₅⟩

theorem comp_two1 {elt t0 i0 t1 i1 : Expr} {scope : Scope} {pos : Pos} {it acc : Value} {env : Env} {R : Result → Shared → Prop} (I : Nat → Shared → Prop)
    (turn : ∀ n s, I n s → wpAny (model prog w) A (pyNext it) (fun r s₁ => match r with
      | none => R (.ok .next) s₁
      | some v => wpAny (model prog w) A (assign t1 env v) (fun _ s₂ => wpAny (model prog w) A (eval elt env) (fun x s₃ =>
          wpAny (model prog w) A (call (.builtin "list.append") [acc, x]) (fun _ s₄ => ∃ m, m < n ∧ I m s₄) (fun _ _ => False) s₃) (fun _ _ => False) s₂) (fun _ _ => False) s₁) (fun _ _ => False) s)
    (n : Nat) (h : I n s) (ht : ∀ v, letOwnedTupleGo t1 it v = pure ()) (hit : ∀ (Q' : Value → Shared → Prop) E', Q' it s → wpAny (model prog w) A (pyIter it) Q' E' s) :
    codeAny (model prog w) A (.compStart (.ListComp elt [⟨t0, i0, [], 0⟩, ⟨t1, i1, [], 0⟩] scope pos) 1 it acc env) R s := by
  have h0 : codeAny (model prog w) A (.compLoop (.ListComp elt [⟨t0, i0, [], 0⟩, ⟨t1, i1, [], 0⟩] scope pos) 1 it acc env) R s := by
    refine codeAny_loop rfl I (fun n s hI => ?_) n h
    show wpAny _ _ ((compTurn (.ListComp elt [⟨t0, i0, [], 0⟩, ⟨t1, i1, [], 0⟩] scope pos) 1 it acc env).onRaise (fun x => do noteFrame x env; theTreesLotGoes x)) _ _ s
    refine wpAny_noted ?_
    rw [compTurn_two1]
    refine wpAny_bind (wpAny_standAt (wpAny_bind (wpAny_mono (turn n s hI) (fun r s₁ h₁ => ?_) fun _ _ f => f.elim)))
    cases r with
    | none => exact wpAny_pure h₁
    | some v =>
      refine wpAny_bind (wpAny_of_eq (ht v) ?_)
      exact wpAny_bind (wpAny_mono h₁ (fun _ s₂ h₂ => wpAny_bind (wpAny_bind (wpAny_mono h₂ (fun x s₃ h₃ => wpAny_bind (wpAny_mono h₃
        (fun _ s₄ h₄ => wpAny_pure (wpAny_pure ⟨rfl, h₄⟩)) fun _ _ f => f.elim)) fun _ _ f => f.elim))) fun _ _ f => f.elim)
  refine codeAny_of_tree ?_
  show wpAny _ _ ((compStart (.ListComp elt [⟨t0, i0, [], 0⟩, ⟨t1, i1, [], 0⟩] scope pos) 1 it acc env).onRaise (fun x => do noteFrame x env; standAt theWindowsPlace)) _ _ s
  refine wpAny_notedAt ?_
  unfold compStart
  show wpAny _ _ (ask >>= _) _ _ s
  refine wpAny_bind (wpAny_askSetting (wpAny_ite ?_))
  split
  · first
      | exact wpAny_bind (wpAny_pure (wpAny_pure (And.intro rfl h0)))
      | exact wpAny_pure (And.intro rfl h0)
  · refine wpAny_bind (wpAny_rule ?_)
    show wpAny _ _ (standAt i1.pos >>= _) _ _ s
    exact wpAny_bind (wpAny_standAt (wpAny_bind (hit _ _ (wpAny_pure (And.intro rfl h0)))))
end
end Mine

end
section
set_option maxRecDepth 100000
namespace Mine
section
variable {prog : Program} {w : World} {A : Around} {s : Shared} {g₀ : Heap} {mg mb : Str → Option Value} {R : Result → Shared → Prop}

def kf : List (Addr × Int) := [(63, 32768), (56, 24576), (49, 8192), (42, 16384), (77, 40960), (70, 4096), (84, 49152)]

theorem c_isk {p : Addr × Int} (hp : p ∈ kf) (G : Gd w mg mb g₀) (O : Ok g₀ s.heap) (hr : Rm A 2) {x : Int} {t : Tok} (k : ∀ s', Grow g₀ s s' → R (.ok (.ret (.bool (Builtin.bitAnd x 61440 == p.2)))) s') :
    codeAny (model prog w) A (.call (.ref p.1) ⟨[.int x t], []⟩) R s := by
  simp only [kf, List.mem_cons, List.not_mem_nil, or_false] at hp
  rcases hp with rfl | rfl | rfl | rfl | rfl | rfl | rfl <;>
  · refine enter (binds := [(Str.ofString "mode", .int x t)]) G O hr.room rfl rfl rfl rfl rfl (by decide) (locs rfl) rfl rfl rfl fun E s₁ L F => ?_
    refine wpAny_execs_cons <| wpAny_Return_some <| wpAny_Compare1 <| Call_ <| ev_glo G F.grow.ok rfl <| cl_own G rfl rfl <| args_cons <| ev_loc F rfl <| args_nil ⟨F.grow.ok, wpAny_call <| c_fmt G F.grow.ok hr.deeper fun s₂ u g => ?_⟩
    exact ev_glo G g.ok rfl (eq_int (k _ (F.grow.trans g)))

theorem kf_fn {p : Addr × Int} (hp : p ∈ kf) (G : Gd w mg mb g₀) : ∃ o fd, g₀.get? p.1 = some o ∧ o.data = .func fd := by
  simp only [kf, List.mem_cons, List.not_mem_nil, or_false] at hp
  rcases hp with rfl | rfl | rfl | rfl | rfl | rfl | rfl <;> exact ⟨_, _, G.X _ _ rfl, rfl⟩

def kq (md : Nat → Int) (c : Int) (i : Nat) : Bool := Builtin.bitAnd (md i) 61440 == c
def krest (md : Nat → Int) : List Int → List Nat → List Nat
  | [], is => is
  | c :: cs, is => krest md cs (is.filter fun i => !kq md c i)
def klots (md : Nat → Int) : List Int → List Nat → List (List Nat)
  | [], _ => []
  | c :: cs, is => is.filter (kq md c) :: klots md cs (is.filter fun i => !kq md c i)
theorem krest_snoc (md : Nat → Int) (c : Int) : ∀ (cs : List Int) (is : List Nat), krest md (cs ++ [c]) is = (krest md cs is).filter fun i => !kq md c i
  | [], _ => rfl
  | _ :: cs, _ => krest_snoc md c cs _
theorem klots_snoc (md : Nat → Int) (c : Int) : ∀ (cs : List Int) (is : List Nat), klots md (cs ++ [c]) is = klots md cs is ++ [(krest md cs is).filter (kq md c)]
  | [], _ => rfl
  | d :: cs, is => by
    show _ :: klots md (cs ++ [c]) _ = _
    rw [klots_snoc md c cs]; rfl
theorem klots_length (md : Nat → Int) : ∀ (cs : List Int) (is : List Nat), (klots md cs is).length = cs.length
  | [], _ => rfl
  | _ :: cs, _ => by rw [klots, List.length_cons, klots_length md cs, List.length_cons]
theorem krest_sub (md : Nat → Int) : ∀ (cs : List Int) (is : List Nat), (krest md cs is).Sublist is
  | [], _ => List.Sublist.refl _
  | _ :: cs, _ => (krest_sub md cs _).trans List.filter_sublist
theorem klots_sub (md : Nat → Int) : ∀ (cs : List Int) (is : List Nat), ∀ l ∈ klots md cs is, l.Sublist is
  | [], _, _, h => nomatch h
  | c :: cs, is, l, h => by
    rcases List.mem_cons.mp h with rfl | h
    · exact List.filter_sublist
    · exact (klots_sub md cs _ l h).trans List.filter_sublist

/-- lists of the heap -/
def ListsAre (h : Heap) (val : Nat → Value) : List Addr → List (List Nat) → Prop
  | [], [] => True
  | a :: as, l :: ls => h.IsList a (l.map val).toArray ∧ ListsAre h val as ls
  | _, _ => False
theorem ListsAre.mono {h h' : Heap} {val : Nat → Value} : ∀ {as : List Addr} {ls : List (List Nat)}, ListsAre h val as ls → (∀ a ∈ as, ∀ xs, h.IsList a xs → h'.IsList a xs) → ListsAre h' val as ls
  | [], [], _, _ => trivial
  | a :: _, _ :: _, x, k => ⟨k a (.head _) _ x.1, x.2.mono fun b hb => k b (.tail _ hb)⟩
theorem ListsAre.snoc {h : Heap} {val : Nat → Value} {a : Addr} {l : List Nat} (ha : h.IsList a (l.map val).toArray) : ∀ {as : List Addr} {ls : List (List Nat)}, ListsAre h val as ls → ListsAre h val (as ++ [a]) (ls ++ [l])
  | [], [], _ => ⟨ha, trivial⟩
  | _ :: _, _ :: _, x => ⟨x.1, x.2.snoc ha⟩
theorem ListsAre.length {h : Heap} {val : Nat → Value} : ∀ {as : List Addr} {ls : List (List Nat)}, ListsAre h val as ls → as.length = ls.length
  | [], [], _ => rfl
  | _ :: _, _ :: _, x => congrArg (· + 1) x.2.length
theorem ListsAre.mem {h : Heap} {val : Nat → Value} : ∀ {as : List Addr} {ls : List (List Nat)}, ListsAre h val as ls → ∀ a ∈ as, ∃ xs, h.IsList a xs
  | _ :: _, _ :: _, x, a, ha => by
    rcases List.mem_cons.mp ha with rfl | ha
    · exact ⟨_, x.1⟩
    · exact x.2.mem a ha

theorem Fm.push2 {s₀ : Shared} {L : Addr} {l : List (Str × Value)} (F : Fm g₀ s₀ L l s) (o1 o2 : Obj) : Fm g₀ s₀ L l { s with heap := (s.heap.push o1).push o2 } := (F.push o1).push o2
theorem list_ne_iter {h : Heap} {a I b : Addr} {i : Nat} {xs : Array Value} (x : h.IsList a xs) (y : h.IsListIter I b i) : a ≠ I := fun q => by
  obtain ⟨o, e, c, _⟩ := x
  obtain ⟨o', e', c', _⟩ := y
  rw [q, e'] at e; cases e; rw [c] at c'; injection c' with h; exact absurd h (by decide)
theorem list_ne_cell {h : Heap} {a I : Addr} {v : Option Value} {xs : Array Value} (x : h.IsList a xs) (y : h.IsCell I v) : a ≠ I := fun q => by
  obtain ⟨o, e, c, n, d⟩ := x
  obtain ⟨o', e', d'⟩ := y
  rw [q, e'] at e; cases e; rw [d] at d'; cases d'
theorem list_ext {h h' : Heap} {a L : Addr} {xs : Array Value} (x : h.IsList a xs) (k : Heap.ExtBut L h h') (ne : a ≠ L) : h'.IsList a xs :=
  let ⟨o, e, r⟩ := x; ⟨o, k a o ne e, r⟩

end
end Mine

end
section
set_option maxRecDepth 100000
namespace Mine
section
variable {prog : Program} {w : World} {A : Around} {s s₀ : Shared} {g₀ : Heap} {R : Result → Shared → Prop}

theorem ListsAre.get {h : Heap} {val : Nat → Value} : ∀ {as : List Addr} {ls : List (List Nat)}, ListsAre h val as ls → ∀ {j : Nat} {a : Addr}, as[j]? = some a → ∃ x, ls[j]? = some x ∧ h.IsList a (x.map val).toArray
  | _ :: _, _ :: _, x, 0, a, e => by cases e; exact ⟨_, rfl, x.1⟩
  | _ :: _, _ :: _, x, j + 1, a, e => x.2.get (j := j) (by simpa using e)
  | [], [], _, j, a, e => by simp at e

theorem iter_ne_ns {h : Heap} {I b L : Addr} {i : Nat} {l : List (Str × Value)} (x : Ns2 h L l) (y : h.IsListIter I b i) : L ≠ I := fun q => by
  obtain ⟨m, ⟨o, es, ep, e, d, _⟩, _⟩ := x
  obtain ⟨o', e', _, d'⟩ := y
  rw [q, e'] at e; cases e; rw [d] at d'; cases d'

theorem comp_flat {i0 : Expr} {scope : Scope} {pos p1 p2 p3 p4 : Pos} {cenv : Env} {It SL D L : Addr} {la : List Addr} {ls : List (List Nat)} {l : List (Str × Value)} {val : Nat → Value}
    (hh : A.handled = none) (hk : cenv.scope.kind = .function) (hlot : cenv.kindOf (Str.ofString "lot") = some .local) (hone : cenv.kindOf (Str.ofString "one") = some .local)
    (F : Fm g₀ s₀ cenv.locals [] s) (hit : s.heap.IsListIter It SL 0) (hsl : s.heap.IsList SL (la.map Value.ref).toArray) (hls : ListsAre s.heap val la ls) (hD : PlainL s.heap D #[])
    (hDs : s₀.heap.objs.size ≤ D) (hIs : s₀.heap.objs.size ≤ It) (hDne : ∀ a ∈ la, a ≠ D) (hSD : SL ≠ D) (outer : Ns2 s.heap L l) (hLC : L ≠ cenv.locals) (hsz : ls.flatten.length ≤ 900)
    (k : ∀ s', Fm g₀ s₀ cenv.locals [] s' → Ns2 s'.heap L l → PlainL s'.heap D (ls.flatten.map val).toArray → (∀ a xs, a ≠ D → s.heap.IsList a xs → s'.heap.IsList a xs) → R (.ok .next) s')
    (hs : ∀ x, foldedSetIterable (.Name (Str.ofString "lot") p4) cenv x = pure x) :
    codeAny (model prog w) A (.compLoop (.ListComp (.Name (Str.ofString "one") p1) [⟨.Name (Str.ofString "lot") p2, i0, [], 0⟩, ⟨.Name (Str.ofString "one") p3, .Name (Str.ofString "lot") p4, [], 0⟩] scope pos) 0 (.ref It) (.ref D) cenv) R s := by
  refine comp_two0 (fun nn s' => ∃ j, j ≤ la.length ∧ nn = la.length - j ∧ Fm g₀ s₀ cenv.locals [] s' ∧ Ns2 s'.heap L l ∧ s'.heap.IsListIter It SL j ∧
    PlainL s'.heap D (((ls.take j).flatten).map val).toArray ∧ ∀ a xs, a ≠ D → s.heap.IsList a xs → s'.heap.IsList a xs) ?_ la.length
    ⟨0, Nat.zero_le _, by omega, F, outer, hit, hD, fun _ _ _ x => x⟩ (fun _ => rfl) hs
  rintro nn s₁ ⟨j, hj, rfl, F₁, out₁, hit₁, hD₁, keep₁⟩
  have hsl₁ := keep₁ _ _ hSD hsl
  have hICne : cenv.locals ≠ It := iter_ne_ns F₁.ns hit₁
  cases hv : la[j]? with
  | none =>
    have hj' : j = la.length := by have := List.getElem?_eq_none_iff.mp hv; omega
    refine wpAny_pyNext_list_end hh hit₁ hsl₁ (by simp [hv]) fun h' he => ?_
    have F₂ := F₁.but hIs hICne he hit₁.choose_spec.1 (fun vs q t dd => by rw [hit₁.choose_spec.2.2] at dd; cases dd; simp)
    have htk : ls.take j = ls := List.take_of_length_le (by rw [← hls.length]; omega)
    rw [htk] at hD₁
    exact k _ F₂ (out₁.ext he (iter_ne_ns out₁ hit₁)) (hD₁.extBut he (list_ne_iter hD₁.isList hit₁)) fun a xs ne x => list_ext (keep₁ a xs ne x) he (list_ne_iter (keep₁ a xs ne x) hit₁)
  | some a =>
    have hlt : j < la.length := (List.getElem?_eq_some_iff.mp hv).1
    have ha : a ∈ la := List.mem_of_getElem? hv
    obtain ⟨x, hx, hax⟩ := hls.get hv
    refine wpAny_pyNext_list_item hit₁ hsl₁ (x := .ref a) (by simp [hv]) fun h' hit₂ hs' => ?_
    have F₂ := F₁.but hIs hICne hs'.extBut hit₁.choose_spec.1 (fun vs q t dd => by rw [hit₁.choose_spec.2.2] at dd; cases dd; simp)
    have out₂ := out₁.ext hs'.extBut (iter_ne_ns out₁ hit₁)
    have hD₂ := hD₁.extBut hs'.extBut (list_ne_iter hD₁.isList hit₁)
    have keep₂ : ∀ a xs, a ≠ D → s.heap.IsList a xs → h'.IsList a xs := fun a xs ne x => list_ext (keep₁ a xs ne x) hs'.extBut (list_ne_iter (keep₁ a xs ne x) hit₁)
    refine wpAny_assign_Name (st_loc F₂ (fun s₃ F₃ k₃ _ => ?_) hk hlot)
    have out₃ := out₂.same k₃ hLC
    have hD₃ : PlainL s₃.heap D (((ls.take j).flatten).map val).toArray := by
      have ne := F₂.ne_list hD₂.isList
      obtain ⟨o, n, e, r⟩ := hD₂
      exact ⟨o, n, (k₃ _ ne).trans e, r⟩
    have keep₃ : ∀ a xs, a ≠ D → s.heap.IsList a xs → s₃.heap.IsList a xs := fun a xs ne x => list_same (keep₂ a xs ne x) k₃ (F₂.ne_list (keep₂ a xs ne x))
    have hit₃ : s₃.heap.IsListIter It SL (j + 1) := by
      obtain ⟨o, e, r⟩ := hit₂
      exact ⟨o, (k₃ _ hICne.symm).trans e, r⟩
    have hax₃ := keep₃ a _ (hDne a ha) hax
    refine ev_loc F₃ rfl (wpAny_pyIter_list hax₃ ?_) hk hlot
    have F₄ := F₃.push { cls := .type "list_iterator", data := .fields #[.ref a, .int 0 0] }
    have up : ∀ b o, s₃.heap.get? b = some o → (s₃.heap.push { cls := .type "list_iterator", data := .fields #[.ref a, .int 0 0] }).get? b = some o := fun b o e => Heap.get?_push_of_some _ e
    have hit₄ : (s₃.heap.push { cls := .type "list_iterator", data := .fields #[.ref a, .int 0 0] }).IsListIter s₃.heap.objs.size a 0 := ⟨_, Heap.get?_push_size _ rfl, rfl, rfl⟩
    have hItlt : It < s₃.heap.objs.size := let ⟨_, e, _⟩ := hit₃; Heap.lt_size e
    have hJs : s₀.heap.objs.size ≤ s₃.heap.objs.size := Nat.le_trans F₃.above (Nat.le_of_lt F₃.lt)
    have hIt₄ : (s₃.heap.push { cls := .type "list_iterator", data := .fields #[.ref a, .int 0 0] }).IsListIter It SL (j + 1) := let ⟨o, e, r⟩ := hit₃; ⟨o, up _ _ e, r⟩
    generalize hJ : s₃.heap.objs.size = J at *
    have hxl : (ls.take j).flatten.length + x.length ≤ 900 := by
      have e : ls = ls.take j ++ x :: ls.drop (j + 1) := by
        have hlt' : j < ls.length := (List.getElem?_eq_some_iff.mp hx).1
        have e2 : ls[j] = x := (List.getElem?_eq_some_iff.mp hx).2
        conv => lhs; rw [← List.take_append_drop j ls]
        rw [List.drop_eq_getElem_cons hlt', e2]
      have e3 : ls.flatten.length = (ls.take j).flatten.length + (x.length + (ls.drop (j + 1)).flatten.length) := by
        conv => lhs; rw [e]
        rw [List.flatten_append, List.flatten_cons, List.length_append, List.length_append]
      omega
    refine comp_two1 (fun nn s' => ∃ i l₅, i ≤ x.length ∧ nn = x.length - i ∧ Fm g₀ s₀ cenv.locals l₅ s' ∧ Ns2 s'.heap L l ∧ s'.heap.IsListIter J a i ∧ s'.heap.IsListIter It SL (j + 1) ∧
      PlainL s'.heap D (((ls.take j).flatten ++ x.take i).map val).toArray ∧ ∀ a xs, a ≠ D → s.heap.IsList a xs → s'.heap.IsList a xs) ?_ x.length
      ⟨0, _, Nat.zero_le _, by omega, F₄, out₃.keep (.of up), hit₄, hIt₄, by simpa using hD₃.keeps up, fun a xs ne y => let ⟨o, e, r⟩ := keep₃ a xs ne y; ⟨o, up _ _ e, r⟩⟩
      (fun _ => rfl) (fun Q' E' hq => wpAny_pyIter_listiter hit₄ hq)
    rintro nn s₅ ⟨i, l₅, hi, rfl, F₅, out₅, hit₅, hIt₅, hD₅, keep₅⟩
    have hax₅ := keep₅ a _ (hDne a ha) hax
    have hJC : cenv.locals ≠ J := iter_ne_ns F₅.ns hit₅
    cases hy : x[i]? with
    | none =>
      have hi' : i = x.length := by have := List.getElem?_eq_none_iff.mp hy; omega
      refine wpAny_pyNext_list_end hh hit₅ hax₅ (by simp [hy]) fun h'' he => ⟨rfl, la.length - (j + 1), by omega, j + 1, by omega, rfl, ?_⟩
      have F₆ := F₅.but hJs hJC he hit₅.choose_spec.1 (fun vs q t dd => by rw [hit₅.choose_spec.2.2] at dd; cases dd; simp)
      have hItJ : It ≠ J := Nat.ne_of_lt hItlt
      refine ⟨F₆.sub (List.forall_mem_nil _), out₅.ext he (iter_ne_ns out₅ hit₅), hIt₅.extBut he hItJ, ?_, fun a xs ne z => list_ext (keep₅ a xs ne z) he (list_ne_iter (keep₅ a xs ne z) hit₅)⟩
      have hD₆ := hD₅.extBut he (list_ne_iter hD₅.isList hit₅)
      rw [hi', List.take_length] at hD₆
      rw [List.take_add_one, hx, List.flatten_append]
      simpa using hD₆
    | some y =>
      have hlt' : i < x.length := (List.getElem?_eq_some_iff.mp hy).1
      refine wpAny_pyNext_list_item hit₅ hax₅ (x := val y) (by simp [hy]) fun h'' hit₆ hs'' => ?_
      have F₆ := F₅.but hJs hJC hs''.extBut hit₅.choose_spec.1 (fun vs q t dd => by rw [hit₅.choose_spec.2.2] at dd; cases dd; simp)
      have hItJ : It ≠ J := Nat.ne_of_lt hItlt
      have out₆ := out₅.ext hs''.extBut (iter_ne_ns out₅ hit₅)
      have hD₆ := hD₅.extBut hs''.extBut (list_ne_iter hD₅.isList hit₅)
      have hIt₆ := hIt₅.extBut hs''.extBut hItJ
      have keep₆ : ∀ a xs, a ≠ D → s.heap.IsList a xs → h''.IsList a xs := fun a xs ne z => list_ext (keep₅ a xs ne z) hs''.extBut (list_ne_iter (keep₅ a xs ne z) hit₅)
      refine wpAny_assign_Name (st_loc F₆ (fun s₇ F₇ k₇ _ => ?_) hk hone)
      have ne7 := F₆.ne_list hD₆.isList
      have hD₇ : PlainL s₇.heap D (((ls.take j).flatten ++ x.take i).map val).toArray := by
        obtain ⟨o, n, e, r⟩ := hD₆
        exact ⟨o, n, (k₇ _ ne7).trans e, r⟩
      refine ev_loc F₇ rfl (list_append_plainL hD₇ (fun h₈ hD₈ hs₈ => ?_) ?_) hk hone
      · have hDl := hD₇.isList
        have hDJ : J ≠ D := (list_ne_iter hD₆.isList hit₆).symm
        have hDIt : It ≠ D := (list_ne_iter hD₆.isList hIt₆).symm
        refine ⟨x.length - (i + 1), by omega, i + 1, _, by omega, rfl, F₇.but hDs ne7.symm hs₈.extBut (PlainL.noCode hD₇).choose_spec.1 (PlainL.noCode hD₇).choose_spec.2, ?_, ?_, ?_, ?_, ?_⟩
        · exact (out₆.same k₇ hLC).ext hs₈.extBut ((out₆.same k₇ hLC).ne_list hDl).symm
        · obtain ⟨o, e, r⟩ := hit₆
          exact ⟨o, hs₈.extBut _ _ hDJ ((k₇ _ hJC.symm).trans e), r⟩
        · obtain ⟨o, e, r⟩ := hIt₆
          exact ⟨o, hs₈.extBut _ _ hDIt ((k₇ _ hICne.symm).trans e), r⟩
        · rw [List.take_add_one, hy]
          simpa using hD₈
        · exact fun a xs ne z => list_ext (list_same (keep₆ a xs ne z) k₇ (F₆.ne_list (keep₆ a xs ne z))) hs₈.extBut ne
      · simp only [List.size_toArray, List.length_map, List.length_append, List.length_take]
        rw [sizeLine_eq]; omega
end
end Mine

end
section
set_option maxRecDepth 100000
namespace Mine
section
variable {prog : Program} {w : World} {A : Around} {s : Shared} {g₀ : Heap} {mg mb : Str → Option Value} {R : Result → Shared → Prop}

def kcs : List Int := kf.map (·.2)
def kfs : List Value := kf.map fun p => .ref p.1
def byKind (md : Nat → Int) (is : List Nat) : List Nat := ((klots md kcs is).headD [] ++ krest md kcs is) ++ ((klots md kcs is).tail).flatten

theorem c_by_kind (G : Gd w mg mb g₀) (O : Ok g₀ s.heap) (hr : Rm A 6) {l : Addr} {val : Nat → Value} {is : List Nat} {n : Nat} {md : Nat → Int} {fm : Nat → Str}
    (hl : s.heap.IsList l (is.map val).toArray) (hlen : is.length ≤ 64) (hrec : Recs s.heap val n md fm) (his : ∀ i ∈ is, i < n)
    (kk : ∀ s' D, Grow g₀ s s' → s.heap.objs.size ≤ D → s'.heap.IsList D ((byKind md is).map val).toArray → R (.ok (.ret (.ref D))) s') :
    codeAny (model prog w) A (.call (.ref 143) ⟨[.ref l], []⟩) R s := by
  refine enterC (binds := [(Str.ofString "row", .ref l)]) (l := [(Str.ofString "row", .ref l)]) G O hr.room rfl rfl rfl rfl rfl rfl rfl
    (List.forall_mem_cons.mpr ⟨rfl, List.forall_mem_nil _⟩) rfl rfl rfl fun E s₁ L F hc => ?_
  have hA : s₁.heap.IsCell (L + 1) none := hc (Str.ofString "ask") (L + 1) rfl
  clear hc
  have hsL := F.above
  refine wpAny_execs_cons (wpAny_Assign_Name (List_ (args_nil (wpAny_newList (st_loc (F.push _) fun s₂ F₂ k₂ _ => ?_)))))
  have hLo : L < s₁.heap.objs.size := F.lt
  have hLo1 : L + 1 < s₁.heap.objs.size := hA.lt
  have hLo₂ : PlainL s₂.heap s₁.heap.objs.size #[] := ⟨_, _, (k₂ _ (Nat.ne_of_gt hLo)).trans (Heap.get?_push_size _ rfl), rfl, rfl, rfl⟩
  have hA₂ := cell_same (hA.keeps fun _ _ e => Heap.get?_push_of_some _ e) k₂ (Nat.ne_of_gt (Nat.lt_succ_self L))
  have hl₂ : s₂.heap.IsList l (is.map val).toArray := F₂.grow.keep.list hl
  have hlLo : l ≠ s₁.heap.objs.size := Nat.ne_of_lt (Nat.lt_of_lt_of_le (let ⟨_, e, _⟩ := hl; Heap.lt_size e) (Nat.le_trans hsL (Nat.le_of_lt hLo)))
  generalize s₁.heap.objs.size = Lo at *
  have hsLo : s.heap.objs.size ≤ Lo := Nat.le_trans hsL (Nat.le_of_lt hLo)
  refine wpAny_execs_cons <| wpAny_For <| List_ <| args_cons <| ev_glo G F₂.grow.ok rfl <| args_cons <| ev_glo G F₂.grow.ok rfl <| args_cons <| ev_glo G F₂.grow.ok rfl <| args_cons <| ev_glo G F₂.grow.ok rfl <|
    args_cons <| ev_glo G F₂.grow.ok rfl <| args_cons <| ev_glo G F₂.grow.ok rfl <| args_cons <| ev_glo G F₂.grow.ok rfl <| args_nil <| wpAny_newList ?_
  refine wpAny_pyIter_list (items := kfs.toArray) ⟨_, Heap.get?_push_size _ rfl, rfl, _, rfl⟩ ?_
  show codeAny _ _ (.forLoop _ (.ref (s₂.heap.push { cls := .type "list", data := .seq kfs.toArray }).objs.size) _ _ _) _
    { s₂ with heap := (s₂.heap.push { cls := .type "list", data := .seq kfs.toArray }).push { cls := .type "list_iterator", data := .fields #[.ref s₂.heap.objs.size, .int 0 0] } }
  have F₄ := F₂.push2 { cls := .type "list", data := .seq kfs.toArray } { cls := .type "list_iterator", data := .fields #[.ref s₂.heap.objs.size, .int 0 0] }
  have hit₄ : ((s₂.heap.push { cls := .type "list", data := .seq kfs.toArray }).push { cls := .type "list_iterator", data := .fields #[.ref s₂.heap.objs.size, .int 0 0] }).IsListIter (s₂.heap.push { cls := .type "list", data := .seq kfs.toArray }).objs.size s₂.heap.objs.size 0 :=
    ⟨_, Heap.get?_push_size _ rfl, rfl, rfl⟩
  have hfl₄ : ((s₂.heap.push { cls := .type "list", data := .seq kfs.toArray }).push { cls := .type "list_iterator", data := .fields #[.ref s₂.heap.objs.size, .int 0 0] }).IsList s₂.heap.objs.size kfs.toArray :=
    ⟨_, Heap.get?_push_of_some _ (Heap.get?_push_size _ rfl), rfl, _, rfl⟩
  have hLI : L < (s₂.heap.push { cls := .type "list", data := .seq kfs.toArray }).objs.size := (F₂.push _).lt
  have hflLo : s₂.heap.objs.size ≠ Lo := Nat.ne_of_gt hLo₂.lt
  have hflL : s₂.heap.objs.size ≠ L := Nat.ne_of_gt F₂.lt
  have up : ∀ b o, s₂.heap.get? b = some o → ((s₂.heap.push { cls := .type "list", data := .seq kfs.toArray }).push { cls := .type "list_iterator", data := .fields #[.ref s₂.heap.objs.size, .int 0 0] }).get? b = some o :=
    fun b o e => Heap.get?_push_of_some _ (Heap.get?_push_of_some _ e)
  have hLo₄ := hLo₂.keeps up
  have hA₄ := hA₂.keeps up
  have hl₄ : Heap.IsList _ l (is.map val).toArray := let ⟨o, e, r⟩ := hl₂; ⟨o, up _ _ e, r⟩
  generalize (s₂.heap.push { cls := .type "list", data := .seq kfs.toArray }).push { cls := .type "list_iterator", data := .fields #[.ref s₂.heap.objs.size, .int 0 0] } = h₄ at *
  generalize (s₂.heap.push { cls := .type "list", data := .seq kfs.toArray }).objs.size = I at *
  generalize s₂.heap.objs.size = fl at *
  have hsI : s.heap.objs.size ≤ I := Nat.le_trans hsL (Nat.le_of_lt hLI)
  refine codeAny_forLoop (fun nn s' => ∃ i D la v, i ≤ 7 ∧ nn = 7 - i ∧ Fm g₀ s L [(Str.ofString "row", .ref D), (Str.ofString "lots", .ref Lo)] s' ∧ s'.heap.IsListIter I fl i ∧ s'.heap.IsList fl kfs.toArray ∧ s'.heap.IsCell (L + 1) v ∧
    D ≠ Lo ∧ s'.heap.IsList D ((krest md (kcs.take i) is).map val).toArray ∧ PlainL s'.heap Lo (la.map Value.ref).toArray ∧ (∀ a ∈ la, a ≠ Lo) ∧ ListsAre s'.heap val la (klots md (kcs.take i) is)) ?_ 7
    ⟨0, l, [], none, by decide, rfl, F₄.sub (List.forall_mem_cons.mpr ⟨rfl, List.forall_mem_cons.mpr ⟨rfl, List.forall_mem_nil _⟩⟩), hit₄, hfl₄, hA₄, hlLo, hl₄, hLo₄, (fun _ h => nomatch h), trivial⟩
  rintro nn s₅ ⟨i, D, la, v, hi, rfl, F₅, hit, hfl, hA₅, hDLo, hD, hLoP, hlaLo, hla⟩
  have hlen7 : kfs.length = 7 := rfl
  cases hv : kf[i]? with
  | none =>
    have hi7 : i = 7 := by have := List.getElem?_eq_none_iff.mp hv; have h7 : kf.length = 7 := rfl; omega
    subst hi7
    refine wpAny_pyNext_list_end (show A.handled = none from hr.hand) hit hfl rfl fun h' he => ?_
    have hnI : ∀ a xs, s₅.heap.IsList a xs → h'.IsList a xs := fun a xs x => list_ext x he (list_ne_iter x hit)
    have F₆ := F₅.but hsI (Nat.ne_of_lt hLI) he hit.choose_spec.1 (fun vs q t dd => by rw [hit.choose_spec.2.2] at dd; cases dd; simp)
    have hD₆ := hnI _ _ hD
    have hLo₆ := hnI _ _ hLoP.isList
    have hla₆ := hla.mono fun a _ xs x => hnI _ _ x
    have hk7 : kcs.take 7 = kcs := rfl
    rw [hk7] at hD₆ hla₆
    have hlal : la.length = 7 := by rw [hla₆.length, klots_length]; rfl
    obtain ⟨a0, la', rfl⟩ : ∃ a0 la', la = a0 :: la' := by
      cases la with
      | nil => simp at hlal
      | cons a0 la' => exact ⟨a0, la', rfl⟩
    obtain ⟨l0, ls', els⟩ : ∃ l0 ls', klots md kcs is = l0 :: ls' := by
      cases hkl : klots md kcs is with
      | nil => have := klots_length md kcs is; rw [hkl] at this; simp [kcs, kf] at this
      | cons l0 ls' => exact ⟨l0, ls', rfl⟩
    rw [els] at hla₆
    obtain ⟨h0, hla'⟩ := hla₆
    have hsubs := klots_sub md kcs is
    rw [els] at hsubs
    have hl0 : l0.length ≤ 64 := Nat.le_trans (hsubs l0 (.head _)).length_le hlen
    have hrl : (krest md kcs is).length ≤ 64 := Nat.le_trans (krest_sub md _ _).length_le hlen
    refine wpAny_execs_nil ?_
    dsimp only
    refine wpAny_execs_cons <| wpAny_Return_some <| wpAny_BinOp <| wpAny_BinOp <| Subscript_ <| ev_loc F₆ rfl <| wpAny_Constant_int <| it_list (x := .ref a0) hLo₆ (by decide) (by decide) rfl <| ev_loc (F₆.toks _) rfl <| add_ll h0 hD₆ ?_ (by simp only [List.length_map]; omega)
    have F₇ := (F₆.toks (s₅.toks + 1)).push { cls := .type "list", data := .seq (l0.map val ++ (krest md kcs is).map val).toArray }
    refine ev_comp (g₀ := g₀) (s₀ := s) (cl := []) rfl (by decide) rfl (by decide) ?_
    have hLo₇ : Heap.IsList (h'.push { cls := .type "list", data := .seq (l0.map val ++ (krest md kcs is).map val).toArray }) Lo (((a0 :: la').map Value.ref).toArray) := hLo₆.push _
    refine wpAny_Subscript_list_slice <| ev_loc F₇ rfl <| ep_int <| ep_none ⟨Lo, _, some 1, none, rfl, hLo₇, by simp only [List.size_toArray, List.length_map]; rw [hlal, sizeLine_eq]; omega, .int _ _, .none, ?_⟩
    have hpick : slicePick (((a0 :: la').map Value.ref).toArray) (some 1) none none = (la'.map Value.ref).toArray := by
      have := slicePick_from' (((a0 :: la').map Value.ref).toArray) 1
      simpa using this
    rw [hpick]
    have hsum : Heap.IsList (h'.push { cls := .type "list", data := .seq (l0.map val ++ (krest md kcs is).map val).toArray }) h'.objs.size (l0.map val ++ (krest md kcs is).map val).toArray := ⟨_, Heap.get?_push_size _ rfl, rfl, _, rfl⟩
    have hla₇ := hla'.mono fun a _ xs x => x.push { cls := .type "list", data := .seq (l0.map val ++ (krest md kcs is).map val).toArray }
    have hsz7 : (h'.push { cls := .type "list", data := .seq (l0.map val ++ (krest md kcs is).map val).toArray }).objs.size = h'.objs.size + 1 := Heap.size_push ..
    show wpAny _ _ (pyIter (.ref ((h'.push { cls := .type "list", data := .seq (l0.map val ++ (krest md kcs is).map val).toArray }).objs.size + 1))) _ _
      { s₅ with heap := ((h'.push { cls := .type "list", data := .seq (l0.map val ++ (krest md kcs is).map val).toArray }).push { cls := .type "slice", data := .fields #[.int 1 (s₅.toks + 1), .none, .none] }).push { cls := .type "list", data := .seq (la'.map Value.ref).toArray }, toks := s₅.toks + 1 + 1 }
    have F₇' : Fm g₀ s L _ { s₅ with heap := h'.push { cls := .type "list", data := .seq (l0.map val ++ (krest md kcs is).map val).toArray }, toks := s₅.toks + 1 + 1 } := F₇.toks (s₅.toks + 1 + 1)
    have hsumL : s.heap.objs.size ≤ h'.objs.size := Nat.le_trans hsL (Nat.le_of_lt F₆.lt)
    generalize h'.push { cls := .type "list", data := .seq (l0.map val ++ (krest md kcs is).map val).toArray } = h₇ at *
    have F₈ := F₇'.push2 { cls := .type "slice", data := .fields #[.int 1 (s₅.toks + 1), .none, .none] } { cls := .type "list", data := .seq (la'.map Value.ref).toArray }
    have hsl : ((h₇.push { cls := .type "slice", data := .fields #[.int 1 (s₅.toks + 1), .none, .none] }).push { cls := .type "list", data := .seq (la'.map Value.ref).toArray }).IsList (h₇.objs.size + 1) (la'.map Value.ref).toArray := by
      have := Heap.get?_push_size (h₇.push { cls := .type "slice", data := .fields #[.int 1 (s₅.toks + 1), .none, .none] }) (o := { cls := .type "list", data := .seq (la'.map Value.ref).toArray }) rfl
      rw [Heap.size_push] at this
      exact ⟨_, this, rfl, _, rfl⟩
    have up8 : ∀ b o, h₇.get? b = some o → ((h₇.push { cls := .type "slice", data := .fields #[.int 1 (s₅.toks + 1), .none, .none] }).push { cls := .type "list", data := .seq (la'.map Value.ref).toArray }).get? b = some o :=
      fun b o e => Heap.get?_push_of_some _ (Heap.get?_push_of_some _ e)
    have hsum₈ := list_ext (L := h₇.objs.size) hsum (fun b o _ e => up8 b o e) (Nat.ne_of_lt (let ⟨_, e, _⟩ := hsum; Heap.lt_size e))
    have hla₈ := hla₇.mono fun a _ xs x => list_ext (L := h₇.objs.size) x (fun b o _ e => up8 b o e) (Nat.ne_of_lt (let ⟨_, e, _⟩ := x; Heap.lt_size e))
    generalize (h₇.push { cls := .type "slice", data := .fields #[.int 1 (s₅.toks + 1), .none, .none] }).push { cls := .type "list", data := .seq (la'.map Value.ref).toArray } = h₈ at *
    refine wpAny_pyIter_list hsl ⟨_, F₈.push _, fun s₉ F₉ out₉ hD₉ keep₉ => ?_⟩
    have up9 : ∀ a xs, h₈.IsList a xs → s₉.heap.IsList a xs := fun a xs x => let ⟨o, e, r⟩ := x; ⟨o, keep₉ _ _ (Heap.get?_push_of_some _ e), r⟩
    have hit₉ : s₉.heap.IsListIter h₈.objs.size (h₇.objs.size + 1) 0 := ⟨_, keep₉ _ _ (Heap.get?_push_size _ rfl), rfl, rfl⟩
    have hz8 : (h₈.push { cls := .type "list_iterator", data := .fields #[.ref (h₇.objs.size + 1), .int 0 0] }).objs.size = h₈.objs.size + 1 := Heap.size_push ..
    have hlt8 : ∀ a xs, h₈.IsList a xs → a < h₈.objs.size := fun a xs x => let ⟨_, e, _⟩ := x; Heap.lt_size e
    have hL8 : L < h₈.objs.size := F₈.lt
    refine ⟨fun Q' E' hq => wpAny_pyIter_listiter hit₉ hq, ?_⟩
    have hDne : ∀ a xs, h₈.IsList a xs → a ≠ (h₈.push { cls := .type "list_iterator", data := .fields #[.ref (h₇.objs.size + 1), .int 0 0] }).objs.size := fun a xs x => by
      rw [hz8]; exact Nat.ne_of_lt (Nat.lt_succ_of_lt (hlt8 a xs x))
    have hflen : ls'.flatten.length ≤ 800 := by
      have h7 : ls'.length ≤ 7 := by have := klots_length md kcs is; rw [els] at this; simp [kcs, kf] at this; omega
      have hall : ∀ x ∈ ls', x.length ≤ 64 := fun x hx => Nat.le_trans (hsubs x (.tail _ hx)).length_le hlen
      have hgen : ∀ (m : List (List Nat)), (∀ x ∈ m, x.length ≤ 64) → m.flatten.length ≤ m.length * 64 := by
        intro m
        induction m with
        | nil => intro _; simp
        | cons x m ih =>
          intro hx
          have h1 := hx x (.head _)
          have h2 := ih fun y hy => hx y (.tail _ hy)
          rw [List.flatten_cons, List.length_append, List.length_cons]
          omega
      have := hgen ls' hall
      omega
    refine comp_flat (s₀ := s) (ls := ls') (la := la') (val := val) (l := [(Str.ofString "row", .ref D), (Str.ofString "lots", .ref Lo)]) (L := L) (show A.handled = none from hr.hand) rfl rfl rfl F₉ hit₉ (up9 _ _ hsl) (hla₈.mono fun a _ xs x => up9 a xs x) hD₉
      (by rw [hz8]; exact Nat.le_trans hsL (Nat.le_of_lt (Nat.lt_succ_of_lt hL8))) (Nat.le_trans hsL (Nat.le_of_lt hL8)) (fun a ha => let ⟨xs, x⟩ := hla₈.mem a ha; hDne a xs x) (hDne _ _ hsl) out₉
      (by show L ≠ _ + 1; rw [hz8]; exact Nat.ne_of_lt (Nat.lt_succ_of_lt (Nat.lt_succ_of_lt hL8))) (Nat.le_trans hflen (by decide)) (fun s₁₀ F₁₀ out₁₀ hD₁₀ keep₁₀ => ⟨rfl, F₁₀.ns.imp fun _ x => x.1, fun h'' hs'' => ?_⟩) (fun _ => rfl)
    have hsum₁₀ := keep₁₀ _ _ (hDne _ _ hsum₈) (up9 _ _ hsum₈)
    have ne1 := F₁₀.ne_list hsum₁₀
    have ne2 := F₁₀.ne_list hD₁₀.isList
    have F₁₁ := out₁₀.fm F₁₀ hsL
    have F₁₂ : Fm g₀ s L _ { s₁₀ with heap := h'' } := F₁₁.but F₁₀.above (by show L ≠ _ + 1; rw [hz8]; exact Nat.ne_of_lt (Nat.lt_succ_of_lt (Nat.lt_succ_of_lt hL8))) hs''.extBut F₁₀.ns.choose_spec.1.choose_spec.choose_spec.choose_spec.1 (fun vs q t dd => by
      rw [F₁₀.ns.choose_spec.1.choose_spec.choose_spec.choose_spec.2.1] at dd; cases dd)
    refine add_ll (vs := l0.map val ++ (krest md kcs is).map val) (ws := ls'.flatten.map val) (list_ext hsum₁₀ hs''.extBut ne1) (list_ext hD₁₀.isList hs''.extBut ne2) ?_ (by simp only [List.length_append, List.length_map]; omega)
    refine kk _ _ (F₁₂.push _).grow (Nat.le_trans hsL (Nat.le_of_lt F₁₂.lt)) ?_
    have eb : (byKind md is).map val = (l0.map val ++ (krest md kcs is).map val) ++ ls'.flatten.map val := by
      unfold byKind; rw [els]; simp [List.map_append]
    rw [eb]
    exact ⟨_, Heap.get?_push_size _ rfl, rfl, _, rfl⟩
  | some p =>
    have hlt : i < 7 := (List.getElem?_eq_some_iff.mp hv).1
    have hp : p ∈ kf := List.mem_of_getElem? hv
    refine wpAny_pyNext_list_item hit hfl (x := .ref p.1) (by simp [kfs, hv]) fun h' hit' hs' => ?_
    have hnI : ∀ a xs, s₅.heap.IsList a xs → h'.IsList a xs := fun a xs x => list_ext x hs'.extBut (list_ne_iter x hit)
    have hA₆ : h'.IsCell (L + 1) v := hA₅.sameBut hs' fun q => by
      obtain ⟨o, e, d⟩ := hA₅
      obtain ⟨o', e', _, d'⟩ := hit
      rw [q, e'] at e; cases e; rw [d'] at d; cases d
    have hLo₆ : PlainL h' Lo (la.map Value.ref).toArray := hLoP.extBut hs'.extBut (list_ne_iter hLoP.isList hit)
    have F₆ := F₅.but hsI (Nat.ne_of_lt hLI) hs'.extBut hit.choose_spec.1 (fun vs q t dd => by rw [hit.choose_spec.2.2] at dd; cases dd; simp)
    refine wpAny_assign_Name (st_cell (c := L + 1) F₆ rfl hA₆ (Nat.lt_succ_self L) fun s₇ F₇ hA₇ k₇ => ?_)
    have hn7 : ∀ a xs, h'.IsList a xs → s₇.heap.IsList a xs := fun a xs x => list_same x k₇ (list_ne_cell x hA₆)
    have hD₇ := hn7 _ _ (hnI _ _ hD)
    have hfl₇ := hn7 _ _ (hnI _ _ hfl)
    have hla₇ := hla.mono fun a _ xs x => hn7 _ _ (hnI _ _ x)
    have hLo₇ : PlainL s₇.heap Lo (la.map Value.ref).toArray := by
      have ne := list_ne_cell hLo₆.isList hA₆
      obtain ⟨o, n, e, r⟩ := hLo₆
      exact ⟨o, n, (k₇ _ ne).trans e, r⟩
    have hit₇ : s₇.heap.IsListIter I fl (i + 1) := by
      have ne : I ≠ L + 1 := fun q => by
        obtain ⟨o, e, d⟩ := hA₆
        obtain ⟨o', e', _, d'⟩ := hit'
        rw [← q, e'] at e; cases e; rw [d'] at d; cases d
      obtain ⟨o, e, r⟩ := hit'
      exact ⟨o, (k₇ _ ne).trans e, r⟩
    refine wpAny_execs_cons <| Assign_Tuple <| Call_ <| ev_glo G F₇.grow.ok rfl <| cl_own G rfl rfl <| args_cons <| ev_loc F₇ rfl <| args_cons <| ev_lam G F₇.grow.ok G.c1 mem_kind (fun f s₈ g₈ hz₈ hlam => args_nil ⟨g₈.ok, wpAny_call ?_⟩) rfl rfl
    have F₈ := F₇.call g₈
    have hlam' := hlam
    obtain ⟨pm, cv, ctv, hfo, _⟩ := hlam'
    have hlen₈ : (krest md (kcs.take i) is).length ≤ 64 := Nat.le_trans (krest_sub md _ _).length_le hlen
    refine c_split (P := kq md p.2) (n := 4) G g₈.ok hr.deeper (g₈.keep.list hD₇) hfo rfl hlen₈ (fun j hj A' s' R' hA' hg hk => ?_) fun s₉ T Y N g₉ hYz hNz hT hY hN => ?_
    · obtain ⟨a, t0, t1, t2, t3, ev, ht⟩ := hrec j (his j ((krest_sub md _ _).subset hj))
      rw [ev]
      refine call_lam (binds := [(Str.ofString "one", .ref a)]) G hg.ok hA'.room (hg.keep.lam hlam) (fun _ _ _ => rfl) (by decide) (locs rfl) rfl rfl rfl fun E' s₁₀ L' cv' F₁₀ => ?_
      have ht' : IsTup s₁₀.heap a _ := (F₈.grow.keep.trans (hg.keep.trans F₁₀.grow.keep)).isTup ht
      have hc' := (g₈.keep.trans (hg.keep.trans F₁₀.grow.keep)).cell hA₇
      obtain ⟨po, pfd, hpo, hpd⟩ := kf_fn hp G
      refine Call_ <| ev_free rfl hc' <| callWith_def hpd <| args_cons <| Subscript_ <| ev_loc F₁₀ rfl <| wpAny_Constant_int <| item_tuple (x := .int (md j) t1) ht' (by decide) (by decide) rfl rfl <| args_nil ⟨F₁₀.grow.ok.keep _ _ hpo, wpAny_call <| c_isk hp G (F₁₀.toks _).grow.ok (hA'.deeper.le (by decide)) fun s₁₁ g₁₁ => ?_⟩
      exact hk _ _ ((F₁₀.toks _).grow.trans g₁₁) (.inl rfl)
    · have F₉ := F₈.call g₉
      refine as_pair (show A.handled = none from hr.hand) F₉ hT fun s₁₀ F₁₀ k₁₀ => ?_
      have up9 : ∀ a xs, s₇.heap.IsList a xs → s₉.heap.IsList a xs := fun a xs x => (g₈.keep.trans g₉.keep).list x
      have up10 : ∀ a xs, s₉.heap.IsList a xs → s₁₀.heap.IsList a xs := fun a xs x =>
        let ne := F₉.ne_list x
        let ⟨o, e, r⟩ := x
        ⟨o, k₁₀ _ _ ne e, r⟩
      have hLo₉ := (g₈.keep.trans g₉.keep).plainL hLo₇
      have hLo₁₀ : PlainL s₁₀.heap Lo (la.map Value.ref).toArray := by
        have ne := F₉.ne_list hLo₉.isList
        obtain ⟨o, n, e, r⟩ := hLo₉
        exact ⟨o, n, k₁₀ _ _ ne e, r⟩
      have hlal : la.length = i := by rw [hla.length, klots_length, List.length_take]; have : kcs.length = 7 := rfl; omega
      have hLo8 : Lo < s₈.heap.objs.size := (g₈.keep.plainL hLo₇).lt
      refine wpAny_execs_cons (ex_append F₁₀ rfl hLo₁₀ hsLo (Nat.ne_of_lt hLo) (by simp only [List.size_toArray, List.length_map]; omega) (ev_loc F₁₀ rfl ⟨_, F₁₀, hLo₁₀, fun s₁₁ F₁₁ hLo₁₁ k₁₁ => wpAny_execs_nil ?_⟩))
      have up11 : ∀ a xs, a ≠ Lo → s₁₀.heap.IsList a xs → s₁₁.heap.IsList a xs := fun a xs ne x => list_same x k₁₁ ne
      have hYLo : Y ≠ Lo := Nat.ne_of_gt (Nat.lt_of_lt_of_le hLo8 hYz)
      have hNLo : N ≠ Lo := Nat.ne_of_gt (Nat.lt_of_lt_of_le hLo8 hNz)
      have htk : kcs.take (i + 1) = kcs.take i ++ [p.2] := by rw [List.take_add_one, kcs, List.getElem?_map, hv]; rfl
      refine ⟨7 - (i + 1), by omega, i + 1, N, la ++ [Y], some (.ref p.1), by omega, rfl, F₁₁.sub (List.forall_mem_cons.mpr ⟨rfl, List.forall_mem_cons.mpr ⟨rfl, List.forall_mem_nil _⟩⟩), ?_, ?_, ?_, hNLo, ?_, ?_, ?_, ?_⟩
      · have h9 := (g₈.keep.trans g₉.keep).listIter hit₇
        have ne : I ≠ Lo := (list_ne_iter hLo₉.isList h9).symm
        obtain ⟨o, e, r⟩ := h9
        exact ⟨o, (k₁₁ _ ne).trans (k₁₀ _ _ (Nat.ne_of_gt hLI) e), r⟩
      · exact up11 _ _ hflLo (up10 _ _ (up9 _ _ hfl₇))
      · have h9 := (g₈.keep.trans g₉.keep).cell hA₇
        have ne := (list_ne_cell hLo₉.isList h9).symm
        obtain ⟨o, e, r⟩ := h9
        exact ⟨o, (k₁₁ _ ne).trans (k₁₀ _ _ (Nat.ne_of_gt (Nat.lt_succ_self L)) e), r⟩
      · rw [htk, krest_snoc]
        exact up11 _ _ hNLo (up10 _ _ hN.isList)
      · rw [List.map_append]
        simpa using hLo₁₁
      · intro a ha
        rcases List.mem_append.mp ha with ha | ha
        · exact hlaLo a ha
        · rw [List.mem_singleton.mp ha]; exact hYLo
      · rw [htk, klots_snoc]
        refine ListsAre.snoc (up11 _ _ hYLo (up10 _ _ hY.isList)) (hla₇.mono fun a ha xs x => up11 _ _ (hlaLo a ha) (up10 _ _ (up9 _ _ x)))
end
end Mine

end
section
set_option maxRecDepth 100000
set_option maxHeartbeats 4000000
namespace Mine
section
variable {prog : Program} {w : World} {A : Around} {s : Shared} {g₀ : Heap} {mg mb : Str → Option Value} {R : Result → Shared → Prop}

theorem c_laid10 (G : Gd w mg mb g₀) (O : Ok g₀ s.heap) (hr : Rm A 7) {l : Addr} {val : Nat → Value} {is : List Nat} {n : Nat} {md : Nat → Int} {fm : Nat → Str} {t : Tok}
    (hl : s.heap.IsList l (is.map val).toArray) (hlen : is.length ≤ 64) (hrec : Recs s.heap val n md fm) (his : ∀ i ∈ is, i < n)
    (kk : ∀ s' D, Grow g₀ s s' → s.heap.objs.size ≤ D → s'.heap.IsList D ((byKind md is).map val).toArray → R (.ok (.ret (.ref D))) s') :
    codeAny (model prog w) A (.call (.ref 150) ⟨[.ref l, .int 10 t], []⟩) R s := by
  refine enterC (binds := [(Str.ofString "row", .ref l), (Str.ofString "k", .int 10 t)]) (l := [(Str.ofString "row", .ref l), (Str.ofString "k", .int 10 t)]) G O hr.room rfl rfl rfl rfl rfl rfl rfl
    (List.forall_mem_cons.mpr ⟨rfl, List.forall_mem_cons.mpr ⟨rfl, List.forall_mem_nil _⟩⟩) rfl rfl rfl fun E s₁ L F hc => ?_
  clear hc
  refine wpAny_execs_cons (wpAny_If (wpAny_isTrue_Compare1 (ev_loc F rfl (wpAny_Constant_int (eq_int (wpAny_truthy_bool ?_))))))
  rw [show ((10 : Int) == 10) = true from rfl, if_pos rfl]
  refine wpAny_execs_cons <| wpAny_Return_some <| Call_ <| ev_glo G F.grow.ok rfl <| cl_own G rfl rfl <| args_cons <| ev_loc (F.toks _) rfl <| args_nil ⟨F.grow.ok, wpAny_call <| c_by_kind (n := n) (fm := fm) G (F.toks _).grow.ok hr.deeper (F.grow.keep.list hl) hlen (hrec.keep F.grow.keep) his fun s₂ D g₂ hz hD => ?_⟩
  exact kk _ _ ((F.toks _).grow.trans g₂) (Nat.le_trans (Nat.le_trans F.above (Nat.le_of_lt F.lt)) hz) hD

def lay (md : Nat → Int) (k : Nat) (is : List Nat) : List Nat := if k = 10 then byKind md is else laid md k is
def rowAt (md : Nat → Int) (is : List Nat) : Nat → List Nat
  | 0 => is
  | j + 1 => lay md (j + 1) (rowAt md is j)

theorem laid_length (md : Nat → Int) (k : Int) (is : List Nat) : (laid md k is).length = is.length := by
  unfold laid; rw [parted_length]; split
  · rw [parted_length]
  · rfl
theorem laid_mem {md : Nat → Int} {k : Int} {is : List Nat} {i : Nat} (h : i ∈ laid md k is) : i ∈ is := by
  unfold laid at h
  have := parted_mem h
  split at this
  · exact parted_mem this
  · exact this
theorem krest_klots_length (md : Nat → Int) : ∀ (cs : List Int) (is : List Nat), (krest md cs is).length + (klots md cs is).flatten.length = is.length
  | [], is => by simp [krest, klots]
  | c :: cs, is => by
    have ih := krest_klots_length md cs (is.filter fun i => !kq md c i)
    have h1 : (is.filter (kq md c)).length + (is.filter fun i => !kq md c i).length = is.length := by
      have := parted_length (kq md c) is
      unfold parted at this
      rw [List.length_append] at this
      omega
    rw [krest, klots, List.flatten_cons, List.length_append]
    omega
theorem byKind_length (md : Nat → Int) (is : List Nat) : (byKind md is).length = is.length := by
  have h := krest_klots_length md kcs is
  unfold byKind
  cases hk : klots md kcs is with
  | nil => have := klots_length md kcs is; rw [hk] at this; simp [kcs, kf] at this
  | cons l0 ls =>
    rw [hk, List.flatten_cons, List.length_append] at h
    simp only [List.headD_cons, List.tail_cons, List.length_append]
    omega
theorem byKind_mem {md : Nat → Int} {is : List Nat} {i : Nat} (h : i ∈ byKind md is) : i ∈ is := by
  unfold byKind at h
  cases hk : klots md kcs is with
  | nil => have := klots_length md kcs is; rw [hk] at this; simp [kcs, kf] at this
  | cons l0 ls =>
    have hs := klots_sub md kcs is
    rw [hk] at hs h
    simp only [List.headD_cons, List.tail_cons, List.mem_append, List.mem_flatten] at h
    rcases h with (h | h) | ⟨l, hl, h⟩
    · exact (hs l0 (.head _)).subset h
    · exact (krest_sub md kcs is).subset h
    · exact (hs l (.tail _ hl)).subset h
theorem lay_length (md : Nat → Int) (k : Nat) (is : List Nat) : (lay md k is).length = is.length := by
  unfold lay; split
  · exact byKind_length md is
  · exact laid_length md k is
theorem lay_mem {md : Nat → Int} {k : Nat} {is : List Nat} {i : Nat} (h : i ∈ lay md k is) : i ∈ is := by
  unfold lay at h; split at h
  · exact byKind_mem h
  · exact laid_mem h
theorem rowAt_length (md : Nat → Int) (is : List Nat) : ∀ j, (rowAt md is j).length = is.length
  | 0 => rfl
  | j + 1 => (lay_length md (j + 1) _).trans (rowAt_length md is j)
theorem rowAt_mem {md : Nat → Int} {is : List Nat} {i : Nat} : ∀ j, i ∈ rowAt md is j → i ∈ is
  | 0, h => h
  | j + 1, h => rowAt_mem j (lay_mem h)

theorem c_lay (G : Gd w mg mb g₀) (O : Ok g₀ s.heap) (hr : Rm A 7) {l : Addr} {val : Nat → Value} {is : List Nat} {n : Nat} {md : Nat → Int} {fm : Nat → Str} {k : Nat} {t : Tok} (h1 : 1 ≤ k) (h10 : k ≤ 10)
    (hl : s.heap.IsList l (is.map val).toArray) (hlen : is.length ≤ 64) (hrec : Recs s.heap val n md fm) (his : ∀ i ∈ is, i < n)
    (kk : ∀ s' D, Grow g₀ s s' → s.heap.objs.size ≤ D → s'.heap.IsList D ((lay md k is).map val).toArray → R (.ok (.ret (.ref D))) s') :
    codeAny (model prog w) A (.call (.ref 150) ⟨[.ref l, .int k t], []⟩) R s := by
  by_cases h : k = 10
  · subst h
    exact c_laid10 G O hr hl hlen hrec his fun s' D g hz hD => kk s' D g hz hD
  · refine c_laid G O (hr.le (by decide)) (by omega) (by omega) hl hlen hrec his fun s' D g hz hD => kk s' D g hz ?_
    unfold lay; rw [if_neg h]; exact hD

theorem small_11 : Builtin.Range.small 1 11 1 = true := by decide +kernel
theorem size_11 : Builtin.Range.rangeSize 1 11 1 = 10 := by decide +kernel
theorem list_ne_obj {h : Heap} {a I : Addr} {o : Obj} {xs : Array Value} (x : h.IsList a xs) (y : h.get? I = some o) (hc : o.cls ≠ .type "list") : a ≠ I := fun q => by
  obtain ⟨o', e, c, _⟩ := x
  rw [q, y] at e; cases e; exact hc c

theorem c_rows (G : Gd w mg mb g₀) (O : Ok g₀ s.heap) (hr : Rm A 8) {l : Addr} {val : Nat → Value} {is : List Nat} {n : Nat} {md : Nat → Int} {fm : Nat → Str}
    (hl : s.heap.IsList l (is.map val).toArray) (hlen : is.length ≤ 64) (hrec : Recs s.heap val n md fm) (his : ∀ i ∈ is, i < n)
    (kk : ∀ s' Rs as, Grow g₀ s s' → s'.heap.IsList Rs (as.map Value.ref).toArray → ListsAre s'.heap val as ((List.range 10).map fun j => rowAt md is (j + 1)) → R (.ok (.ret (.ref Rs))) s') :
    codeAny (model prog w) A (.call (.ref 157) ⟨[.ref l], []⟩) R s := by
  refine enter (binds := [(Str.ofString "coming", .ref l)]) G O hr.room rfl rfl rfl rfl rfl (by decide) (locs rfl) rfl rfl rfl fun E s₁ L F => ?_
  have hsL := F.above
  refine wpAny_execs_cons <| wpAny_Assign_Name <| List_ <| args_cons <| ev_loc F rfl <| args_nil <| wpAny_newList <| st_loc (F.push _) fun s₂ F₂ k₂ _ => ?_
  have hLr : L < s₁.heap.objs.size := F.lt
  have hRw₂ : PlainL s₂.heap s₁.heap.objs.size #[.ref l] := ⟨_, _, (k₂ _ (Nat.ne_of_gt hLr)).trans (Heap.get?_push_size _ rfl), rfl, rfl, rfl⟩
  have hl₂ : s₂.heap.IsList l (is.map val).toArray := F₂.grow.keep.list hl
  have hlR : l ≠ s₁.heap.objs.size := Nat.ne_of_lt (Nat.lt_of_lt_of_le (let ⟨_, e, _⟩ := hl; Heap.lt_size e) (Nat.le_trans hsL (Nat.le_of_lt hLr)))
  generalize s₁.heap.objs.size = Rw at *
  have hsR : s.heap.objs.size ≤ Rw := Nat.le_trans hsL (Nat.le_of_lt hLr)
  refine wpAny_execs_cons ?_
  refine wpAny_For ?_
  refine Call_ ?_
  refine ev_bui G F₂.grow.ok n_range boot_range ne_range ?_
  refine PyProof.Rows.callWith_type1 ?_
  refine args_cons <| wpAny_Constant_int <| args_cons <| wpAny_Constant_int <| args_nil ?_
  refine call_range_2 ?_
  refine wpAny_pyIter_range (IsRange.new _ _ _ _ _ _ _) small_11 ?_
  rw [size_11]
  have F₄ := (F₂.push { cls := .type "range", data := .fields #[.int 1 s₂.toks, .int 11 (s₂.toks + 1), .int 1 (s₂.toks + 1 + 1)] }).push { cls := .type "range_iterator", data := .fields #[rawInt 1, rawInt 10, rawInt 1] }
  have up : ∀ b o, s₂.heap.get? b = some o → ((s₂.heap.push { cls := .type "range", data := .fields #[.int 1 s₂.toks, .int 11 (s₂.toks + 1), .int 1 (s₂.toks + 1 + 1)] }).push { cls := .type "range_iterator", data := .fields #[rawInt 1, rawInt 10, rawInt 1] }).get? b = some o :=
    fun b o e => Heap.get?_push_of_some _ (Heap.get?_push_of_some _ e)
  have hit₄ : IsRangeIter ((s₂.heap.push { cls := .type "range", data := .fields #[.int 1 s₂.toks, .int 11 (s₂.toks + 1), .int 1 (s₂.toks + 1 + 1)] }).push { cls := .type "range_iterator", data := .fields #[rawInt 1, rawInt 10, rawInt 1] })
    (s₂.heap.push { cls := .type "range", data := .fields #[.int 1 s₂.toks, .int 11 (s₂.toks + 1), .int 1 (s₂.toks + 1 + 1)] }).objs.size 1 10 1 := Heap.get?_push_size _ rfl
  have hLI : L < (s₂.heap.push { cls := .type "range", data := .fields #[.int 1 s₂.toks, .int 11 (s₂.toks + 1), .int 1 (s₂.toks + 1 + 1)] }).objs.size := (F₂.push _).lt
  refine codeAny_forLoop (fun nn s' => ∃ j as, j ≤ 10 ∧ nn = 10 - j ∧ Fm g₀ s L [(Str.ofString "rows", .ref Rw)] s' ∧
    IsRangeIter s'.heap (s₂.heap.push { cls := .type "range", data := .fields #[.int 1 s₂.toks, .int 11 (s₂.toks + 1), .int 1 (s₂.toks + 1 + 1)] }).objs.size ((j : Int) + 1) (10 - (j : Int)) 1 ∧
    PlainL s'.heap Rw (as.map Value.ref).toArray ∧ (∀ a ∈ as, a ≠ Rw) ∧ ListsAre s'.heap val as ((List.range (j + 1)).map (rowAt md is))) ?_ 10
    ⟨0, [l], by decide, rfl, (F₄.toks _).sub (List.forall_mem_cons.mpr ⟨rfl, List.forall_mem_nil _⟩), hit₄, hRw₂.keeps up, (fun a ha => by rw [List.mem_singleton.mp ha]; exact hlR), ⟨let ⟨o, e, r⟩ := hl₂; ⟨o, up _ _ e, r⟩, trivial⟩⟩
  generalize (s₂.heap.push { cls := .type "range", data := .fields #[.int 1 s₂.toks, .int 11 (s₂.toks + 1), .int 1 (s₂.toks + 1 + 1)] }).objs.size = I at *
  clear F₄ up hit₄ hl₂ hRw₂ k₂ F₂
  have hsI : s.heap.objs.size ≤ I := Nat.le_trans hsL (Nat.le_of_lt hLI)
  have hcls : ∀ (x y z : Int), (({ cls := .type "range_iterator", data := .fields #[rawInt x, rawInt y, rawInt z] } : Obj)).cls ≠ .type "list" := fun _ _ _ e => by injection e with h; exact absurd h (by decide)
  rintro nn s₅ ⟨j, as, hj, rfl, F₅, hit, hRw, hasR, has⟩
  have hnI : ∀ {h' : Heap} a xs, Heap.ExtBut I s₅.heap h' → s₅.heap.IsList a xs → h'.IsList a xs := fun a xs he x => list_ext x he (list_ne_obj x hit (hcls _ _ _))
  have hfld : ∀ vs (q : Str) t, (({ cls := .type "range_iterator", data := .fields #[rawInt ((j : Int) + 1), rawInt (10 - (j : Int)), rawInt 1] } : Obj)).data = .fields vs → vs[1]? ≠ some (.str q t) := fun vs q t dd => by cases dd; simp [rawInt]
  have hasl : as.length = j + 1 := by rw [has.length]; simp
  by_cases hj10 : j = 10
  · subst hj10
    refine wpAny_pyNext_range_end (show A.handled = none from hr.hand) hit (by omega) fun h' he => ?_
    have F₆ := F₅.but hsI (Nat.ne_of_lt hLI) he hit hfld
    have hRw₆ := hnI _ _ he hRw.isList
    have has₆ := has.mono fun a _ xs x => hnI a xs he x
    obtain ⟨a0, as', rfl⟩ : ∃ a0 as', as = a0 :: as' := by
      cases as with
      | nil => simp at hasl
      | cons a0 as' => exact ⟨a0, as', rfl⟩
    refine wpAny_execs_nil ?_
    dsimp only
    refine wpAny_execs_cons <| wpAny_Return_some <| wpAny_Subscript_list_slice <| ev_loc F₆ rfl <| ep_int <| ep_none ⟨Rw, _, some 1, none, rfl, hRw₆, by simp only [List.size_toArray, List.length_map]; rw [hasl, sizeLine_eq]; omega, .int _ _, .none, ?_⟩
    have hpick : slicePick (((a0 :: as').map Value.ref).toArray) (some 1) none none = (as'.map Value.ref).toArray := by
      have := slicePick_from' (((a0 :: as').map Value.ref).toArray) 1
      simpa using this
    rw [hpick]
    have hup : ∀ a xs, h'.IsList a xs → ((h'.push { cls := .type "slice", data := .fields #[.int 1 s₅.toks, .none, .none] }).push { cls := .type "list", data := .seq (as'.map Value.ref).toArray }).IsList a xs := fun a xs x => (x.push _).push _
    refine kk _ _ as' (((F₆.push { cls := .type "slice", data := .fields #[.int 1 s₅.toks, .none, .none] }).push { cls := .type "list", data := .seq (as'.map Value.ref).toArray }).toks _).grow ?_ ?_
    · have := Heap.get?_push_size (h'.push { cls := .type "slice", data := .fields #[.int 1 s₅.toks, .none, .none] }) (o := { cls := .type "list", data := .seq (as'.map Value.ref).toArray }) rfl
      rw [Heap.size_push] at this
      exact ⟨_, this, rfl, _, rfl⟩
    · have e : (List.range (10 + 1)).map (rowAt md is) = rowAt md is 0 :: (List.range 10).map fun j => rowAt md is (j + 1) := rfl
      rw [e] at has₆
      exact has₆.2.mono fun a _ xs x => hup a xs x
  · have hlt : j < 10 := by omega
    refine wpAny_pyNext_range_item hit (by omega) fun h' hit' hs' => ?_
    have F₆ := (F₅.but hsI (Nat.ne_of_lt hLI) hs'.extBut hit hfld).toks (s₅.toks + 1)
    refine wpAny_assign_Name (st_loc F₆ fun s₇ F₇ k₇ _ => ?_)
    have up7 : ∀ a xs, s₅.heap.IsList a xs → s₇.heap.IsList a xs := fun a xs x => list_same (hnI a xs hs'.extBut x) k₇ (F₆.ne_list (hnI a xs hs'.extBut x))
    have has₇ := has.mono fun a _ xs x => up7 a xs x
    have hRw₇ : PlainL s₇.heap Rw (as.map Value.ref).toArray := by
      have h6 := hRw.extBut hs'.extBut (list_ne_obj hRw.isList hit (hcls _ _ _))
      have ne := F₆.ne_list h6.isList
      obtain ⟨o, n, e, r⟩ := h6
      exact ⟨o, n, (k₇ _ ne).trans e, r⟩
    have hit₇ : IsRangeIter s₇.heap I ((j : Int) + 1 + 1) (10 - (j : Int) - 1) 1 := (k₇ _ (Nat.ne_of_gt hLI)).trans hit'
    have hlast : ∃ a, as[j]? = some a := ⟨_, List.getElem?_eq_getElem (by omega)⟩
    obtain ⟨a, ha⟩ := hlast
    obtain ⟨x, hx, hax⟩ := has₇.get ha
    have hx' : x = rowAt md is j := by
      rw [List.getElem?_map, List.getElem?_range (by omega)] at hx
      exact (Option.some.inj hx).symm
    subst hx'
    refine wpAny_execs_cons <| ex_append F₇ rfl hRw₇ hsR (Nat.ne_of_lt hLr) (by simp only [List.size_toArray, List.length_map]; omega) ?_
    refine Call_ <| ev_glo G F₇.grow.ok rfl <| cl_own G rfl rfl <| args_cons <| Subscript_ <| ev_loc F₇ rfl <| UnaryOp_ <| wpAny_Constant_int <| neg_int ?_
    refine tail_any (T := "list") (ops := [.ref Rw, .int (-1) (s₇.toks + 1)]) hRw₇.isList.typeIs slot_list_getitem.lookup (wpAny_getItem_list_neg (x := .ref a) hRw₇.isList (by decide) (by simp only [List.size_toArray, List.length_map]; omega) (by decide) ?_ ?_) (by with_unfolding_all rfl)
    · simp only [List.size_toArray, List.length_map, hasl, List.getElem?_toArray, List.getElem?_map]
      have e : (-1 + ((j + 1 : Nat) : Int)).toNat = j := by omega
      rw [e, ha]; rfl
    refine args_cons <| ev_loc ((F₇.toks _).toks _) rfl <| args_nil ⟨F₇.grow.ok, wpAny_call ?_⟩
    have hlen' : (rowAt md is j).length ≤ 64 := by rw [rowAt_length]; exact hlen
    have hk : ((j : Int) + 1) = ((j + 1 : Nat) : Int) := by omega
    rw [hk]
    refine c_lay (n := n) (fm := fm) (s := { s₇ with toks := s₇.toks + 1 + 1 }) G F₇.grow.ok hr.deeper (by omega) (by omega) hax hlen' (hrec.keep F₇.grow.keep) (fun i hi => his i (rowAt_mem j hi)) fun s₈ D g₈ hz hD => ?_
    have F₈ := (F₇.toks (s₇.toks + 1 + 1)).call g₈
    have hRw₈ := g₈.keep.plainL hRw₇
    have hDR : D ≠ Rw := Nat.ne_of_gt (Nat.lt_of_lt_of_le hRw₇.lt hz)
    refine ⟨_, F₈, hRw₈, fun s₉ F₉ hRw₉ k₉ => wpAny_execs_nil ⟨10 - (j + 1), by omega, j + 1, as ++ [D], by omega, rfl, F₉.sub (List.forall_mem_cons.mpr ⟨rfl, List.forall_mem_nil _⟩), ?_, ?_, ?_, ?_⟩⟩
    · have h8 := g₈.keep.getT hit₇ rfl
      have ne : I ≠ Rw := (list_ne_obj hRw₈.isList h8 (hcls _ _ _)).symm
      have e1 : (((j + 1 : Nat) : Int) + 1) = (j : Int) + 1 + 1 := by omega
      have e2 : (10 - ((j + 1 : Nat) : Int)) = 10 - (j : Int) - 1 := by omega
      rw [e1, e2]
      exact (k₉ _ ne).trans h8
    · rw [List.map_append]; simpa using hRw₉
    · intro b hb
      rcases List.mem_append.mp hb with hb | hb
      · exact hasR b hb
      · rw [List.mem_singleton.mp hb]; exact hDR
    · have e : (List.range (j + 1 + 1)).map (rowAt md is) = (List.range (j + 1)).map (rowAt md is) ++ [rowAt md is (j + 1)] := by rw [List.range_succ, List.map_append]; rfl
      rw [e]
      exact ListsAre.snoc (list_same hD k₉ hDR) (has₇.mono fun b hb xs y => list_same (g₈.keep.list y) k₉ (hasR b hb))
end
end Mine

end
section
open AutoSeq1 (wpAny_loadPart')
set_option maxRecDepth 100000
set_option maxHeartbeats 1000000
namespace Mine

theorem enum_new_tuple (l : Addr) (items : Array Value) (n : Nat) (dct : Option Addr) (sl : Array (Option Value)) :
    Meets (Builtin.«enumerate.__new__» ⟨[.type "enumerate", .ref l], []⟩) (fun _ R s => s.heap.get? l = some { cls := .type "tuple", dict := dct, data := .seq items n, slots := sl } ∧
      R (.ok (.ret (.ref (s.heap.push { cls := .type "tuple_iterator", data := .fields #[.ref l, .int 0 0] }).objs.size)))
        { s with heap := (s.heap.push { cls := .type "tuple_iterator", data := .fields #[.ref l, .int 0 0] }).push { cls := .type "enumerate", data := .fields #[.none, .bool false, .ref s.heap.objs.size, rawInt 0, .none, .none] } }) :=
  .of_wp fun prog w A R s h => by
    obtain ⟨hp, g, d, tk, os⟩ := s; obtain ⟨hl, h⟩ := h
    have hsub := sub_enumerate
    have hL : Heap.IsTuple (Shared.heap ⟨hp, g, d, tk, os⟩) l items := ⟨_, hl, rfl, n, rfl⟩
    wp_walk using wpAny_loadPart' hl
    refine wpAny_stack_any fun st => wpAny_pure ?_
    split
    · rename_i c _ _ _ _ _
      cases (c == Value.type "enumerate")
      · wp_walk using wpAny_loadPart' hl, wpAny_pyIter_tuple hL
        exact ⟨_, rfl, h⟩
      · wp_walk using wpAny_loadPart' hl, wpAny_pyIter_tuple hL
        exact ⟨_, rfl, h⟩
    · wp_walk using wpAny_loadPart' hl, wpAny_pyIter_tuple hL
      exact ⟨_, rfl, h⟩

section
variable {prog : Program} {w : World} {A : Around} {E : Value → Shared → Prop} {s : Shared}
theorem call_enum_tuple {l : Addr} {items : Array Value} {Q : Value → Shared → Prop} (hL : s.heap.IsTuple l items)
    (h : ∀ h', IsEnum h' (s.heap.objs.size + 1) s.heap.objs.size 0 .none → h'.IsTupleIter s.heap.objs.size l 0 → h'.objs.size = s.heap.objs.size + 2 →
      (∀ b o, s.heap.get? b = some o → h'.get? b = some o) → Q (.ref (s.heap.objs.size + 1)) { s with heap := h' }) :
    wpAny (model prog w) A (call (.type "enumerate") [.ref l]) Q E s := by
  obtain ⟨⟨c, dct, dt, sl⟩, hl, hc, n, hd⟩ := hL
  replace hc : c = .type "tuple" := hc
  replace hd : dt = .seq items n := hd
  subst hc hd
  refine callType_new F.called_enumerate (by decide) (F.typeCall_enumerate_1 _) (F.newCall_enumerate_1 _) (fun obj => F.args_object_init_2 obj _) F.entry_enumerate_new
    (enum_new_tuple l items n dct sl) ⟨hl, ?_⟩
  have hz : (s.heap.push { cls := .type "tuple_iterator", data := .fields #[.ref l, .int 0 0] }).objs.size = s.heap.objs.size + 1 := Heap.size_push ..
  show _ ∧ _
  rw [hz]
  have he : IsEnum ((s.heap.push { cls := .type "tuple_iterator", data := .fields #[.ref l, .int 0 0] }).push
      { cls := .type "enumerate", data := .fields #[.none, .bool false, .ref s.heap.objs.size, rawInt 0, .none, .none] }) (s.heap.objs.size + 1) s.heap.objs.size 0 .none := by
    have := Heap.get?_push_size (s.heap.push { cls := .type "tuple_iterator", data := .fields #[.ref l, .int 0 0] })
      (o := { cls := .type "enumerate", data := .fields #[.none, .bool false, .ref s.heap.objs.size, rawInt 0, .none, .none] }) rfl
    rw [hz] at this; exact this
  exact ⟨⟨_, he, rfl⟩, h _ he ⟨_, Heap.get?_push_of_some _ (Heap.get?_push_size _ rfl), rfl, rfl⟩ (by rw [Heap.size_push, hz]) fun b o x => Heap.get?_push_of_some _ (Heap.get?_push_of_some _ x)⟩

theorem next_tuple_item {it t : Addr} {i : Nat} {items : Array Value} {x : Value} {Q : Value → Shared → Prop} (hit : s.heap.IsTupleIter it t i) (ht : s.heap.IsTuple t items) (hx : items[i]? = some x)
    (hQ : ∀ h', h'.IsTupleIter it t (i + 1) → Heap.SameBut it s.heap h' → Q x { s with heap := h' }) : wpAny (model prog w) A (Builtin.SmallTypes.nextOf (.ref it)) Q E s := by
  obtain ⟨o, ho, hc, hd⟩ := id hit
  obtain ⟨ol, hol, _, nl, hdl⟩ := ht
  unfold Builtin.SmallTypes.nextOf
  refine wpAny_bind (wpAny_callSpecial?_slot (name := Str.ofString "__next__") hit.typeIs F.slot_tuple_iterator_next
    (wpAny_call_entry F.slot_tuple_iterator_next hit.typeIs F.entry_tuple_iterator_next ?_ (F.args_tuple_iterator_next_1 _)))
  show wpAny _ _ (field (.ref it) 0 >>= _) _ _ s
  refine wpAny_bind (wpAny_field ho hd (x := .ref t) rfl ?_)
  show wpAny _ _ (if (Value.ref t == Value.none) = true then _ else _) _ _ s
  rw [if_neg (show ¬ ((Value.ref t == Value.none) = true) from Bool.false_ne_true)]
  show wpAny _ _ (field (.ref it) 1 >>= _) _ _ s
  refine wpAny_bind (wpAny_field ho hd (x := .int i 0) rfl ?_)
  show wpAny _ _ (seqItems? (.ref t) >>= _) _ _ s
  refine wpAny_bind (wpAny_seqItems hol hdl ?_)
  simp only [Int.toNat_natCast, hx]
  refine wpAny_bind (wpAny_setField ho hd (by simp) (wpAny_pure ⟨x, rfl, wpAny_pure (hQ _ ?_ (Heap.SameBut.update ..))⟩))
  exact ⟨_, Heap.get?_update_self _ ho (Obj.isFreed_of_fields (Obj.data_mapFields hd _)), (Obj.cls_mapFields ..).trans hc, by
    rw [Obj.data_mapFields hd]; simp [rawInt]⟩

theorem next_tuple_end {it t : Addr} {i : Nat} {items : Array Value} {Q : Value → Shared → Prop} (hh : A.handled = none) (hit : s.heap.IsTupleIter it t i) (ht : s.heap.IsTuple t items) (hx : items[i]? = none)
    (hE : ∀ h' e, Heap.ExtBut it s.heap h' → (∃ o, h'.get? e = some o ∧ o.cls = .type "StopIteration") → E (.ref e) { s with heap := h' }) :
    wpAny (model prog w) A (Builtin.SmallTypes.nextOf (.ref it)) Q E s := by
  obtain ⟨o, ho, hc, hd⟩ := id hit
  obtain ⟨ol, hol, _, nl, hdl⟩ := ht
  unfold Builtin.SmallTypes.nextOf
  refine wpAny_bind (wpAny_callSpecial?_slot (name := Str.ofString "__next__") hit.typeIs F.slot_tuple_iterator_next
    (wpAny_call_entry F.slot_tuple_iterator_next hit.typeIs F.entry_tuple_iterator_next ?_ (F.args_tuple_iterator_next_1 _)))
  show wpAny _ _ (field (.ref it) 0 >>= _) _ _ s
  refine wpAny_bind (wpAny_field ho hd (x := .ref t) rfl ?_)
  show wpAny _ _ (if (Value.ref t == Value.none) = true then _ else _) _ _ s
  rw [if_neg (show ¬ ((Value.ref t == Value.none) = true) from Bool.false_ne_true)]
  show wpAny _ _ (field (.ref it) 1 >>= _) _ _ s
  refine wpAny_bind (wpAny_field ho hd (x := .int i 0) rfl ?_)
  show wpAny _ _ (seqItems? (.ref t) >>= _) _ _ s
  refine wpAny_bind (wpAny_seqItems hol hdl ?_)
  simp only [Int.toNat_natCast, hx]
  refine wpAny_bind (wpAny_rule (wpAny_bind (wpAny_setField ho hd (by simp) ?_)))
  show wpAny _ _ (newExc (.type "StopIteration") [] >>= _) _ _ _
  refine wpAny_bind ?_
  simp only [newExc, newTuple]
  refine wpAny_bind (wpAny_newObj_type ?_ (by size_fits))
  refine wpAny_bind (m := firstArgMember _ _) (wpAny_of_eq (a := Value.none) (by first | rfl | (simp only [firstArgMember]; rfl)) ?_)
  refine wpAny_newObj_type ?_ (by size_fits)
  simp only [raiseNew]
  refine wpAny_bind (wpAny_handled ?_)
  first | rw [show A.in1.handled = none from hh] | rw [hh]
  refine wpAny_bind (wpAny_pure (wpAny_throw ?_))
  exact hE _ _ (((Heap.SameBut.update ..).extBut.push _).push _) ⟨_, Heap.get?_push_size _ rfl, rfl⟩

theorem Draws.tuple (hh : A.handled = none) (it l : Addr) (hne : l ≠ it) (items : Array Value) :
    Draws prog w A it [it, l] items.size (fun i v => items[i]? = some v) (fun i h => h.IsTupleIter it l i ∧ h.IsTuple l items) where
  live := fun _ _ st => let ⟨o, ho, _⟩ := st.1; ⟨o, ho⟩
  frame := fun _ _ _ st hk => ⟨let ⟨o, ho, r⟩ := st.1; ⟨o, hk it (by simp) o ho, r⟩, let ⟨o, ho, r⟩ := st.2; ⟨o, hk l (by simp) o ho, r⟩⟩
  item := fun i s Q E hi st hQ => by
    refine next_tuple_item st.1 st.2 (x := items[i]) (by simp [hi]) fun h' hit' hs' => ?_
    exact hQ _ h' s.toks (by simp [hi]) ⟨hit', st.2.extBut hs'.extBut hne⟩ hs'
  done := fun s Q E st hE => next_tuple_end hh st.1 st.2 (by simp) hE

/-- an iterator that owns no tuple -/
theorem own_not {elts : List Expr} {k : Nat} {pos : Pos} {it a : Addr} {o : Obj} {T : String} {Q : Unit → Shared → Prop} (ho : s.heap.get? it = some o) (hc : o.cls = .type T)
    (hT : ["enumerate", "zip", "dict_itemiterator", "dict_reverseitemiterator", "odict_iterator", "itertools.zip_longest", "itertools.pairwise"].contains T = false) (h : Q () s) :
    wpAny (model prog w) A (letOwnedTupleGo (.Tuple elts k pos) (.ref it) (.ref a)) Q E s := by
  unfold letOwnedTupleGo
  refine wpAny_bind (wpAny_load ho ?_)
  obtain ⟨c, d, dt, sl⟩ := o
  simp only at hc
  subst hc
  cases dt <;> first | exact wpAny_pure h | (simp only [hT, Bool.false_and, Bool.false_eq_true, if_false]; exact wpAny_pure h)
end
end Mine

end
section
set_option maxRecDepth 100000
set_option maxHeartbeats 4000000
namespace Mine

def ft : List (Addr × List (Addr × Int × Nat)) :=
  [(92, [(85, 40960, 108), (86, 49152, 115), (87, 32768, 45), (88, 24576, 98), (89, 16384, 100), (90, 8192, 99), (91, 4096, 112)]),
   (94, [(93, 256, 114)]), (96, [(95, 128, 119)]), (100, [(97, 2112, 115), (98, 2048, 83), (99, 64, 120)]),
   (102, [(101, 32, 114)]), (104, [(103, 16, 119)]), (108, [(105, 1032, 115), (106, 1024, 83), (107, 8, 120)]),
   (110, [(109, 4, 114)]), (112, [(111, 2, 119)]), (116, [(113, 513, 116), (114, 512, 84), (115, 1, 120)])]
def test (idx : Nat) (mode bit : Int) : Bool := if idx = 0 then Builtin.bitAnd mode 61440 == bit else Builtin.bitAnd mode bit == bit
def sgn (idx : Nat) (mode : Int) (row : List (Addr × Int × Nat)) : Nat :=
  match row.find? fun p => test idx mode p.2.1 with
  | some p => p.2.2
  | none => if idx = 0 then 63 else 45
def sg (mode : Int) (j : Nat) : Nat := sgn j mode (ft.getD j (0, [])).2
def sgns (mode : Int) : List Nat := (List.range 10).map (sg mode)
def fmStr (mode : Int) : Str := ⟨(sgns mode).toArray⟩
def one (c : Nat) : Str := ⟨#[c]⟩

theorem join_signs (m : Int) : Txt.join (Str.ofString "") ((List.range 10).map fun i => one (sg m i)) = fmStr m := by rfl

section
variable {w : World} {g₀ : Heap} {mg mb : Str → Option Value}
theorem ft_ok (G : Gd w mg mb g₀) : ∀ r ∈ ft, g₀.IsTuple r.1 (r.2.map fun p => Value.ref p.1).toArray ∧ ∀ p ∈ r.2, ∃ t t', g₀.IsTuple p.1 #[.int p.2.1 t, .str (one p.2.2) t'] := by
  have X := G.X
  unfold ft
  refine List.forall_mem_cons.mpr ⟨⟨⟨_, X _ _ rfl, rfl, _, rfl⟩, ?_⟩, List.forall_mem_cons.mpr ⟨⟨⟨_, X _ _ rfl, rfl, _, rfl⟩, ?_⟩, List.forall_mem_cons.mpr ⟨⟨⟨_, X _ _ rfl, rfl, _, rfl⟩, ?_⟩, List.forall_mem_cons.mpr ⟨⟨⟨_, X _ _ rfl, rfl, _, rfl⟩, ?_⟩,
    List.forall_mem_cons.mpr ⟨⟨⟨_, X _ _ rfl, rfl, _, rfl⟩, ?_⟩, List.forall_mem_cons.mpr ⟨⟨⟨_, X _ _ rfl, rfl, _, rfl⟩, ?_⟩, List.forall_mem_cons.mpr ⟨⟨⟨_, X _ _ rfl, rfl, _, rfl⟩, ?_⟩, List.forall_mem_cons.mpr ⟨⟨⟨_, X _ _ rfl, rfl, _, rfl⟩, ?_⟩,
    List.forall_mem_cons.mpr ⟨⟨⟨_, X _ _ rfl, rfl, _, rfl⟩, ?_⟩, List.forall_mem_cons.mpr ⟨⟨⟨_, X _ _ rfl, rfl, _, rfl⟩, ?_⟩, List.forall_mem_nil _⟩⟩⟩⟩⟩⟩⟩⟩⟩⟩
  all_goals
    repeat' (first | exact List.forall_mem_nil _ | refine List.forall_mem_cons.mpr ⟨⟨_, _, ⟨_, X _ _ rfl, rfl, _, rfl⟩⟩, ?_⟩)
theorem ft_top (G : Gd w mg mb g₀) : g₀.IsTuple 117 (ft.map fun r => Value.ref r.1).toArray := ⟨_, G.X _ _ rfl, rfl, _, rfl⟩
end

theorem Fm.but2 {g₀ : Heap} {s₀ s : Shared} {L a b : Addr} {oa ob : Obj} {l : List (Str × Value)} (F : Fm g₀ s₀ L l s) (ha : s₀.heap.objs.size ≤ a) (hb : s₀.heap.objs.size ≤ b) (haL : L ≠ a) (hbL : L ≠ b) {h' : Heap}
    (hs : ∀ x o, x ≠ a → x ≠ b → s.heap.get? x = some o → h'.get? x = some o) (hoa : s.heap.get? a = some oa) (hna : ∀ vs (q : Str) t, oa.data = .fields vs → vs[1]? ≠ some (.str q t))
    (hob : s.heap.get? b = some ob) (hnb : ∀ vs (q : Str) t, ob.data = .fields vs → vs[1]? ≠ some (.str q t)) : Fm g₀ s₀ L l { s with heap := h' } := by
  have hlt : ∀ x o, s₀.heap.get? x = some o → x ≠ a ∧ x ≠ b := fun x o e =>
    ⟨fun q => by subst q; exact Nat.lt_irrefl _ (Nat.lt_of_lt_of_le (Heap.lt_size e) ha), fun q => by subst q; exact Nat.lt_irrefl _ (Nat.lt_of_lt_of_le (Heap.lt_size e) hb)⟩
  have code : ∀ cv q, s.heap.CodeRec cv q → h'.CodeRec cv q := fun cv q ⟨c, o, vs, t, e1, e2, e3, e4⟩ => ⟨c, o, vs, t, e1, hs c o (fun qq => by
    subst qq; rw [hoa] at e2; cases e2; exact hna vs q t e3 e4) (fun qq => by subst qq; rw [hob] at e2; cases e2; exact hnb vs q t e3 e4) e2, e3, e4⟩
  have tab : ∀ P q, TabOk s₀.heap P q → TabOk s.heap P q → TabOk h' P q := fun P q ⟨_, p0, _⟩ ⟨ps, p1, p2, p3⟩ => ⟨ps, hs P _ (hlt _ _ p0).1 (hlt _ _ p0).2 p1, p2, fun pos cv hc => code cv q (p3 pos cv hc)⟩
  refine ⟨⟨let ⟨_, tk, e⟩ := F.grow.same; ⟨h', tk, by rw [e]⟩, fun x o e => (F.grow.keep x o e).imp (fun e' => hs x o (hlt x o e).1 (hlt x o e).2 e') id,
    ⟨fun x o e => hs x o (hlt x o (F.ok₀.keep x o e)).1 (hlt x o (F.ok₀.keep x o e)).2 (F.grow.ok.keep x o e), fun p hp => tab _ _ (F.ok₀.tab p hp) (F.grow.ok.tab p hp)⟩⟩, F.ok₀, F.above, ?_⟩
  obtain ⟨m, ⟨o, es, ep, e, d⟩, r⟩ := F.ns
  exact ⟨m, ⟨o, es, ep, hs _ _ haL hbL e, d⟩, r⟩

section
variable {prog : Program} {w : World} {A : Around} {s : Shared} {g₀ : Heap} {mg mb : Str → Option Value} {R : Result → Shared → Prop}

theorem c_filemode (G : Gd w mg mb g₀) (O : Ok g₀ s.heap) (hr : Rm A 2) {m : Int} {t : Tok} (kk : ∀ s' u, Grow g₀ s s' → R (.ok (.ret (.str (fmStr m) u))) s') :
    codeAny (model prog w) A (.call (.ref 124) ⟨[.int m t], []⟩) R s := by
  refine enter (binds := [(Str.ofString "mode", .int m t)]) G O hr.room rfl rfl rfl rfl rfl (by decide) (locs rfl) rfl rfl rfl fun E s₁ L F => ?_
  have hsL := F.above
  refine wpAny_execs_cons <| wpAny_Assign_Name <| List_ <| args_nil <| wpAny_newList <| st_loc (F.push _) fun s₂ F₂ k₂ _ => ?_
  have hLP : L < s₁.heap.objs.size := F.lt
  have hP₂ : PlainL s₂.heap s₁.heap.objs.size #[] := ⟨_, _, (k₂ _ (Nat.ne_of_gt hLP)).trans (Heap.get?_push_size _ rfl), rfl, rfl, rfl⟩
  generalize s₁.heap.objs.size = Pm at *
  have hsP : s.heap.objs.size ≤ Pm := Nat.le_trans hsL (Nat.le_of_lt hLP)
  have hT117 : ∀ h' : Heap, Ok g₀ h' → h'.IsTuple 117 (ft.map fun r => Value.ref r.1).toArray := fun h' O' => let ⟨o, e, r⟩ := ft_top G; ⟨o, O'.keep _ _ e, r⟩
  refine wpAny_execs_cons <| wpAny_For <| Call_ <| ev_bui G F₂.grow.ok n_enumerate boot_enumerate ne_enumerate <| PyProof.Rows.callWith_type1 <| args_cons <| ev_glo G F₂.grow.ok rfl <| args_nil <| call_enum_tuple (hT117 _ F₂.grow.ok) fun h₃ he₃ hit₃ hz₃ k₃ => ?_
  refine wpAny_pyIter_enum he₃ ?_
  have F₃ := F₂.call ((Grow.refl F₂.grow.ok).to k₃)
  have hP₃ := hP₂.keeps k₃
  have hLe : L < s₂.heap.objs.size := F₂.lt
  have hPe : Pm < s₂.heap.objs.size := hP₂.lt
  generalize s₂.heap.objs.size = it at *
  have hsit : s.heap.objs.size ≤ it := Nat.le_trans hsL (Nat.le_of_lt hLe)
  have hsen : s.heap.objs.size ≤ it + 1 := Nat.le_succ_of_le hsit
  have hLen : L < it + 1 := Nat.lt_succ_of_lt hLe
  have hft : ft.length = 10 := rfl
  have hh : ∀ env, (A.deeper env).in1.handled = none := fun _ => hr.hand
  refine codeAny_forLoop_any (fun nn s' => ∃ j lst old, j ≤ 10 ∧ nn = 10 - j ∧ Fm g₀ s L [(Str.ofString "perm", .ref Pm), (Str.ofString "mode", .int m t)] s' ∧ IsEnum s'.heap (it + 1) it (j : Int) old ∧
    s'.heap.IsTupleIter it 117 j ∧ PlainL s'.heap Pm (strValues lst).toArray ∧ lst.map (·.1) = (List.range j).map fun i => one (sg m i)) ?_ 10
    ⟨0, [], .none, by decide, rfl, F₃.sub (List.forall_mem_cons.mpr ⟨rfl, List.forall_mem_cons.mpr ⟨rfl, List.forall_mem_nil _⟩⟩), he₃, hit₃, hP₃, rfl⟩
  clear F₃ hP₃ he₃ hit₃ k₃ hz₃ hP₂ k₂ F₂ F
  rintro nn s₄ ⟨j, lst, old, hj, rfl, F₄, hen, hit, hP, hlst⟩
  have hlen : lst.length = j := by have := congrArg List.length hlst; simpa using this
  have h117ne : (117 : Addr) ≠ it := fun q => by
    obtain ⟨o, e, c, _⟩ := hT117 _ F₄.grow.ok
    obtain ⟨o', e', c', _⟩ := hit
    rw [q, e'] at e; cases e; rw [c] at c'; injection c' with h; exact absurd h (by decide)
  have h117en : (117 : Addr) ≠ it + 1 := fun q => by
    obtain ⟨o, e, c, _⟩ := hT117 _ F₄.grow.ok
    rw [q, hen] at e; cases e; injection c with h; exact absurd h (by decide)
  have hPit : Pm ≠ it := Nat.ne_of_lt hPe
  have hPen : Pm ≠ it + 1 := Nat.ne_of_lt (Nat.lt_succ_of_lt hPe)
  have D := fun env => Draws.tuple (prog := prog) (w := w) (hh env) it 117 h117ne (ft.map fun r => Value.ref r.1).toArray
  have hnoE : ∀ vs (q : Str) t, ({ cls := .type "enumerate", dict := none, data := .fields #[.none, .bool false, .ref it, rawInt (j : Int), .none, old], slots := #[] } : Obj).data = .fields vs → vs[1]? ≠ some (.str q t) := fun vs q t dd => by cases dd; simp
  have hnoI : ∀ vs (q : Str) t, hit.choose.data = .fields vs → vs[1]? ≠ some (.str q t) := fun vs q t dd => by rw [hit.choose_spec.2.2] at dd; cases dd; simp
  by_cases hj10 : j = 10
  · subst hj10
    refine wpAny_pyNext_enum_endD (D _) hen ⟨hit, hT117 _ F₄.grow.ok⟩ fun h' he => ?_
    have F₅ := F₄.but hsit (Nat.ne_of_lt hLe) he hit.choose_spec.1 hnoI
    have hP₅ := hP.extBut he hPit
    refine wpAny_execs_nil ?_
    dsimp only
    refine wpAny_execs_cons <| wpAny_Return_some <| MethodCall_ <| Constant_str <| GM.join <| callWith_method1 <| args_cons <| ev_loc (F₅.toks _) rfl <| args_nil ?_
    refine SC.join (l := lst) hP₅.isList hlst rfl fun t' k' => ?_
    rw [join_signs]
    exact kk _ _ (F₅.toks _).grow
  · have hlt : j < 10 := by omega
    refine wpAny_pyNext_enum_itemD (D _) hen ⟨hit, hT117 _ F₄.grow.ok⟩ (by simpa [hft] using hlt) (Nat.ne_of_gt (Nat.lt_succ_self it)) (fun q => by
      rcases List.mem_cons.mp q with q | q
      · exact absurd q (Nat.ne_of_gt (Nat.lt_succ_self it))
      · exact h117en (List.mem_singleton.mp q).symm) fun x h' tk hx hout hst' htup hsz hk => ?_
    refine wpAny_letOwnedTupleGo_enum hout fun h₅ he₅ hs₅ => ?_
    have k₅ : ∀ b o, b ≠ it + 1 → b ≠ it → s₄.heap.get? b = some o → h₅.get? b = some o := fun b o h1 h2 e => hs₅.extBut b o h1 (hk b o h1 h2 e)
    have F₅ := (F₄.but2 hsen hsit (Nat.ne_of_lt hLen) (Nat.ne_of_lt hLe) k₅ hen hnoE hit.choose_spec.1 hnoI).toks (tk + 1)
    have hP₅ : PlainL h₅ Pm (strValues lst).toArray := let ⟨o, n, e, r⟩ := hP; ⟨o, n, k₅ _ _ hPen hPit e, r⟩
    have hTlt : it + 1 < s₄.heap.objs.size := Heap.lt_size hen
    have htup₅ : h₅.IsTuple s₄.heap.objs.size #[.int (j : Int) tk, x] := ⟨_, hs₅.extBut _ _ (Nat.ne_of_gt hTlt) htup, rfl, _, rfl⟩
    have hit₅ : h₅.IsTupleIter it 117 (j + 1) := hst'.1.extBut hs₅.extBut (Nat.ne_of_lt (Nat.lt_succ_self it))
    obtain ⟨r, hr'⟩ : ∃ r, ft[j]? = some r := ⟨_, List.getElem?_eq_getElem (by omega)⟩
    have hx' : x = .ref r.1 := by simpa [hr'] using hx.symm
    subst hx'
    have hrm : r ∈ ft := List.mem_of_getElem? hr'
    refine as_pair (show A.handled = none from hr.hand) F₅ htup₅ fun s₆ F₆ k₆ => ?_
    have hP₆ : PlainL s₆.heap Pm (strValues lst).toArray := let ⟨o, n, e, r⟩ := hP₅; ⟨o, n, k₆ _ _ (Nat.ne_of_gt hLP) e, r⟩
    have hen₆ : IsEnum s₆.heap (it + 1) it ((j : Int) + 1) (.ref r.1) := k₆ _ _ (Nat.ne_of_gt hLen) he₅
    have hit₆ : s₆.heap.IsTupleIter it 117 (j + 1) := let ⟨o, e, r⟩ := hit₅; ⟨o, k₆ _ _ (Nat.ne_of_gt hLe) e, r⟩
    have hrow : ∀ h' : Heap, Ok g₀ h' → h'.IsTuple r.1 (r.2.map fun p => Value.ref p.1).toArray := fun h' O' => let ⟨o, e, q⟩ := (ft_ok G r hrm).1; ⟨o, O'.keep _ _ e, q⟩
    refine wpAny_execs_cons <| wpAny_For <| ev_loc F₆ rfl <| wpAny_pyIter_tuple (hrow _ F₆.grow.ok) ?_
    have hsg : sg m j = sgn j m r.2 := by unfold sg; rw [List.getD_eq_getElem?_getD, hr']; rfl
    have fin : ∀ (s' : Shared) (c : Nat) (u : Tok), Fm g₀ s L [(Str.ofString "perm", .ref Pm), (Str.ofString "mode", .int m t)] s' → IsEnum s'.heap (it + 1) it ((j : Int) + 1) (.ref r.1) → s'.heap.IsTupleIter it 117 (j + 1) →
        PlainL s'.heap Pm ((strValues lst).toArray.push (.str (one c) u)) → c = sg m j → ∃ mm, mm < 10 - j ∧ ∃ j lst old, j ≤ 10 ∧ mm = 10 - j ∧ Fm g₀ s L [(Str.ofString "perm", .ref Pm), (Str.ofString "mode", .int m t)] s' ∧
          IsEnum s'.heap (it + 1) it (j : Int) old ∧ s'.heap.IsTupleIter it 117 j ∧ PlainL s'.heap Pm (strValues lst).toArray ∧ lst.map (·.1) = (List.range j).map fun i => one (sg m i) := fun s' c u F' he' hi' hp' hc => by
      refine ⟨10 - (j + 1), by omega, j + 1, lst ++ [(one c, u)], .ref r.1, by omega, rfl, F', ?_, hi', ?_, ?_⟩
      · have e : ((j + 1 : Nat) : Int) = (j : Int) + 1 := by omega
        rw [e]; exact he'
      · have e : (strValues (lst ++ [(one c, u)])).toArray = (strValues lst).toArray.push (.str (one c) u) := by simp [strValues]
        rw [e]; exact hp'
      · rw [List.map_append, hlst, List.range_succ, List.map_append, hc]; rfl
    have F₇ := F₆.push { cls := .type "tuple_iterator", data := .fields #[.ref r.1, .int 0 0] }
    have up : ∀ b o, s₆.heap.get? b = some o → (s₆.heap.push { cls := .type "tuple_iterator", data := .fields #[.ref r.1, .int 0 0] }).get? b = some o := fun b o e => Heap.get?_push_of_some _ e
    have hJ₇ : (s₆.heap.push { cls := .type "tuple_iterator", data := .fields #[.ref r.1, .int 0 0] }).IsTupleIter s₆.heap.objs.size r.1 0 := ⟨_, Heap.get?_push_size _ rfl, rfl, rfl⟩
    have hLJ : L < s₆.heap.objs.size := F₆.lt
    have hPJ : Pm ≠ s₆.heap.objs.size := Nat.ne_of_lt hP₆.lt
    have henJ : it + 1 ≠ s₆.heap.objs.size := Nat.ne_of_lt (Heap.lt_size hen₆)
    have hitJ : it ≠ s₆.heap.objs.size := Nat.ne_of_lt (let ⟨_, e, _⟩ := hit₆; Heap.lt_size e)
    generalize s₆.heap.objs.size = J at *
    have hsJ : s.heap.objs.size ≤ J := Nat.le_trans hsL (Nat.le_of_lt hLJ)
    refine codeAny_forLoop_any (fun nn s' => ∃ i, i ≤ r.2.length ∧ nn = r.2.length - i ∧
      Fm g₀ s L [(Str.ofString "table", .ref r.1), (Str.ofString "index", .int (j : Int) tk), (Str.ofString "perm", .ref Pm), (Str.ofString "mode", .int m t)] s' ∧ s'.heap.IsTupleIter J r.1 i ∧
      PlainL s'.heap Pm (strValues lst).toArray ∧ IsEnum s'.heap (it + 1) it ((j : Int) + 1) (.ref r.1) ∧ s'.heap.IsTupleIter it 117 (j + 1) ∧ ∀ p ∈ r.2.take i, test j m p.2.1 = false) ?_ r.2.length
      ⟨0, Nat.zero_le _, by omega, F₇, hJ₇, hP₆.keeps up, up _ _ hen₆, let ⟨o, e, q⟩ := hit₆; ⟨o, up _ _ e, q⟩, fun p hp => by simp at hp⟩
    clear F₇ hJ₇ up hP₆ hen₆ hit₆ k₆ F₆ hit₅ htup₅ hP₅ F₅ k₅ he₅ hs₅
    rintro nn s₇ ⟨i, hi, rfl, F₇, hJ, hP₇, hen₇, hit₇, hno⟩
    have hnoJ : ∀ vs (q : Str) t, hJ.choose.data = .fields vs → vs[1]? ≠ some (.str q t) := fun vs q t dd => by rw [hJ.choose_spec.2.2] at dd; cases dd; simp
    have hle : ((strValues lst).toArray).size ≤ 1000 := by simp [strValues, hlen]; omega
    cases hv : r.2[i]? with
    | none =>
      have hi' : i = r.2.length := by have := List.getElem?_eq_none_iff.mp hv; omega
      refine wpAny_pyNext_tuple_end (show A.handled = none from hr.hand) hJ (hrow _ F₇.grow.ok) (by simp [hv]) fun h' he => ?_
      have F₈ := F₇.but hsJ (Nat.ne_of_lt hLJ) he hJ.choose_spec.1 hnoJ
      have hP₈ := hP₇.extBut he hPJ
      have hen₈ := he _ _ henJ hen₇
      have hit₈ : h'.IsTupleIter it 117 (j + 1) := let ⟨o, e, q⟩ := hit₇; ⟨o, he _ _ hitJ e, q⟩
      rw [hi', List.take_length] at hno
      have hnone : (r.2.find? fun p => test j m p.2.1) = none := List.find?_eq_none.mpr fun p hp => by simp [hno p hp]
      refine wpAny_execs_cons <| wpAny_If <| wpAny_isTrue_Compare1 <| ev_loc F₈ rfl <| wpAny_Constant_int <| eq_int <| wpAny_truthy_bool ?_
      have FF := F₈.toks (s₇.toks + 1)
      by_cases hj0 : j = 0
      · subst hj0
        rw [show (((0 : Nat) : Int) == 0) = true from rfl, if_pos rfl]
        refine wpAny_execs_cons <| ex_append FF rfl hP₈ hsP (Nat.ne_of_lt hLP) hle <| Constant_str ⟨_, FF.toks _, hP₈, fun s₁₁ F₁₁ hP₁₁ k₁₁ => wpAny_execs_nil <| wpAny_execs_nil <| wpAny_execs_nil ?_⟩
        refine fin _ 63 _ (F₁₁.sub (List.forall_mem_cons.mpr ⟨rfl, List.forall_mem_cons.mpr ⟨rfl, List.forall_mem_nil _⟩⟩)) ((k₁₁ _ hPen.symm).trans hen₈) (let ⟨o, e, q⟩ := hit₈; ⟨o, (k₁₁ _ hPit.symm).trans e, q⟩) hP₁₁ ?_
        rw [hsg, sgn, hnone]; rfl
      · have hjz : ((j : Int) == 0) = false := by simp; omega
        rw [hjz, if_neg (by decide)]
        refine wpAny_execs_cons <| ex_append FF rfl hP₈ hsP (Nat.ne_of_lt hLP) hle <| Constant_str ⟨_, FF.toks _, hP₈, fun s₁₁ F₁₁ hP₁₁ k₁₁ => wpAny_execs_nil <| wpAny_execs_nil <| wpAny_execs_nil ?_⟩
        refine fin _ 45 _ (F₁₁.sub (List.forall_mem_cons.mpr ⟨rfl, List.forall_mem_cons.mpr ⟨rfl, List.forall_mem_nil _⟩⟩)) ((k₁₁ _ hPen.symm).trans hen₈) (let ⟨o, e, q⟩ := hit₈; ⟨o, (k₁₁ _ hPit.symm).trans e, q⟩) hP₁₁ ?_
        rw [hsg, sgn, hnone]; exact (if_neg hj0).symm
    | some p =>
      have hlt' : i < r.2.length := (List.getElem?_eq_some_iff.mp hv).1
      have hp : p ∈ r.2 := List.mem_of_getElem? hv
      refine wpAny_pyNext_tuple_item hJ (hrow _ F₇.grow.ok) (x := .ref p.1) (by simp [hv]) fun h' hJ' hs' => ?_
      have F₈ := F₇.but hsJ (Nat.ne_of_lt hLJ) hs'.extBut hJ.choose_spec.1 hnoJ
      have hP₈ := hP₇.extBut hs'.extBut hPJ
      have hen₈ := hs'.extBut _ _ henJ hen₇
      have hit₈ : h'.IsTupleIter it 117 (j + 1) := hit₇.extBut hs'.extBut hitJ
      refine own_not hJ'.choose_spec.1 hJ'.choose_spec.2.1 (by decide) ?_
      obtain ⟨t1, t2, hpair⟩ := (ft_ok G r hrm).2 p hp
      have hpair₈ : h'.IsTuple p.1 #[.int p.2.1 t1, .str (one p.2.2) t2] := let ⟨o, e, q⟩ := hpair; ⟨o, F₈.grow.ok.keep _ _ e, q⟩
      refine as_pair (show A.handled = none from hr.hand) F₈ hpair₈ fun s₉ F₉ k₉ => ?_
      have hP₉ : PlainL s₉.heap Pm (strValues lst).toArray := let ⟨o, n, e, q⟩ := hP₈; ⟨o, n, k₉ _ _ (Nat.ne_of_gt hLP) e, q⟩
      have hen₉ : IsEnum s₉.heap (it + 1) it ((j : Int) + 1) (.ref r.1) := k₉ _ _ (Nat.ne_of_gt hLen) hen₈
      have hit₉ : s₉.heap.IsTupleIter it 117 (j + 1) := let ⟨o, e, q⟩ := hit₈; ⟨o, k₉ _ _ (Nat.ne_of_gt hLe) e, q⟩
      have hJ₉ : s₉.heap.IsTupleIter J r.1 (i + 1) := let ⟨o, e, q⟩ := hJ'; ⟨o, k₉ _ _ (Nat.ne_of_gt hLJ) e, q⟩
      have hfind : test j m p.2.1 = true → p.2.2 = sg m j := fun ht => by
        rw [hsg, sgn]
        have : (r.2.find? fun p => test j m p.2.1) = some p := by
          have e : r.2 = r.2.take i ++ p :: r.2.drop (i + 1) := by
            have e2 : r.2[i] = p := (List.getElem?_eq_some_iff.mp hv).2
            conv => lhs; rw [← List.take_append_drop i r.2]
            rw [List.drop_eq_getElem_cons hlt', e2]
          rw [e, List.find?_append]
          have h1 : ((r.2.take i).find? fun p => test j m p.2.1) = none := List.find?_eq_none.mpr fun p hp => by simp [hno p hp]
          rw [h1, List.find?_cons, ht]; rfl
        rw [this]
      have hnext : test j m p.2.1 = false → ∀ q ∈ r.2.take (i + 1), test j m q.2.1 = false := fun ht q hq => by
        rw [List.take_add_one, hv] at hq
        rcases List.mem_append.mp hq with hq | hq
        · exact hno q hq
        · simp at hq; subst hq; exact ht
      refine wpAny_execs_cons <| wpAny_If <| wpAny_isTrue_Compare1 <| ev_loc F₉ rfl <| wpAny_Constant_int <| eq_int <| wpAny_truthy_bool ?_
      by_cases hj0 : j = 0
      · subst hj0
        rw [show (((0 : Nat) : Int) == 0) = true from rfl, if_pos rfl]
        refine wpAny_execs_cons <| wpAny_If <| wpAny_isTrue_Compare1 <| Call_ <| ev_glo G F₉.grow.ok rfl <| cl_own G rfl rfl <| args_cons <| ev_loc (F₉.toks _) rfl <| args_nil ⟨F₉.grow.ok, wpAny_call <| c_fmt G (F₉.toks _).grow.ok hr.deeper fun s₁₀ u g₁₀ => ?_⟩
        have FF := (F₉.toks _).call g₁₀
        have hPP := g₁₀.keep.plainL hP₉
        have hEE : IsEnum s₁₀.heap (it + 1) it (((0 : Nat) : Int) + 1) (.ref r.1) := g₁₀.keep.getT hen₉ rfl
        have hII := g₁₀.keep.tupleIter hit₉
        have hJJ := g₁₀.keep.tupleIter hJ₉
        refine ev_loc FF rfl <| eq_int <| wpAny_truthy_bool ?_
        by_cases ht : test 0 m p.2.1 = true
        · have ht' : (Builtin.bitAnd m 61440 == p.2.1) = true := by simpa [test] using ht
          rw [ht', if_pos rfl]
          refine wpAny_execs_cons <| ex_append FF rfl hPP hsP (Nat.ne_of_lt hLP) hle <| ev_loc FF rfl ⟨_, FF, hPP, fun s₁₁ F₁₁ hP₁₁ k₁₁ => ?_⟩
          refine wpAny_execs_cons <| wpAny_Break <| wpAny_execs_nil ?_
          refine fin _ p.2.2 t2 (F₁₁.sub (List.forall_mem_cons.mpr ⟨rfl, List.forall_mem_cons.mpr ⟨rfl, List.forall_mem_nil _⟩⟩)) ((k₁₁ _ hPen.symm).trans hEE) (let ⟨o, e, q⟩ := hII; ⟨o, (k₁₁ _ hPit.symm).trans e, q⟩) hP₁₁ (hfind ht)
        · have ht2 : test 0 m p.2.1 = false := by simpa using ht
          have ht' : (Builtin.bitAnd m 61440 == p.2.1) = false := by simpa [test] using ht2
          rw [ht', if_neg (by decide)]
          refine wpAny_execs_nil <| wpAny_execs_nil <| wpAny_execs_nil ⟨r.2.length - (i + 1), by omega, i + 1, by omega, rfl, FF.sub (List.forall_mem_cons.mpr ⟨rfl, List.forall_mem_cons.mpr ⟨rfl, List.forall_mem_cons.mpr ⟨rfl, List.forall_mem_cons.mpr ⟨rfl, List.forall_mem_nil _⟩⟩⟩⟩), hJJ, hPP, hEE, hII, hnext ht2⟩
      · have hjz : ((j : Int) == 0) = false := by simp; omega
        rw [hjz, if_neg (by decide)]
        have FF := F₉.toks (s₉.toks + 1 + 1)
        have hPP := hP₉
        have hEE := hen₉
        have hII := hit₉
        have hJJ := hJ₉
        refine wpAny_execs_cons <| wpAny_If <| wpAny_isTrue_Compare1 <| wpAny_BinOp <| ev_loc (F₉.toks _) rfl <| ev_loc (F₉.toks _) rfl <| and_int <| ev_loc FF rfl <| eq_int <| wpAny_truthy_bool ?_
        by_cases ht : test j m p.2.1 = true
        · have ht' : (Builtin.bitAnd m p.2.1 == p.2.1) = true := by simpa [test, hj0] using ht
          rw [ht', if_pos rfl]
          refine wpAny_execs_cons <| ex_append FF rfl hPP hsP (Nat.ne_of_lt hLP) hle <| ev_loc FF rfl ⟨_, FF, hPP, fun s₁₁ F₁₁ hP₁₁ k₁₁ => ?_⟩
          refine wpAny_execs_cons <| wpAny_Break <| wpAny_execs_nil ?_
          refine fin _ p.2.2 t2 (F₁₁.sub (List.forall_mem_cons.mpr ⟨rfl, List.forall_mem_cons.mpr ⟨rfl, List.forall_mem_nil _⟩⟩)) ((k₁₁ _ hPen.symm).trans hEE) (let ⟨o, e, q⟩ := hII; ⟨o, (k₁₁ _ hPit.symm).trans e, q⟩) hP₁₁ (hfind ht)
        · have ht2 : test j m p.2.1 = false := by simpa using ht
          have ht' : (Builtin.bitAnd m p.2.1 == p.2.1) = false := by simpa [test, hj0] using ht2
          rw [ht', if_neg (by decide)]
          refine wpAny_execs_nil <| wpAny_execs_nil <| wpAny_execs_nil ⟨r.2.length - (i + 1), by omega, i + 1, by omega, rfl, FF.sub (List.forall_mem_cons.mpr ⟨rfl, List.forall_mem_cons.mpr ⟨rfl, List.forall_mem_cons.mpr ⟨rfl, List.forall_mem_cons.mpr ⟨rfl, List.forall_mem_nil _⟩⟩⟩⟩), hJJ, hPP, hEE, hII, hnext ht2⟩
end
end Mine

end
section
set_option maxRecDepth 100000
namespace Mine

def Run {α : Type} (n : Nat) (c : Nat → Nat → Bool) : KasT α → (α → Prop) → Prop
  | .ret a, Q => Q a
  | .ask i j k, Q => i < n ∧ j < n ∧ Run n c (k (c i j)) Q
theorem Run.bind {α β : Type} {n : Nat} {c : Nat → Nat → Bool} {f : α → KasT β} {Q : β → Prop} : ∀ {t : KasT α}, Run n c t (fun a => Run n c (f a) Q) → Run n c (t.bind f) Q
  | .ret _, h => h
  | .ask _ _ _, h => ⟨h.1, h.2.1, Run.bind h.2.2⟩
theorem Run.mono {α : Type} {n : Nat} {c : Nat → Nat → Bool} {Q Q' : α → Prop} (hq : ∀ a, Q a → Q' a) : ∀ {t : KasT α}, Run n c t Q → Run n c t Q'
  | .ret _, h => hq _ h
  | .ask _ _ _, h => ⟨h.1, h.2.1, h.2.2.mono hq⟩

theorem getD_rev {p : Array Nat} {i j : Nat} (hj : j ≤ p.size) (k : Nat) : (kas_rev p i j).getD k 0 = if i ≤ k ∧ k < j then p.getD (i + j - 1 - k) 0 else p.getD k 0 := by
  rw [Array.getD_eq_getD_getElem?, kas_rev, getElem?_mirror_all hj]
  split <;> rw [Array.getD_eq_getD_getElem?]
theorem getD_bub {p : Array Nat} {src d : Nat} (hs : src < p.size) (hd : d ≤ src) (k : Nat) :
    (bubble p src d).getD k 0 = if k = src - d then p.getD src 0 else if src - d < k ∧ k ≤ src then p.getD (k - 1) 0 else p.getD k 0 := by
  simp only [Array.getD_eq_getD_getElem?]
  rw [getElem?_bubble hs d hd k]
  by_cases h1 : k = src - d
  · rw [if_pos h1, if_pos h1]
  · rw [if_neg h1, if_neg h1]
    by_cases h2 : src - d < k ∧ k ≤ src
    · rw [if_pos h2, if_pos h2]
    · rw [if_neg h2, if_neg h2]

section
variable {n : Nat} {rk : Nat → Nat}
/-- before: by rank, then by place -/
def Sb (rk : Nat → Nat) (i j : Nat) : Prop := rk i < rk j ∨ (rk i = rk j ∧ i < j)
def PermOf (n : Nat) (p : Array Nat) : Prop := p.Perm (List.range n).toArray
structure St (n : Nat) (rk : Nat → Nat) (p : Array Nat) (m : Nat) : Prop where
  size : p.size = n
  perm : PermOf n p
  tail : ∀ k, m ≤ k → k < n → p.getD k 0 = k
  dom : ∀ k, k < m → p.getD k 0 < m
  ord : ∀ a b, a < b → b < m → Sb rk (p.getD a 0) (p.getD b 0)
structure An (n : Nat) (rk : Nat → Nat) (p : Array Nat) (m : Nat) : Prop where
  size : p.size = n
  perm : PermOf n p
  tail : ∀ k, m ≤ k → k < n → p.getD k 0 = k
  dom : ∀ k, k < m → p.getD k 0 < m
  ord : ∀ a b, a < b → b < m → Sb rk (p.getD b 0) (p.getD a 0)
structure De (n : Nat) (rk : Nat → Nat) (p : Array Nat) (m q : Nat) : Prop where
  size : p.size = n
  perm : PermOf n p
  qm : q + 1 ≤ m
  mn : m ≤ n
  tail : ∀ k, m - q - 1 ≤ k → k < n → p.getD k 0 = k
  dom : ∀ k, k < m - q - 1 → p.getD k 0 < m - q - 1
  ord : ∀ a b, a < b → b < m - q - 1 → Sb rk (p.getD b 0) (p.getD a 0)
  over : ∀ a b, a < m - q - 1 → m - q - 1 ≤ b → b < m → rk b < rk (p.getD a 0)
  same : ∀ b, m - q - 1 ≤ b → b < m → rk b = rk (m - 1)

theorem PermOf.rev {p : Array Nat} (h : PermOf n p) (i j : Nat) : PermOf n (kas_rev p i j) := (mirror_perm _ _ _ _).trans h
theorem PermOf.bub {p : Array Nat} (h : PermOf n p) (i j : Nat) : PermOf n (bubble p i j) := (bubble_perm _ _ _).trans h

theorem An.rev {p : Array Nat} {m : Nat} (h : An n rk p m) (hm : m ≤ n) : St n rk (kas_rev p 0 m) m := by
  have hr := fun k => getD_rev (p := p) (i := 0) (j := m) (by rw [h.size]; exact hm) k
  refine ⟨(kas_rev_size _ _).trans h.size, h.perm.rev _ _, fun k h1 h2 => ?_, fun k h1 => ?_, fun a b h1 h2 => ?_⟩
  · rw [hr, if_neg (by omega)]; exact h.tail k h1 h2
  · rw [hr, if_pos (by omega)]; exact h.dom _ (by omega)
  · rw [hr, hr, if_pos (by omega), if_pos (by omega)]; exact h.ord _ _ (by omega) (by omega)

variable {c : Nat → Nat → Bool}
theorem run_asc (hc : ∀ i j, i < n → j < n → c i j = decide (rk i < rk j)) {p : Array Nat} : ∀ (fuel m : Nat), 1 ≤ m → m + fuel ≤ n → St n rk p m →
    Run n c (kas_asc p fuel m) fun m' => m ≤ m' ∧ m' ≤ m + fuel ∧ St n rk p m' ∧ (m' < m + fuel → rk m' < rk (p.getD (m' - 1) 0))
  | 0, m, _, _, h => ⟨Nat.le_refl _, Nat.le_refl _, h, fun q => absurd q (Nat.lt_irrefl _)⟩
  | fuel + 1, m, h1, h2, h => by
    have e1 : p.getD m 0 = m := h.tail m (Nat.le_refl _) (by omega)
    have e2 : p.getD (m - 1) 0 < m := h.dom _ (by omega)
    refine ⟨by rw [e1]; omega, by omega, ?_⟩
    rw [hc _ _ (by rw [e1]; omega) (by omega), e1]
    by_cases hlt : rk m < rk (p.getD (m - 1) 0)
    · simp only [hlt, decide_true, if_true]
      exact ⟨Nat.le_refl _, by omega, h, fun _ => hlt⟩
    · simp only [hlt, decide_false, Bool.false_eq_true, if_false]
      have h' : St n rk p (m + 1) := by
        refine ⟨h.size, h.perm, fun k a b => h.tail k (by omega) b, fun k a => ?_, fun a b hab hb => ?_⟩
        · by_cases hk : k = m
          · rw [hk, e1]; omega
          · have := h.dom k (by omega); omega
        · by_cases hb' : b = m
          · rw [hb', e1]
            have d := h.dom a (by omega)
            by_cases ha : a = m - 1
            · rw [ha] at d ⊢; unfold Sb; omega
            · have o := h.ord a (m - 1) (by omega) (by omega)
              unfold Sb at o ⊢; omega
          · exact h.ord a b hab (by omega)
      refine Run.mono (fun m' hm => ?_) (run_asc hc fuel (m + 1) (by omega) (by omega) h')
      exact ⟨by omega, by omega, hm.2.2.1, fun q => hm.2.2.2 (by omega)⟩

theorem run_desc (hc : ∀ i j, i < n → j < n → c i j = decide (rk i < rk j)) : ∀ (fuel : Nat) (p : Array Nat) (m q : Nat), m + fuel ≤ n → De n rk p m q →
    Run n c (kas_desc fuel p m q) fun r => r.2.1 ≤ m + fuel ∧ De n rk r.1 r.2.1 r.2.2
  | 0, p, m, q, _, h => ⟨Nat.le_refl _, h⟩
  | fuel + 1, p, m, q, h2, h => by
    have hq := h.qm
    have e1 : p.getD m 0 = m := h.tail m (by omega) (by omega)
    have e2 : p.getD (m - 1) 0 = m - 1 := h.tail _ (by omega) (by omega)
    refine ⟨by rw [e1]; omega, by rw [e2]; omega, ?_⟩
    rw [hc _ _ (by rw [e1]; omega) (by rw [e2]; omega), e1, e2]
    by_cases hlt : rk m < rk (m - 1)
    · simp only [hlt, decide_true, if_true]
      have next : De n rk (if q > 0 then kas_rev p (m - (q + 1)) m else p) (m + 1) 0 := by
        by_cases hq0 : q > 0
        · rw [if_pos hq0]
          have hr := fun k => getD_rev (p := p) (i := m - (q + 1)) (j := m) (by rw [h.size]; omega) k
          have inS : ∀ k, m - (q + 1) ≤ k → k < m → (kas_rev p (m - (q + 1)) m).getD k 0 = m - (q + 1) + m - 1 - k := fun k a b => by
            rw [hr, if_pos ⟨a, b⟩]; exact h.tail _ (by omega) (by omega)
          have out : ∀ k, k < m - (q + 1) → (kas_rev p (m - (q + 1)) m).getD k 0 = p.getD k 0 := fun k a => by rw [hr, if_neg (by omega)]
          refine ⟨(kas_rev_size _ _).trans h.size, h.perm.rev _ _, by omega, by omega, fun k a b => ?_, fun k a => ?_, fun a b hab hb => ?_, fun a b ha hb1 hb2 => ?_, fun b hb1 hb2 => ?_⟩
          · rw [hr, if_neg (by omega)]; exact h.tail k (by omega) b
          · by_cases hk : k < m - (q + 1)
            · rw [out k hk]; have := h.dom k (by omega); omega
            · rw [inS k (by omega) (by omega)]; omega
          · by_cases hb' : b < m - (q + 1)
            · rw [out b hb', out a (by omega)]; exact h.ord a b hab (by omega)
            · rw [inS b (by omega) (by omega)]
              by_cases ha' : a < m - (q + 1)
              · rw [out a ha']; exact .inl (h.over a _ (by omega) (by omega) (by omega))
              · rw [inS a (by omega) (by omega)]
                have s1 := h.same (m - (q + 1) + m - 1 - b) (by omega) (by omega)
                have s2 := h.same (m - (q + 1) + m - 1 - a) (by omega) (by omega)
                exact .inr ⟨by omega, by omega⟩
          · have hb : b = m := by omega
            subst hb
            by_cases ha' : a < b - (q + 1)
            · rw [out a ha']; have := h.over a (b - 1) (by omega) (by omega) (by omega); omega
            · rw [inS a (by omega) (by omega)]
              have s1 := h.same (b - (q + 1) + b - 1 - a) (by omega) (by omega)
              omega
          · have hb : b = m := by omega
            subst hb; congr 1
        · rw [if_neg hq0]
          have q0 : q = 0 := by omega
          subst q0
          refine ⟨h.size, h.perm, by omega, by omega, fun k a b => h.tail k (by omega) b, fun k a => ?_, fun a b hab hb => ?_, fun a b ha hb1 hb2 => ?_, fun b hb1 hb2 => ?_⟩
          · by_cases hk : k = m - 1
            · rw [hk, e2]; omega
            · have := h.dom k (by omega); omega
          · by_cases hb' : b = m - 1
            · rw [hb', e2]; exact .inl (h.over a (m - 1) (by omega) (by omega) (by omega))
            · exact h.ord a b hab (by omega)
          · have hb : b = m := by omega
            subst hb
            by_cases ha' : a = b - 1
            · rw [ha', e2]; exact hlt
            · have := h.over a (b - 1) (by omega) (by omega) (by omega); omega
          · have hb : b = m := by omega
            subst hb; congr 1
      have go := run_desc hc fuel _ (m + 1) 0 (by omega) next
      by_cases hq0 : q > 0
      · rw [if_pos hq0] at go ⊢
        exact go.mono fun r hr => ⟨by omega, hr.2⟩
      · rw [if_neg hq0] at go ⊢
        exact go.mono fun r hr => ⟨by omega, hr.2⟩
    · simp only [hlt, decide_false, Bool.false_eq_true, if_false]
      refine ⟨by omega, by omega, ?_⟩
      rw [hc _ _ (by omega) (by omega)]
      by_cases hgt : rk (m - 1) < rk m
      · simp only [hgt, decide_true, if_true]
        exact ⟨by show m ≤ m + (fuel + 1); omega, h⟩
      · simp only [hgt, decide_false, Bool.false_eq_true, if_false]
        have heq : rk m = rk (m - 1) := by omega
        refine (run_desc hc fuel p (m + 1) (q + 1) (by omega) ⟨h.size, h.perm, by omega, by omega, fun k a b => h.tail k (by omega) b, fun k a => ?_, fun a b hab hb => h.ord a b hab (by omega), fun a b ha hb1 hb2 => ?_, fun b hb1 hb2 => ?_⟩).mono fun r hr => ⟨by omega, hr.2⟩
        · have := h.dom k (by omega); omega
        · by_cases hb : b = m
          · rw [hb, heq]; exact h.over a (m - 1) (by omega) (by omega) (by omega)
          · exact h.over a b (by omega) (by omega) (by omega)
        · by_cases hb : b = m
          · rw [hb]; congr 1
          · rw [h.same b (by omega) (by omega)]; simp only [Nat.add_sub_cancel]; exact heq.symm

theorem run_tail3 (hc : ∀ i j, i < n → j < n → c i j = decide (rk i < rk j)) {p : Array Nat} {m : Nat} (h1 : 1 ≤ m) (hm : m ≤ n) (h : An n rk p m) :
    Run n c (kas_tail3 m n p) fun r => 1 ≤ r.1 ∧ r.1 ≤ n ∧ St n rk r.2 r.1 :=
  Run.bind ((run_asc hc (n - m) m h1 (by omega) (h.rev hm)).mono fun m' hm' => ⟨by omega, by omega, hm'.2.2.1⟩)

theorem run_descPart (hc : ∀ i j, i < n → j < n → c i j = decide (rk i < rk j)) {p : Array Nat} {m : Nat} (hm : m + 1 ≤ n) (h : De n rk p (m + 1) 0) :
    Run n c (kas_descPart m n p) fun r => 1 ≤ r.1 ∧ r.1 ≤ n ∧ St n rk r.2 r.1 := by
  refine Run.bind ((run_desc hc (n - (m + 1)) p (m + 1) 0 (by omega) h).mono fun r hr => ?_)
  obtain ⟨p', m', q⟩ := r
  obtain ⟨_, d⟩ := hr
  have hq := d.qm
  simp only at d hq ⊢
  by_cases hq0 : q > 0
  · rw [if_pos hq0]
    have hr := fun k => getD_rev (p := p') (i := m' - (q + 1)) (j := m') (by rw [d.size]; exact d.mn) k
    have inS : ∀ k, m' - (q + 1) ≤ k → k < m' → (kas_rev p' (m' - (q + 1)) m').getD k 0 = m' - (q + 1) + m' - 1 - k := fun k a b => by
      rw [hr, if_pos ⟨a, b⟩]; exact d.tail _ (by omega) (by have := d.mn; omega)
    have out : ∀ k, k < m' - (q + 1) → (kas_rev p' (m' - (q + 1)) m').getD k 0 = p'.getD k 0 := fun k a => by rw [hr, if_neg (by omega)]
    refine run_tail3 hc (by omega) d.mn ⟨(kas_rev_size _ _).trans d.size, d.perm.rev _ _, fun k a b => ?_, fun k a => ?_, fun a b hab hb => ?_⟩
    · rw [hr, if_neg (by omega)]; exact d.tail k (by omega) b
    · by_cases hk : k < m' - (q + 1)
      · rw [out k hk]; have := d.dom k (by omega); omega
      · rw [inS k (by omega) (by omega)]; omega
    · by_cases hb' : b < m' - (q + 1)
      · rw [out b hb', out a (by omega)]; exact d.ord a b hab (by omega)
      · rw [inS b (by omega) (by omega)]
        by_cases ha' : a < m' - (q + 1)
        · rw [out a ha']; exact .inl (d.over a _ (by omega) (by omega) (by omega))
        · rw [inS a (by omega) (by omega)]
          have s1 := d.same (m' - (q + 1) + m' - 1 - b) (by omega) (by omega)
          have s2 := d.same (m' - (q + 1) + m' - 1 - a) (by omega) (by omega)
          exact .inr ⟨by omega, by omega⟩
  · rw [if_neg hq0]
    have q0 : q = 0 := by omega
    subst q0
    have e2 : p'.getD (m' - 1) 0 = m' - 1 := d.tail _ (by omega) (by have := d.mn; omega)
    refine run_tail3 hc (by omega) d.mn ⟨d.size, d.perm, fun k a b => d.tail k (by omega) b, fun k a => ?_, fun a b hab hb => ?_⟩
    · by_cases hk : k = m' - 1
      · rw [hk, e2]; omega
      · have := d.dom k (by omega); omega
    · by_cases hb' : b = m' - 1
      · rw [hb', e2]; exact .inl (d.over a (m' - 1) (by omega) (by omega) (by omega))
      · exact d.ord a b hab (by omega)

theorem run_count (hc : ∀ i j, i < n → j < n → c i j = decide (rk i < rk j)) {p : Array Nat} (hn : 1 ≤ n) (h : St n rk p 1) :
    Run n c (kas_count n p) fun r => 1 ≤ r.1 ∧ r.1 ≤ n ∧ St n rk r.2 r.1 := by
  refine Run.bind ((run_asc hc (n - 1) 1 (Nat.le_refl _) (by omega) h).mono fun m hm => ?_)
  obtain ⟨h1, h2, hs, hstop⟩ := hm
  by_cases hmn : m = n
  · subst hmn
    rw [if_pos (beq_self_eq_true _)]
    exact ⟨h1, Nat.le_refl _, hs⟩
  · rw [if_neg (by simpa using hmn)]
    have hlt := hstop (by omega)
    by_cases hm1 : m > 1
    · rw [if_pos hm1]
      have d0 := hs.dom 0 (by omega)
      have d1 := hs.dom (m - 1) (by omega)
      refine ⟨by omega, by omega, ?_⟩
      rw [hc _ _ (by omega) (by omega)]
      by_cases hr : rk (p.getD 0 0) < rk (p.getD (m - 1) 0)
      · simp only [hr, decide_true, if_true]
        exact ⟨h1, by omega, hs⟩
      · simp only [hr, decide_false, Bool.false_eq_true, if_false]
        have heq : ∀ a, a < m → rk (p.getD a 0) = rk (p.getD (m - 1) 0) := fun a ha => by
          have o1 : a = 0 ∨ Sb rk (p.getD 0 0) (p.getD a 0) := by
            by_cases q : a = 0
            · exact .inl q
            · exact .inr (hs.ord 0 a (by omega) ha)
          have o2 : a = m - 1 ∨ Sb rk (p.getD a 0) (p.getD (m - 1) 0) := by
            by_cases q : a = m - 1
            · exact .inl q
            · exact .inr (hs.ord a (m - 1) (by omega) (by omega))
          unfold Sb at o1 o2
          rcases o1 with rfl | o1 <;> rcases o2 with q | o2
          · rw [← q]
          · omega
          · rw [q]
          · omega
        have hrv := fun k => getD_rev (p := p) (i := 0) (j := m) (by rw [hs.size]; omega) k
        refine run_descPart hc (by omega) ⟨(kas_rev_size _ _).trans hs.size, hs.perm.rev _ _, by omega, by omega, fun k a b => ?_, fun k a => ?_, fun a b hab hb => ?_, fun a b ha hb1 hb2 => ?_, fun b hb1 hb2 => ?_⟩
        · rw [hrv, if_neg (by omega)]; exact hs.tail k (by omega) b
        · rw [hrv, if_pos (by omega)]; have := hs.dom (0 + m - 1 - k) (by omega); omega
        · rw [hrv, hrv, if_pos (by omega), if_pos (by omega)]; exact hs.ord _ _ (by omega) (by omega)
        · have hb : b = m := by omega
          subst hb
          rw [hrv, if_pos (by omega), heq _ (by omega)]
          exact hlt
        · have hb : b = m := by omega
          subst hb; congr 1
    · rw [if_neg hm1]
      have m1 : m = 1 := by omega
      subst m1
      have e0 : p.getD 0 0 = 0 := by have := hs.dom 0 (by omega); omega
      have hlt' : rk 1 < rk (p.getD 0 0) := hlt
      refine run_descPart hc (by omega) ⟨hs.size, hs.perm, by omega, by omega, fun k a b => hs.tail k (by omega) b, fun k a => ?_, fun a b hab hb => by omega, fun a b ha hb1 hb2 => ?_, fun b hb1 hb2 => ?_⟩
      · have := hs.dom k (by omega); omega
      · have ha0 : a = 0 := by omega
        have hb : b = 1 := by omega
        subst ha0; subst hb
        exact hlt'
      · have hb : b = 1 := by omega
        subst hb; rfl

theorem run_place (hc : ∀ i j, i < n → j < n → c i j = decide (rk i < rk j)) {p : Array Nat} {k : Nat} (hk : k < n) (h : St n rk p k) : ∀ (fuel l r : Nat), l ≤ r → r ≤ k → r - l ≤ fuel →
    (∀ a, a < l → rk (p.getD a 0) ≤ rk k) → (∀ a, r ≤ a → a < k → rk k < rk (p.getD a 0)) →
    Run n c (kas_place p k fuel l r) fun l' => l' ≤ k ∧ (∀ a, a < l' → rk (p.getD a 0) ≤ rk k) ∧ ∀ a, l' ≤ a → a < k → rk k < rk (p.getD a 0)
  | 0, l, r, h1, h2, h3, hl, hr => by
    have : l = r := by omega
    subst this
    exact ⟨h2, hl, hr⟩
  | fuel + 1, l, r, h1, h2, h3, hl, hr => by
    unfold kas_place
    by_cases hlr : l ≥ r
    · rw [if_pos hlr]
      have : l = r := by omega
      subst this
      exact ⟨h2, hl, hr⟩
    · rw [if_neg hlr]
      have e : p.getD k 0 = k := h.tail k (Nat.le_refl _) hk
      have d := h.dom ((l + r) / 2) (by omega)
      refine ⟨by rw [e]; exact hk, by omega, ?_⟩
      rw [hc _ _ (by rw [e]; exact hk) (by omega), e]
      by_cases hlt : rk k < rk (p.getD ((l + r) / 2) 0)
      · simp only [hlt, decide_true, if_true]
        refine run_place hc hk h fuel l _ (by omega) (by omega) (by omega) hl fun a ha hak => ?_
        by_cases q : a = (l + r) / 2
        · rw [q]; exact hlt
        · have := h.ord ((l + r) / 2) a (by omega) hak
          unfold Sb at this; omega
      · simp only [hlt, decide_false, Bool.false_eq_true, if_false]
        refine run_place hc hk h fuel _ r (by omega) h2 (by omega) (fun a ha => ?_) hr
        by_cases q : a = (l + r) / 2
        · rw [q]; omega
        · have := h.ord a ((l + r) / 2) (by omega) (by omega)
          unfold Sb at this; omega

theorem run_bin (hc : ∀ i j, i < n → j < n → c i j = decide (rk i < rk j)) : ∀ (fuel : Nat) (p : Array Nat) (k : Nat), k + fuel = n → St n rk p k → Run n c (kas_bin fuel p k) fun p' => St n rk p' n
  | 0, p, k, hk, h => by
    have : k = n := by omega
    subst this; exact h
  | fuel + 1, p, k, hk, h => by
    refine Run.bind ((run_place hc (by omega) h k 0 k (Nat.zero_le _) (Nat.le_refl _) (by omega) (fun a ha => by omega) (fun a h1 h2 => by omega)).mono fun l hl => ?_)
    obtain ⟨hlk, hlo, hhi⟩ := hl
    have e : p.getD k 0 = k := h.tail k (Nat.le_refl _) (by omega)
    have hb := fun x => getD_bub (p := p) (src := k) (d := k - l) (by rw [h.size]; omega) (by omega) x
    have ekl : k - (k - l) = l := by omega
    rw [ekl] at hb
    refine run_bin hc fuel _ (k + 1) (by omega) ⟨(bubble_size _ _ _).trans h.size, h.perm.bub _ _, fun x h1 h2 => ?_, fun x h1 => ?_, fun a b hab hbk => ?_⟩
    · rw [hb, if_neg (by omega), if_neg (by omega)]; exact h.tail x (by omega) h2
    · rw [hb]
      split
      · rw [e]; omega
      · split
        · have := h.dom (x - 1) (by omega); omega
        · have := h.dom x (by omega); omega
    · rw [hb, hb]
      by_cases hbl : b = l
      · subst hbl
        rw [if_pos rfl, if_neg (by omega), if_neg (by omega), e]
        have := hlo a (by omega)
        have d := h.dom a (by omega)
        unfold Sb; omega
      · rw [if_neg hbl]
        by_cases hal : a = l
        · subst hal
          rw [if_pos rfl, if_pos (by omega), e]
          exact .inl (hhi (b - 1) (by omega) (by omega))
        · rw [if_neg hal]
          by_cases hb1 : l < b ∧ b ≤ k
          · rw [if_pos hb1]
            by_cases ha1 : l < a ∧ a ≤ k
            · rw [if_pos ha1]; exact h.ord _ _ (by omega) (by omega)
            · rw [if_neg ha1]; exact h.ord _ _ (by omega) (by omega)
          · rw [if_neg hb1, if_neg (by omega)]; exact h.ord _ _ (by omega) (by omega)

theorem run_sort (hc : ∀ i j, i < n → j < n → c i j = decide (rk i < rk j)) (hn : 1 ≤ n) : Run n c (kas_sort n) fun p => St n rk p n := by
  have h0 : St n rk (List.toArray (List.range n)) 1 := by
    have e : ∀ k, k < n → (List.toArray (List.range n)).getD k 0 = k := fun k hk => by simp [Array.getD_eq_getD_getElem?, hk]
    refine ⟨by simp, Array.Perm.refl _, fun k _ hk => e k hk, fun k hk => by rw [e k (by omega)]; exact hk, fun a b h1 h2 => by omega⟩
  refine Run.bind ((run_count hc hn h0).mono fun r hr => ?_)
  obtain ⟨m, p⟩ := r
  obtain ⟨h1, h2, hs⟩ := hr
  simp only at h1 h2 hs ⊢
  by_cases hlt : m < n
  · rw [if_pos hlt]
    have e : max m 1 = m := by omega
    rw [e]
    exact run_bin hc _ p m (by omega) hs
  · rw [if_neg hlt]
    have : m = n := by omega
    subst this; exact hs
end
end Mine

end
section
set_option maxRecDepth 100000
set_option maxHeartbeats 1000000
namespace Mine

/-- ranks of keys -/
def rank (n : Nat) (key : Nat → List Nat) (i : Nat) : Nat := (List.range n).countP fun x => decide (key x < key i)
theorem countP_lt {p q : Nat → Bool} : ∀ {l : List Nat}, (∀ x ∈ l, p x = true → q x = true) → ∀ {y : Nat}, y ∈ l → q y = true → p y = false → l.countP p < l.countP q
  | x :: l, h, y, hy, hq, hp => by
    have hl : l.countP p ≤ l.countP q := List.countP_mono_left fun z hz => h z (.tail _ hz)
    rcases List.mem_cons.mp hy with rfl | hy
    · rw [List.countP_cons_of_neg (by simp [hp]), List.countP_cons_of_pos hq]; omega
    · have ih := countP_lt (fun z hz => h z (.tail _ hz)) hy hq hp
      by_cases hx : p x = true
      · rw [List.countP_cons_of_pos hx, List.countP_cons_of_pos (h x (.head _) hx)]; omega
      · rw [List.countP_cons_of_neg hx]
        have : l.countP q ≤ (x :: l).countP q := (List.sublist_cons_self x l).countP_le
        omega
theorem rank_lt {n : Nat} {key : Nat → List Nat} {i j : Nat} (hi : i < n) : key i < key j ↔ rank n key i < rank n key j := by
  constructor
  · intro h
    refine countP_lt (y := i) (fun x _ hx => ?_) (List.mem_range.mpr hi) (by simpa using h) (by simp)
    simp only [decide_eq_true_eq] at hx ⊢
    exact List.lt_trans hx h
  · intro h
    refine Classical.byContradiction fun hn => ?_
    have : rank n key j ≤ rank n key i := List.countP_mono_left fun x _ hx => by
      simp only [decide_eq_true_eq] at hx ⊢
      exact Classical.byContradiction fun hni => hn (List.lt_of_le_of_lt (List.not_lt.mp hni) hx)
    omega

theorem run_wp {α : Type} {n : Nat} {c : Nat → Nat → Bool} {cmp : Nat → Nat → (Bool → Shared → Prop) → Shared → Prop} {G : α → Shared → Prop} {s : Shared}
    (hcmp : ∀ i j, i < n → j < n → ∀ C : Bool → Shared → Prop, C (c i j) s → cmp i j C s) : ∀ {t : KasT α}, Run n c t (fun a => G a s) → t.kasWp cmp G s
  | .ret _, h => h
  | .ask i j _, h => hcmp i j h.1 h.2.1 _ (run_wp hcmp h.2.2)

section
variable {prog : Program} {w : World} {A : Around} {E : Value → Shared → Prop} {s s₀ : Shared} {g₀ : Heap}

theorem seq_noCode {c : String} {xs : Array Value} {e : Nat} : ∀ vs (q : Str) t, (seqObj c xs e).data = .fields vs → vs[1]? ≠ some (.str q t) := fun vs q t dd => by cases dd

/-- the list's own sort, by a key of text -/
theorem b_sort {a : Addr} {f : Value} {val : Nat → Value} {n e0 : Nat} {key : Nat → Str} {P : PySem.Fin → Shared → Prop} (O₀ : Ok g₀ s₀.heap) (G₀ : Grow g₀ s₀ s) (ha : s₀.heap.objs.size ≤ a) (ho : s.heap.get? a = some (seqObj "list" ((List.range n).map val).toArray e0)) (h2 : 2 ≤ n) (h64 : n < 64)
    (turn : ∀ i, i < n → ∀ (s' : Shared) (Q' E' : Value → Shared → Prop), Grow g₀ s₀ s' → (∀ s'' t, Grow g₀ s' s'' → Q' (.str (key i) t) s'') → wpAny (model prog w) A (call f [val i]) Q' E' s')
    (k : ∀ s' (p : List Nat), Grow g₀ s₀ s' → s'.heap.IsList a (p.map val).toArray → p.Perm (List.range n) → p.Pairwise (Sb (rank n fun i => (key i).cps.toList)) → P (.done (.ret .none)) s') :
    wpAny (model prog w) A (ksk_tree a f false) P E s := by
  have hal : a < s.heap.objs.size := Heap.lt_size ho
  have hlen : ((List.range n).map val).length = n := by simp
  unfold ksk_tree
  refine wpAny_bind (listItems_at ho rfl ?_)
  refine wpAny_bind (listUpdate_at ho rfl ?_ (by rw [List.size_toArray, hlen, sizeLine_eq]; omega) (Nat.zero_le _))
  have s1 := Heap.SameBut.update s.heap a (Obj.mapSeq fun _ => (#[] : Array Value))
  obtain ⟨e1, ho1⟩ : ∃ e1, (s.heap.update a (Obj.mapSeq fun _ => (#[] : Array Value))).get? a = some (seqObj "list" #[] e1) := ⟨_, get?_update_seq ho fun _ => #[]⟩
  have G₁ := G₀.but ha s1.extBut O₀ ho seq_noCode
  have hz1 : (s.heap.update a (Obj.mapSeq fun _ => (#[] : Array Value))).objs.size = s.heap.objs.size := Heap.size_update ..
  refine wpAny_bind (seqEpoch_at ho1 rfl ?_)
  refine wpAny_bind (wpAny_newTuple ?_ (by show ((List.range n).map val).length ≤ _; rw [hlen, sizeLine_eq]; omega))
  refine wpAny_bind (wpAny_newList ?_ (Nat.zero_le _))
  refine wpAny_holding ?_
  have G₂ := (G₁.push (seqObj "tuple" ((List.range n).map val).toArray 0)).push (seqObj "list" #[] 0)
  have hkS : ((s.heap.update a (Obj.mapSeq fun _ => (#[] : Array Value))).push (seqObj "tuple" ((List.range n).map val).toArray 0)).objs.size = s.heap.objs.size + 1 := by rw [size_push', hz1]
  have hoK : (((s.heap.update a (Obj.mapSeq fun _ => (#[] : Array Value))).push (seqObj "tuple" ((List.range n).map val).toArray 0)).push (seqObj "list" #[] 0)).get? (s.heap.objs.size + 1) = some (seqObj "list" #[] 0) := by
    rw [← hkS]; exact Heap.get?_push_size _ rfl
  have hoA : (((s.heap.update a (Obj.mapSeq fun _ => (#[] : Array Value))).push (seqObj "tuple" ((List.range n).map val).toArray 0)).push (seqObj "list" #[] 0)).get? a = some (seqObj "list" #[] e1) := Heap.get?_push_of_some _ (Heap.get?_push_of_some _ ho1)
  show wpAny (model prog w) A (ksk_rest a f false ((List.range n).map val).toArray e1 (.ref ((s.heap.update a (Obj.mapSeq fun _ => (#[] : Array Value))).push (seqObj "tuple" ((List.range n).map val).toArray 0)).objs.size)) P E
    { s with heap := ((s.heap.update a (Obj.mapSeq fun _ => (#[] : Array Value))).push (seqObj "tuple" ((List.range n).map val).toArray 0)).push (seqObj "list" #[] 0) }
  rw [hkS]
  have hKs : s₀.heap.objs.size ≤ s.heap.objs.size + 1 := Nat.le_trans ha (Nat.le_of_lt (Nat.lt_succ_of_lt hal))
  have hKa : s.heap.objs.size + 1 ≠ a := Nat.ne_of_gt (Nat.lt_succ_of_lt hal)
  generalize s.heap.objs.size + 1 = kS at *
  generalize ((s.heap.update a (Obj.mapSeq fun _ => (#[] : Array Value))).push (seqObj "tuple" ((List.range n).map val).toArray 0)).push (seqObj "list" #[] 0) = h₂ at *
  clear s1 ho1 G₁ hz1 hkS
  unfold ksk_rest
  refine wpAny_bind (wpAny_rule ?_)
  rw [List.forIn_toArray]
  refine wpAny_bind (ksk_fold (fun i s' => ∃ ks e, Grow g₀ s₀ s' ∧ s'.heap.get? kS = some (seqObj "list" (List.toArray ks) e) ∧ s'.heap.get? a = some (seqObj "list" #[] e1) ∧ ks.length = i ∧ ∀ j, j < i → ∃ t, ks[j]? = some (.str (key j) t)) ((List.range n).map val) 0 _
    ⟨[], 0, G₂, hoK, hoA, rfl, fun j hj => absurd hj (Nat.not_lt_zero _)⟩ ?step ?done)
  case step =>
    rintro j x s' hx ⟨ks, e, G', hK, hA, hkl, hks⟩
    simp only [Nat.zero_add] at hkl hks ⊢
    have hj : j < n := by have := (List.getElem?_eq_some_iff.mp hx).1; rw [hlen] at this; exact this
    have hxv : x = val j := by
      rw [List.getElem?_map, List.getElem?_range hj] at hx
      exact (Option.some.inj hx).symm
    subst hxv
    refine wpAny_bind (wpAny_attempt (turn j hj s' _ _ G' fun s'' t g => ?_))
    have hK' := g.keep.getT hK rfl
    have hA' := g.keep.getT hA rfl
    have s2 := Heap.SameBut.update s''.heap kS (Obj.mapSeq (·.push (.str (key j) t)))
    obtain ⟨c2, hc2⟩ : ∃ c2, (s''.heap.update kS (Obj.mapSeq (·.push (.str (key j) t)))).get? kS = some (seqObj "list" ((List.toArray ks).push (.str (key j) t)) c2) := ⟨_, get?_update_seq hK' (·.push (.str (key j) t))⟩
    refine wpAny_bind (listUpdate_at hK' rfl ?_ (by rw [List.size_toArray, hkl, sizeLine_eq]; omega) (by rw [Array.size_push, List.size_toArray, hkl, sizeLine_eq]; omega))
    refine wpAny_pure ⟨rfl, ks ++ [.str (key j) t], c2, (G'.trans g).but hKs s2.extBut O₀ hK' seq_noCode, ?_, (s2.2 a hKa.symm).trans hA', by rw [List.length_append, hkl]; rfl, fun i hi => ?_⟩
    · have ee : (ks ++ [Value.str (key j) t]).toArray = (List.toArray ks).push (.str (key j) t) := by simp
      rw [ee]; exact hc2
    · by_cases hij : i = j
      · subst hij
        exact ⟨t, by rw [List.getElem?_append_right (by omega), hkl, Nat.sub_self]; rfl⟩
      · obtain ⟨t', ht'⟩ := hks i (by omega)
        exact ⟨t', by rw [List.getElem?_append_left (by omega)]; exact ht'⟩
  case done =>
    rintro s' ⟨ks, e, G', hK, hA, hkl, hks⟩
    rw [Nat.zero_add, hlen] at hkl hks
    refine wpAny_bind (listItems_at hK rfl ?_)
    unfold ksk_end
    dsimp only
    have hn2 : ¬ (((List.range n).map val).toArray).size < 2 := by rw [List.size_toArray, hlen]; omega
    rw [if_neg (by decide), if_neg hn2, if_neg hn2]
    have hstr : ∀ v ∈ ks, ∃ x t, v = .str x t := fun v hv => by
      obtain ⟨j, hj⟩ := List.getElem?_of_mem hv
      have hjl : j < n := by have := (List.getElem?_eq_some_iff.mp hj).1; omega
      obtain ⟨t, ht⟩ := hks j hjl
      rw [ht] at hj; cases hj; exact ⟨_, _, rfl⟩
    refine wpAny_bind (kas_kind (T := .type "str") (by omega) (fun v hv => by
      obtain ⟨x, t, rfl⟩ := hstr v hv
      exact Looks.of_pure rfl) (by decide) (by decide) ?_)
    have hzs : (List.toArray ks).zip ((List.range n).map val).toArray = (List.toArray (ks.zip ((List.range n).map val))) := by simp
    have hzl : (ks.zip ((List.range n).map val)).length = n := by simp [hkl]
    have hitem : ∀ i, i < n → ∃ t, kas_item ((List.toArray ks).zip ((List.range n).map val).toArray) i = (.str (key i) t, val i) := fun i hi => by
      obtain ⟨t, ht⟩ := hks i hi
      refine ⟨t, ?_⟩
      unfold kas_item
      have hz1 : (ks.zip ((List.range n).map val))[i]? = some (.str (key i) t, val i) := List.getElem?_zip_eq_some.mpr ⟨ht, by rw [List.getElem?_map, List.getElem?_range hi]; rfl⟩
      rw [hzs, Array.getD_eq_getD_getElem?, List.getElem?_toArray, hz1]
      rfl
    have est : SortSt.mk' oneType' ((List.toArray ks).zip ((List.range n).map val).toArray) #[] 7 none = kas_st oneType' ((List.toArray ks).zip ((List.range n).map val).toArray) (List.toArray (List.range n)) := by
      have e := kas_range ((List.toArray ks).zip ((List.range n).map val).toArray)
      have hz : ((List.toArray ks).zip ((List.range n).map val).toArray).size = n := by rw [hzs, List.size_toArray, hzl]
      rw [hz] at e
      show _ = SortSt.mk' oneType' ((List.toArray (List.range n)).map (kas_item ((List.toArray ks).zip ((List.range n).map val).toArray))) #[] 7 none
      rw [e]
    have hrun : (kas_sort n).kasWp (kas_cmp prog w A oneType' ((List.toArray ks).zip ((List.range n).map val).toArray)) (fun p s'' => s'' = s' ∧ St n (rank n fun i => (key i).cps.toList) p n) s' := by
      refine run_wp (n := n) (c := fun i j => decide ((key i).cps.toList < (key j).cps.toList)) (fun i j hi hj C hC => ?_) ((run_sort (rk := rank n fun i => (key i).cps.toList) (fun i j hi hj => ?_) (by omega)).mono fun p hp => ⟨rfl, hp⟩)
      · obtain ⟨t, ht⟩ := hitem i hi
        obtain ⟨u, hu⟩ := hitem j hj
        show wpAny _ _ (keyLt' oneType' (kas_item _ i).1 (kas_item _ j).1) C _ s'
        rw [ht, hu, keyLt'_oneType]
        exact oneLt_str hC
      · simp only [rank_lt (key := fun i => (key i).cps.toList) hi]
    have run := kas_runs (E := E) (Q := fun _ st' s'' => ∃ p : Array Nat, p.size = n ∧ arrOf st' = p.map (kas_item ((List.toArray ks).zip ((List.range n).map val).toArray)) ∧ failedOf st' = none ∧ s'' = s' ∧ St n (rank n fun i => (key i).cps.toList) p n)
      h2 h64 (fun p' st' s'' a1 a2 a3 a4 => ⟨p', a1, a2, a3, a4⟩) hrun
    rw [← est] at run
    rw [if_neg (by decide)]
    refine wpAny_bind (wpAny_mono run ?_ fun _ _ e => e)
    rintro ⟨⟨⟩, st'⟩ s'' ⟨p, hp, har, hf, rfl, hst⟩
    have hperm : p.toList.Perm (List.range n) := by
      have := Array.perm_iff_toList_perm.mp hst.perm
      simpa using this
    have hout : (arrOf st').map (·.2) = (p.toList.map val).toArray := by
      apply Array.toList_inj.mp
      rw [har, Array.map_map, Array.toList_map]
      refine List.map_congr_left fun i hi => ?_
      have hin : i < n := List.mem_range.mp (hperm.mem_iff.mp hi)
      obtain ⟨t, ht⟩ := hitem i hin
      show (kas_item _ i).2 = _
      rw [ht]
    unfold ksk_tail
    dsimp only
    rw [hout]
    have s3 := Heap.SameBut.update s''.heap kS (Obj.mapSeq fun _ => (#[] : Array Value))
    have hA3 : (s''.heap.update kS (Obj.mapSeq fun _ => (#[] : Array Value))).get? a = some (seqObj "list" #[] e1) := (s3.2 a hKa.symm).trans hA
    have G3 := G'.but hKs s3.extBut O₀ hK seq_noCode
    have s4 := Heap.SameBut.update (s''.heap.update kS (Obj.mapSeq fun _ => (#[] : Array Value))) a (Obj.mapSeq fun _ => (p.toList.map val).toArray)
    obtain ⟨c4, hc4⟩ : ∃ c4, ((s''.heap.update kS (Obj.mapSeq fun _ => (#[] : Array Value))).update a (Obj.mapSeq fun _ => (p.toList.map val).toArray)).get? a = some (seqObj "list" (p.toList.map val).toArray c4) := ⟨_, get?_update_seq hA3 fun _ => (p.toList.map val).toArray⟩
    refine wpAny_bind (listUpdate_at hK rfl ?_ (by rw [List.size_toArray, hkl, sizeLine_eq]; omega) (Nat.zero_le _))
    refine wpAny_bind (wpAny_letGo ?_)
    refine wpAny_bind (seqEpoch_at hA3 rfl ?_)
    rw [if_neg (by decide)]
    refine wpAny_bind (listUpdate_at hA3 rfl ?_ (Nat.zero_le _) (by rw [List.size_toArray, List.length_map, Array.length_toList, hp, sizeLine_eq]; omega))
    rw [hf]
    simp only [bne_self_eq_false, Bool.false_eq_true, if_false]
    refine wpAny_pure (k _ p.toList (G3.but (s := { s'' with heap := _ }) ha s4.extBut O₀ hA3 seq_noCode) ⟨_, hc4, rfl, _, rfl⟩ hperm ?_)
    rw [List.pairwise_iff_getElem]
    intro i j hi hj hij
    rw [Array.length_toList] at hi hj
    have := hst.ord i j hij (by omega)
    simpa [Array.getD_eq_getD_getElem?, hi, hj] using this

theorem b_sorted {l : Addr} {f : Addr} {val : Nat → Value} {n : Nat} {key : Nat → Str} {Q : Value → Shared → Prop} (O : Ok g₀ s.heap) (hl : s.heap.IsList l ((List.range n).map val).toArray) (h2 : 2 ≤ n) (h64 : n < 64)
    (turn : ∀ i, i < n → ∀ (s' : Shared) (Q' E' : Value → Shared → Prop), Grow g₀ s s' → (∀ s'' t, Grow g₀ s' s'' → Q' (.str (key i) t) s'') → wpAny (model prog w) A.in1.in1 (call (.ref f) [val i]) Q' E' s')
    (k : ∀ s' D (p : List Nat), Grow g₀ s s' → s.heap.objs.size ≤ D → s'.heap.IsList D (p.map val).toArray → p.Perm (List.range n) → p.Pairwise (Sb (rank n fun i => (key i).cps.toList)) → Q (.ref D) s') :
    wpAny (model prog w) A (call (.builtin "sorted") [.ref l] [(Str.ofString "key", .ref f)]) Q E s := by
  have hlen : ((List.range n).map val).length = n := by simp
  refine call_function_entry_kw kind_sorted plain_sorted entry_sorted (ksk_s1 _ _) ?_
  unfold Builtin.«sorted»
  refine wpAny_bind (m := checkCount "sorted" 1 1 _) (wpAny_pure ?_)
  refine wpAny_bind (collect_list hl ?_ (by rw [hlen, sizeLine_eq]; omega))
  refine wpAny_bind (wpAny_newList ?_ (by rw [hlen, sizeLine_eq]; omega))
  have hsz : ((s.heap.push (seqObj "list" #[] 0)).update s.heap.objs.size (Obj.mapSeq (· ++ ((List.range n).map val).toArray))).objs.size = s.heap.objs.size + 1 := by
    rw [Heap.size_update, size_push']
  have hoL : (((s.heap.push (seqObj "list" #[] 0)).update s.heap.objs.size (Obj.mapSeq (· ++ ((List.range n).map val).toArray))).push (seqObj "list" ((List.range n).map val).toArray 0)).get? (s.heap.objs.size + 1) = some (seqObj "list" ((List.range n).map val).toArray 0) := by
    rw [← hsz]; exact Heap.get?_push_size _ rfl
  have keep : ∀ b o, s.heap.get? b = some o → (((s.heap.push (seqObj "list" #[] 0)).update s.heap.objs.size (Obj.mapSeq (· ++ ((List.range n).map val).toArray))).push (seqObj "list" ((List.range n).map val).toArray 0)).get? b = some o := fun b o q => by
    have hlt : b < s.heap.objs.size := Heap.lt_size q
    rw [Heap.get?_push_ne _ _ _ (by rw [hsz]; exact Nat.ne_of_lt (Nat.lt_succ_of_lt hlt)), Heap.get?_update_ne _ _ _ _ (Nat.ne_of_lt hlt), Heap.get?_push_ne _ _ _ (Nat.ne_of_lt hlt)]
    exact q
  show wpAny _ _ _ _ _ { s with heap := ((s.heap.push (seqObj "list" #[] 0)).update s.heap.objs.size (Obj.mapSeq (· ++ ((List.range n).map val).toArray))).push (seqObj "list" ((List.range n).map val).toArray 0) }
  rw [hsz]
  refine wpAny_bind (wpAny_holding (wpAny_call_entry_kw slot_list_sort ⟨_, hoL, rfl⟩ entry_list_sort ?body (ksk_l1 _ _)))
  case body =>
    show wpAny (model prog w) A.in1.in1 (Builtin.«list.sort» ⟨[.ref (s.heap.objs.size + 1)], [(Str.ofString "key", .ref f)]⟩) _ _ _
    rw [ksk_t1]
    refine b_sort (s₀ := s) O ((Grow.refl O).to keep) (Nat.le_succ _) hoL h2 h64 turn fun s' p g hD hp hw => ⟨_, rfl, ?_⟩
    exact wpAny_pure ⟨_, rfl, k s' _ p g (Nat.le_succ _) hD hp hw⟩
end
end Mine

end
section
set_option maxRecDepth 100000
set_option maxHeartbeats 4000000
namespace Mine

def keyOf (m : Int) (k : Nat) : Str := ⟨((sgns m).drop (10 - k)).toArray⟩
theorem idx_key : ∀ k : Fin 11, 1 ≤ k.val → Builtin.Str.strSliceIndices (some (10 - (k.val : Int))) none 1 10 = (List.range k.val).map (fun i => 10 - k.val + i) := by decide
theorem sgns_length (m : Int) : (sgns m).length = 10 := by simp [sgns]
theorem fmStr_length (m : Int) : (fmStr m).length = 10 := by show (sgns m).toArray.size = 10; rw [List.size_toArray, sgns_length]

theorem slice_key {m : Int} {t u : Tok} {k : Nat} {Q : Value → Shared → Prop} {s : Shared} (h1 : 1 ≤ k) (h10 : k ≤ 10) (h : ∀ t' tk, Q (.str (keyOf m k) t') { s with toks := tk }) :
    (sliceMade (fmStr m) t (some (10 - (k : Int), u)) none none).post Q s := by
  have hidx : slicePicked (fmStr m) (some (10 - (k : Int), u)) none none = (List.range k).map (fun i => 10 - k + i) := by
    unfold slicePicked
    rw [fmStr_length]
    exact idx_key ⟨k, by omega⟩ h1
  have hpick : (slicePicked (fmStr m) (some (10 - (k : Int), u)) none none).filterMap ((fmStr m).cps[·]?) = (sgns m).drop (10 - k) := by
    rw [hidx, pick_run]
    show (((sgns m).toArray.toList).drop (10 - k)).take k = _
    exact List.take_of_length_le (by rw [List.length_drop, sgns_length]; omega)
  unfold sliceMade
  rw [hpick]
  split
  · rename_i hc
    rw [hidx, fmStr_length] at hc
    have hk : k = 10 := by simpa using hc
    subst hk
    exact h t s.toks
  · exact ⟨by show ((sgns m).drop (10 - k)).toArray.size ≤ _; rw [List.size_toArray, List.length_drop, sgns_length, sizeLine_eq]; omega, h _ _⟩

section
variable {prog : Program} {w : World} {A : Around} {s : Shared} {g₀ : Heap} {mg mb : Str → Option Value} {R : Result → Shared → Prop}

theorem c_sorted (G : Gd w mg mb g₀) (O : Ok g₀ s.heap) (hr : Rm A 5) {l : Addr} {val : Nat → Value} {n : Nat} {md : Nat → Int} {k : Nat} {t : Tok} (h1 : 1 ≤ k) (h10 : k ≤ 10)
    (hl : s.heap.IsList l ((List.range n).map val).toArray) (h2 : 2 ≤ n) (h64 : n < 64) (hrec : Recs s.heap val n md (fun i => fmStr (md i)))
    (kk : ∀ s' D (p : List Nat), Grow g₀ s s' → s.heap.objs.size ≤ D → s'.heap.IsList D (p.map val).toArray → p.Perm (List.range n) → p.Pairwise (Sb (rank n fun i => (sgns (md i)).drop (10 - k))) → R (.ok (.ret (.ref D))) s') :
    codeAny (model prog w) A (.call (.ref 164) ⟨[.ref l, .int k t], []⟩) R s := by
  refine enterC (binds := [(Str.ofString "coming", .ref l), (Str.ofString "k", .int k t)]) (l := [(Str.ofString "coming", .ref l)]) G O hr.room rfl rfl rfl rfl rfl rfl rfl
    (List.forall_mem_cons.mpr ⟨rfl, List.forall_mem_nil _⟩) rfl rfl rfl fun E s₁ L F hc => ?_
  have hK : s₁.heap.IsCell (L + 1) (some (.int k t)) := hc (Str.ofString "k") (L + 1) rfl
  clear hc
  refine wpAny_execs_cons <| wpAny_Return_some <| wpAny_Call_Name_kw <| ev_bui G F.grow.ok n_sorted boot_sorted ne_sorted <| callWith_kw <| args_cons <| ev_loc F rfl <| args_nil ?_
  show wpAny _ _ (evalAll [eval (.Lambda _ _ _ _) _ >>= fun v => standAt _ >>= fun _ => pure v]) _ _ _
  refine wpAny_evalAll_cons <| wpAny_bind <| ev_lam G F.grow.ok G.c3 mem_sorted (fun f s₂ g₂ hz hlam => wpAny_bind <| wpAny_standAt <| wpAny_pure <| wpAny_evalAll_nil ?_) rfl rfl
  have F₂ := F.call g₂
  refine b_sorted (key := fun i => keyOf (md i) k) (f := f) g₂.ok (F₂.grow.keep.list hl) h2 h64 (fun i hi s' Q' E' hg hk => wpAny_call ?_) fun s₃ D p g₃ hz₃ hD hp hw => ?_
  · obtain ⟨a, t0, t1, t2, t3, ev, ht⟩ := hrec i hi
    rw [ev]
    refine call_lam (binds := [(Str.ofString "one", .ref a)]) G hg.ok (hr.deeper.in1.in1).room (hg.keep.lam hlam) (fun _ _ _ => rfl) (by decide) (locs rfl) rfl rfl rfl fun E'' s₄ L' cv' F₄ => ?_
    have ht₄ : IsTup s₄.heap a _ := (F₂.grow.keep.trans (hg.keep.trans F₄.grow.keep)).isTup ht
    have hK₄ := (g₂.keep.trans (hg.keep.trans F₄.grow.keep)).cell hK
    refine Subscript_ <| Subscript_ <| ev_loc F₄ rfl <| wpAny_Constant_int <| item_tuple (x := .str (fmStr (md i)) t3) ht₄ (by decide) (by decide) rfl rfl ?_
    refine wpAny_Slice <| ep_some <| wpAny_BinOp <| wpAny_Constant_int <| ev_free rfl hK₄ <| sub_int <| ep_none <| ep_none ?_
    refine tail_any (T := "str") (ops := [.ref _, .str (fmStr (md i)) t3]) (typeIs_str _ _ _) PySem.F.slot_str_getitem.lookup (wpAny_getItem_str_slice (l := some (10 - (k : Int), _)) (u := none) (st := none) ⟨_, Heap.get?_push_size _ rfl, rfl, rfl⟩ rfl (slice_key h1 h10 fun t' tk => ?_)) (by with_unfolding_all rfl)
    exact hk _ _ ((F₄.push _).toks _).grow
  · exact kk _ D p (F₂.grow.trans g₃) (Nat.le_trans (Nat.le_trans F₂.above (Nat.le_of_lt F₂.lt)) hz₃) hD hp hw
end
end Mine

end
section
set_option maxRecDepth 100000
namespace Mine

def Ks (key : Nat → List Nat) (i j : Nat) : Prop := key i < key j ∨ (key i = key j ∧ i < j)
def Cs (c : Nat → Nat) (r : Nat → Nat → Prop) (i j : Nat) : Prop := c i < c j ∨ (c i = c j ∧ r i j)

theorem ks_cons {c : Nat → Nat} {key : Nat → List Nat} {i j : Nat} (h : Cs c (Ks key) i j) : Ks (fun i => c i :: key i) i j := by
  rcases h with h | ⟨h, h' | ⟨h', h''⟩⟩
  · exact .inl (List.cons_lt_cons_iff.mpr (.inl h))
  · exact .inl (List.cons_lt_cons_iff.mpr (.inr ⟨h, h'⟩))
  · exact .inr ⟨by show c i :: key i = c j :: key j; rw [h, h'], h''⟩

theorem parted_perm (P : Nat → Bool) (is : List Nat) : (parted P is).Perm is := by
  refine (List.perm_append_comm).trans ?_
  exact List.filter_append_perm P is

theorem parted_pw {P : Nat → Bool} {is : List Nat} {r : Nat → Nat → Prop} (h : is.Pairwise r) : (parted P is).Pairwise (Cs (fun i => (P i).toNat) r) := by
  unfold parted
  rw [List.pairwise_append]
  refine ⟨?_, ?_, ?_⟩
  · refine (h.filter _).imp_of_mem fun ha hb hr => .inr ⟨?_, hr⟩
    have h1 := (List.mem_filter.mp ha).2
    have h2 := (List.mem_filter.mp hb).2
    simp at h1 h2
    simp [h1, h2]
  · refine (h.filter _).imp_of_mem fun ha hb hr => .inr ⟨?_, hr⟩
    have h1 := (List.mem_filter.mp ha).2
    have h2 := (List.mem_filter.mp hb).2
    simp [h1, h2]
  · intro a ha b hb
    have h1 := (List.mem_filter.mp ha).2
    have h2 := (List.mem_filter.mp hb).2
    simp at h1 h2
    exact .inl (by simp [h1, h2])

theorem ba_nat {m : Int} (h : 0 ≤ m) (c : Nat) : Builtin.bitAnd m c = ((m.toNat &&& c : Nat) : Int) := by
  unfold Builtin.bitAnd
  rw [show decide (0 ≤ m) = true from decide_eq_true h, show decide (0 ≤ (c : Int)) = true from decide_eq_true (by omega)]
  rfl
theorem and_bit (M e : Nat) : M &&& 2 ^ e = if M.testBit e then 2 ^ e else 0 := by
  apply Nat.eq_of_testBit_eq
  intro i
  rw [Nat.testBit_and, Nat.testBit_two_pow]
  by_cases h : e = i
  · subst h; cases hb : M.testBit e <;> simp
  · cases hb : M.testBit e <;> simp [h]
theorem and_low (M e : Nat) (he : e < 12) : (M &&& 4095) &&& 2 ^ e = if M.testBit e then 2 ^ e else 0 := by
  rw [and_bit, Nat.testBit_and]
  have : Nat.testBit 4095 e = true := by
    have : ∀ x : Fin 12, Nat.testBit 4095 x.val = true := by decide
    exact this ⟨e, he⟩
  rw [this, Bool.and_true]
theorem and_two (M a b : Nat) : M &&& (2 ^ a ||| 2 ^ b) = (if M.testBit a then 2 ^ a else 0) ||| (if M.testBit b then 2 ^ b else 0) := by
  rw [Nat.and_or_distrib_left, and_bit, and_bit]

section
variable {md : Nat → Int}
theorem im_bit {i e : Nat} (h : 0 ≤ md i) (he : e < 12) : Builtin.bitAnd (im md i) (2 ^ e : Int) = if (md i).toNat.testBit e then ((2 ^ e : Nat) : Int) else 0 := by
  unfold im
  have e1 : Builtin.bitAnd (md i) 4095 = (((md i).toNat &&& 4095 : Nat) : Int) := ba_nat h 4095
  have e2 : (2 ^ e : Int) = ((2 ^ e : Nat) : Int) := by simp
  rw [e1, e2, ba_nat (by omega)]
  rw [show ((((md i).toNat &&& 4095 : Nat) : Int)).toNat = (md i).toNat &&& 4095 from rfl, and_low _ _ he]
  split <;> rfl
theorem bit_ne {b : Bool} {e : Nat} : ((if b then ((2 ^ e : Nat) : Int) else 0) != 0) = b := by
  have : 0 < 2 ^ e := Nat.two_pow_pos e
  cases b
  · rfl
  · rw [if_pos rfl, bne_iff_ne]; omega
theorem bit_eq {b : Bool} {e : Nat} : ((if b then ((2 ^ e : Nat) : Int) else 0) == 0) = !b := by
  have : 0 < 2 ^ e := Nat.two_pow_pos e
  cases b
  · rfl
  · rw [if_pos rfl, Bool.not_true, beq_eq_false_iff_ne]; omega
theorem qR_bit {i k : Nat} (h : 0 ≤ md i) (h1 : 1 ≤ k) (h9 : k ≤ 9) : qR md k i = (md i).toNat.testBit (k - 1) := by
  unfold qR right
  rw [show (((k : Int) - 1).toNat) = k - 1 from by omega, im_bit h (by omega), bit_ne]
theorem qU_bit {i k : Nat} (h : 0 ≤ md i) (h1 : 1 ≤ k) (h9 : k ≤ 8) : qU md k i = ((!(md i).toNat.testBit (k - 1)) != !(md i).toNat.testBit (9 + k / 3)) := by
  unfold qU right Mine.above
  have hf : (k : Int).fdiv 3 = (k : Int) / 3 := Int.fdiv_eq_ediv_of_nonneg _ (by decide)
  rw [show (((k : Int) - 1).toNat) = k - 1 from by omega, show ((9 + (k : Int).fdiv 3).toNat) = 9 + k / 3 from by omega, im_bit h (by omega), im_bit h (by omega), bit_eq, bit_eq]
theorem test_one {j e : Nat} {m : Int} {c : Int} (h : 0 ≤ m) (hj : j ≠ 0) (hc : c = ((2 ^ e : Nat) : Int)) : test j m c = m.toNat.testBit e := by
  unfold test
  rw [if_neg hj, hc, ba_nat h, and_bit]
  have : 0 < 2 ^ e := Nat.two_pow_pos e
  cases m.toNat.testBit e
  · rw [if_neg (by decide), beq_eq_false_iff_ne]; omega
  · rw [if_pos rfl, beq_self_eq_true]
theorem test_two {j a b : Nat} {m : Int} {c : Int} (h : 0 ≤ m) (hj : j ≠ 0) (hc : c = ((2 ^ a ||| 2 ^ b : Nat) : Int)) (hab : a ≠ b) : test j m c = (m.toNat.testBit a && m.toNat.testBit b) := by
  unfold test
  rw [if_neg hj, hc, ba_nat h, and_two]
  have h3 : ∀ x y : Nat, (((x : Int) == (y : Int)) = (x == y)) := fun x y => by
    rw [Bool.eq_iff_iff, beq_iff_eq, beq_iff_eq]; omega
  rw [h3]
  have pa : 0 < 2 ^ a := Nat.two_pow_pos a
  have pb : 0 < 2 ^ b := Nat.two_pow_pos b
  have na : (2 ^ b ||| 2 ^ a).testBit a = true := by simp
  have hne1 : ¬ 2 ^ a = (2 ^ a ||| 2 ^ b : Nat) := fun q => by
    have := congrArg (Nat.testBit · b) q
    simp [Nat.testBit_or, hab] at this
  have hne2 : ¬ 2 ^ b = (2 ^ a ||| 2 ^ b : Nat) := fun q => by
    have := congrArg (Nat.testBit · a) q
    simp [Nat.testBit_or, Ne.symm hab] at this
  have hne0 : ¬ 0 = (2 ^ a ||| 2 ^ b : Nat) := fun q => by
    have := congrArg (Nat.testBit · a) q
    simp [Nat.testBit_or] at this
  cases m.toNat.testBit a <;> cases m.toNat.testBit b <;> simp [hne1, hne2, hne0]

/-- the sign of a lone right -/
theorem sg_one {j e c : Nat} {m bit : Int} {a a' : Addr} (h : 0 ≤ m) (hj : j ≠ 0) (hft : ft.getD j (0, []) = (a, [(a', bit, c)])) (hb : bit = ((2 ^ e : Nat) : Int)) : sg m j = if m.toNat.testBit e then c else 45 := by
  unfold sg sgn
  rw [hft]
  simp only [List.find?]
  rw [test_one h hj hb]
  cases m.toNat.testBit e <;> simp [hj]
theorem sg_three {j e f c1 c2 : Nat} {m b1 b2 b3 : Int} {a x y z : Addr} (h : 0 ≤ m) (hj : j ≠ 0) (hft : ft.getD j (0, []) = (a, [(x, b1, c1), (y, b2, c2), (z, b3, 120)]))
    (h1 : b1 = ((2 ^ e ||| 2 ^ f : Nat) : Int)) (h2 : b2 = ((2 ^ f : Nat) : Int)) (h3 : b3 = ((2 ^ e : Nat) : Int)) (hef : e ≠ f) :
    sg m j = if m.toNat.testBit e then (if m.toNat.testBit f then c1 else 120) else (if m.toNat.testBit f then c2 else 45) := by
  unfold sg sgn
  rw [hft]
  simp only [List.find?]
  rw [test_two h hj h1 hef, test_one h hj h2, test_one h hj h3]
  cases m.toNat.testBit e <;> cases m.toNat.testBit f <;> simp [hj]

def key (md : Nat → Int) (k i : Nat) : List Nat := (sgns (md i)).drop (10 - k)
theorem key_step {k : Nat} (hk : k < 10) (i : Nat) : key md (k + 1) i = sg (md i) (9 - k) :: key md k i := by
  have : ∀ (k : Fin 10), (List.range 10).drop (10 - (k.val + 1)) = (9 - k.val) :: (List.range 10).drop (10 - k.val) := by decide
  unfold key sgns
  rw [← List.map_drop, ← List.map_drop, this ⟨k, hk⟩]; rfl

/-- what a stage must do -/
def Stage (c : Nat → Nat) (is js : List Nat) : Prop := js.Perm is ∧ ∀ r : Nat → Nat → Prop, is.Pairwise r → js.Pairwise (Cs c r)

theorem stage_one {k c : Nat} {is : List Nat} (h0 : ∀ i ∈ is, 0 ≤ md i) (h1 : 1 ≤ k) (h9 : k ≤ 9) (hm : (k : Int).fmod 3 ≠ 1) (hc : 45 < c) (hs : ∀ i ∈ is, sg (md i) (10 - k) = if (md i).toNat.testBit (k - 1) then c else 45) :
    Stage (fun i => sg (md i) (10 - k)) is (lay md k is) := by
  unfold lay laid
  rw [if_neg (by omega), if_neg hm]
  refine ⟨parted_perm _ _, fun r hr => (parted_pw hr).imp_of_mem fun {a b} ha hb hab => ?_⟩
  have ha' := parted_mem ha
  have hb' := parted_mem hb
  simp only [Cs] at hab ⊢
  rw [qR_bit (h0 _ ha') h1 h9, qR_bit (h0 _ hb') h1 h9] at hab
  rw [hs _ ha', hs _ hb']
  revert hab
  cases (md a).toNat.testBit (k - 1) <;> cases (md b).toNat.testBit (k - 1) <;> simp <;> intros <;> first | assumption | omega

theorem stage_three {k c1 c2 : Nat} {is : List Nat} (h0 : ∀ i ∈ is, 0 ≤ md i) (h1 : 1 ≤ k) (h9 : k ≤ 8) (hm : (k : Int).fmod 3 = 1) (hc2 : 45 < c2) (hc : c2 < c1) (hc1 : c1 < 120)
    (hs : ∀ i ∈ is, sg (md i) (10 - k) = if (md i).toNat.testBit (k - 1) then (if (md i).toNat.testBit (9 + k / 3) then c1 else 120) else (if (md i).toNat.testBit (9 + k / 3) then c2 else 45)) :
    Stage (fun i => sg (md i) (10 - k)) is (lay md k is) := by
  unfold lay laid
  rw [if_neg (by omega), if_pos hm]
  refine ⟨(parted_perm _ _).trans (parted_perm _ _), fun r hr => (parted_pw (parted_pw hr)).imp_of_mem fun {a b} ha hb hab => ?_⟩
  have ha' := parted_mem (parted_mem ha)
  have hb' := parted_mem (parted_mem hb)
  simp only [Cs] at hab ⊢
  rw [qR_bit (h0 _ ha') h1 (by omega), qR_bit (h0 _ hb') h1 (by omega)] at hab
  rw [qU_bit (h0 _ ha') h1 (by omega), qU_bit (h0 _ hb') h1 (by omega)] at hab
  rw [hs _ ha', hs _ hb']
  revert hab
  cases (md a).toNat.testBit (k - 1) <;> cases (md b).toNat.testBit (k - 1) <;> cases (md a).toNat.testBit (9 + k / 3) <;> cases (md b).toNat.testBit (9 + k / 3) <;> simp <;> intros <;> first | assumption | omega

theorem lots_perm (md : Nat → Int) : ∀ (cs : List Int) (is : List Nat), ((klots md cs is).flatten ++ krest md cs is).Perm is
  | [], is => List.Perm.refl _
  | c :: cs, is => by
    rw [klots, krest, List.flatten_cons, List.append_assoc]
    exact (List.Perm.append_left _ (lots_perm md cs _)).trans (List.filter_append_perm _ _)

theorem flat_pw {c : Nat → Nat} {r : Nat → Nat → Prop} : ∀ {L : List (Nat × List Nat)}, (L.map (·.1)).Pairwise (· < ·) → (∀ p ∈ L, (∀ i ∈ p.2, c i = p.1) ∧ p.2.Pairwise r) → ((L.map (·.2)).flatten).Pairwise (Cs c r)
  | [], _, _ => List.Pairwise.nil
  | p :: L, hl, h => by
    rw [List.map_cons, List.flatten_cons, List.pairwise_append]
    rw [List.map_cons, List.pairwise_cons] at hl
    refine ⟨(h p (.head _)).2.imp_of_mem fun ha hb hr => .inr ⟨by rw [(h p (.head _)).1 _ ha, (h p (.head _)).1 _ hb], hr⟩, flat_pw hl.2 fun q hq => h q (.tail _ hq), fun i hi j hj => ?_⟩
    obtain ⟨l, hl', hj'⟩ := List.mem_flatten.mp hj
    obtain ⟨q, hq, rfl⟩ := List.mem_map.mp hl'
    refine .inl ?_
    rw [(h p (.head _)).1 i hi, (h q (.tail _ hq)).1 j hj']
    exact hl.1 _ (List.mem_map.mpr ⟨q, hq, rfl⟩)

def kcode (F : Int) : Nat := sgn 0 F [(85, 40960, 108), (86, 49152, 115), (87, 32768, 45), (88, 24576, 98), (89, 16384, 100), (90, 8192, 99), (91, 4096, 112)]

theorem sg_kind {i : Nat} {c : Int} {v : Nat} (hp : (c, v) ∈ [((32768 : Int), 45), (24576, 98), (8192, 99), (16384, 100), (40960, 108), (4096, 112), (49152, 115)]) (h : kq md c i = true) : sg (md i) 0 = v := by
  have h' : Builtin.bitAnd (md i) 61440 = c := by simpa [kq] using h
  show sgn 0 (md i) [(85, 40960, 108), (86, 49152, 115), (87, 32768, 45), (88, 24576, 98), (89, 16384, 100), (90, 8192, 99), (91, 4096, 112)] = v
  unfold sgn
  simp only [List.find?, test, if_true, h']
  simp only [List.mem_cons, List.not_mem_nil, or_false, Prod.mk.injEq] at hp
  rcases hp with ⟨rfl, rfl⟩ | ⟨rfl, rfl⟩ | ⟨rfl, rfl⟩ | ⟨rfl, rfl⟩ | ⟨rfl, rfl⟩ | ⟨rfl, rfl⟩ | ⟨rfl, rfl⟩ <;> rfl

theorem krest_no (md : Nat → Int) : ∀ {cs : List Int} {is : List Nat} {i : Nat}, i ∈ krest md cs is → ∀ c ∈ cs, kq md c i = false
  | c :: cs, is, i, h, d, hd => by
    rcases List.mem_cons.mp hd with rfl | hd
    · have := (List.mem_filter.mp ((krest_sub md cs _).subset h)).2
      simpa using this
    · exact krest_no md (cs := cs) h d hd

theorem sg_rest {i : Nat} (h : ∀ c ∈ kcs, kq md c i = false) : sg (md i) 0 = 63 := by
  have hq : ∀ c ∈ kcs, (Builtin.bitAnd (md i) 61440 == c) = false := h
  show sgn 0 (md i) [(85, 40960, 108), (86, 49152, 115), (87, 32768, 45), (88, 24576, 98), (89, 16384, 100), (90, 8192, 99), (91, 4096, 112)] = 63
  unfold sgn
  simp only [List.find?, test, if_true, hq 40960 (by decide), hq 49152 (by decide), hq 32768 (by decide), hq 24576 (by decide), hq 16384 (by decide), hq 8192 (by decide), hq 4096 (by decide)]

theorem stage_ten (md : Nat → Int) (is : List Nat) : Stage (fun i => sg (md i) 0) is (lay md 10 is) := by
  rw [lay, if_pos rfl]
  have hp := lots_perm md kcs is
  have hsub := klots_sub md kcs is
  have hrs := krest_sub md kcs is
  have hrn : ∀ i ∈ krest md kcs is, sg (md i) 0 = 63 := fun i hi => sg_rest (krest_no md hi)
  obtain ⟨l0, l1, l2, l3, l4, l5, l6, hl, h0, h1, h2, h3, h4, h5, h6⟩ : ∃ l0 l1 l2 l3 l4 l5 l6, klots md kcs is = [l0, l1, l2, l3, l4, l5, l6] ∧ (∀ i ∈ l0, kq md 32768 i = true) ∧ (∀ i ∈ l1, kq md 24576 i = true) ∧ (∀ i ∈ l2, kq md 8192 i = true)
      ∧ (∀ i ∈ l3, kq md 16384 i = true) ∧ (∀ i ∈ l4, kq md 40960 i = true) ∧ (∀ i ∈ l5, kq md 4096 i = true) ∧ (∀ i ∈ l6, kq md 49152 i = true) :=
    ⟨_, _, _, _, _, _, _, rfl, fun i hi => (List.mem_filter.mp hi).2, fun i hi => (List.mem_filter.mp hi).2, fun i hi => (List.mem_filter.mp hi).2, fun i hi => (List.mem_filter.mp hi).2, fun i hi => (List.mem_filter.mp hi).2, fun i hi => (List.mem_filter.mp hi).2, fun i hi => (List.mem_filter.mp hi).2⟩
  unfold byKind
  rw [hl] at hp hsub ⊢
  generalize krest md kcs is = rs at *
  constructor
  · refine List.Perm.trans ?_ hp
    show ((l0 ++ rs) ++ [l1, l2, l3, l4, l5, l6].flatten).Perm ([l0, l1, l2, l3, l4, l5, l6].flatten ++ rs)
    rw [List.flatten_cons (L := [l1, l2, l3, l4, l5, l6]) (l := l0), List.append_assoc, List.append_assoc]
    exact List.Perm.append_left _ List.perm_append_comm
  · intro r hr
    have key : ((([(45, l0), (63, rs), (98, l1), (99, l2), (100, l3), (108, l4), (112, l5), (115, l6)] : List (Nat × List Nat)).map (·.2)).flatten).Pairwise (Cs (fun i => sg (md i) 0) r) := by
      refine flat_pw (by simp) ?_
      have pw : ∀ l ∈ [l0, l1, l2, l3, l4, l5, l6], l.Pairwise r := fun l hl => hr.sublist (hsub l hl)
      refine List.forall_mem_cons.mpr ⟨⟨fun i hi => sg_kind (by simp) (h0 i hi), pw _ (by simp)⟩, List.forall_mem_cons.mpr ⟨⟨hrn, hr.sublist hrs⟩, List.forall_mem_cons.mpr ⟨⟨fun i hi => sg_kind (by simp) (h1 i hi), pw _ (by simp)⟩,
        List.forall_mem_cons.mpr ⟨⟨fun i hi => sg_kind (by simp) (h2 i hi), pw _ (by simp)⟩, List.forall_mem_cons.mpr ⟨⟨fun i hi => sg_kind (by simp) (h3 i hi), pw _ (by simp)⟩, List.forall_mem_cons.mpr ⟨⟨fun i hi => sg_kind (by simp) (h4 i hi), pw _ (by simp)⟩,
        List.forall_mem_cons.mpr ⟨⟨fun i hi => sg_kind (by simp) (h5 i hi), pw _ (by simp)⟩, List.forall_mem_cons.mpr ⟨⟨fun i hi => sg_kind (by simp) (h6 i hi), pw _ (by simp)⟩, List.forall_mem_nil _⟩⟩⟩⟩⟩⟩⟩⟩
    have e : (l0 ++ rs) ++ [l1, l2, l3, l4, l5, l6].flatten = (([(45, l0), (63, rs), (98, l1), (99, l2), (100, l3), (108, l4), (112, l5), (115, l6)] : List (Nat × List Nat)).map (·.2)).flatten := by
      rw [List.append_assoc]; rfl
    show ((l0 ++ rs) ++ [l1, l2, l3, l4, l5, l6].flatten).Pairwise _
    rw [e]; exact key

theorem stage_all {k : Nat} {is : List Nat} (h0 : ∀ i ∈ is, 0 ≤ md i) (hk : k < 10) : Stage (fun i => sg (md i) (9 - k)) is (lay md (k + 1) is) := by
  match k, hk with
  | 0, _ => exact stage_three (k := 1) (c1 := 116) (c2 := 84) h0 (by decide) (by decide) (by decide) (by decide) (by decide) (by decide) fun i hi => sg_three (e := 0) (f := 9) (h0 i hi) (by decide) rfl rfl rfl rfl (by decide)
  | 1, _ => exact stage_one (k := 2) (c := 119) h0 (by decide) (by decide) (by decide) (by decide) fun i hi => sg_one (h0 i hi) (by decide) rfl rfl
  | 2, _ => exact stage_one (k := 3) (c := 114) h0 (by decide) (by decide) (by decide) (by decide) fun i hi => sg_one (h0 i hi) (by decide) rfl rfl
  | 3, _ => exact stage_three (k := 4) (c1 := 115) (c2 := 83) h0 (by decide) (by decide) (by decide) (by decide) (by decide) (by decide) fun i hi => sg_three (e := 3) (f := 10) (h0 i hi) (by decide) rfl rfl rfl rfl (by decide)
  | 4, _ => exact stage_one (k := 5) (c := 119) h0 (by decide) (by decide) (by decide) (by decide) fun i hi => sg_one (h0 i hi) (by decide) rfl rfl
  | 5, _ => exact stage_one (k := 6) (c := 114) h0 (by decide) (by decide) (by decide) (by decide) fun i hi => sg_one (h0 i hi) (by decide) rfl rfl
  | 6, _ => exact stage_three (k := 7) (c1 := 115) (c2 := 83) h0 (by decide) (by decide) (by decide) (by decide) (by decide) (by decide) fun i hi => sg_three (e := 6) (f := 11) (h0 i hi) (by decide) rfl rfl rfl rfl (by decide)
  | 7, _ => exact stage_one (k := 8) (c := 119) h0 (by decide) (by decide) (by decide) (by decide) fun i hi => sg_one (h0 i hi) (by decide) rfl rfl
  | 8, _ => exact stage_one (k := 9) (c := 114) h0 (by decide) (by decide) (by decide) (by decide) fun i hi => sg_one (h0 i hi) (by decide) rfl rfl
  | 9, _ => exact stage_ten md is

theorem rows_ok {n : Nat} (h0 : ∀ i, i < n → 0 ≤ md i) : ∀ {k : Nat}, k ≤ 10 → (rowAt md (List.range n) k).Perm (List.range n) ∧ (rowAt md (List.range n) k).Pairwise (Ks (key md k))
  | 0, _ => ⟨List.Perm.refl _, by
    refine List.pairwise_lt_range.imp fun h => .inr ⟨?_, h⟩
    unfold key
    rw [List.drop_eq_nil_of_le (by rw [sgns_length]; decide), List.drop_eq_nil_of_le (by rw [sgns_length]; decide)]⟩
  | k + 1, hk => by
    obtain ⟨ih1, ih2⟩ := rows_ok h0 (k := k) (by omega)
    obtain ⟨s1, s2⟩ := stage_all (md := md) (k := k) (is := rowAt md (List.range n) k) (fun i hi => h0 i (List.mem_range.mp (rowAt_mem k hi))) (by omega)
    refine ⟨s1.trans ih1, (s2 _ ih2).imp fun h => ?_⟩
    have := ks_cons h
    have e : key md (k + 1) = fun i => sg (md i) (9 - k) :: key md k i := funext fun i => key_step (by omega) i
    rw [e]; exact this

theorem ks_asymm {key : Nat → List Nat} {i j : Nat} (h : Ks key i j) (h' : Ks key j i) : False := by
  rcases h with h | ⟨e, h⟩ <;> rcases h' with h' | ⟨e', h'⟩
  · exact List.lt_irrefl _ (List.lt_trans h h')
  · rw [e'] at h; exact List.lt_irrefl _ h
  · rw [e] at h'; exact List.lt_irrefl _ h'
  · omega

theorem row_eq {n k : Nat} {p : List Nat} (h0 : ∀ i, i < n → 0 ≤ md i) (hk : k ≤ 10) (hp : p.Perm (List.range n)) (hw : p.Pairwise (Sb (rank n fun i => (sgns (md i)).drop (10 - k)))) : p = rowAt md (List.range n) k := by
  obtain ⟨r1, r2⟩ := rows_ok h0 hk
  have hw' : p.Pairwise (Ks (key md k)) := hw.imp_of_mem fun {a b} ha hb h => by
    have ha' : a < n := List.mem_range.mp (hp.subset ha)
    have hb' : b < n := List.mem_range.mp (hp.subset hb)
    rcases h with h | ⟨e, h⟩
    · exact .inl ((rank_lt ha').mpr h)
    · by_cases h1 : key md k a < key md k b
      · exact .inl h1
      · by_cases h2 : key md k b < key md k a
        · have := (rank_lt (key := fun i => (sgns (md i)).drop (10 - k)) hb').mp h2
          exact absurd this (by omega)
        · exact .inr ⟨List.le_antisymm (List.not_lt.mp h2) (List.not_lt.mp h1), h⟩
  exact List.Perm.eq_of_pairwise (fun a b _ _ x y => (ks_asymm x y).elim) hw' r2 (hp.trans r1.symm)
end
end Mine

end
section
set_option maxRecDepth 100000
set_option maxHeartbeats 1000000
namespace Mine
section
variable {prog : Program} {w : World} {A : Around} {s : Shared} {g₀ : Heap} {mg mb : Str → Option Value} {R : Result → Shared → Prop}

theorem c_imode (G : Gd w mg mb g₀) (O : Ok g₀ s.heap) (hr : Rm A 1) {x : Int} {t : Tok} (k : ∀ s' u, Grow g₀ s s' → R (.ok (.ret (.int (Builtin.bitAnd x 4095) u))) s') :
    codeAny (model prog w) A (.call (.ref 28) ⟨[.int x t], []⟩) R s := by
  refine enter (binds := [(Str.ofString "mode", .int x t)]) G O hr.room rfl rfl rfl rfl rfl (by decide) (locs rfl) rfl rfl rfl fun E s₁ L F => ?_
  refine wpAny_execs_cons <| wpAny_Return_some <| wpAny_BinOp <| ev_loc F rfl <| wpAny_Constant_int <| and_int ?_
  exact k _ _ ((F.toks _).toks _).grow

def lmode (x : Int) : Int := x.fmod 16 * 4096 + (x.fdiv 16).fmod 4096 + (x.fdiv 65536).fmod 65536 * 65536
theorem lmode_nonneg (x : Int) : 0 ≤ lmode x := by
  have h1 := Int.fmod_nonneg_of_pos x (b := 16) (by decide)
  have h2 := Int.fmod_nonneg_of_pos (x.fdiv 16) (b := 4096) (by decide)
  have h3 := Int.fmod_nonneg_of_pos (x.fdiv 65536) (b := 65536) (by decide)
  unfold lmode
  omega

theorem c_mode (G : Gd w mg mb g₀) (O : Ok g₀ s.heap) (hr : Rm A 1) {x : Int} {t : Tok} (k : ∀ s' u, Grow g₀ s s' → R (.ok (.ret (.int (lmode x) u))) s') :
    codeAny (model prog w) A (.call (.ref 131) ⟨[.int x t], []⟩) R s := by
  refine enter (binds := [(Str.ofString "x", .int x t)]) G O hr.room rfl rfl rfl rfl rfl (by decide) (locs rfl) rfl rfl rfl fun E s₁ L F => ?_
  refine wpAny_execs_cons <| wpAny_Return_some <| wpAny_BinOp <| wpAny_BinOp <| wpAny_BinOp <| wpAny_BinOp <| ev_loc F rfl <| wpAny_Constant_int <| mod_int' (by decide) <| wpAny_Constant_int <| PyProof.Rows.mul_int ?_ (IntMulOk.of_right (by decide))
  refine wpAny_BinOp <| wpAny_BinOp <| ev_loc (F.toks _) rfl <| wpAny_Constant_int <| floordiv_int (by decide) <| wpAny_Constant_int <| mod_int' (by decide) <| add_int ?_
  refine wpAny_BinOp <| wpAny_BinOp <| wpAny_BinOp <| ev_loc (F.toks _) rfl <| wpAny_Constant_int <| floordiv_int (by decide) <| wpAny_Constant_int <| mod_int' (by decide) <| wpAny_Constant_int <| PyProof.Rows.mul_int (add_int ?_) (IntMulOk.of_right (by decide))
  exact k _ _ (F.toks _).grow
end

section
variable {prog : Program} {w : World} {A : Around} {E : Value → Shared → Prop} {s s₀ : Shared} {g₀ : Heap} {env : Env} {l : List (Str × Value)} {mg mb : Str → Option Value}
/-- a comprehension: all that is older is kept -/
theorem ev_compG {elt target iter : Expr} {rest : List Comprehension} {scope : Scope} {cl : List (Str × Addr)} {pos : Pos} {Q : Value → Shared → Prop} (F : Fm g₀ s₀ env.locals l s)
    (hclos : closureFor scope env = pure cl) (hcell : ∀ y ∈ scope.names, y.2 ≠ .cell) (hkind : scope.kind = .function)
    (hnames : ∀ y ∈ scope.names, y.2 = .local → scope.names.lookup y.1 = some .local)
    (h : wpAny (model prog w) A (eval iter env) (fun x s₁ => wpAny (model prog w) A (pyIter x) (fun it s₂ => Grow g₀ s s₂ ∧ s.heap.objs.size ≤ s₂.heap.objs.size ∧
      ∀ s₃, Fm g₀ s (s₂.heap.objs.size + 1) [] s₃ → PlainL s₃.heap s₂.heap.objs.size #[] → (∀ b o, s₂.heap.get? b = some o → s₃.heap.get? b = some o) →
        (∀ (Q' : Value → Shared → Prop) E', Q' it s₃ → wpAny (model prog w) A (pyIter it) Q' E' s₃) ∧
        codeAny (model prog w) A (.compLoop (.ListComp elt (⟨target, iter, [], 0⟩ :: rest) scope pos) 0 it (.ref s₂.heap.objs.size) (compEnvC scope cl (s₂.heap.objs.size + 1) env))
          (fun r s' => r = .ok .next ∧ Fm g₀ s (s₂.heap.objs.size + 1) [] s' ∧ ∃ xs, PlainL s'.heap s₂.heap.objs.size xs ∧
            ∀ s'', Grow g₀ s s'' → s.heap.objs.size ≤ s₂.heap.objs.size → PlainL s''.heap s₂.heap.objs.size xs → (∀ b o, b ≠ s₂.heap.objs.size + 1 → s'.heap.get? b = some o → s''.heap.get? b = some o) → Q (.ref s₂.heap.objs.size) s'') s₃) E s₁) E s)
    (hs : ∀ x, foldedSetIterable iter env x = pure x := by intro _; rfl) :
    wpAny (model prog w) A (eval (.ListComp elt (⟨target, iter, [], 0⟩ :: rest) scope pos) env) Q E s := by
  refine ev_comp (g₀ := g₀) (s₀ := s₀) (cl := cl) hclos hcell hkind hnames (wpAny_mono h (fun x s₁ h₁ => wpAny_mono h₁ (fun it s₂ h₂ => ?_) fun _ _ e => e) fun _ _ e => e) hs
  obtain ⟨g₂, hle, h₂⟩ := h₂
  have F₂ := F.call g₂
  refine ⟨l, F₂, fun s₃ F₃ out hD k₃ => ?_⟩
  have g₃ : Grow g₀ s s₃ := ⟨let ⟨h1, tk1, e1⟩ := F₃.grow.same; let ⟨h2, tk2, e2⟩ := F.grow.same; ⟨h1, tk1, by rw [e1, e2]⟩, g₂.keep.trans (.of k₃), F₃.grow.ok⟩
  have F₃' : Fm g₀ s (s₂.heap.objs.size + 1) [] s₃ := ⟨g₃, F.grow.ok, Nat.le_succ_of_le hle, F₃.ns⟩
  obtain ⟨h1, h2⟩ := h₂ s₃ F₃' hD k₃
  refine ⟨h1, codeAny_mono h2 fun r s' hr => ?_⟩
  obtain ⟨rfl, F', xs, hD', hq⟩ := hr
  refine ⟨rfl, let ⟨m, n, _⟩ := F'.ns; ⟨m, n⟩, fun h' hs' => ?_⟩
  obtain ⟨m, ⟨o, es, ep, e, d, _⟩, _⟩ := F'.ns
  refine hq _ (F'.grow.but F'.above hs'.extBut F.grow.ok e fun vs q t dd => by rw [d] at dd; cases dd) hle (hD'.extBut hs'.extBut (Nat.ne_of_lt (Nat.lt_succ_self _))) fun b o hb e => hs'.extBut b o hb e
end
end Mine

end
section
set_option maxRecDepth 100000
set_option maxHeartbeats 1000000
namespace Mine
section
variable {prog : Program} {w : World} {A : Around} {s sB : Shared} {g₀ : Heap} {mg mb : Str → Option Value} {R : Result → Shared → Prop}

theorem ints_at {vs : List Value} {ns : List Int} (h : IntsAre vs ns) {i : Nat} (hi : i < ns.length) : ∃ t, vs[i]? = some (.int (ns.getD i 0) t) := by
  have hl : vs.length = ns.length := IntsAre.length h
  have e : vs[i]? = some vs[i] := List.getElem?_eq_getElem (by omega)
  obtain ⟨t, ht⟩ := IntsAre.int_at h i _ e
  exact ⟨t, by rw [e, ht]⟩

theorem loop_modes {i0 : Expr} {scope : Scope} {pos p1 p2 p3 p4 : Pos} {cenv : Env} {It SL D : Addr} {vs : List Value} {ns : List Int} (G : Gd w mg mb g₀) (hr : Rm A 1)
    (hk : cenv.scope.kind = .function) (hx : cenv.kindOf (Str.ofString "x") = some .local) (hf : cenv.kindOf (Str.ofString "_law_mode") = some .globalImplicit) (hge : cenv.globals = mainGlobals)
    (F : Fm g₀ sB cenv.locals [] s) (hit : s.heap.IsListIter It SL 0) (hsl : s.heap.IsList SL vs.toArray) (hI : IntsAre vs ns) (hn : ns.length ≤ 6) (hD : PlainL s.heap D #[])
    (hDs : sB.heap.objs.size ≤ D) (hIs : sB.heap.objs.size ≤ It) (hSD : SL ≠ D)
    (k : ∀ s' us, Fm g₀ sB cenv.locals [] s' → PlainL s'.heap D us.toArray → IntsAre us (ns.map lmode) → R (.ok .next) s') :
    codeAny (model prog w) A (.compLoop (.ListComp (.Call (.Name (Str.ofString "_law_mode") p1) [.Name (Str.ofString "x") p2] [] p3) [⟨.Name (Str.ofString "x") p4, i0, [], 0⟩] scope pos) 0 (.ref It) (.ref D) cenv) R s := by
  refine codeAny_compLoop_list (fun nn s' => ∃ j us, j ≤ ns.length ∧ nn = ns.length - j ∧ Fm g₀ sB cenv.locals [] s' ∧ s'.heap.IsListIter It SL j ∧ s'.heap.IsList SL vs.toArray ∧
    PlainL s'.heap D us.toArray ∧ IntsAre us ((ns.take j).map lmode)) ?_ ns.length
    ⟨0, [], Nat.zero_le _, by omega, F, hit, hsl, hD, .nil⟩
  rintro nn s₁ ⟨j, us, hj, rfl, F₁, hit₁, hsl₁, hD₁, hus⟩
  have hvl : vs.length = ns.length := IntsAre.length hI
  have hICne : cenv.locals ≠ It := iter_ne_ns F₁.ns hit₁
  have husl : us.length ≤ 6 := by have := IntsAre.length hus; simp at this; omega
  by_cases hlt : j < ns.length
  · obtain ⟨t, hv⟩ := ints_at hI hlt
    refine wpAny_pyNext_list_item hit₁ hsl₁ (x := .int (ns.getD j 0) t) (by simpa using hv) fun h' hit₂ hs' => ?_
    have F₂ := F₁.but hIs hICne hs'.extBut hit₁.choose_spec.1 (fun vs q t dd => by rw [hit₁.choose_spec.2.2] at dd; cases dd; simp)
    have hD₂ := hD₁.extBut hs'.extBut (list_ne_iter hD₁.isList hit₁)
    have hsl₂ := list_ext hsl₁ hs'.extBut (list_ne_iter hsl₁ hit₁)
    refine wpAny_assign_Name (st_loc F₂ (fun s₃ F₃ k₃ _ => ?_) hk hx)
    have neD := F₂.ne_list hD₂.isList
    have hD₃ : PlainL s₃.heap D us.toArray := by
      obtain ⟨o, n, e, r⟩ := hD₂
      exact ⟨o, n, (k₃ _ neD).trans e, r⟩
    have hsl₃ := list_same hsl₂ k₃ (F₂.ne_list hsl₂)
    have hit₃ : s₃.heap.IsListIter It SL (j + 1) := let ⟨o, e, r⟩ := hit₂; ⟨o, (k₃ _ hICne.symm).trans e, r⟩
    refine Call_ <| ev_glo G F₃.grow.ok rfl (cl_own G rfl rfl <| args_cons <| ev_loc F₃ rfl (args_nil ⟨F₃.grow.ok, wpAny_call <| c_mode G F₃.grow.ok hr fun s₄ u g₄ => ?_⟩) hk hx) hk hf hge
    have F₄ := F₃.call g₄
    have hD₄ := g₄.keep.plainL hD₃
    have hsl₄ := g₄.keep.list hsl₃
    have hit₄ := g₄.keep.listIter hit₃
    refine list_append_plainL hD₄ (fun h₈ hD₈ hs₈ => ?_) (by rw [List.size_toArray, sizeLine_eq]; omega)
    refine ⟨ns.length - (j + 1), by omega, j + 1, us ++ [.int (lmode (ns.getD j 0)) u], by omega, rfl, (F₄.but hDs (F₄.ne_list hD₄.isList).symm hs₈.extBut (PlainL.noCode hD₄).choose_spec.1 (PlainL.noCode hD₄).choose_spec.2).sub (List.forall_mem_nil _), ?_, ?_, ?_, ?_⟩
    · have ne := (list_ne_iter hD₄.isList hit₄).symm
      obtain ⟨o, e, r⟩ := hit₄
      exact ⟨o, hs₈.extBut _ _ ne e, r⟩
    · exact list_ext hsl₄ hs₈.extBut hSD
    · simpa using hD₈
    · have e : ns.take (j + 1) = ns.take j ++ [ns.getD j 0] := by
        rw [List.take_add_one, List.getD_eq_getElem?_getD, List.getElem?_eq_getElem hlt]; rfl
      rw [e, List.map_append]
      exact IntsAre.append hus (.cons _ _ .nil)
  · have hj' : j = ns.length := by omega
    refine wpAny_pyNext_list_end hr.hand hit₁ hsl₁ (by simp; omega) fun h' he => ?_
    have F₂ := F₁.but hIs hICne he hit₁.choose_spec.1 (fun vs q t dd => by rw [hit₁.choose_spec.2.2] at dd; cases dd; simp)
    refine k _ us F₂ (hD₁.extBut he (list_ne_iter hD₁.isList hit₁)) ?_
    rw [hj', List.take_length] at hus
    exact hus

/-- tuples stay -/
def Tk (h h' : Heap) : Prop := ∀ b o xs n, o.cls = .type "tuple" → o.data = .seq xs n → h.get? b = some o → h'.get? b = some o
theorem Tk.tup {h h' : Heap} (k : Tk h h') {a : Addr} {xs : Array Value} (x : IsTup h a xs) : IsTup h' a xs := let ⟨o, e, c, n, d⟩ := x; ⟨o, k a o xs n c d e, c, n, d⟩
theorem Tk.trans {h₁ h₂ h₃ : Heap} (a : Tk h₁ h₂) (b : Tk h₂ h₃) : Tk h₁ h₃ := fun x o xs n c d e => b x o xs n c d (a x o xs n c d e)
theorem Tk.of {h h' : Heap} (k : ∀ b o, h.get? b = some o → h'.get? b = some o) : Tk h h' := fun b o _ _ _ _ e => k b o e
theorem Tk.keep {h h' : Heap} (k : Keep h h') : Tk h h' := fun _ _ _ _ c _ e => k.getT e c
theorem Tk.ext {h h' : Heap} {a : Addr} (k : Heap.ExtBut a h h') {oa : Obj} (ho : h.get? a = some oa) (hc : oa.cls ≠ .type "tuple" ∨ ∀ xs n, oa.data ≠ .seq xs n) : Tk h h' := fun b o xs n c d e => k b o (fun q => by
  subst q; rw [ho] at e; cases e; rcases hc with hc | hc
  · exact hc c
  · exact hc xs n d) e

/-- the records as they are made -/
def RecsTo (h : Heap) (us : List Value) (j : Nat) (md : Nat → Int) : Prop :=
  us.length = j ∧ ∀ i, i < j → ∃ a t0 t1 t2 t3, us[i]? = some (.ref a) ∧ IsTup h a #[.int i t0, .int (md i) t1, .int (Builtin.bitAnd (md i) 4095) t2, .str (fmStr (md i)) t3]
theorem RecsTo.tk {h h' : Heap} {us : List Value} {j : Nat} {md : Nat → Int} (x : RecsTo h us j md) (k : Tk h h') : RecsTo h' us j md :=
  ⟨x.1, fun i hi => let ⟨a, t0, t1, t2, t3, e, r⟩ := x.2 i hi; ⟨a, t0, t1, t2, t3, e, k.tup r⟩⟩
theorem RecsTo.snoc {h : Heap} {us : List Value} {j : Nat} {md : Nat → Int} {a : Addr} {t0 t1 t2 t3 : Tok} (x : RecsTo h us j md) (y : IsTup h a #[.int j t0, .int (md j) t1, .int (Builtin.bitAnd (md j) 4095) t2, .str (fmStr (md j)) t3]) :
    RecsTo h (us ++ [.ref a]) (j + 1) md := by
  obtain ⟨hl, hx⟩ := x
  refine ⟨by simp [hl], fun i hi => ?_⟩
  by_cases q : i = j
  · subst q; exact ⟨a, t0, t1, t2, t3, by rw [List.getElem?_append_right (by omega)]; simp [hl], y⟩
  · obtain ⟨b, u0, u1, u2, u3, e, r⟩ := hx i (by omega)
    exact ⟨b, u0, u1, u2, u3, by rw [List.getElem?_append_left (by omega)]; exact e, r⟩
end
end Mine

end
section
set_option maxRecDepth 100000
set_option maxHeartbeats 1000000
namespace Mine
section
variable {prog : Program} {w : World} {A : Around} {s sB : Shared} {g₀ : Heap} {mg mb : Str → Option Value} {R : Result → Shared → Prop}

theorem loop_coming {i0 : Expr} {scope : Scope} {pos p1 p2 p3 p4 p5 p6 p7 p8 p9 pa pb pc : Pos} {cenv : Env} {it en ml D : Addr} {vs : List Value} {ns : List Int} (G : Gd w mg mb g₀) (hr : Rm A 4)
    (hk : cenv.scope.kind = .function) (hp : cenv.kindOf (Str.ofString "place") = some .local) (hm : cenv.kindOf (Str.ofString "mode") = some .local)
    (hf : cenv.kindOf (Str.ofString "S_IMODE") = some .globalImplicit) (hf' : cenv.kindOf (Str.ofString "filemode") = some .globalImplicit) (hge : cenv.globals = mainGlobals)
    (F : Fm g₀ sB cenv.locals [] s) (hen : IsEnum s.heap en it 0 .none) (hit : s.heap.IsListIter it ml 0) (hml : sB.heap.IsList ml vs.toArray) (hI : IntsAre vs ns) (hn : ns.length ≤ 64) (hD : PlainL s.heap D #[])
    (hDs : sB.heap.objs.size ≤ D) (hIs : sB.heap.objs.size ≤ it) (hEs : sB.heap.objs.size ≤ en) (hei : en ≠ it)
    (k : ∀ s' us, Fm g₀ sB cenv.locals [] s' → PlainL s'.heap D us.toArray → RecsTo s'.heap us ns.length (fun i => ns.getD i 0) → R (.ok .next) s') :
    codeAny (model prog w) A (.compLoop (.ListComp (.Tuple [.Name (Str.ofString "place") p1, .Name (Str.ofString "mode") p2, .Call (.Name (Str.ofString "S_IMODE") p3) [.Name (Str.ofString "mode") p4] [] p5,
      .Call (.Name (Str.ofString "filemode") p6) [.Name (Str.ofString "mode") p7] [] p8] 0 p9) [⟨.Tuple [.Name (Str.ofString "place") pa, .Name (Str.ofString "mode") pb] 0 pc, i0, [], 0⟩] scope pos) 0 (.ref en) (.ref D) cenv) R s := by
  refine LCp.codeAny_compLoop_pair (fun nn s' => ∃ j us old, j ≤ ns.length ∧ nn = ns.length - j ∧ Fm g₀ sB cenv.locals [] s' ∧ IsEnum s'.heap en it (j : Int) old ∧ s'.heap.IsListIter it ml j ∧
    PlainL s'.heap D us.toArray ∧ RecsTo s'.heap us j (fun i => ns.getD i 0)) ?_ ns.length
    ⟨0, [], .none, Nat.zero_le _, by omega, F, hen, hit, hD, rfl, fun i hi => by omega⟩
  clear F hen hit hD
  rintro nn s₁ ⟨j, us, old, hj, rfl, F₁, hen, hit, hD, hus⟩
  have hvl : vs.length = ns.length := IntsAre.length hI
  have hml₁ : s₁.heap.IsList ml vs.toArray := F₁.grow.keep.list hml
  have hmlt : ml < sB.heap.objs.size := let ⟨_, e, _⟩ := hml; Heap.lt_size e
  have hmit : ml ≠ it := Nat.ne_of_lt (Nat.lt_of_lt_of_le hmlt hIs)
  have hmen : en ≠ ml := Nat.ne_of_gt (Nat.lt_of_lt_of_le hmlt hEs)
  have hCit : cenv.locals ≠ it := iter_ne_ns F₁.ns hit
  have hCen : cenv.locals ≠ en := fun q => by
    obtain ⟨m, ⟨o, es, ep, e, d, _⟩, _⟩ := F₁.ns
    rw [q] at e
    have e2 : s₁.heap.get? en = some _ := hen
    rw [e2] at e; cases e; cases d
  have hDit : D ≠ it := list_ne_iter hD.isList hit
  have hDen : D ≠ en := fun q => by
    obtain ⟨o, n, e, c, _⟩ := hD
    have e2 : s₁.heap.get? en = some _ := hen
    rw [q, e2] at e; cases e; injection c with h; exact absurd h (by decide)
  have DD := Draws.list (prog := prog) (w := w) (A := A.in1) hr.hand it ml hmit vs.toArray
  have hnoE : ∀ vs (q : Str) t, ({ cls := .type "enumerate", dict := none, data := .fields #[.none, .bool false, .ref it, rawInt (j : Int), .none, old], slots := #[] } : Obj).data = .fields vs → vs[1]? ≠ some (.str q t) := fun vs q t dd => by cases dd; simp
  have hnoI : ∀ vs (q : Str) t, hit.choose.data = .fields vs → vs[1]? ≠ some (.str q t) := fun vs q t dd => by rw [hit.choose_spec.2.2] at dd; cases dd; simp
  have hsz : vs.toArray.size = ns.length := by rw [List.size_toArray, hvl]
  have hus6 : us.length = j := hus.1
  by_cases hlt : j < ns.length
  · obtain ⟨t, hv⟩ := ints_at hI hlt
    refine wpAny_pyNext_enum_itemD DD hen ⟨hit, hml₁⟩ (by omega) hei (fun q => by
      rcases List.mem_cons.mp q with q | q
      · exact hei q
      · exact hmen (List.mem_singleton.mp q)) fun x h' tk hx hout hst' htup hz hk' => ?_
    have hx' : x = .int (ns.getD j 0) t := by
      have e : vs.toArray[j]? = some (.int (ns.getD j 0) t) := by simpa using hv
      rw [e] at hx; exact (Option.some.inj hx).symm
    subst hx'
    refine wpAny_letOwnedTupleGo_enum hout fun h₅ he₅ hs₅ => ?_
    have k₅ : ∀ b o, b ≠ en → b ≠ it → s₁.heap.get? b = some o → h₅.get? b = some o := fun b o h1 h2 e => hs₅.extBut b o h1 (hk' b o h1 h2 e)
    have F₅ := (F₁.but2 hEs hIs hCen hCit k₅ hen hnoE hit.choose_spec.1 hnoI).toks (tk + 1)
    have tk₅ : Tk s₁.heap h₅ := fun b o xs n c d e => k₅ b o (fun q => by
        rw [q, show s₁.heap.get? en = some _ from hen] at e; cases e; injection c with h; exact absurd h (by decide)) (fun q => by
        obtain ⟨o', e', c', _⟩ := hit
        rw [q, e'] at e; cases e; rw [c'] at c; injection c with h; exact absurd h (by decide)) e
    have hD₅ : PlainL h₅ D us.toArray := let ⟨o, n, e, r⟩ := hD; ⟨o, n, k₅ _ _ hDen hDit e, r⟩
    have hTlt : en < s₁.heap.objs.size := Heap.lt_size hen
    have htup₅ : h₅.IsTuple s₁.heap.objs.size #[.int (j : Int) tk, .int (ns.getD j 0) t] := ⟨_, hs₅.extBut _ _ (Nat.ne_of_gt hTlt) htup, rfl, _, rfl⟩
    have hit₅ : h₅.IsListIter it ml (j + 1) := hst'.1.extBut hs₅.extBut hei.symm
    refine as_pair hr.hand F₅ htup₅ (fun s₆ F₆ k₆ => ?_) hk hp hm
    have neD := F₅.ne_list hD₅.isList
    have hD₆ : PlainL s₆.heap D us.toArray := let ⟨o, n, e, r⟩ := hD₅; ⟨o, n, k₆ _ _ neD e, r⟩
    have hen₆ : IsEnum s₆.heap en it ((j : Int) + 1) (.int (ns.getD j 0) t) := k₆ _ _ hCen.symm he₅
    have hit₆ : s₆.heap.IsListIter it ml (j + 1) := let ⟨o, e, r⟩ := hit₅; ⟨o, k₆ _ _ hCit.symm e, r⟩
    have tk₆ : Tk h₅ s₆.heap := fun b o xs n c d e => k₆ b o (fun q => by
        obtain ⟨m, ⟨o', es, ep, e', d', _⟩, _⟩ := F₅.ns
        subst q; rw [show h₅.get? cenv.locals = some o' from e'] at e; cases e; rw [d'] at d; cases d) e
    refine Tuple_ <| args_cons <| ev_loc F₆ rfl (args_cons <| ev_loc F₆ rfl (args_cons <| Call_ <| ev_glo G F₆.grow.ok rfl (cl_own G rfl rfl <| args_cons <| ev_loc F₆ rfl (args_nil ⟨F₆.grow.ok, wpAny_call <| c_imode G F₆.grow.ok (hr.le (by decide)) fun s₇ u g₇ => ?_⟩) hk hm) hk hf hge) hk hm) hk hp
    have F₇ := F₆.call g₇
    refine args_cons <| Call_ <| ev_glo G F₇.grow.ok rfl (cl_own G rfl rfl <| args_cons <| ev_loc F₇ rfl (args_nil ⟨F₇.grow.ok, wpAny_call <| c_filemode G F₇.grow.ok (hr.le (by decide)) fun s₈ u' g₈ => ?_⟩) hk hm) hk hf' hge
    have F₈ := F₇.call g₈
    refine args_nil <| wpAny_newTuple ?_
    have g₆₈ := g₇.trans g₈
    have hD₈ := (g₆₈.keep.plainL hD₆).keeps (h' := s₈.heap.push { cls := .type "tuple", data := .seq [Value.int (j : Int) tk, .int (ns.getD j 0) t, .int (Builtin.bitAnd (ns.getD j 0) 4095) u, .str (fmStr (ns.getD j 0)) u'].toArray }) fun _ _ e => Heap.get?_push_of_some _ e
    have F₉ := F₈.push { cls := .type "tuple", data := .seq [Value.int (j : Int) tk, .int (ns.getD j 0) t, .int (Builtin.bitAnd (ns.getD j 0) 4095) u, .str (fmStr (ns.getD j 0)) u'].toArray }
    have hen₉ := Heap.get?_push_of_some { cls := .type "tuple", data := .seq [Value.int (j : Int) tk, .int (ns.getD j 0) t, .int (Builtin.bitAnd (ns.getD j 0) 4095) u, .str (fmStr (ns.getD j 0)) u'].toArray } (g₆₈.keep.getT hen₆ rfl)
    have hit₉ : (s₈.heap.push { cls := .type "tuple", data := .seq [Value.int (j : Int) tk, .int (ns.getD j 0) t, .int (Builtin.bitAnd (ns.getD j 0) 4095) u, .str (fmStr (ns.getD j 0)) u'].toArray }).IsListIter it ml (j + 1) := by
      obtain ⟨o, e, r⟩ := g₆₈.keep.listIter hit₆
      exact ⟨o, Heap.get?_push_of_some _ e, r⟩
    have htup₉ : IsTup (s₈.heap.push { cls := .type "tuple", data := .seq [Value.int (j : Int) tk, .int (ns.getD j 0) t, .int (Builtin.bitAnd (ns.getD j 0) 4095) u, .str (fmStr (ns.getD j 0)) u'].toArray }) s₈.heap.objs.size #[Value.int (j : Int) tk, .int (ns.getD j 0) t, .int (Builtin.bitAnd (ns.getD j 0) 4095) u, .str (fmStr (ns.getD j 0)) u'] :=
      ⟨_, Heap.get?_push_size _ rfl, rfl, _, rfl⟩
    have hrec₉ := hus.tk (((tk₅.trans tk₆).trans (Tk.keep g₆₈.keep)).trans (Tk.of fun b o e => Heap.get?_push_of_some (h := s₈.heap) { cls := .type "tuple", data := .seq [Value.int (j : Int) tk, .int (ns.getD j 0) t, .int (Builtin.bitAnd (ns.getD j 0) 4095) u, .str (fmStr (ns.getD j 0)) u'].toArray } e))
    have hrec := hrec₉.snoc htup₉
    refine list_append_plainL hD₈ (fun hh hDD hss => ?_) (by rw [List.size_toArray, sizeLine_eq]; omega)
    refine ⟨ns.length - (j + 1), by omega, j + 1, us ++ [.ref s₈.heap.objs.size], .int (ns.getD j 0) t, by omega, rfl, (F₉.but hDs (F₉.ne_list hD₈.isList).symm hss.extBut (PlainL.noCode hD₈).choose_spec.1 (PlainL.noCode hD₈).choose_spec.2).sub (List.forall_mem_nil _), ?_, ?_, ?_, ?_⟩
    · have e : ((j + 1 : Nat) : Int) = (j : Int) + 1 := by omega
      rw [e]; exact hss.extBut _ _ hDen.symm hen₉
    · obtain ⟨o, e, r⟩ := hit₉
      exact ⟨o, hss.extBut _ _ hDit.symm e, r⟩
    · simpa using hDD
    · obtain ⟨oD, nD, eD, cD, dD⟩ := hD₈
      exact hrec.tk (Tk.ext hss.extBut eD (.inl fun q => by rw [cD] at q; injection q with h; exact absurd h (by decide)))
  · have hj' : j = ns.length := by omega
    refine wpAny_pyNext_enum_endD DD hen ⟨by rw [hsz, ← hj']; exact hit, hml₁⟩ fun h' he => ?_
    have F₂ := F₁.but hIs hCit he hit.choose_spec.1 hnoI
    refine k _ us F₂ (hD.extBut he hDit) ?_
    rw [← hj']
    refine hus.tk (Tk.ext he hit.choose_spec.1 (.inl fun q => ?_))
    rw [hit.choose_spec.2.1] at q; injection q with h; exact absurd h (by decide)
end
end Mine

end
section
set_option maxRecDepth 100000
set_option maxHeartbeats 1000000
namespace Mine
section
variable {prog : Program} {w : World} {A : Around} {s sB : Shared} {g₀ : Heap} {mg mb : Str → Option Value} {R : Result → Shared → Prop}

theorem loop_sorted {i0 : Expr} {scope : Scope} {pos p1 p2 p3 p4 p5 : Pos} {cenv : Env} {It D l c : Addr} {val : Nat → Value} {n : Nat} {md : Nat → Int} (G : Gd w mg mb g₀) (hr : Rm A 6)
    (hk : cenv.scope.kind = .function) (hkk : cenv.kindOf (Str.ofString "k") = some .local) (hkc : cenv.kindOf (Str.ofString "coming") = some .cell) (hc : cenv.cells.lookup (Str.ofString "coming") = some c)
    (hf : cenv.kindOf (Str.ofString "_law_sorted") = some .globalImplicit) (hge : cenv.globals = mainGlobals)
    (F : Fm g₀ sB cenv.locals [] s) (hit : IsRangeIter s.heap It 1 10 1) (hcell : sB.heap.IsCell c (some (.ref l))) (hl : sB.heap.IsList l ((List.range n).map val).toArray) (h2 : 2 ≤ n) (h64 : n < 64)
    (hrec : Recs sB.heap val n md (fun i => fmStr (md i))) (h0 : ∀ i, i < n → 0 ≤ md i) (hD : PlainL s.heap D #[]) (hDs : sB.heap.objs.size ≤ D) (hIs : sB.heap.objs.size ≤ It)
    (k : ∀ s' as, Fm g₀ sB cenv.locals [] s' → PlainL s'.heap D (as.map Value.ref).toArray → ListsAre s'.heap val as ((List.range 10).map fun j => rowAt md (List.range n) (j + 1)) → (∀ a ∈ as, a ≠ cenv.locals) → R (.ok .next) s') :
    codeAny (model prog w) A (.compLoop (.ListComp (.Call (.Name (Str.ofString "_law_sorted") p1) [.Name (Str.ofString "coming") p2, .Name (Str.ofString "k") p3] [] p4) [⟨.Name (Str.ofString "k") p5, i0, [], 0⟩] scope pos) 0 (.ref It) (.ref D) cenv) R s := by
  refine codeAny_compLoop_list (fun nn s' => ∃ j as, j ≤ 10 ∧ nn = 10 - j ∧ Fm g₀ sB cenv.locals [] s' ∧ IsRangeIter s'.heap It ((j : Int) + 1) (10 - (j : Int)) 1 ∧
    PlainL s'.heap D (as.map Value.ref).toArray ∧ (∀ a ∈ as, a ≠ D) ∧ ListsAre s'.heap val as ((List.range j).map fun i => rowAt md (List.range n) (i + 1))) ?_ 10
    ⟨0, [], by decide, rfl, F, hit, hD, (fun a ha => nomatch ha), trivial⟩
  have hcls : ∀ (x y z : Int), (({ cls := .type "range_iterator", data := .fields #[rawInt x, rawInt y, rawInt z] } : Obj)).cls ≠ .type "list" := fun _ _ _ e => by injection e with h; exact absurd h (by decide)
  clear F hit hD
  rintro nn s₅ ⟨j, as, hj, rfl, F₅, hit, hD, hasD, has⟩
  have hnI : ∀ {h' : Heap} a xs, Heap.ExtBut It s₅.heap h' → s₅.heap.IsList a xs → h'.IsList a xs := fun a xs he x => list_ext x he (list_ne_obj x hit (hcls _ _ _))
  have hfld : ∀ vs (q : Str) t, (({ cls := .type "range_iterator", data := .fields #[rawInt ((j : Int) + 1), rawInt (10 - (j : Int)), rawInt 1] } : Obj)).data = .fields vs → vs[1]? ≠ some (.str q t) := fun vs q t dd => by cases dd; simp [rawInt]
  have hasl : as.length = j := by rw [has.length]; simp
  have hCI : cenv.locals ≠ It := fun q => by
    obtain ⟨m, ⟨o, es, ep, e, d, _⟩, _⟩ := F₅.ns
    rw [q, show s₅.heap.get? It = some _ from hit] at e; cases e; cases d
  have hDI : D ≠ It := list_ne_obj hD.isList hit (hcls _ _ _)
  by_cases hj10 : j = 10
  · subst hj10
    refine wpAny_pyNext_range_end hr.hand hit (by omega) fun h' he => ?_
    have F₆ := F₅.but hIs hCI he hit hfld
    have has₆ := has.mono fun a _ xs x => hnI a xs he x
    exact k _ as F₆ (hD.extBut he hDI) has₆ fun a ha => let ⟨_, x⟩ := has₆.mem a ha; F₆.ne_list x
  · refine wpAny_pyNext_range_item hit (by omega) fun h' hit' hs' => ?_
    have F₆ := (F₅.but hIs hCI hs'.extBut hit hfld).toks (s₅.toks + 1)
    refine wpAny_assign_Name (st_loc F₆ (fun s₇ F₇ k₇ _ => ?_) hk hkk)
    have up7 : ∀ a xs, s₅.heap.IsList a xs → s₇.heap.IsList a xs := fun a xs x => list_same (hnI a xs hs'.extBut x) k₇ (F₆.ne_list (hnI a xs hs'.extBut x))
    have has₇ := has.mono fun a _ xs x => up7 a xs x
    have hD₇ : PlainL s₇.heap D (as.map Value.ref).toArray := by
      have h6 := hD.extBut hs'.extBut hDI
      have ne := F₆.ne_list h6.isList
      obtain ⟨o, n, e, r⟩ := h6
      exact ⟨o, n, (k₇ _ ne).trans e, r⟩
    have hit₇ : IsRangeIter s₇.heap It ((j : Int) + 1 + 1) (10 - (j : Int) - 1) 1 := (k₇ _ hCI.symm).trans hit'
    refine Call_ <| ev_glo G F₇.grow.ok rfl (cl_own G rfl rfl <| args_cons <| ev_cell hc (F₇.grow.keep.cell hcell) (args_cons <| ev_loc F₇ rfl (args_nil ⟨F₇.grow.ok, wpAny_call ?_⟩) hk hkk) hk hkc) hk hf hge
    have hk' : ((j : Int) + 1) = ((j + 1 : Nat) : Int) := by omega
    rw [hk']
    refine c_sorted (n := n) (md := md) G F₇.grow.ok (hr.le (by decide)) (by omega) (by omega) (F₇.grow.keep.list hl) h2 h64 (hrec.keep F₇.grow.keep) fun s₈ D' p g₈ hz hD' hp hw => ?_
    have hpe : p = rowAt md (List.range n) (j + 1) := row_eq h0 (by omega) hp hw
    subst hpe
    have F₈ := F₇.call g₈
    have hD₈ := g₈.keep.plainL hD₇
    have hDR : D' ≠ D := Nat.ne_of_gt (Nat.lt_of_lt_of_le hD₇.lt hz)
    refine list_append_plainL hD₈ (fun hh hDD hss => ?_) (by rw [List.size_toArray, List.length_map, sizeLine_eq]; omega)
    have h8 := g₈.keep.getT hit₇ rfl
    refine ⟨10 - (j + 1), by omega, j + 1, as ++ [D'], by omega, rfl, (F₈.but hDs (F₈.ne_list hD₈.isList).symm hss.extBut (PlainL.noCode hD₈).choose_spec.1 (PlainL.noCode hD₈).choose_spec.2).sub (List.forall_mem_nil _), ?_, ?_, ?_, ?_⟩
    · have e1 : (((j + 1 : Nat) : Int) + 1) = (j : Int) + 1 + 1 := by omega
      have e2 : (10 - ((j + 1 : Nat) : Int)) = 10 - (j : Int) - 1 := by omega
      rw [e1, e2]
      exact hss.extBut _ _ hDI.symm h8
    · rw [List.map_append]; simpa using hDD
    · intro b hb
      rcases List.mem_append.mp hb with hb | hb
      · exact hasD b hb
      · rw [List.mem_singleton.mp hb]; exact hDR
    · have e : (List.range (j + 1)).map (fun i => rowAt md (List.range n) (i + 1)) = (List.range j).map (fun i => rowAt md (List.range n) (i + 1)) ++ [rowAt md (List.range n) (j + 1)] := by rw [List.range_succ, List.map_append]; rfl
      rw [e]
      exact ListsAre.snoc (list_ext hD' hss.extBut hDR) (has₇.mono fun b hb xs y => list_ext (g₈.keep.list y) hss.extBut (hasD b hb))

/-- what a record tells -/
def datum (md : Nat → Int) (i : Nat) : PyData := .tuple [.int i, .int (md i), .int (Builtin.bitAnd (md i) 4095), .str (fmStr (md i))]
def rowsD (md : Nat → Int) (ls : List (List Nat)) : PyData := .list (ls.map fun l => .list (l.map (datum md)))

theorem reads_rec {h : Heap} {val : Nat → Value} {n : Nat} {md : Nat → Int} (x : Recs h val n md (fun i => fmStr (md i))) {i : Nat} (hi : i < n) : Reads h (val i) (datum md i) [] := by
  obtain ⟨a, t0, t1, t2, t3, e, o, ho, hc, m, hd⟩ := x i hi
  rw [e]
  exact .tuple ho hc hd (.cons (.int _ _) (.cons (.int _ _) (.cons (.int _ _) (.cons (.str _ _) .nil))))
theorem reads_row {h : Heap} {val : Nat → Value} {n : Nat} {md : Nat → Int} (x : Recs h val n md (fun i => fmStr (md i))) : ∀ {is : List Nat}, (∀ i ∈ is, i < n) → ReadsAll h (is.map val) (is.map (datum md)) []
  | [], _ => .nil
  | i :: _, hi => .cons (reads_rec x (hi i (.head _))) (reads_row x fun j hj => hi j (.tail _ hj))
theorem reads_rows {h : Heap} {val : Nat → Value} {n : Nat} {md : Nat → Int} (x : Recs h val n md (fun i => fmStr (md i))) : ∀ {as : List Addr} {ls : List (List Nat)}, ListsAre h val as ls → (∀ l ∈ ls, ∀ i ∈ l, i < n) →
    ∃ bs, ReadsAll h (as.map Value.ref) (ls.map fun l => .list (l.map (datum md))) bs
  | [], [], _, _ => ⟨_, .nil⟩
  | a :: as, l :: ls, y, hi => by
    obtain ⟨⟨o, e, c, m, d⟩, y2⟩ := y
    obtain ⟨bs, hb⟩ := reads_rows x y2 fun l' hl' => hi l' (.tail _ hl')
    have hr : ReadsAll h ((l.map val).toArray).toList (l.map (datum md)) [] := by simpa using reads_row x (hi l (.head _))
    exact ⟨_, .cons (.list e c d hr) hb⟩
theorem reads_all {h : Heap} {val : Nat → Value} {n : Nat} {md : Nat → Int} (x : Recs h val n md (fun i => fmStr (md i))) {D : Addr} {as : List Addr} {ls : List (List Nat)} (hD : h.IsList D (as.map Value.ref).toArray) (y : ListsAre h val as ls) (hi : ∀ l ∈ ls, ∀ i ∈ l, i < n) :
    ∃ bs, Reads h (.ref D) (rowsD md ls) bs := by
  obtain ⟨o, e, c, m, d⟩ := hD
  obtain ⟨bs, hb⟩ := reads_rows x y hi
  have hr : ReadsAll h ((as.map Value.ref).toArray).toList (ls.map fun l => .list (l.map (datum md))) bs := by simpa using hb
  exact ⟨_, .list e c d hr⟩

theorem sgn_lt {idx : Nat} {m : Int} {row : List (Addr × Int × Nat)} (h : ∀ p ∈ row, p.2.2 < 128) : sgn idx m row < 128 := by
  unfold sgn
  split
  · rename_i p hp; exact h p (List.mem_of_find?_eq_some hp)
  · split <;> decide
theorem sg_lt (m : Int) {j : Nat} (hj : j < 10) : sg m j < 128 := by
  have : ∀ j : Fin 10, ∀ p ∈ (ft.getD j.val (0, [])).2, p.2.2 < 128 := by decide
  exact sgn_lt (this ⟨j, hj⟩)
theorem sgns_lt {m : Int} : ∀ c ∈ sgns m, c < 128 := fun c hc => by
  obtain ⟨j, hj, rfl⟩ := List.mem_map.mp hc
  exact sg_lt m (List.mem_range.mp hj)
theorem ok_fm (m : Int) : PyData.strOk (fmStr m) = true := by
  unfold PyData.strOk fmStr
  rw [List.all_toArray, List.all_eq_true]
  intro c hc
  have := sgns_lt c hc
  exact decide_eq_true (by omega)
theorem lay_row (md : Nat → Int) : ∀ l : List Nat, PyData.canLayAll0 (l.map (datum md)) = true
  | [] => rfl
  | i :: l => by
    rw [List.map_cons, PyData.canLayAll0, lay_row md l, datum]; simp [PyData.canLay0, PyData.canLayAll0, ok_fm]
theorem lay_rows (md : Nat → Int) : ∀ ls : List (List Nat), PyData.canLayAll0 (ls.map fun l => .list (l.map (datum md))) = true
  | [] => rfl
  | l :: ls => by
    rw [List.map_cons, PyData.canLayAll0, lay_rows md ls, PyData.canLay0, lay_row md l]; rfl
theorem lay_all (md : Nat → Int) (ls : List (List Nat)) : (rowsD md ls).canLay0 = true := by
  rw [rowsD, PyData.canLay0]; exact lay_rows md ls
theorem dep_row (md : Nat → Int) : ∀ l : List Nat, PyData.depthAll (l.map (datum md)) ≤ 1
  | [] => Nat.zero_le _
  | i :: l => by
    rw [List.map_cons, PyData.depthAll]
    exact Nat.max_le.mpr ⟨Nat.le_refl _, dep_row md l⟩
theorem dep_rows (md : Nat → Int) : ∀ ls : List (List Nat), PyData.depthAll (ls.map fun l => .list (l.map (datum md))) ≤ 2
  | [] => Nat.zero_le _
  | l :: ls => by
    rw [List.map_cons, PyData.depthAll]
    exact Nat.max_le.mpr ⟨by rw [PyData.depth]; exact Nat.succ_le_succ (dep_row md l), dep_rows md ls⟩
theorem shaped_all (md : Nat → Int) (ls : List (List Nat)) : PySem.SeqAt.shaped (rowsD md ls) = true := by
  unfold PySem.SeqAt.shaped
  rw [lay_all, Bool.true_and, decide_eq_true_eq, rowsD, PyData.depth]
  have := dep_rows md ls
  omega
end
end Mine

end
section
set_option maxRecDepth 100000
set_option maxHeartbeats 1000000
namespace Mine
section
variable {prog : Program} {w : World} {A : Around} {E : Value → Shared → Prop} {s s₀ : Shared} {g₀ : Heap} {env : Env} {l : List (Str × Value)} {mg mb : Str → Option Value}

theorem ev_modes {scope : Scope} {cl : List (Str × Addr)} {pos p1 p2 p3 p4 p5 p6 p7 p8 : Pos} {Q : Value → Shared → Prop} {sc : Addr} {vs : List Value} {ns : List Int} (G : Gd w mg mb g₀) (hr : Rm A 1) (F : Fm g₀ s₀ env.locals l s)
    (hlk : l.lookup (Str.ofString "script") = some (.ref sc)) (hsc : s.heap.IsList sc vs.toArray) (hI : IntsAre vs ns) (hn : ns.length ≤ 63)
    (hek : env.scope.kind = .function) (hex : env.kindOf (Str.ofString "script") = some .local)
    (hclos : closureFor scope env = pure cl) (hcell : ∀ y ∈ scope.names, y.2 ≠ .cell) (hkind : scope.kind = .function)
    (hnames : ∀ y ∈ scope.names, y.2 = .local → scope.names.lookup y.1 = some .local)
    (hk : ∀ C, (compEnvC scope cl C env).scope.kind = .function) (hx : ∀ C, (compEnvC scope cl C env).kindOf (Str.ofString "x") = some .local) (hf : ∀ C, (compEnvC scope cl C env).kindOf (Str.ofString "_law_mode") = some .globalImplicit)
    (hge : env.globals = mainGlobals)
    (k : ∀ s' D us, Grow g₀ s s' → s'.heap.IsList D us.toArray → IntsAre us ((ns.take 6).map lmode) → Q (.ref D) s') :
    wpAny (model prog w) A (eval (.ListComp (.Call (.Name (Str.ofString "_law_mode") p1) [.Name (Str.ofString "x") p2] [] p3) [⟨.Name (Str.ofString "x") p4,
      .Subscript (.Name (Str.ofString "script") p5) (.Slice none (some (.Constant (.int 6) 0 p6)) none p7) p8, [], 0⟩] scope pos) env) Q E s := by
  have hvl : vs.length = ns.length := IntsAre.length hI
  refine ev_compG (cl := cl) F hclos hcell hkind hnames ?_
  refine wpAny_Subscript_list_slice <| ev_loc F hlk (ep_none <| ep_int ⟨sc, _, none, some 6, rfl, hsc, by rw [List.size_toArray, hvl, sizeLine_eq]; omega, .none, .int _ _, ?_⟩) hek hex
  have hpick : slicePick vs.toArray none (some 6) none = (vs.take 6).toArray := slicePick_upto' vs.toArray 6
  rw [hpick]
  have hsl : ((s.heap.push { cls := .type "slice", data := .fields #[.none, .int 6 s.toks, .none] }).push { cls := .type "list", data := .seq (vs.take 6).toArray }).IsList (s.heap.objs.size + 1) (vs.take 6).toArray := by
    have := Heap.get?_push_size (s.heap.push { cls := .type "slice", data := .fields #[.none, .int 6 s.toks, .none] }) (o := { cls := .type "list", data := .seq (vs.take 6).toArray }) rfl
    rw [Heap.size_push] at this
    exact ⟨_, this, rfl, _, rfl⟩
  have hz : ((s.heap.push { cls := .type "slice", data := .fields #[.none, .int 6 s.toks, .none] }).push { cls := .type "list", data := .seq (vs.take 6).toArray }).objs.size = s.heap.objs.size + 2 := by rw [Heap.size_push, Heap.size_push]
  have up : ∀ b o, s.heap.get? b = some o → ((s.heap.push { cls := .type "slice", data := .fields #[.none, .int 6 s.toks, .none] }).push { cls := .type "list", data := .seq (vs.take 6).toArray }).get? b = some o :=
    fun b o e => Heap.get?_push_of_some _ (Heap.get?_push_of_some _ e)
  show wpAny _ _ (pyIter (.ref (s.heap.objs.size + 1))) _ _ { s with heap := (s.heap.push { cls := .type "slice", data := .fields #[.none, .int 6 s.toks, .none] }).push { cls := .type "list", data := .seq (vs.take 6).toArray }, toks := s.toks + 1 }
  generalize (s.heap.push { cls := .type "slice", data := .fields #[.none, .int 6 s.toks, .none] }).push { cls := .type "list", data := .seq (vs.take 6).toArray } = h₂ at *
  refine wpAny_pyIter_list hsl ?_
  have hz3 : (h₂.push { cls := .type "list_iterator", data := .fields #[.ref (s.heap.objs.size + 1), .int 0 0] }).objs.size = s.heap.objs.size + 3 := by rw [Heap.size_push, hz]
  refine ⟨((((Grow.refl F.grow.ok).to up).push _).toks _), by show _ ≤ (h₂.push _).objs.size; omega, fun s₃ F₃ hD k₃ => ?_⟩
  have hit₃ : s₃.heap.IsListIter (s.heap.objs.size + 2) (s.heap.objs.size + 1) 0 := by
    have := Heap.get?_push_size h₂ (o := { cls := .type "list_iterator", data := .fields #[.ref (s.heap.objs.size + 1), .int 0 0] }) rfl
    rw [hz] at this
    exact ⟨_, k₃ _ _ this, rfl, rfl⟩
  have hsl₃ : s₃.heap.IsList (s.heap.objs.size + 1) (vs.take 6).toArray := let ⟨o, e, r⟩ := hsl; ⟨o, k₃ _ _ (Heap.get?_push_of_some _ e), r⟩
  dsimp only at hD F₃ ⊢
  rw [hz] at *
  rw [hz3] at *
  refine ⟨fun Q' E' hq => wpAny_pyIter_listiter hit₃ hq, ?_⟩
  refine loop_modes (sB := s) G hr (hk _) (hx _) (hf _) hge F₃ hit₃ hsl₃ (hI.take 6) (by rw [List.length_take]; omega) hD (by omega) (by omega) (by show s.heap.objs.size + 1 ≠ s.heap.objs.size + 3; omega) fun s' us F' hD' hus => ?_
  exact ⟨rfl, F', _, hD', fun s'' g'' _ hD'' _ => k s'' _ us g'' hD''.isList hus⟩

theorem ev_coming {scope : Scope} {cl : List (Str × Addr)} {pos p1 p2 p3 p4 p5 p6 p7 p8 p9 pa pb pc pd pe pf : Pos} {Q : Value → Shared → Prop} {ml : Addr} {vs : List Value} {ns : List Int} (G : Gd w mg mb g₀) (hr : Rm A 4) (F : Fm g₀ s₀ env.locals l s)
    (hlk : l.lookup (Str.ofString "modes") = some (.ref ml)) (hml : s.heap.IsList ml vs.toArray) (hI : IntsAre vs ns) (hn : ns.length ≤ 64)
    (hek : env.scope.kind = .function) (hex : env.kindOf (Str.ofString "modes") = some .local) (hee : env.kindOf (Str.ofString "enumerate") = some .globalImplicit) (hbe : env.builtins = builtinsNs)
    (hclos : closureFor scope env = pure cl) (hcell : ∀ y ∈ scope.names, y.2 ≠ .cell) (hkind : scope.kind = .function)
    (hnames : ∀ y ∈ scope.names, y.2 = .local → scope.names.lookup y.1 = some .local)
    (hk : ∀ C, (compEnvC scope cl C env).scope.kind = .function) (hp : ∀ C, (compEnvC scope cl C env).kindOf (Str.ofString "place") = some .local) (hm : ∀ C, (compEnvC scope cl C env).kindOf (Str.ofString "mode") = some .local)
    (hf : ∀ C, (compEnvC scope cl C env).kindOf (Str.ofString "S_IMODE") = some .globalImplicit) (hf' : ∀ C, (compEnvC scope cl C env).kindOf (Str.ofString "filemode") = some .globalImplicit)
    (hge : env.globals = mainGlobals)
    (k : ∀ s' D us, Grow g₀ s s' → s.heap.objs.size ≤ D → s'.heap.IsList D us.toArray → RecsTo s'.heap us ns.length (fun i => ns.getD i 0) → Q (.ref D) s') :
    wpAny (model prog w) A (eval (.ListComp (.Tuple [.Name (Str.ofString "place") p1, .Name (Str.ofString "mode") p2, .Call (.Name (Str.ofString "S_IMODE") p3) [.Name (Str.ofString "mode") p4] [] p5,
      .Call (.Name (Str.ofString "filemode") p6) [.Name (Str.ofString "mode") p7] [] p8] 0 p9) [⟨.Tuple [.Name (Str.ofString "place") pa, .Name (Str.ofString "mode") pb] 0 pc,
      .Call (.Name (Str.ofString "enumerate") pd) [.Name (Str.ofString "modes") pe] [] pf, [], 0⟩] scope pos) env) Q E s := by
  refine ev_compG (cl := cl) F hclos hcell hkind hnames ?_
  refine Call_ <| ev_bui G F.grow.ok n_enumerate boot_enumerate ne_enumerate (PyProof.Rows.callWith_type1 <| args_cons <| ev_loc F hlk (args_nil <| call_enumerate_list hml fun h₂ he hit hz up => ?_) hek hex) hek hee hge hbe
  refine wpAny_pyIter_enum he ⟨(Grow.refl F.grow.ok).to up, by show _ ≤ h₂.objs.size; omega, fun s₃ F₃ hD k₃ => ?_⟩
  have he₃ : IsEnum s₃.heap (s.heap.objs.size + 1) s.heap.objs.size 0 .none := k₃ _ _ he
  have hit₃ : s₃.heap.IsListIter s.heap.objs.size ml 0 := let ⟨o, e, r⟩ := hit; ⟨o, k₃ _ _ e, r⟩
  dsimp only at hD F₃ ⊢
  rw [hz] at *
  refine ⟨fun Q' E' hq => wpAny_pyIter_enum he₃ hq, ?_⟩
  refine loop_coming (sB := s) G hr (hk _) (hp _) (hm _) (hf _) (hf' _) hge F₃ he₃ hit₃ hml hI hn hD (by omega) (Nat.le_refl _) (Nat.le_succ _) (Nat.ne_of_gt (Nat.lt_succ_self _)) fun s' us F' hD' hus => ?_
  refine ⟨rfl, F', _, hD', fun s'' g'' hle hD'' ke => k s'' _ us g'' hle hD''.isList (hus.tk fun b o xs n c d e => ke b o (fun q => ?_) e)⟩
  obtain ⟨m, ⟨o', es, ep, e', d', _⟩, _⟩ := F'.ns
  rw [q] at e
  rw [show s'.heap.get? (s.heap.objs.size + 2 + 1) = some o' from e'] at e; cases e; rw [d'] at d; cases d

theorem ev_sorted {scope : Scope} {cl : List (Str × Addr)} {pos p1 p2 p3 p4 p5 p6 p7 p8 p9 : Pos} {Q : Value → Shared → Prop} {li c : Addr} {val : Nat → Value} {n : Nat} {md : Nat → Int} (G : Gd w mg mb g₀) (hr : Rm A 6) (F : Fm g₀ s₀ env.locals l s)
    (hcl : s.heap.IsCell c (some (.ref li))) (hl : s.heap.IsList li ((List.range n).map val).toArray) (h2 : 2 ≤ n) (h64 : n < 64) (hrec : Recs s.heap val n md (fun i => fmStr (md i))) (h0 : ∀ i, i < n → 0 ≤ md i)
    (hek : env.scope.kind = .function) (hee : env.kindOf (Str.ofString "range") = some .globalImplicit) (hbe : env.builtins = builtinsNs)
    (hclos : closureFor scope env = pure cl) (hcell : ∀ y ∈ scope.names, y.2 ≠ .cell) (hkind : scope.kind = .function)
    (hnames : ∀ y ∈ scope.names, y.2 = .local → scope.names.lookup y.1 = some .local)
    (hk : ∀ C, (compEnvC scope cl C env).scope.kind = .function) (hkk : ∀ C, (compEnvC scope cl C env).kindOf (Str.ofString "k") = some .local) (hkc : ∀ C, (compEnvC scope cl C env).kindOf (Str.ofString "coming") = some .cell)
    (hc : ∀ C, (compEnvC scope cl C env).cells.lookup (Str.ofString "coming") = some c) (hf : ∀ C, (compEnvC scope cl C env).kindOf (Str.ofString "_law_sorted") = some .globalImplicit)
    (hge : env.globals = mainGlobals)
    (k : ∀ s' D as, Grow g₀ s s' → s'.heap.IsList D (as.map Value.ref).toArray → ListsAre s'.heap val as ((List.range 10).map fun j => rowAt md (List.range n) (j + 1)) → Q (.ref D) s') :
    wpAny (model prog w) A (eval (.ListComp (.Call (.Name (Str.ofString "_law_sorted") p1) [.Name (Str.ofString "coming") p2, .Name (Str.ofString "k") p3] [] p4) [⟨.Name (Str.ofString "k") p5,
      .Call (.Name (Str.ofString "range") p6) [.Constant (.int 1) 0 p7, .Constant (.int 11) 0 p8] [] p9, [], 0⟩] scope pos) env) Q E s := by
  refine ev_compG (cl := cl) F hclos hcell hkind hnames ?_
  refine Call_ <| ev_bui G F.grow.ok n_range boot_range ne_range (PyProof.Rows.callWith_type1 <| args_cons <| wpAny_Constant_int <| args_cons <| wpAny_Constant_int <| args_nil <| call_range_2 <| wpAny_pyIter_range (IsRange.new _ _ _ _ _ _ _) small_11 ?_) hek hee hge hbe
  rw [size_11]
  have up : ∀ b o, s.heap.get? b = some o → ((s.heap.push { cls := .type "range", data := .fields #[.int 1 s.toks, .int 11 (s.toks + 1), .int 1 (s.toks + 1 + 1)] }).push { cls := .type "range_iterator", data := .fields #[rawInt 1, rawInt 10, rawInt 1] }).get? b = some o :=
    fun b o e => Heap.get?_push_of_some _ (Heap.get?_push_of_some _ e)
  have hz1 : (s.heap.push { cls := .type "range", data := .fields #[.int 1 s.toks, .int 11 (s.toks + 1), .int 1 (s.toks + 1 + 1)] }).objs.size = s.heap.objs.size + 1 := Heap.size_push ..
  have hit : IsRangeIter ((s.heap.push { cls := .type "range", data := .fields #[.int 1 s.toks, .int 11 (s.toks + 1), .int 1 (s.toks + 1 + 1)] }).push { cls := .type "range_iterator", data := .fields #[rawInt 1, rawInt 10, rawInt 1] })
    (s.heap.push { cls := .type "range", data := .fields #[.int 1 s.toks, .int 11 (s.toks + 1), .int 1 (s.toks + 1 + 1)] }).objs.size 1 10 1 := Heap.get?_push_size _ rfl
  have hz : ((s.heap.push { cls := .type "range", data := .fields #[.int 1 s.toks, .int 11 (s.toks + 1), .int 1 (s.toks + 1 + 1)] }).push { cls := .type "range_iterator", data := .fields #[rawInt 1, rawInt 10, rawInt 1] }).objs.size = s.heap.objs.size + 2 := by rw [Heap.size_push, hz1]
  refine ⟨((Grow.refl F.grow.ok).to up).toks _, by show _ ≤ ((s.heap.push _).push _).objs.size; rw [Heap.size_push, Heap.size_push]; omega, fun s₃ F₃ hD k₃ => ?_⟩
  have hit₃ := k₃ _ _ hit
  dsimp only at hD F₃ hit₃ ⊢
  rw [hz] at hD F₃ ⊢
  rw [hz1] at hit₃ ⊢
  refine ⟨fun Q' E' hq => wpAny_pyIter_rangeiter hit₃ hq, ?_⟩
  refine loop_sorted (sB := s) G hr (hk _) (hkk _) (hkc _) (hc _) (hf _) hge F₃ hit₃ hcl hl h2 h64 hrec h0 hD (by omega) (by omega) fun s' as F' hD' has hne => ?_
  exact ⟨rfl, F', _, hD', fun s'' g'' _ hD'' ke => k s'' _ as g'' hD''.isList (has.mono fun a ha xs x => let ⟨o, e, r⟩ := x; ⟨o, ke _ _ (hne a ha) e, r⟩)⟩
end
end Mine

end
section
set_option maxRecDepth 100000
set_option maxHeartbeats 1000000
namespace Mine
abbrev tbs : List (Addr × Addr) := [(163, 159), (142, 140), (149, 145)]
theorem tabs_tbs : ∀ p ∈ tabs, p.1 ∈ tbs.map (·.2) := by decide
theorem gd_of {w : World} {mg mb : Str → Option Value} {hs : Heap} {p : Program} {loose : List Str} {mean : ExcName → Option Value} (hT : TabsAt tbs hs) (X : (hd.heap_39 w.params).In (ghostOf hs tbs)) (T : Top p loose mean mg mb (ghostOf hs tbs)) :
    Gd w mg mb (ghostOf hs tbs) :=
  let c := ghost_code hT
  ⟨X, T.g, T.b, T.nolimit, T.builtins, T.bmain, c.2.1, c.2.2.1, c.1, fun p hp => hideAll_none _ (tabs_tbs p hp)⟩
theorem ok_of {hs : Heap} (hT : TabsAt tbs hs) : Ok (ghostOf hs tbs) hs :=
  ⟨fun b o e => of_hideAll _ e, fun p hp => by
    obtain ⟨q, hq, e⟩ := List.mem_map.mp (tabs_tbs p hp)
    exact ⟨#[], by rw [← e]; exact (hT q hq).2, trivial, fun pos cv hc => by cases hc⟩⟩
theorem fm_of {hs : Heap} {s : Shared} {m : Str → Option Value} {L : Addr} (hT : TabsAt tbs hs) (F : Fr (ghostOf hs tbs) L s.heap m) (hL : hs.objs.size ≤ L) (ht : ∀ q ∈ tbs, s.heap.get? q.2 = some (tabObj #[])) {l : List (Str × Value)} (hl : ∀ y v, l.lookup y = some v → m y = some v) :
    Fm (ghostOf hs tbs) { s with heap := hs } L l s :=
  ⟨⟨⟨s.heap, s.toks, rfl⟩, fun b o e => by
      by_cases hb : b ∈ tbs.map (·.2)
      · obtain ⟨q, hq, e'⟩ := List.mem_map.mp hb
        have := (hT q hq).2
        rw [e'] at this
        rw [show hs.get? b = some o from e] at this
        cases this
        exact .inr ⟨#[], rfl, trivial⟩
      · exact .inl (F.keep b o (ghost_ne e hb)),
    ⟨F.keep, fun p hp => by
      obtain ⟨q, hq, e⟩ := List.mem_map.mp (tabs_tbs p hp)
      exact ⟨#[], by rw [← e]; exact ht q hq, trivial, fun pos cv hc => by cases hc⟩⟩⟩, ok_of hT, hL, m, F.ns, hl⟩
theorem grown_of {g₀ h : Heap} (O : Ok g₀ h) : GrownAll tbs h :=
  ⟨let ⟨ps, e, _⟩ := O.tab _ mem_sorted; ⟨ps, e⟩, let ⟨ps, e, _⟩ := O.tab _ mem_kind; ⟨ps, e⟩, let ⟨ps, e, _⟩ := O.tab _ mem_laid; ⟨ps, e⟩, trivial⟩

def own : List Int := [231844, 16877, 8723, 35236, 50048, 26032, 41471, 4104, 2112, 36333]
theorem own_nonneg : ∀ x ∈ own, 0 ≤ x := by decide
theorem all_nonneg {ns : List Int} : ∀ i, i < (ns.map lmode ++ own).length → 0 ≤ (ns.map lmode ++ own).getD i 0 := fun i hi => by
  rw [List.getD_eq_getElem?_getD, List.getElem?_eq_getElem hi]
  have hm : (ns.map lmode ++ own)[i] ∈ ns.map lmode ++ own := List.getElem_mem hi
  show 0 ≤ (ns.map lmode ++ own)[i]
  rcases List.mem_append.mp hm with h | h
  · obtain ⟨x, _, e⟩ := List.mem_map.mp h
    rw [← e]; exact lmode_nonneg x
  · exact own_nonneg _ h
theorem recs_of {h : Heap} {us : List Value} {n : Nat} {md : Nat → Int} (x : RecsTo h us n md) : us = (List.range n).map (fun i => us.getD i .none) ∧ Recs h (fun i => us.getD i .none) n md (fun i => fmStr (md i)) := by
  obtain ⟨hl, hx⟩ := x
  refine ⟨?_, fun i hi => ?_⟩
  · apply List.ext_getElem
    · simp [hl]
    · intro i h1 h2
      simp [List.getD_eq_getElem?_getD, List.getElem?_eq_getElem h1]
  · obtain ⟨a, t0, t1, t2, t3, e, r⟩ := hx i hi
    exact ⟨a, t0, t1, t2, t3, by simp [List.getD_eq_getElem?_getD, e], r⟩

theorem good_of {c : ClaimW} {cl : Str → Option Addr} {mean : ExcName → Option Value} {args : List WData} {s₁ s' s0 : Shared} (g : Grow s₁.heap s0 s') (hg : s0.gens = #[]) (hos : s0.os = s₁.os) (hn : ∀ cls, c.raises args cls = false) (hp : c.post args (.bool true) args = true) :
    GoodW c cl mean args s₁ (.ok (.ret (.bool true))) s' := by
  obtain ⟨h', tk', e'⟩ := id g.same
  exact ⟨.inl ⟨.bool true, .bool true, [], rfl, hn, .bool true, hp, unshared_nil⟩, g.ok.keep, by rw [e']; exact hos, by rw [e']; exact hg⟩
theorem w_env {M : Model} {A0 : Around} {body : List Stmt} {env : Env} {Q : Flow → Shared → Prop} {E : Value → Shared → Prop} {s : Shared} (h : ∀ b e, b = body → e = env → wpAny M (A0.deeper e) (execs b e) Q E s) : wpAny M (A0.deeper env) (execs body env) Q E s := h _ _ rfl rfl
theorem walk_post {M : Model} {A : Around} {c : Sem Flow} {Q : Flow → Shared → Prop} {E : Value → Shared → Prop} {s s0 : Shared} {g₀ : Heap} (h : wpAny M A c (fun f s' => f = .ret (.bool true) ∧ Grow g₀ s0 s') (fun _ _ => False) s)
    (hp : ∀ s', Grow g₀ s0 s' → Q (.ret (.bool true)) s') : wpAny M A c Q E s :=
  wpAny_mono h (fun _ s' ⟨e, g⟩ => e ▸ hp s' g) fun _ _ f => f.elim

section
variable {prog : Program} {w : World} {A : Around} {E : Value → Shared → Prop} {s s₀ : Shared} {g₀ : Heap} {env : Env} {mg mb : Str → Option Value}
theorem law_walk {sc cc : Addr} {vs : List Value} {ns : List Int} {S1 S2 S3 : Scope} {cl3 : List (Str × Addr)}
    {q01 q02 q03 q04 q05 q06 q07 q08 q09 q10 q11 q12 q13 r01 r02 r03 r04 r05 r06 r07 r08 r09 r10 r11 r12 r13 t01 t02 t03 t04 t05 t06 t07 t08 t09 t10 t11 t12 t13 t14 t15 t16 t17 t18 u01 u02 u03 u04 u05 u06 u07 u08 u09 u10 u11 u12 u13 u14 u15 : Pos}
    (G : Gd w mg mb g₀) (hr : Rm A 9) (F : Fm g₀ s₀ env.locals [(Str.ofString "script", .ref sc)] s) (cell1 : s.heap.IsCell cc none) (hsc : s.heap.IsList sc vs.toArray) (hI : IntsAre vs ns) (hns : ns.length ≤ 63)
    (hu : A.units + 64 < cLine)
    (hs3 : ∀ E1 G1, swapsWith (.ListComp E1 G1 S2 t17) (some (.Name (Str.ofString "coming") t01)) t18.line env = pure false)
    (hek : env.scope.kind = .function) (kscript : env.kindOf (Str.ofString "script") = some .local) (kown : env.kindOf (Str.ofString "own") = some .local) (kmodes : env.kindOf (Str.ofString "modes") = some .local)
    (kcoming : env.kindOf (Str.ofString "coming") = some .cell) (ccoming : env.cells.lookup (Str.ofString "coming") = some cc) (hLc : env.locals < cc)
    (kenum : env.kindOf (Str.ofString "enumerate") = some .globalImplicit) (krange : env.kindOf (Str.ofString "range") = some .globalImplicit) (krows : env.kindOf (Str.ofString "_law_rows") = some .globalImplicit)
    (hge : env.globals = mainGlobals) (hbe : env.builtins = builtinsNs)
    (e1 : closureFor S1 env = pure []) (f1 : ∀ y ∈ S1.names, y.2 ≠ .cell) (i1 : S1.kind = .function) (j1 : ∀ y ∈ S1.names, y.2 = .local → S1.names.lookup y.1 = some .local)
    (k1 : ∀ C, (compEnvC S1 [] C env).scope.kind = .function) (k1x : ∀ C, (compEnvC S1 [] C env).kindOf (Str.ofString "x") = some .local) (k1m : ∀ C, (compEnvC S1 [] C env).kindOf (Str.ofString "_law_mode") = some .globalImplicit)
    (e2 : closureFor S2 env = pure []) (f2 : ∀ y ∈ S2.names, y.2 ≠ .cell) (i2 : S2.kind = .function) (j2 : ∀ y ∈ S2.names, y.2 = .local → S2.names.lookup y.1 = some .local)
    (k2 : ∀ C, (compEnvC S2 [] C env).scope.kind = .function) (k2p : ∀ C, (compEnvC S2 [] C env).kindOf (Str.ofString "place") = some .local) (k2m : ∀ C, (compEnvC S2 [] C env).kindOf (Str.ofString "mode") = some .local)
    (k2i : ∀ C, (compEnvC S2 [] C env).kindOf (Str.ofString "S_IMODE") = some .globalImplicit) (k2f : ∀ C, (compEnvC S2 [] C env).kindOf (Str.ofString "filemode") = some .globalImplicit)
    (e3 : closureFor S3 env = pure cl3) (f3 : ∀ y ∈ S3.names, y.2 ≠ .cell) (i3 : S3.kind = .function) (j3 : ∀ y ∈ S3.names, y.2 = .local → S3.names.lookup y.1 = some .local)
    (k3 : ∀ C, (compEnvC S3 cl3 C env).scope.kind = .function) (k3k : ∀ C, (compEnvC S3 cl3 C env).kindOf (Str.ofString "k") = some .local) (k3c : ∀ C, (compEnvC S3 cl3 C env).kindOf (Str.ofString "coming") = some .cell)
    (k3l : ∀ C, (compEnvC S3 cl3 C env).cells.lookup (Str.ofString "coming") = some cc) (k3s : ∀ C, (compEnvC S3 cl3 C env).kindOf (Str.ofString "_law_sorted") = some .globalImplicit) :
    wpAny (model prog w) A (execs [
      .Assign [.Name (Str.ofString "own") q01] (.List [.Constant (.int 231844) 0 q02, .Constant (.int 16877) 0 q03, .Constant (.int 8723) 0 q04, .Constant (.int 35236) 0 q05, .Constant (.int 50048) 0 q06, .Constant (.int 26032) 0 q07,
        .Constant (.int 41471) 0 q08, .Constant (.int 4104) 0 q09, .Constant (.int 2112) 0 q10, .Constant (.int 36333) 0 q11] q12) q13,
      .Assign [.Name (Str.ofString "modes") r01] (.BinOp (.ListComp (.Call (.Name (Str.ofString "_law_mode") r02) [.Name (Str.ofString "x") r03] [] r04) [⟨.Name (Str.ofString "x") r05,
        .Subscript (.Name (Str.ofString "script") r06) (.Slice none (some (.Constant (.int 6) 0 r07)) none r08) r09, [], 0⟩] S1 r10) .Add (.Name (Str.ofString "own") r11) r12) r13,
      .Assign [.Name (Str.ofString "coming") t01] (.ListComp (.Tuple [.Name (Str.ofString "place") t02, .Name (Str.ofString "mode") t03, .Call (.Name (Str.ofString "S_IMODE") t04) [.Name (Str.ofString "mode") t05] [] t06,
        .Call (.Name (Str.ofString "filemode") t07) [.Name (Str.ofString "mode") t08] [] t09] 0 t10) [⟨.Tuple [.Name (Str.ofString "place") t11, .Name (Str.ofString "mode") t12] 0 t13,
        .Call (.Name (Str.ofString "enumerate") t14) [.Name (Str.ofString "modes") t15] [] t16, [], 0⟩] S2 t17) t18,
      .Return (some (.Compare (.Call (.Name (Str.ofString "_law_rows") u01) [.Name (Str.ofString "coming") u02] [] u03) [.Eq] [.ListComp (.Call (.Name (Str.ofString "_law_sorted") u04) [.Name (Str.ofString "coming") u05, .Name (Str.ofString "k") u06] [] u07)
        [⟨.Name (Str.ofString "k") u08, .Call (.Name (Str.ofString "range") u09) [.Constant (.int 1) 0 u10, .Constant (.int 11) 0 u11] [] u12, [], 0⟩] S3 u13] u14)) u15] env) (fun f s' => f = .ret (.bool true) ∧ Grow g₀ s₀ s') E s := by
  refine wpAny_execs_cons ?_
  refine wpAny_Assign_Name ?_
  refine List_ ?_
  iterate 10 (refine args_cons ?_; refine wpAny_Constant_int ?_)
  refine args_nil ?_
  refine wpAny_newList ?_
  refine st_loc ((F.toks _).push _) (fun s₂ F₂ k₂ hz₂ => ?_) hek kown
  clear hz₂
  have hlt1 : env.locals < s.heap.objs.size := F.lt
  obtain ⟨ws, hown₂, hIown⟩ : ∃ ws : List Value, s₂.heap.IsList s.heap.objs.size ws.toArray ∧ IntsAre ws own :=
    ⟨_, ⟨_, (k₂ _ (Nat.ne_of_gt hlt1)).trans (Heap.get?_push_size _ rfl), rfl, _, rfl⟩, .cons _ _ (.cons _ _ (.cons _ _ (.cons _ _ (.cons _ _ (.cons _ _ (.cons _ _ (.cons _ _ (.cons _ _ (.cons _ _ .nil)))))))))⟩
  have cell₂ : s₂.heap.IsCell cc none := let ⟨o, e, r⟩ := cell1; ⟨o, (k₂ _ (Nat.ne_of_gt hLc)).trans (Heap.get?_push_of_some _ e), r⟩
  have hsc₂ : s₂.heap.IsList sc vs.toArray := list_same (L := env.locals) (hsc.push _) k₂ (F.ne_list hsc)
  refine wpAny_execs_cons <| wpAny_Assign_Name <| wpAny_BinOp <| ev_modes G (hr.le (by decide)) F₂ rfl hsc₂ hI hns hek kscript e1 f1 i1 j1 k1 k1x k1m hge fun s₃ D₃ us₃ g₃ hD₃ hus₃ => ?_
  have F₃ := F₂.call g₃
  have hownl : ws.length = 10 := IntsAre.length hIown
  have husl : us₃.length ≤ 6 := by
    have := IntsAre.length hus₃
    rw [List.length_map, List.length_take] at this
    rw [this]; exact Nat.min_le_left _ _
  refine ev_loc F₃ rfl (add_ll hD₃ (g₃.keep.list hown₂) ?_ (by rw [hownl]; clear hu hlt1; omega)) hek kown
  refine st_loc (F₃.push _) (fun s₄ F₄ k₄ hz₄ => ?_) hek kmodes
  clear hz₄
  have hml₄ : s₄.heap.IsList s₃.heap.objs.size (us₃ ++ ws).toArray := ⟨_, (k₄ _ (Nat.ne_of_gt F₃.lt)).trans (Heap.get?_push_size _ rfl), rfl, _, rfl⟩
  have cell₄ : s₄.heap.IsCell cc none := by
    obtain ⟨o, e, r⟩ := g₃.keep.cell cell₂
    exact ⟨o, (k₄ _ (Nat.ne_of_gt hLc)).trans (Heap.get?_push_of_some _ e), r⟩
  have hIm : IntsAre (us₃ ++ ws) ((ns.take 6).map lmode ++ own) := IntsAre.append hus₃ hIown
  have hol : own.length = 10 := rfl
  have hmlen : ((ns.take 6).map lmode ++ own).length ≤ 16 := by rw [List.length_append, List.length_map, List.length_take, hol]; omega
  have hmlen2 : 10 ≤ ((ns.take 6).map lmode ++ own).length := by rw [List.length_append, hol]; omega
  have h0 := all_nonneg (ns := ns.take 6)
  obtain ⟨ms, hms⟩ : ∃ ms, ms = (ns.take 6).map lmode ++ own := ⟨_, rfl⟩
  rw [← hms] at hIm hmlen hmlen2 h0
  clear hms
  refine wpAny_execs_cons ?_
  refine wpAny_Assign_Name ?_ (hs3 _ _)
  refine ev_coming G (hr.le (by decide)) F₄ rfl hml₄ hIm (by omega) hek kmodes kenum hbe e2 f2 i2 j2 k2 k2p k2m k2i k2f hge fun s₅ D₅ us₅ g₅ hle₅ hD₅ hrec₅ => ?_
  have F₅ := F₄.call g₅
  have cell₅ := g₅.keep.cell cell₄
  refine st_cell F₅ ccoming cell₅ hLc (fun s₆ F₆ cell₆ k₆ => ?_) hek kcoming
  have hD₆ : s₆.heap.IsList D₅ us₅.toArray := list_same hD₅ k₆ (list_ne_cell hD₅ cell₅)
  have hrec₆ := hrec₅.tk (h' := s₆.heap) fun b o xs n c d e => (k₆ b (fun q => by
    obtain ⟨o', e', d'⟩ := cell₅
    rw [q, e'] at e; cases e; rw [d] at d'; cases d')).trans e
  obtain ⟨hus, hR₆⟩ := recs_of hrec₆
  rw [hus] at hD₆
  refine wpAny_execs_cons <| wpAny_Return_some <| wpAny_Compare1 <| Call_ <| ev_glo G F₆.grow.ok rfl (cl_own G rfl rfl <| args_cons <| ev_cell ccoming cell₆ (args_nil ⟨F₆.grow.ok, wpAny_call <| c_rows G F₆.grow.ok (hr.le (by decide)) hD₆ (by rw [List.length_range]; omega) hR₆ (fun i hi => List.mem_range.mp hi) fun s₇ Rs as₇ g₇ hRs has₇ => ?_⟩) hek kcoming) hek krows hge
  have F₇ := F₆.call g₇
  refine ev_sorted G (hr.le (by decide)) F₇ (g₇.keep.cell cell₆) (g₇.keep.list hD₆) (by omega) (by omega) (hR₆.keep g₇.keep) h0 hek krange hbe e3 f3 i3 j3 k3 k3k k3c k3l k3s hge fun s₈ D₈ as₈ g₈ hD₈ has₈ => ?_
  have F₈ := F₇.call g₈
  have hlt : ∀ l ∈ (List.range 10).map (fun j => rowAt (fun i => ms.getD i 0) (List.range ms.length) (j + 1)), ∀ i ∈ l, i < ms.length := fun l hl i hi => by
    obtain ⟨j, _, rfl⟩ := List.mem_map.mp hl
    exact List.mem_range.mp (rowAt_mem _ hi)
  obtain ⟨b1, r1⟩ := reads_all (hR₆.keep (g₇.keep.trans g₈.keep)) (g₈.keep.list hRs) (has₇.mono fun a _ xs x => g₈.keep.list x) hlt
  obtain ⟨b2, r2⟩ := reads_all (hR₆.keep (g₇.keep.trans g₈.keep)) hD₈ has₈ hlt
  refine eq_dataH r1 r2 (shaped_all _ _) (shaped_all _ _) hu ?_
  rw [PySem.SeqAt.eqv_refl _ (lay_all _ _)]
  exact ⟨rfl, F₈.grow⟩
theorem law_walk2 {body : List Stmt} {sc cc : Addr} {vs : List Value} {ns : List Int} {S1 S2 S3 : Scope} {cl3 : List (Str × Addr)}
    {q01 q02 q03 q04 q05 q06 q07 q08 q09 q10 q11 q12 q13 r01 r02 r03 r04 r05 r06 r07 r08 r09 r10 r11 r12 r13 t01 t02 t03 t04 t05 t06 t07 t08 t09 t10 t11 t12 t13 t14 t15 t16 t17 t18 u01 u02 u03 u04 u05 u06 u07 u08 u09 u10 u11 u12 u13 u14 u15 : Pos}
    (hb : body = [
      .Assign [.Name (Str.ofString "own") q01] (.List [.Constant (.int 231844) 0 q02, .Constant (.int 16877) 0 q03, .Constant (.int 8723) 0 q04, .Constant (.int 35236) 0 q05, .Constant (.int 50048) 0 q06, .Constant (.int 26032) 0 q07,
        .Constant (.int 41471) 0 q08, .Constant (.int 4104) 0 q09, .Constant (.int 2112) 0 q10, .Constant (.int 36333) 0 q11] q12) q13,
      .Assign [.Name (Str.ofString "modes") r01] (.BinOp (.ListComp (.Call (.Name (Str.ofString "_law_mode") r02) [.Name (Str.ofString "x") r03] [] r04) [⟨.Name (Str.ofString "x") r05,
        .Subscript (.Name (Str.ofString "script") r06) (.Slice none (some (.Constant (.int 6) 0 r07)) none r08) r09, [], 0⟩] S1 r10) .Add (.Name (Str.ofString "own") r11) r12) r13,
      .Assign [.Name (Str.ofString "coming") t01] (.ListComp (.Tuple [.Name (Str.ofString "place") t02, .Name (Str.ofString "mode") t03, .Call (.Name (Str.ofString "S_IMODE") t04) [.Name (Str.ofString "mode") t05] [] t06,
        .Call (.Name (Str.ofString "filemode") t07) [.Name (Str.ofString "mode") t08] [] t09] 0 t10) [⟨.Tuple [.Name (Str.ofString "place") t11, .Name (Str.ofString "mode") t12] 0 t13,
        .Call (.Name (Str.ofString "enumerate") t14) [.Name (Str.ofString "modes") t15] [] t16, [], 0⟩] S2 t17) t18,
      .Return (some (.Compare (.Call (.Name (Str.ofString "_law_rows") u01) [.Name (Str.ofString "coming") u02] [] u03) [.Eq] [.ListComp (.Call (.Name (Str.ofString "_law_sorted") u04) [.Name (Str.ofString "coming") u05, .Name (Str.ofString "k") u06] [] u07)
        [⟨.Name (Str.ofString "k") u08, .Call (.Name (Str.ofString "range") u09) [.Constant (.int 1) 0 u10, .Constant (.int 11) 0 u11] [] u12, [], 0⟩] S3 u13] u14)) u15])
    (G : Gd w mg mb g₀) (hr : Rm A 9) (F : Fm g₀ s₀ env.locals [(Str.ofString "script", .ref sc)] s) (cell1 : s.heap.IsCell cc none) (hsc : s.heap.IsList sc vs.toArray) (hI : IntsAre vs ns) (hns : ns.length ≤ 63)
    (hu : A.units + 64 < cLine)
    (hs3 : ∀ E1 G1, swapsWith (.ListComp E1 G1 S2 t17) (some (.Name (Str.ofString "coming") t01)) t18.line env = pure false)
    (hek : env.scope.kind = .function) (kscript : env.kindOf (Str.ofString "script") = some .local) (kown : env.kindOf (Str.ofString "own") = some .local) (kmodes : env.kindOf (Str.ofString "modes") = some .local)
    (kcoming : env.kindOf (Str.ofString "coming") = some .cell) (ccoming : env.cells.lookup (Str.ofString "coming") = some cc) (hLc : env.locals < cc)
    (kenum : env.kindOf (Str.ofString "enumerate") = some .globalImplicit) (krange : env.kindOf (Str.ofString "range") = some .globalImplicit) (krows : env.kindOf (Str.ofString "_law_rows") = some .globalImplicit)
    (hge : env.globals = mainGlobals) (hbe : env.builtins = builtinsNs)
    (e1 : closureFor S1 env = pure []) (f1 : ∀ y ∈ S1.names, y.2 ≠ .cell) (i1 : S1.kind = .function) (j1 : ∀ y ∈ S1.names, y.2 = .local → S1.names.lookup y.1 = some .local)
    (k1 : ∀ C, (compEnvC S1 [] C env).scope.kind = .function) (k1x : ∀ C, (compEnvC S1 [] C env).kindOf (Str.ofString "x") = some .local) (k1m : ∀ C, (compEnvC S1 [] C env).kindOf (Str.ofString "_law_mode") = some .globalImplicit)
    (e2 : closureFor S2 env = pure []) (f2 : ∀ y ∈ S2.names, y.2 ≠ .cell) (i2 : S2.kind = .function) (j2 : ∀ y ∈ S2.names, y.2 = .local → S2.names.lookup y.1 = some .local)
    (k2 : ∀ C, (compEnvC S2 [] C env).scope.kind = .function) (k2p : ∀ C, (compEnvC S2 [] C env).kindOf (Str.ofString "place") = some .local) (k2m : ∀ C, (compEnvC S2 [] C env).kindOf (Str.ofString "mode") = some .local)
    (k2i : ∀ C, (compEnvC S2 [] C env).kindOf (Str.ofString "S_IMODE") = some .globalImplicit) (k2f : ∀ C, (compEnvC S2 [] C env).kindOf (Str.ofString "filemode") = some .globalImplicit)
    (e3 : closureFor S3 env = pure cl3) (f3 : ∀ y ∈ S3.names, y.2 ≠ .cell) (i3 : S3.kind = .function) (j3 : ∀ y ∈ S3.names, y.2 = .local → S3.names.lookup y.1 = some .local)
    (k3 : ∀ C, (compEnvC S3 cl3 C env).scope.kind = .function) (k3k : ∀ C, (compEnvC S3 cl3 C env).kindOf (Str.ofString "k") = some .local) (k3c : ∀ C, (compEnvC S3 cl3 C env).kindOf (Str.ofString "coming") = some .cell)
    (k3l : ∀ C, (compEnvC S3 cl3 C env).cells.lookup (Str.ofString "coming") = some cc) (k3s : ∀ C, (compEnvC S3 cl3 C env).kindOf (Str.ofString "_law_sorted") = some .globalImplicit) :
    wpAny (model prog w) A (execs body env) (fun f s' => f = .ret (.bool true) ∧ Grow g₀ s₀ s') E s := by
  subst hb
  exact @law_walk prog w A E s s₀ g₀ env mg mb sc cc vs ns S1 S2 S3 cl3 q01 q02 q03 q04 q05 q06 q07 q08 q09 q10 q11 q12 q13 r01 r02 r03 r04 r05 r06 r07 r08 r09 r10 r11 r12 r13 t01 t02 t03 t04 t05 t06 t07 t08 t09 t10 t11 t12 t13 t14 t15 t16 t17 t18 u01 u02 u03 u04 u05 u06 u07 u08 u09 u10 u11 u12 u13 u14 u15 G hr F cell1 hsc hI hns hu hs3 hek kscript kown kmodes kcoming ccoming hLc kenum krange krows hge hbe e1 f1 i1 j1 k1 k1x k1m e2 f2 i2 j2 k2 k2p k2m k2i k2f e3 f3 i3 j3 k3 k3k k3c k3l k3s
end
end Mine

end
set_option maxRecDepth 100000
set_option maxHeartbeats 8000000 in
theorem PySem.Challenge.cw_mq0206_01_holds : PySem.Challenge.rw_mq0206_01.Holds :=
  Mine.hd (by
  w_strict (k_go0
            rename_i w s₀ s₁ mg mb G Y fa o pm cd doc ho hcd hg X V T B TE TW ns hs hlay0 hL1 hr1 hl2 as5 as4 sc vs as1 hL ra w1 r0 hI hr hcond hcond2 hD h₁ tk₁ oc right X0 X' T' K' F' c1 c2 N' l0
            clear G Y X V T B TE TW hD ra w1 r0 hr K' c1 c2 l0
            have hns : ns.length ≤ 63 := by omega
            have Gd' := Mine.gd_of hT9 X' T'
            have F1 := Mine.fm_of (s := { heap := h₁, gens := s₁.gens, drawn := s₁.drawn, toks := tk₁, os := s₁.os }) (l := [(Str.ofString "script", .ref sc)]) hT9 F' (Nat.le_refl _)
              (List.forall_mem_cons.mpr ⟨(N' _ (.tail _ (.head _))).1, List.forall_mem_cons.mpr ⟨(N' _ (.tail _ (.tail _ (.head _)))).1, List.forall_mem_cons.mpr ⟨(N' _ (.tail _ (.tail _ (.tail _ (.head _))))).1, List.forall_mem_nil _⟩⟩⟩)
              (fun y v e => by
                have := Mine.mem_of_lookup e
                rw [List.mem_singleton] at this
                cases this
                rfl)
            have cell1 : h₁.IsCell (s₁.heap.objs.size + 1) none := ⟨oc, (N' _ (.head _)).1, right⟩
            have hsc1 : h₁.IsList sc vs.toArray := let ⟨o, e, r⟩ := lifted; ⟨o, F'.keep _ _ e, r⟩
            have hr9 : Mine.Rm callerA 10 := ⟨rfl, by decide, by decide⟩
            have hu9 : callerA.units + 3 + 64 < cLine := by decide
            with_reducible refine Mine.walk_post (g₀ := ghostOf s₁.heap Mine.tbs) (s0 := { heap := s₁.heap, gens := s₁.gens, drawn := s₁.drawn, toks := tk₁, os := s₁.os }) ?walk ?post
            case post =>
              intro s' g
              dsimp only
              with_reducible refine And.intro ?_ ?_
              · with_reducible refine Mine.good_of g hg rfl (raisesW_false ?hn) ?hp
                case hn => wrow_none_raised
                case hp => first | wrow_post | exact postW_of (by wrow_shape) (by wtm_val) (by w_fin) | exact postW_of (by o_shape) (by wtm_val) (by w_fin) | rfl
              · exact Mine.grown_of g.ok
            case walk =>
              with_reducible refine Mine.w_env ?_
              intro b e hb he
              exact @Mine.law_walk2 PySem.Challenge.rw_mq0206_01.row.prog w (callerA.deeper e) (fun _ _ => False) { heap := h₁, gens := s₁.gens, drawn := s₁.drawn, toks := tk₁, os := s₁.os } { heap := s₁.heap, gens := s₁.gens, drawn := s₁.drawn, toks := tk₁, os := s₁.os } (ghostOf s₁.heap Mine.tbs) e mg mb b sc (s₁.heap.objs.size + 1) vs ns _ _ _ [(Str.ofString "coming", s₁.heap.objs.size + 1)] _ _ _ _ _ _ _ _ _ _ _ _ _ _ _ _ _ _ _ _ _ _ _ _ _ _ _ _ _ _ _ _ _ _ _ _ _ _ _ _ _ _ _ _ _ _ _ _ _ _ _ _ _ _ _ _ _ _ _ hb Gd' hr9.deeper (he ▸ F1) cell1 hsc1 hI hns hu9 (fun _ _ => he ▸ rfl) (he ▸ rfl) (he ▸ rfl) (he ▸ rfl) (he ▸ rfl) (he ▸ rfl) (he ▸ rfl) (he ▸ Nat.lt_succ_self _) (he ▸ rfl) (he ▸ rfl) (he ▸ rfl) (he ▸ rfl) (he ▸ rfl) (he ▸ rfl) (by decide) rfl (by decide) (fun _ => he ▸ rfl) (fun _ => he ▸ rfl) (fun _ => he ▸ rfl) (he ▸ rfl) (by decide) rfl (by decide) (fun _ => he ▸ rfl) (fun _ => he ▸ rfl) (fun _ => he ▸ rfl) (fun _ => he ▸ rfl) (fun _ => he ▸ rfl) (he ▸ rfl) (by decide) rfl (by decide) (fun _ => he ▸ rfl) (fun _ => he ▸ rfl) (fun _ => he ▸ rfl) (fun _ => he ▸ rfl) (fun _ => he ▸ rfl)))

