import PyProof.Rows.All
import Wide.All
import OpenK.AllK
import Wide.FinOn
import KE.KSortTup
import PySem.Challenge.RW_rl0156_01
open PySem PySem.W PyProof.Rows PySem.Calls PyProof.V
set_option maxRecDepth 100000
set_option Elab.async false
set_option linter.unusedVariables false
namespace Mine

/-! ## data in a heap -/
mutual
inductive Rep (X : List PySem.Addr) (h : PySem.Heap) : Value → Dat → Prop
  | none : Rep X h .none .none
  | bool (b : Bool) : Rep X h (.bool b) (.bool b)
  | int (i : Int) (t : Tok) : Rep X h (.int i t) (.int i)
  | str (x : PySem.Str) (t : Tok) : Rep X h (.str x t) (.str x)
  | tuple {a : PySem.Addr} {o : Obj} {vs : List Value} {n : Nat} {ds : List Dat} : h.get? a = some o → o.cls = .type "tuple" → o.data = .seq vs.toArray n → RepAll X h vs ds → Rep X h (.ref a) (.tuple ds)
  | list {a : PySem.Addr} {o : Obj} {vs : List Value} {n : Nat} {ds : List Dat} : a ∉ X → h.get? a = some o → o.cls = .type "list" → o.data = .seq vs.toArray n → o.dict = none → RepAll X h vs ds → Rep X h (.ref a) (.list ds)
inductive RepAll (X : List PySem.Addr) (h : PySem.Heap) : List Value → List Dat → Prop
  | nil : RepAll X h [] []
  | cons {v : Value} {vs : List Value} {d : Dat} {ds : List Dat} : Rep X h v d → RepAll X h vs ds → RepAll X h (v :: vs) (d :: ds)
end

/-- what the data in a heap lean on stays -/
def KeepSeq (X : List PySem.Addr) (h h' : PySem.Heap) : Prop :=
  ∀ (b : PySem.Addr) (o : Obj) (vs : Array Value) (n : Nat), (b ∈ X → o.cls = .type "tuple") → h.get? b = some o → o.data = .seq vs n → h'.get? b = some o

mutual
theorem Rep.mono {X X' : List PySem.Addr} {h h' : PySem.Heap} (k : KeepSeq X h h') (hX : ∀ a ∈ X', a ∈ X ∨ h.get? a = none) : ∀ {v : Value} {d : Dat}, Rep X h v d → Rep X' h' v d
  | _, _, .none => .none
  | _, _, .bool b => .bool b
  | _, _, .int i t => .int i t
  | _, _, .str x t => .str x t
  | _, _, .tuple e c q r => .tuple (k _ _ _ _ (fun _ => c) e q) c q (RepAll.mono k hX r)
  | _, _, .list n e c q z r => .list (fun m => (hX _ m).elim n fun f => by rw [f] at e; cases e) (k _ _ _ _ (fun m => absurd m n) e q) c q z (RepAll.mono k hX r)
theorem RepAll.mono {X X' : List PySem.Addr} {h h' : PySem.Heap} (k : KeepSeq X h h') (hX : ∀ a ∈ X', a ∈ X ∨ h.get? a = none) : ∀ {vs : List Value} {ds : List Dat}, RepAll X h vs ds → RepAll X' h' vs ds
  | _, _, .nil => .nil
  | _, _, .cons a r => .cons (Rep.mono k hX a) (RepAll.mono k hX r)
end
theorem Rep.keep {X : List PySem.Addr} {h h' : PySem.Heap} (k : KeepSeq X h h') {v : Value} {d : Dat} (r : Rep X h v d) : Rep X h' v d := r.mono k fun _ m => .inl m
theorem RepAll.keep {X : List PySem.Addr} {h h' : PySem.Heap} (k : KeepSeq X h h') {v : List Value} {d : List Dat} (r : RepAll X h v d) : RepAll X h' v d := r.mono k fun _ m => .inl m
theorem Rep.less {X X' : List PySem.Addr} {h : PySem.Heap} (hX : ∀ a ∈ X', a ∈ X) {v : Value} {d : Dat} (r : Rep X h v d) : Rep X' h v d := r.mono (fun _ _ _ _ _ e _ => e) fun _ m => .inl (hX _ m)
theorem RepAll.less {X X' : List PySem.Addr} {h : PySem.Heap} (hX : ∀ a ∈ X', a ∈ X) {v : List Value} {d : List Dat} (r : RepAll X h v d) : RepAll X' h v d := r.mono (fun _ _ _ _ _ e _ => e) fun _ m => .inl (hX _ m)

section
variable {X : List PySem.Addr} {h : PySem.Heap} {v : Value} {d : Dat} {vs ws : List Value} {ds es : List Dat}
theorem RepAll.length (r : RepAll X h vs ds) : vs.length = ds.length := by
  induction vs generalizing ds with
  | nil => cases r; rfl
  | cons v vs ih => cases r with | cons _ r => rw [List.length_cons, List.length_cons, ih r]
theorem RepAll.append (r : RepAll X h vs ds) (q : RepAll X h ws es) : RepAll X h (vs ++ ws) (ds ++ es) := by
  induction vs generalizing ds with
  | nil => cases r; exact q
  | cons v vs ih => cases r with | cons a r => exact .cons a (ih r)
theorem RepAll.one (r : Rep X h v d) : RepAll X h [v] [d] := .cons r .nil
theorem RepAll.get? (r : RepAll X h vs ds) {k : Nat} {d : Dat} (hk : ds[k]? = some d) : ∃ v, vs[k]? = some v ∧ Rep X h v d := by
  induction vs generalizing ds k with
  | nil => cases r; simp at hk
  | cons v vs ih =>
    cases r with
    | cons a r =>
      cases k with
      | zero => simp at hk; subst hk; exact ⟨v, rfl, a⟩
      | succ k => exact ih r (by simpa using hk)
theorem RepAll.take (r : RepAll X h vs ds) (k : Nat) : RepAll X h (vs.take k) (ds.take k) := by
  induction vs generalizing ds k with
  | nil => cases r; simpa using RepAll.nil
  | cons v vs ih =>
    cases r with
    | cons a r =>
      cases k with
      | zero => exact .nil
      | succ k => exact .cons a (ih r k)
theorem RepAll.drop (r : RepAll X h vs ds) (k : Nat) : RepAll X h (vs.drop k) (ds.drop k) := by
  induction vs generalizing ds k with
  | nil => cases r; simpa using RepAll.nil
  | cons v vs ih =>
    cases r with
    | cons a r =>
      cases k with
      | zero => exact .cons a r
      | succ k => exact ih r k
theorem Rep.isList (r : Rep X h v (.list ds)) : ∃ a vs, v = .ref a ∧ a ∉ X ∧ h.IsList a vs.toArray ∧ RepAll X h vs ds := by
  cases r with
  | list n e c q z r => exact ⟨_, _, rfl, n, ⟨_, e, c, _, q⟩, r⟩
theorem Rep.isTuple (r : Rep X h v (.tuple ds)) : ∃ a vs, v = .ref a ∧ h.IsTuple a vs.toArray ∧ RepAll X h vs ds := by
  cases r with
  | tuple e c q r => exact ⟨_, _, rfl, ⟨_, e, c, _, q⟩, r⟩
theorem Rep.isInt {i : Int} (r : Rep X h v (.int i)) : ∃ t, v = .int i t := by cases r with | int _ t => exact ⟨t, rfl⟩
theorem Rep.isStr {x : PySem.Str} (r : Rep X h v (.str x)) : ∃ t, v = .str x t := by cases r with | str _ t => exact ⟨t, rfl⟩
theorem Rep.isBool {b : Bool} (r : Rep X h v (.bool b)) : v = .bool b := by cases r; rfl
/-- a list without names of its own -/
def IsL0 (h : PySem.Heap) (a : PySem.Addr) (vs : Array Value) : Prop := ∃ o, h.get? a = some o ∧ o.cls = .type "list" ∧ ∃ n, o.data = .seq vs n ∧ o.dict = none
theorem IsL0.list {a : PySem.Addr} {vs : Array Value} (l : IsL0 h a vs) : h.IsList a vs := let ⟨o, e, c, n, q, _⟩ := l; ⟨o, e, c, n, q⟩
theorem Rep.isList0 (r : Rep X h v (.list ds)) : ∃ a vs, v = .ref a ∧ a ∉ X ∧ IsL0 h a vs.toArray ∧ RepAll X h vs ds := by
  cases r with
  | list n e c q z r => exact ⟨_, _, rfl, n, ⟨_, e, c, _, q, z⟩, r⟩
theorem Rep.listOf {a : PySem.Addr} (n : a ∉ X) (l : IsL0 h a vs.toArray) (r : RepAll X h vs ds) : Rep X h (.ref a) (.list ds) := by
  obtain ⟨o, e, c, k, q, z⟩ := l
  exact .list n e c q z r
theorem Rep.tupleOf {a : PySem.Addr} (l : h.IsTuple a vs.toArray) (r : RepAll X h vs ds) : Rep X h (.ref a) (.tuple ds) := by
  obtain ⟨o, e, c, k, q⟩ := l
  exact .tuple e c q r
end

/-! ## as the library's Reads -/
mutual
theorem Rep.reads {X : List PySem.Addr} {h : PySem.Heap} : ∀ {v : Value} {d : Dat} (n : Nat), Rep X h v d → kqdOk n d = true → ∃ as, Reads h v (kqdP d) as
  | _, _, _, .none, _ => ⟨_, Reads.none⟩
  | _, _, _, .bool b, _ => ⟨_, Reads.bool b⟩
  | _, _, _, .int i t, _ => ⟨_, Reads.int i t⟩
  | _, _, _, .str x t, _ => ⟨_, Reads.str x t⟩
  | _, _, 0, .tuple _ _ _ _, hk => by simp [kqdOk] at hk
  | _, _, 0, .list _ _ _ _ _ _, hk => by simp [kqdOk] at hk
  | _, _, n + 1, .tuple e c q r, hk => by
    obtain ⟨as, q'⟩ := RepAll.reads n r (by simpa [kqdOk] using hk)
    rw [kqdP]
    exact ⟨as, reads_tuple_at e c q (by simpa using q')⟩
  | _, _, n + 1, .list _ e c q _ r, hk => by
    obtain ⟨as, q'⟩ := RepAll.reads n r (by simpa [kqdOk] using hk)
    rw [kqdP]
    exact ⟨_, reads_list_at e c q (by simpa using q')⟩
theorem RepAll.reads {X : List PySem.Addr} {h : PySem.Heap} : ∀ {vs : List Value} {ds : List Dat} (n : Nat), RepAll X h vs ds → (∀ d ∈ ds, kqdOk n d = true) → ∃ as, ReadsAll h vs (kqdPs ds) as
  | _, _, _, .nil, _ => ⟨_, ReadsAll.nil⟩
  | _, _, n, .cons hd r, hk => by
    obtain ⟨as, q⟩ := Rep.reads n hd (hk _ (.head _))
    obtain ⟨bs, p⟩ := RepAll.reads n r fun d hm => hk d (.tail _ hm)
    rw [kqdPs]
    exact ⟨_, ReadsAll.cons q p⟩
end

/-! ## the ground under a run -/
structure GC where
  h₁ : PySem.Heap
  tabs : List (PySem.Addr × PySem.Addr × PySem.Str)
  mg : PySem.Str → Option Value
  mb : PySem.Str → Option Value
def GC.tps (G : GC) : List PySem.Addr := G.tabs.map (·.2.1)

structure Wd (G : GC) (h : PySem.Heap) : Prop where
  keep : ∀ b o, G.h₁.get? b = some o → b ∉ G.tps → h.get? b = some o
  tab : ∀ q ∈ G.tabs, ∃ ps, h.get? q.2.1 = some (tabObj ps) ∧ TriplesOk ps.toList ∧ ∀ pos cv, codeAmong pos ps.toList = some cv → h.CodeRec cv q.2.2

structure Base (G : GC) : Prop where
  g : G.h₁.Ns mainGlobals G.mg
  b : G.h₁.Ns builtinsNs G.mb
  nolimit : G.h₁.NoLimit
  builtins : ∀ x : PySem.Str, x ≠ "__name__" → G.mb x = bootBuiltins x
  bmain : ∃ bm ob, G.mg "__builtins__" = some (.ref bm) ∧ bm ≠ builtinsNs ∧ G.h₁.get? bm = some ob ∧ ob.cls = .type "module" ∧ ob.dict = some builtinsNs ∧ ob.data = .plain
  tab0 : ∀ q ∈ G.tabs, G.h₁.get? q.2.1 = some (tabObj #[]) ∧ CodeHd G.h₁ q.1 q.2.1

section
variable {G : GC} {h : PySem.Heap}
theorem Base.off (B : Base G) {b : PySem.Addr} {o : Obj} (e : G.h₁.get? b = some o) (n : o ≠ tabObj #[]) : b ∉ G.tps := fun m => by
  obtain ⟨q, hq, rfl⟩ := List.mem_map.mp m
  rw [(B.tab0 q hq).1] at e
  exact n (Option.some.inj e).symm
theorem Wd.get (W : Wd G h) (B : Base G) {b : PySem.Addr} {o : Obj} (e : G.h₁.get? b = some o) (n : o ≠ tabObj #[]) : h.get? b = some o := W.keep b o e (B.off e n)
theorem Wd.ns (W : Wd G h) (B : Base G) {a : PySem.Addr} {m : PySem.Str → Option Value} (x : G.h₁.Ns a m) : h.Ns a m :=
  let ⟨o, es, ep, e, hd, r⟩ := x; ⟨o, es, ep, W.get B e (fun q => by rw [q] at hd; cases hd), hd, r⟩
theorem Wd.nolimit (W : Wd G h) (B : Base G) : h.NoLimit := let ⟨mc, a, r⟩ := B.nolimit; ⟨mc, W.ns B a, r⟩
theorem Wd.codeRec (W : Wd G h) (B : Base G) {cd : Value} {q : PySem.Str} (x : G.h₁.CodeRec cd q) : h.CodeRec cd q :=
  let ⟨c, o, vs, t, e, g, hd, r⟩ := x
  ⟨c, o, vs, t, e, W.get B g (fun z => by rw [z] at hd; cases hd; simp at r), hd, r⟩
theorem Wd.codeHd (W : Wd G h) (B : Base G) {c P : PySem.Addr} (x : CodeHd G.h₁ c P) : CodeHd h c P :=
  let ⟨o, vs, file, tf, flags, tg, inF, text, tt, e, hc, r⟩ := x
  ⟨o, vs, file, tf, flags, tg, inF, text, tt, W.get B e (fun z => by rw [z] at hc; cases hc), hc, r⟩
end

/-- a legal stretch of the run: what stood stands, but the code tables -/
structure St (G : GC) (s s' : Shared) : Prop where
  gens : s'.gens = s.gens
  os : s'.os = s.os
  keep : ∀ b o, s.heap.get? b = some o → b ∉ G.tps → s'.heap.get? b = some o
  wd : Wd G s'.heap

section
variable {G : GC} {s s' s'' : Shared}
theorem St.refl (w : Wd G s.heap) : St G s s := ⟨rfl, rfl, fun _ _ e _ => e, w⟩
theorem St.trans (a : St G s s') (b : St G s' s'') : St G s s'' := ⟨b.gens.trans a.gens, b.os.trans a.os, fun x o e n => b.keep x o (a.keep x o e n) n, b.wd⟩

theorem Wd.seqOff (W : Wd G s.heap) {b : PySem.Addr} {o : Obj} (e : s.heap.get? b = some o) (n : ∀ vs, o.data ≠ .fields vs) : b ∉ G.tps := fun m => by
  obtain ⟨q, hq, rfl⟩ := List.mem_map.mp m
  obtain ⟨ps, hp, _⟩ := W.tab q hq
  rw [hp] at e
  exact n _ (by rw [← Option.some.inj e])
theorem St.keepSeq (X : List PySem.Addr) (W : Wd G s.heap) (a : St G s s') : KeepSeq X s.heap s'.heap := fun b o vs n _ e d =>
  a.keep b o e (W.seqOff e fun _ q => by rw [d] at q; cases q)
theorem St.ns (W : Wd G s.heap) (a : St G s s') {L : PySem.Addr} {m : PySem.Str → Option Value} (x : s.heap.Ns L m) : s'.heap.Ns L m :=
  let ⟨o, es, ep, e, hd, r⟩ := x; ⟨o, es, ep, a.keep _ _ e (W.seqOff e fun _ q => by rw [hd] at q; cases q), hd, r⟩
theorem St.cell (W : Wd G s.heap) (a : St G s s') {c : PySem.Addr} {v : Option Value} (x : s.heap.IsCell c v) : s'.heap.IsCell c v :=
  let ⟨o, e, d⟩ := x; ⟨o, a.keep _ _ e (W.seqOff e fun _ q => by rw [d] at q; cases q), d⟩
theorem St.rep (W : Wd G s.heap) (a : St G s s') {X : List PySem.Addr} {v : Value} {d : Dat} (r : Rep X s.heap v d) : Rep X s'.heap v d := r.keep (a.keepSeq X W)
theorem St.repAll (W : Wd G s.heap) (a : St G s s') {X : List PySem.Addr} {v : List Value} {d : List Dat} (r : RepAll X s.heap v d) : RepAll X s'.heap v d := r.keep (a.keepSeq X W)

/-- a step that keeps every object is legal -/
theorem Wd.keeps {h h' : PySem.Heap} (W : Wd G h) (k : ∀ b o, h.get? b = some o → h'.get? b = some o) : Wd G h' where
  keep := fun b o e n => k _ _ (W.keep b o e n)
  tab := fun q hq => by
    obtain ⟨ps, a, b, c⟩ := W.tab q hq
    exact ⟨ps, k _ _ a, b, fun pos cv e => (c pos cv e).keeps k⟩
theorem St.of_keeps (W : Wd G s.heap) {h' : PySem.Heap} {tk : Nat} (k : ∀ b o, s.heap.get? b = some o → h'.get? b = some o) : St G s { s with heap := h', toks := tk } :=
  ⟨rfl, rfl, fun b o e _ => k b o e, W.keeps k⟩
theorem St.toks (W : Wd G s.heap) {tk : Nat} : St G s { s with toks := tk } := ⟨rfl, rfl, fun _ _ e _ => e, W⟩
theorem St.push (W : Wd G s.heap) (o : Obj) : St G s { s with heap := s.heap.push o } := St.of_keeps (tk := s.toks) W fun _ _ e => PySem.Heap.get?_push_of_some _ e
end

abbrev No : Value → Shared → Prop := fun _ _ => False

/-- room for k more calls -/
structure Room (k : Nat) (A : Around) : Prop where
  handled : A.handled = none
  depth : A.depth + k ≤ 900
  units : A.units + 16 * k ≤ 9000
theorem Room.less {k j : Nat} {A : Around} (r : Room k A) (h : j ≤ k) : Room j A := ⟨r.handled, by have := r.depth; omega, by have := r.units; omega⟩
theorem Room.deeper {k : Nat} {A : Around} {env : Env} (r : Room (k + 1) A) : Room k (A.deeper env) :=
  ⟨r.handled, by have := r.depth; show A.depth + 1 + k ≤ 900; omega, by have := r.units; show A.units + 3 + 16 * k ≤ 9000; omega⟩
theorem Room.in1 {k : Nat} {A : Around} (r : Room (k + 1) A) : Room k A.in1 :=
  ⟨r.handled, by have := r.depth; show A.depth + k ≤ 900; omega, by have := r.units; show A.units + 1 + 16 * k ≤ 9000; omega⟩
theorem Room.lim {k : Nat} {A : Around} (r : Room k A) : A.depth < recursionLimit := by have := r.depth; show A.depth < 1000; omega
theorem Room.cl {k : Nat} {A : Around} (r : Room k A) : A.units + 64 < cLine := by have := r.units; show A.units + 64 < 9900; omega

end Mine

namespace Mine

/-- the lists set apart stand -/
def Low (X : List PySem.Addr) (h : PySem.Heap) : Prop := ∀ a ∈ X, ∃ o, h.get? a = some o ∧ ∀ vs, o.data ≠ .fields vs
theorem Low.st {G : GC} {s s' : Shared} {X : List PySem.Addr} (W : Wd G s.heap) (a : St G s s') (l : Low X s.heap) : Low X s'.heap := fun b hb => by
  obtain ⟨o, e, n⟩ := l b hb
  exact ⟨o, a.keep _ _ e (W.seqOff e n), n⟩
theorem Low.new {X : List PySem.Addr} {h : PySem.Heap} (l : Low X h) {a : PySem.Addr} (ha : h.get? a = none) : a ∉ X := fun m => by
  obtain ⟨o, e, _⟩ := l a m
  rw [ha] at e; cases e
theorem Low.keeps {X : List PySem.Addr} {h h' : PySem.Heap} (l : Low X h) (k : ∀ b o, h.get? b = some o → h'.get? b = some o) : Low X h' := fun b hb => by
  obtain ⟨o, e, n⟩ := l b hb
  exact ⟨o, k _ _ e, n⟩
theorem new_none (h : PySem.Heap) : h.get? h.objs.size = none := PySem.Heap.get?_none_of_le (Nat.le_refl _)

abbrev Fam := List PySem.Addr → Shared → Prop
/-- a state predicate, told over the lists set apart -/
structure InvF (G : GC) (I : Fam) : Prop where
  wd : ∀ X s, I X s → Wd G s.heap
  mono : ∀ X s s', I X s → St G s s' → I X s'
  low : ∀ X s, I X s → Low X s.heap
  wide : ∀ X X' s s', I X s → St G s s' → (∀ a ∈ X, a ∈ X') → (∀ a ∈ X', a ∈ X ∨ s.heap.get? a = none) → Low X' s'.heap → I X' s'
theorem InvF.grow {G : GC} {I : Fam} (V : InvF G I) (X : List PySem.Addr) (s s' : Shared) (D : PySem.Addr) (h : I X s) (t : St G s s') (n : s.heap.get? D = none) (a : ∃ o, s'.heap.get? D = some o ∧ ∀ vs, o.data ≠ .fields vs) : I (D :: X) s' :=
  V.wide X _ s s' h t (fun _ m => .tail _ m) (fun b m => (List.mem_cons.mp m).elim (fun z => .inr (z ▸ n)) .inl) fun b m => (List.mem_cons.mp m).elim (fun z => z ▸ a) ((V.low X s h).st (V.wd X s h) t b)

section
variable {prog : Program} {w : World} {G : GC}

/-- an expression is worth a datum -/
def Ev (prog : Program) (w : World) (G : GC) (k : Nat) (I : Fam) (env : Env) (e : Expr) (d : Dat) : Prop :=
  ∀ X A s, Room k A → I X s → wpAny (model prog w) A (eval e env) (fun v s' => St G s s' ∧ Rep X s'.heap v d) No s
/-- a test comes out -/
def Tv (prog : Program) (w : World) (G : GC) (k : Nat) (I : Fam) (env : Env) (e : Expr) (b : Bool) : Prop :=
  ∀ X A s, Room k A → I X s → wpAny (model prog w) A (PySem.isTrue e env (eval e env)) (fun r s' => St G s s' ∧ r = b) No s
/-- an operation on two values -/
def Op2 (prog : Program) (w : World) (G : GC) (k : Nat) (t : Value → Value → Sem Value) (d1 d2 d : Dat) : Prop :=
  ∀ X A s v1 v2, Room k A → Wd G s.heap → Low X s.heap → Rep X s.heap v1 d1 → Rep X s.heap v2 d2 → wpAny (model prog w) A (t v1 v2) (fun v s' => St G s s' ∧ Rep X s'.heap v d) No s

theorem no_elim {α : Type} {Q : α → Shared → Prop} {M : Model} {A : Around} {t : Sem α} {E : Value → Shared → Prop} {s : Shared} {P : α → Shared → Prop} (h : wpAny M A t P No s) (k : ∀ a s', P a s' → Q a s') : wpAny M A t Q E s :=
  wpAny_mono h k fun _ _ x => x.elim

variable {I : Fam} {X : List PySem.Addr} {k : Nat} {env : Env}

theorem Ev.int (V : InvF G I) {i : Int} {n : Nat} {pos : Pos} : Ev prog w G k I env (.Constant (.int i) n pos) (.int i) := fun X A s _ hI =>
  wpAny_Constant_int ⟨St.toks (V.wd X s hI), .int i _⟩
theorem Ev.str (V : InvF G I) {x : PySem.Str} {n : Nat} {pos : Pos} : Ev prog w G k I env (.Constant (.str x) n pos) (.str x) := fun X A s _ hI =>
  Constant_str ⟨St.toks (V.wd X s hI), .str x _⟩
theorem Ev.bool (V : InvF G I) {b : Bool} {n : Nat} {pos : Pos} : Ev prog w G k I env (.Constant (.bool b) n pos) (.bool b) := fun X A s _ hI =>
  wpAny_Constant_bool ⟨St.refl (V.wd X s hI), .bool b⟩

/-- the value of a variable -/
def HasVar (env : Env) (h : PySem.Heap) (x : PySem.Str) (v : Value) : Prop :=
  (env.kindOf x = some .local ∧ ∃ m, h.Ns env.locals m ∧ m x = some v) ∨
  ((env.kindOf x = some .cell ∨ env.kindOf x = some .free) ∧ ∃ c, env.cells.lookup x = some c ∧ h.IsCell c (some v))

theorem HasVar.st {s s' : Shared} {x : PySem.Str} {v : Value} (W : Wd G s.heap) (a : St G s s') (q : HasVar env s.heap x v) : HasVar env s'.heap x v := by
  rcases q with ⟨q, m, n, e⟩ | ⟨q, c, l, e⟩
  · exact .inl ⟨q, m, a.ns W n, e⟩
  · exact .inr ⟨q, c, l, a.cell W e⟩

theorem name_has {M : Model} {A : Around} {E : Value → Shared → Prop} {s : Shared} {x : PySem.Str} {v : Value} {pos : Pos} {Q : Value → Shared → Prop} (hk : env.scope.kind = .function) (q : HasVar env s.heap x v) (h : Q v s)
    (hd : (x == ("__debug__" : PySem.Str)) = false) (hc : (x == ("__classdict__" : PySem.Str)) = false) : wpAny M A (eval (.Name x pos) env) Q E s := by
  refine wpAny_Name ?_ hd
  rcases q with ⟨q, m, n, e⟩ | ⟨q, c, l, e⟩
  · exact wpAny_loadName_local hk q n e h
  · rcases q with q | q
    · exact wpAny_loadName_cell hk q l e h
    · exact wpAny_loadName_free hk q l e h hc

/-- a name is known to hold a datum -/
def Knows (I : Fam) (env : Env) (x : PySem.Str) (d : Dat) : Prop := ∀ X s, I X s → ∃ v, HasVar env s.heap x v ∧ Rep X s.heap v d
theorem Ev.name (V : InvF G I) {x : PySem.Str} {pos : Pos} {d : Dat} (hk : env.scope.kind = .function) (q : Knows I env x d)
    (hd : (x == ("__debug__" : PySem.Str)) = false) (hc : (x == ("__classdict__" : PySem.Str)) = false) : Ev prog w G k I env (.Name x pos) d := fun X A s _ hI => by
  obtain ⟨v, a, b⟩ := q X s hI
  exact name_has hk a ⟨St.refl (V.wd X s hI), b⟩ hd hc

theorem Ev.binop (V : InvF G I) {l r : Expr} {op : PySem.Operator} {pos : Pos} {d1 d2 d : Dat} (h1 : Ev prog w G k I env l d1) (h2 : Ev prog w G k I env r d2)
    (ho : Op2 prog w G k (binaryOp op) d1 d2 d) : Ev prog w G k I env (.BinOp l op r pos) d := fun X A s R hI => by
  refine wpAny_BinOp (wpAny_mono (h1 X A s R hI) (fun a s1 h => ?_) fun _ _ x => x)
  obtain ⟨t1, r1⟩ := h
  have I1 := V.mono _ _ _ hI t1
  refine wpAny_mono (h2 X A s1 R I1) (fun b s2 h => ?_) fun _ _ x => x
  obtain ⟨t2, r2⟩ := h
  have I2 := V.mono _ _ _ I1 t2
  refine wpAny_mono (ho X A s2 a b R (V.wd _ _ I2) (V.low _ _ I2) (t2.rep (V.wd _ _ I1) r1) r2) (fun v s3 h => ?_) fun _ _ x => x
  exact ⟨(t1.trans t2).trans h.1, h.2⟩

theorem Ev.cmp (V : InvF G I) {l r : Expr} {op : CmpOp} {pos : Pos} {d1 d2 d : Dat} (h1 : Ev prog w G k I env l d1) (h2 : Ev prog w G k I env r d2)
    (ho : Op2 prog w G k (compareOp op) d1 d2 d) (hm : behindInMarks op r = false) : Ev prog w G k I env (.Compare l [op] [r] pos) d := fun X A s R hI => by
  refine wpAny_Compare1 (wpAny_mono (h1 X A s R hI) (fun a s1 h => ?_) fun _ _ x => x) hm
  obtain ⟨t1, r1⟩ := h
  have I1 := V.mono _ _ _ hI t1
  refine wpAny_mono (h2 X A s1 R I1) (fun b s2 h => ?_) fun _ _ x => x
  obtain ⟨t2, r2⟩ := h
  have I2 := V.mono _ _ _ I1 t2
  refine wpAny_mono (ho X A s2 a b R (V.wd _ _ I2) (V.low _ _ I2) (t2.rep (V.wd _ _ I1) r1) r2) (fun v s3 h => ?_) fun _ _ x => x
  exact ⟨(t1.trans t2).trans h.1, h.2⟩

theorem Tv.cmp (V : InvF G I) {l r : Expr} {op : CmpOp} {pos : Pos} {d1 d2 : Dat} {b : Bool} (h1 : Ev prog w G k I env l d1) (h2 : Ev prog w G k I env r d2)
    (ho : Op2 prog w G k (compareOp op) d1 d2 (.bool b)) (hm : behindInMarks op r = false) : Tv prog w G k I env (.Compare l [op] [r] pos) b := fun X A s R hI => by
  refine wpAny_isTrue_Compare1 (wpAny_mono (h1 X A s R hI) (fun a s1 h => ?_) fun _ _ x => x) hm
  obtain ⟨t1, r1⟩ := h
  have I1 := V.mono _ _ _ hI t1
  refine wpAny_mono (h2 X A s1 R I1) (fun b s2 h => ?_) fun _ _ x => x
  obtain ⟨t2, r2⟩ := h
  have I2 := V.mono _ _ _ I1 t2
  refine wpAny_mono (ho X A s2 a b R (V.wd _ _ I2) (V.low _ _ I2) (t2.rep (V.wd _ _ I1) r1) r2) (fun v s3 h => ?_) fun _ _ x => x
  obtain ⟨t3, r3⟩ := h
  rw [r3.isBool]
  exact wpAny_truthy_bool ⟨(t1.trans t2).trans t3, rfl⟩

theorem Tv.not {x : Expr} {pos : Pos} {b : Bool} (h : Tv prog w G k I env x b) : Tv prog w G k I env (.UnaryOp .Not x pos) (!b) := fun X A s R hI =>
  wpAny_isTrue_Not (wpAny_mono (h X A s R hI) (fun r s' h => ⟨h.1, by rw [h.2]⟩) fun _ _ x => x)

theorem Tv.list (V : InvF G I) {e : Expr} {ds : List Dat} (h : Ev prog w G k I env e (.list ds)) (hn : ds.length < 2 ^ 63)
    (hs : PySem.isTrue e env (eval e env) = (do let v ← eval e env; standAt e.pos; holding [v] (truthy v))) : Tv prog w G k I env e (!ds.isEmpty) := fun X A s R hI => by
  refine wpAny_isTrue_value (wpAny_mono (h X A s R hI) (fun v s1 h => ?_) fun _ _ x => x) hs
  obtain ⟨t1, r1⟩ := h
  obtain ⟨a, vs, rfl, _, hl, hr⟩ := r1.isList
  have hlen := hr.length
  refine wpAny_truthy_list hl (by simp; omega) ⟨t1.trans (St.toks t1.wd), ?_⟩
  cases vs <;> cases ds <;> simp_all

theorem Tv.bool {e : Expr} {b : Bool} (h : Ev prog w G k I env e (.bool b))
    (hs : PySem.isTrue e env (eval e env) = (do let v ← eval e env; standAt e.pos; holding [v] (truthy v))) : Tv prog w G k I env e b := fun X A s R hI => by
  refine wpAny_isTrue_value (wpAny_mono (h X A s R hI) (fun v s1 h => ?_) fun _ _ x => x) hs
  rw [h.2.isBool]
  exact wpAny_truthy_bool ⟨h.1, rfl⟩

theorem Tv.or2 (V : InvF G I) {a b : Expr} {pos : Pos} {x y : Bool} (h1 : Tv prog w G k I env a x) (h2 : x = false → Tv prog w G k I env b y) : Tv prog w G k I env (.BoolOp .Or [a, b] pos) (x || y) := fun X A s R hI => by
  refine wpAny_isTrue_BoolOp (wpAny_allTrue_Or_cons (wpAny_mono (h1 X A s R hI) (fun r s1 h => ?_) fun _ _ x => x))
  obtain ⟨t1, rfl⟩ := h
  cases r with
  | true => exact ⟨t1, rfl⟩
  | false =>
    refine wpAny_allTrue_Or_cons (wpAny_mono (h2 rfl X A s1 R (V.mono _ _ _ hI t1)) (fun r s2 h => ?_) fun _ _ x => x)
    obtain ⟨t2, rfl⟩ := h
    cases r with
    | true => exact ⟨t1.trans t2, rfl⟩
    | false => exact wpAny_allTrue_Or_nil ⟨t1.trans t2, rfl⟩
theorem Tv.and2 (V : InvF G I) {a b : Expr} {pos : Pos} {x y : Bool} (h1 : Tv prog w G k I env a x) (h2 : x = true → Tv prog w G k I env b y) : Tv prog w G k I env (.BoolOp .And [a, b] pos) (x && y) := fun X A s R hI => by
  refine wpAny_isTrue_BoolOp (wpAny_allTrue_And_cons (wpAny_mono (h1 X A s R hI) (fun r s1 h => ?_) fun _ _ x => x))
  obtain ⟨t1, rfl⟩ := h
  cases r with
  | false => exact ⟨t1, rfl⟩
  | true =>
    refine wpAny_allTrue_And_cons (wpAny_mono (h2 rfl X A s1 R (V.mono _ _ _ hI t1)) (fun r s2 h => ?_) fun _ _ x => x)
    obtain ⟨t2, rfl⟩ := h
    cases r with
    | false => exact ⟨t1.trans t2, rfl⟩
    | true => exact wpAny_allTrue_And_nil ⟨t1.trans t2, rfl⟩
end
end Mine

namespace Mine
section
variable {prog : Program} {w : World} {G : GC} {I : Fam} {X : List PySem.Addr} {k : Nat} {env : Env}

/-! ## operations -/
theorem op_addInt {a b : Int} : Op2 prog w G k (binaryOp .Add) (.int a) (.int b) (.int (a + b)) := fun X A s v1 v2 R W _ r1 r2 => by
  obtain ⟨t1, rfl⟩ := r1.isInt
  obtain ⟨t2, rfl⟩ := r2.isInt
  exact add_int ⟨St.toks W, .int _ _⟩
theorem op_mulInt {a b : Int} (hm : IntMulOk a b) : Op2 prog w G k (binaryOp .Mult) (.int a) (.int b) (.int (a * b)) := fun X A s v1 v2 R W _ r1 r2 => by
  obtain ⟨t1, rfl⟩ := r1.isInt
  obtain ⟨t2, rfl⟩ := r2.isInt
  exact mul_int ⟨St.toks W, .int _ _⟩ hm
theorem op_modInt {a b : Int} (hb : b ≠ 0) : Op2 prog w G k (binaryOp .Mod) (.int a) (.int b) (.int (a.fmod b)) := fun X A s v1 v2 R W _ r1 r2 => by
  obtain ⟨t1, rfl⟩ := r1.isInt
  obtain ⟨t2, rfl⟩ := r2.isInt
  exact mod_int_or R.handled (fun e => absurd e hb) fun _ => ⟨St.toks W, .int _ _⟩
theorem op_fdivInt {a b : Int} (hb : b ≠ 0) (hp : Builtin.divisionGoesByPylong a b = false) : Op2 prog w G k (binaryOp .FloorDiv) (.int a) (.int b) (.int (a.fdiv b)) := fun X A s v1 v2 R W _ r1 r2 => by
  obtain ⟨t1, rfl⟩ := r1.isInt
  obtain ⟨t2, rfl⟩ := r2.isInt
  exact floordiv_int_or R.handled (fun e => absurd e hb) (fun _ => ⟨St.toks W, .int _ _⟩) fun _ => .inl hp
theorem op_addStr {x y : PySem.Str} (hl : x.length + y.length ≤ sizeLine) : Op2 prog w G k (binaryOp .Add) (.str x) (.str y) (.str (x ++ y)) := fun X A s v1 v2 R W _ r1 r2 => by
  obtain ⟨t1, rfl⟩ := r1.isStr
  obtain ⟨t2, rfl⟩ := r2.isStr
  exact add_str (fun t' tk => ⟨St.toks W, .str _ _⟩) hl
theorem op_addList {ds es : List Dat} (hl : ds.length + es.length ≤ sizeLine) : Op2 prog w G k (binaryOp .Add) (.list ds) (.list es) (.list (ds ++ es)) := fun X A s v1 v2 R W L r1 r2 => by
  obtain ⟨a, vs, rfl, _, hl1, q1⟩ := r1.isList
  obtain ⟨b, ws, rfl, _, hl2, q2⟩ := r2.isList
  obtain ⟨⟨cls, dd, data, sl⟩, ho, hc, n, hd⟩ := id hl1
  obtain ⟨⟨cls2, dd2, data2, sl2⟩, ho2, hc2, n2, hd2⟩ := id hl2
  simp only at hc hd hc2 hd2
  subst hc hd hc2 hd2
  have e : vs.toArray ++ ws.toArray = (vs ++ ws).toArray := by simp
  refine concat_meets ⟨_, ho, rfl⟩ ⟨_, ho2, rfl⟩ noFill_list_add seq_list_add PySem.F.slot_list_add PySem.F.entry_list_add (PySem.F.args_list_add_2 _ _) (list_addW a b vs.toArray ws.toArray n n2 dd dd2 sl sl2 (by simp; rw [q1.length, q2.length]; exact hl)) ⟨ho, ho2, ?_⟩
  rw [e]
  have S := St.push W { cls := .type "list", data := .seq (vs ++ ws).toArray }
  exact ⟨S, .listOf (L.new (new_none _)) ⟨_, PySem.Heap.get?_push_size _ rfl, rfl, _, rfl, rfl⟩ ((S.repAll W q1).append (S.repAll W q2))⟩

theorem op_ltInt {a b : Int} : Op2 prog w G k (compareOp .Lt) (.int a) (.int b) (.bool (decide (a < b))) := fun X A s v1 v2 R W _ r1 r2 => by
  obtain ⟨t1, rfl⟩ := r1.isInt
  obtain ⟨t2, rfl⟩ := r2.isInt
  exact wpAny_lt_int ⟨St.refl W, .bool _⟩
theorem op_eqInt {a b : Int} : Op2 prog w G k (compareOp .Eq) (.int a) (.int b) (.bool (a == b)) := fun X A s v1 v2 R W _ r1 r2 => by
  obtain ⟨t1, rfl⟩ := r1.isInt
  obtain ⟨t2, rfl⟩ := r2.isInt
  exact eq_int ⟨St.refl W, .bool _⟩
theorem op_eqStr {x y : PySem.Str} : Op2 prog w G k (compareOp .Eq) (.str x) (.str y) (.bool (x == y)) := fun X A s v1 v2 R W _ r1 r2 => by
  obtain ⟨t1, rfl⟩ := r1.isStr
  obtain ⟨t2, rfl⟩ := r2.isStr
  exact eq_str ⟨St.refl W, .bool _⟩
theorem op_neStr {x y : PySem.Str} : Op2 prog w G k (compareOp .NotEq) (.str x) (.str y) (.bool (x != y)) := fun X A s v1 v2 R W _ r1 r2 => by
  obtain ⟨t1, rfl⟩ := r1.isStr
  obtain ⟨t2, rfl⟩ := r2.isStr
  exact ne_str ⟨St.refl W, .bool _⟩
theorem op_ltStr {x y : PySem.Str} : Op2 prog w G k (compareOp .Lt) (.str x) (.str y) (.bool (decide (x.cps.toList < y.cps.toList))) := fun X A s v1 v2 R W _ r1 r2 => by
  obtain ⟨t1, rfl⟩ := r1.isStr
  obtain ⟨t2, rfl⟩ := r2.isStr
  exact lt_str ⟨St.refl W, .bool _⟩
theorem op_leStr {x y : PySem.Str} : Op2 prog w G k (compareOp .LtE) (.str x) (.str y) (.bool (!decide (y.cps.toList < x.cps.toList))) := fun X A s v1 v2 R W _ r1 r2 => by
  obtain ⟨t1, rfl⟩ := r1.isStr
  obtain ⟨t2, rfl⟩ := r2.isStr
  exact P.le_str ⟨St.refl W, .bool _⟩
theorem op_neBool {a b : Bool} : Op2 prog w G k (compareOp .NotEq) (.bool a) (.bool b) (.bool (a != b)) := fun X A s v1 v2 R W _ r1 r2 => by
  rw [r1.isBool, r2.isBool]
  exact PyProof.Rows.ne_bool ⟨St.refl W, .bool _⟩

open Classical in
theorem eqv_dec (d e : Dat) (n : Nat) (hd : kqdOk n d = true) (he : kqdOk n e = true) : PyData.eqv (kqdP d) (kqdP e) = decide (d = e) := by
  have q := kqd_eqv n d e n hd he
  by_cases hq : d = e
  · rw [decide_eq_true hq]; exact q.mpr hq
  · rw [decide_eq_false hq]; exact Bool.eq_false_iff.mpr fun x => hq (q.mp x)
theorem shaped_of (d : Dat) (hd : kqdOk 40 d = true) : SeqAt.shaped (kqdP d) = true := by
  have l := kqd_lay 40 d hd
  unfold SeqAt.shaped
  rw [l.1, Bool.true_and]
  exact decide_eq_true (Nat.le_trans l.2 (by decide))
open Classical in
theorem op_eqD {d e : Dat} (hd : kqdOk 40 d = true) (he : kqdOk 40 e = true) : Op2 prog w G k (compareOp .Eq) d e (.bool (decide (d = e))) := fun X A s v1 v2 R W _ r1 r2 => by
  obtain ⟨as, q1⟩ := r1.reads 40 hd
  obtain ⟨bs, q2⟩ := r2.reads 40 he
  refine eq_dataH q1 q2 (shaped_of d hd) (shaped_of e he) R.cl ⟨St.refl W, ?_⟩
  rw [eqv_dec d e 40 hd he]
  exact .bool _
open Classical in
theorem op_neD {d e : Dat} (hd : kqdOk 40 d = true) (he : kqdOk 40 e = true) : Op2 prog w G k (compareOp .NotEq) d e (.bool (!decide (d = e))) := fun X A s v1 v2 R W _ r1 r2 => by
  obtain ⟨as, q1⟩ := r1.reads 40 hd
  obtain ⟨bs, q2⟩ := r2.reads 40 he
  refine ne_dataH q1 q2 (shaped_of d hd) (shaped_of e he) R.cl ⟨St.refl W, ?_⟩
  rw [eqv_dec d e 40 hd he]
  exact .bool _
theorem any_dec : ∀ (ds : List Dat) (d : Dat) (n : Nat), (∀ e ∈ ds, kqdOk n e = true) → kqdOk n d = true → ((kqdPs ds).any (fun y => PyData.eqv y (kqdP d)) = true ↔ d ∈ ds)
  | [], d, _, _, _ => by simp [kqdPs]
  | e :: ds, d, n, h, hd => by
    have q := any_dec ds d n (fun x hx => h x (.tail _ hx)) hd
    have q1 := kqd_eqv n e d n (h e (.head _)) hd
    simp only [kqdPs, List.any_cons, Bool.or_eq_true, q, q1, List.mem_cons]
    exact ⟨fun x => x.imp Eq.symm id, fun x => x.imp Eq.symm id⟩
theorem lay_all {ds : List Dat} (h : ∀ d ∈ ds, kqdOk 40 d = true) : PyData.canLayAll0 (kqdPs ds) = true ∧ PyData.depthAll (kqdPs ds) ≤ 41 := by
  have l := kqd_lay 41 (.list ds) (by simpa [kqdOk] using h)
  rw [kqdP] at l
  simp only [PyData.canLay0, PyData.depth] at l
  have l2 := l.2
  exact ⟨l.1, by omega⟩
open Classical in
theorem op_inD {d : Dat} {ds : List Dat} (hd : kqdOk 40 d = true) (hs : ∀ e ∈ ds, kqdOk 40 e = true) : Op2 prog w G k (compareOp .In) d (.list ds) (.bool (decide (d ∈ ds))) := fun X A s v1 v2 R W _ r1 r2 => by
  obtain ⟨as, q1⟩ := r1.reads 40 hd
  obtain ⟨bs, q2⟩ := r2.reads 41 (by simpa [kqdOk] using hs)
  rw [kqdP] at q2
  have l := lay_all hs
  have ld := kqd_lay 40 d hd
  have hc := R.units
  refine SeqAt.in_list_reads q2 q1 l.1 ld.1 ?_ ⟨St.refl W, ?_⟩
  · have := Nat.min_le_right (PyData.depthAll (kqdPs ds)) (kqdP d).depth
    have := ld.2
    show A.units + 1 + _ < 9900
    omega
  · have e : ((kqdPs ds).any fun y => PyData.eqv y (kqdP d)) = decide (d ∈ ds) := by
      by_cases hq : d ∈ ds
      · rw [decide_eq_true hq]; exact (any_dec ds d 40 hs hd).mpr hq
      · rw [decide_eq_false hq]; exact Bool.eq_false_iff.mpr fun z => hq ((any_dec ds d 40 hs hd).mp z)
    rw [e]
    exact .bool _
open Classical in
theorem op_notInD {d : Dat} {ds : List Dat} (hd : kqdOk 40 d = true) (hs : ∀ e ∈ ds, kqdOk 40 e = true) : Op2 prog w G k (compareOp .NotIn) d (.list ds) (.bool (!decide (d ∈ ds))) := fun X A s v1 v2 R W _ r1 r2 => by
  obtain ⟨as, q1⟩ := r1.reads 40 hd
  obtain ⟨bs, q2⟩ := r2.reads 41 (by simpa [kqdOk] using hs)
  rw [kqdP] at q2
  have l := lay_all hs
  have ld := kqd_lay 40 d hd
  have hc := R.units
  refine SeqAt.notIn_list_reads q2 q1 l.1 ld.1 ?_ ⟨St.refl W, ?_⟩
  · have := Nat.min_le_right (PyData.depthAll (kqdPs ds)) (kqdP d).depth
    have := ld.2
    show A.units + 1 + _ < 9900
    omega
  · have e : ((kqdPs ds).any fun y => PyData.eqv y (kqdP d)) = decide (d ∈ ds) := by
      by_cases hq : d ∈ ds
      · rw [decide_eq_true hq]; exact (any_dec ds d 40 hs hd).mpr hq
      · rw [decide_eq_false hq]; exact Bool.eq_false_iff.mpr fun z => hq ((any_dec ds d 40 hs hd).mp z)
    rw [e]
    exact .bool _

/-! ## subscripts -/
theorem Ev.sub (V : InvF G I) {value slice : Expr} {pos : Pos} {d1 d2 d : Dat} (h1 : Ev prog w G k I env value d1) (h2 : Ev prog w G k I env slice d2)
    (ho : Op2 prog w G k (subscriptTail value slice) d1 d2 d) : Ev prog w G k I env (.Subscript value slice pos) d := fun X A s R hI => by
  refine Subscript_ (wpAny_mono (h1 X A s R hI) (fun a s1 h => ?_) fun _ _ x => x)
  obtain ⟨t1, r1⟩ := h
  have I1 := V.mono _ _ _ hI t1
  refine wpAny_mono (h2 X A s1 R I1) (fun b s2 h => ?_) fun _ _ x => x
  obtain ⟨t2, r2⟩ := h
  have I2 := V.mono _ _ _ I1 t2
  refine wpAny_mono (ho X A s2 a b R (V.wd _ _ I2) (V.low _ _ I2) (t2.rep (V.wd _ _ I1) r1) r2) (fun v s3 h => ?_) fun _ _ x => x
  exact ⟨(t1.trans t2).trans h.1, h.2⟩

theorem op_itemList {value slice : Expr} {ds : List Dat} {i : Int} {d : Dat} (h0 : 0 ≤ i) (hi : i < 2 ^ 63) (hd : ds[i.toNat]? = some d)
    (hs : ∀ o j, subscripted slice false o j = operate [o, j] (getItem o j)) : Op2 prog w G k (subscriptTail value slice) (.list ds) (.int i) d := fun X A s v1 v2 R W _ r1 r2 => by
  obtain ⟨a, vs, rfl, _, hl, q⟩ := r1.isList
  obtain ⟨t, rfl⟩ := r2.isInt
  obtain ⟨v, hv, r⟩ := q.get? hd
  exact tail_any hl.typeIs slot_list_getitem.lookup (wpAny_getItem_list hl h0 hi (by simpa using hv) ⟨St.refl W, r⟩) (hs _ _)
theorem op_itemListNeg {value slice : Expr} {ds : List Dat} {i : Int} {d : Dat} (h0 : i < 0) (h1 : -(ds.length : Int) ≤ i) (hi : -2 ^ 63 ≤ i) (hd : ds[(i + ds.length).toNat]? = some d)
    (hs : ∀ o j, subscripted slice false o j = operate [o, j] (getItem o j)) : Op2 prog w G k (subscriptTail value slice) (.list ds) (.int i) d := fun X A s v1 v2 R W _ r1 r2 => by
  obtain ⟨a, vs, rfl, _, hl, q⟩ := r1.isList
  obtain ⟨t, rfl⟩ := r2.isInt
  obtain ⟨v, hv, r⟩ := q.get? hd
  have hlen := q.length
  exact tail_any hl.typeIs slot_list_getitem.lookup (wpAny_getItem_list_neg hl h0 (by simp [hlen]; exact h1) hi (by simp [hlen]; exact hv) ⟨St.refl W, r⟩) (hs _ _)
theorem op_itemTup {value slice : Expr} {ds : List Dat} {i : Nat} {d : Dat} (hi : i < 1000) (hd : ds[i]? = some d)
    (hs : ∀ o j, subscripted slice false o j = operate [o, j] (getItem o j)) : Op2 prog w G k (subscriptTail value slice) (.tuple ds) (.int i) d := fun X A s v1 v2 R W _ r1 r2 => by
  obtain ⟨a, vs, rfl, hl, q⟩ := r1.isTuple
  obtain ⟨t, rfl⟩ := r2.isInt
  obtain ⟨v, hv, r⟩ := q.get? hd
  have hlen : i < vs.length := (List.getElem?_eq_some_iff.mp hv).1
  refine tail_any (T := "tuple") (let ⟨o, e, c, _⟩ := hl; ⟨o, e, c⟩) slot_tuple_getitem.lookup (PyProof.Rows.getItem_tuple (j := i) hl (by omega) (by omega) ?_ (by simpa using hv) ⟨St.refl W, r⟩) (hs _ _)
  unfold seqIndex?
  simp only [List.size_toArray]
  split <;> simp_all <;> omega
theorem op_itemStr {value slice : Expr} {x : PySem.Str} {i : Int} {c : Nat} (hr : (decide (i < -(2 ^ 63 : Int)) || decide (i ≥ 2 ^ 63)) = false) (hc : (seqIndex? i x.length).bind (x.cps[·]?) = some c)
    (hs : ∀ o j, subscripted slice false o j = operate [o, j] (getItem o j)) : Op2 prog w G k (subscriptTail value slice) (.str x) (.int i) (.str ⟨#[c]⟩) := fun X A s v1 v2 R W _ r1 r2 => by
  obtain ⟨t1, rfl⟩ := r1.isStr
  obtain ⟨t, rfl⟩ := r2.isInt
  exact tail_any (typeIs_str s x t1) F.slot_str_getitem.lookup (P.getItem_str hr hc ⟨St.toks W, .str _ _⟩) (hs _ _)

/-- a slice's end -/
def Pt (prog : Program) (w : World) (G : GC) (k : Nat) (I : Fam) (env : Env) : Option Expr → Option Int → Prop
  | none, none => True
  | some e, some i => Ev prog w G k I env e (.int i)
  | _, _ => False
theorem Pt.run (V : InvF G I) {e : Option Expr} {p : Option Int} (h : Pt prog w G k I env e p) {A : Around} {s : Shared} {X : List PySem.Addr} (R : Room k A) (hI : I X s) :
    wpAny (model prog w) A (evalPart e env) (fun v s' => St G s s' ∧ IsPart v p ∧ ∃ t, v = partValue (p.map fun i => (i, t))) No s := by
  cases e with
  | none =>
    cases p with
    | none => exact wpAny_evalPart_none ⟨St.refl (V.wd _ _ hI), .none, 0, rfl⟩
    | some i => exact h.elim
  | some e =>
    cases p with
    | none => exact h.elim
    | some i =>
      refine wpAny_evalPart_some (wpAny_mono (h X A s R hI) (fun v s' q => ?_) fun _ _ x => x)
      obtain ⟨t, rfl⟩ := q.2.isInt
      exact ⟨q.1, .int _ _, t, rfl⟩

theorem Ev.sliceList (V : InvF G I) {value : Expr} {lo hi : Option Expr} {pl ph : Option Int} {p pos : Pos} {ds : List Dat} (h1 : Ev prog w G k I env value (.list ds)) (h2 : Pt prog w G k I env lo pl)
    (h3 : Pt prog w G k I env hi ph) (hz : ds.length ≤ sizeLine) :
    Ev prog w G k I env (.Subscript value (.Slice lo hi none p) pos) (.list ((ds.drop (pl.elim 0 (clipAt ds.length))).take (ph.elim ds.length (clipAt ds.length) - pl.elim 0 (clipAt ds.length)))) := fun X A s R hI => by
  refine Subscript_ (wpAny_mono (h1 X A s R hI) (fun a s1 h => ?_) fun _ _ x => x)
  obtain ⟨t1, r1⟩ := h
  have I1 := V.mono _ _ _ hI t1
  refine wpAny_Slice (wpAny_mono (h2.run V R I1) (fun vl s2 h => ?_) fun _ _ x => x)
  obtain ⟨t2, p2, _⟩ := h
  have I2 := V.mono _ _ _ I1 t2
  refine wpAny_mono (h3.run V R I2) (fun vh s3 h => ?_) fun _ _ x => x
  obtain ⟨t3, p3, _⟩ := h
  have I3 := V.mono _ _ _ I2 t3
  refine wpAny_evalPart_none ?_
  have r3 := t3.rep (V.wd _ _ I2) (t2.rep (V.wd _ _ I1) r1)
  have S4 := St.push (V.wd _ _ I3) { cls := .type "slice", data := .fields #[vl, vh, .none] }
  have I4 := V.mono _ _ _ I3 S4
  have r4 := S4.rep (V.wd _ _ I3) r3
  obtain ⟨l, vs, rfl, _, hl, q⟩ := r4.isList
  have hlen := q.length
  refine tail_any hl.typeIs slot_list_getitem.lookup (wpAny_getItem_list_slice (st := none) hl ⟨_, PySem.Heap.get?_push_size _ rfl, rfl, rfl⟩ p2 p3 .none (by simp) ?_ (by simp [hlen]; exact hz)) (ops := [.ref s3.heap.objs.size, .ref l]) (by rfl)
  rw [slicePick_plain]
  have S5 := St.push (V.wd _ _ I4) { cls := .type "list", data := .seq (List.toArray ((vs.toArray.toList.drop (pl.elim 0 (clipAt vs.toArray.size))).take (ph.elim vs.toArray.size (clipAt vs.toArray.size) - pl.elim 0 (clipAt vs.toArray.size)))) }
  refine ⟨((t1.trans t2).trans t3).trans (S4.trans S5), .listOf ((V.low _ _ I4).new (new_none _)) ⟨_, PySem.Heap.get?_push_size _ rfl, rfl, _, rfl, rfl⟩ ?_⟩
  have := ((S5.repAll (V.wd _ _ I4) q).drop (pl.elim 0 (clipAt ds.length))).take (ph.elim ds.length (clipAt ds.length) - pl.elim 0 (clipAt ds.length))
  simpa [hlen] using this
end
end Mine

namespace Mine
section
variable {prog : Program} {w : World} {G : GC} {I : Fam} {X : List PySem.Addr} {k : Nat} {env : Env}

structure EnvOk (env : Env) : Prop where
  kind : env.scope.kind = .function
  globals : env.globals = mainGlobals
  builtins : env.builtins = builtinsNs

/-! ## several expressions -/
def EvL (prog : Program) (w : World) (G : GC) (k : Nat) (I : Fam) (env : Env) (es : List Expr) (ds : List Dat) : Prop :=
  ∀ X A s pos, Room k A → I X s → wpAny (model prog w) A (spliced (backTo pos (starEach es env))) (fun vs s' => St G s s' ∧ RepAll X s'.heap vs ds) No s
theorem EvL.nil (V : InvF G I) : EvL prog w G k I env [] [] := fun X A s pos R hI => args_nil ⟨St.refl (V.wd _ _ hI), .nil⟩
theorem EvL.cons (V : InvF G I) {e : Expr} {es : List Expr} {d : Dat} {ds : List Dat} (h1 : Ev prog w G k I env e d) (h2 : EvL prog w G k I env es ds)
    (he : starEach (e :: es) env = (false, eval e env) :: starEach es env) : EvL prog w G k I env (e :: es) (d :: ds) := fun X A s pos R hI => by
  refine args_cons (wpAny_mono (h1 X A s R hI) (fun v s1 h => ?_) fun _ _ x => x) he
  obtain ⟨t1, r1⟩ := h
  have I1 := V.mono _ _ _ hI t1
  refine wpAny_mono (h2 X A s1 pos R I1) (fun vs s2 h => ?_) fun _ _ x => x
  exact ⟨t1.trans h.1, .cons (h.1.rep (V.wd _ _ I1) r1) h.2⟩

theorem Ev.list (V : InvF G I) {es : List Expr} {ds : List Dat} {pos : Pos} (h : EvL prog w G k I env es ds) (hz : ds.length ≤ sizeLine) : Ev prog w G k I env (.List es pos) (.list ds) := fun X A s R hI => by
  refine List_ (wpAny_mono (h X A s pos R hI) (fun vs s1 h => ?_) fun _ _ x => x)
  obtain ⟨t1, r1⟩ := h
  have I1 := V.mono _ _ _ hI t1
  have S := St.push (V.wd _ _ I1) { cls := .type "list", data := .seq vs.toArray }
  exact wpAny_newObj_type ⟨t1.trans S, .listOf ((V.low _ _ I1).new (new_none _)) ⟨_, PySem.Heap.get?_push_size _ rfl, rfl, _, rfl, rfl⟩ (S.repAll (V.wd _ _ I1) r1)⟩ (by show vs.toArray.size ≤ sizeLine; simp; rw [r1.length]; exact hz)
theorem Ev.tuple (V : InvF G I) {es : List Expr} {ds : List Dat} {n : Nat} {pos : Pos} (h : EvL prog w G k I env es ds) (hz : ds.length ≤ sizeLine) : Ev prog w G k I env (.Tuple es n pos) (.tuple ds) := fun X A s R hI => by
  refine Tuple_ (wpAny_mono (h X A s pos R hI) (fun vs s1 h => ?_) fun _ _ x => x)
  obtain ⟨t1, r1⟩ := h
  have I1 := V.mono _ _ _ hI t1
  have S := St.push (V.wd _ _ I1) { cls := .type "tuple", data := .seq vs.toArray }
  exact wpAny_newObj_type ⟨t1.trans S, .tupleOf ⟨_, PySem.Heap.get?_push_size _ rfl, rfl, _, rfl⟩ (S.repAll (V.wd _ _ I1) r1)⟩ (by show vs.toArray.size ≤ sizeLine; simp; rw [r1.length]; exact hz)

/-! ## calls by a global name -/
def OpN (prog : Program) (w : World) (G : GC) (k : Nat) (t : List Value → Sem Value) (ds : List Dat) (d : Dat) : Prop :=
  ∀ X A s vs, Room k A → Wd G s.heap → Low X s.heap → RepAll X s.heap vs ds → wpAny (model prog w) A (t vs) (fun v s' => St G s s' ∧ Rep X s'.heap v d) No s

theorem name_global {M : Model} {A : Around} {E : Value → Shared → Prop} {s : Shared} {x : PySem.Str} {v : Value} {pos : Pos} {Q : Value → Shared → Prop} (B : Base G) (W : Wd G s.heap) (ok : EnvOk env) (hx : env.kindOf x = some .globalImplicit)
    (hm : G.mg x = some v) (h : Q v s) (hd : (x == ("__debug__" : PySem.Str)) = false) : wpAny M A (eval (.Name x pos) env) Q E s :=
  Name_function_global ok.kind hx (loadGlobal_global (by rw [ok.globals]; exact W.ns B B.g) hm h) hd
theorem name_builtin {M : Model} {A : Around} {E : Value → Shared → Prop} {s : Shared} {x : PySem.Str} {v : Value} {pos : Pos} {Q : Value → Shared → Prop} (B : Base G) (W : Wd G s.heap) (ok : EnvOk env) (hx : env.kindOf x = some .globalImplicit)
    (hm : G.mg x = none) (hb : bootBuiltins x = some v) (hn : x ≠ "__name__") (h : Q v s) (hd : (x == ("__debug__" : PySem.Str)) = false) : wpAny M A (eval (.Name x pos) env) Q E s :=
  Name_function_global ok.kind hx (loadGlobal_builtin (by rw [ok.globals]; exact W.ns B B.g) hm (by rw [ok.builtins]; exact W.ns B B.b) (by rw [B.builtins x hn]; exact hb) h) hd

/-- the global name of a built-in function -/
structure BName (G : GC) (env : Env) (x : PySem.Str) (v : Value) : Prop where
  kind : env.kindOf x = some .globalImplicit
  miss : G.mg x = none
  boot : bootBuiltins x = some v
  ne : x ≠ "__name__"
  nd : (x == ("__debug__" : PySem.Str)) = false

theorem Ev.callB (V : InvF G I) (B : Base G) (ok : EnvOk env) {x : PySem.Str} {id : String} {p pos : Pos} {e : Expr} {es : List Expr} {ds : List Dat} {d : Dat} (b : BName G env x (.builtin id))
    (h : EvL prog w G k I env (e :: es) ds) (ho : OpN prog w G k (fun vs => call (.builtin id) vs) ds d)
    (he : starEach (e :: es) env = (false, eval e env) :: starEach es env) (hpl : (backTo pos (starEach es env)).any (·.1) = false) :
    Ev prog w G k I env (.Call (.Name x p) (e :: es) [] pos) d := fun X A s R hI => by
  refine wpAny_Call_NameR (name_builtin B (V.wd _ _ hI) ok b.kind b.miss b.boot b.ne ?_ b.nd)
  refine PyProof.Rows.callWith_builtin1 (wpAny_mono (h X A s pos R hI) (fun vs s1 h => ?_) fun _ _ x => x) he hpl
  obtain ⟨t1, r1⟩ := h
  have I1 := V.mono _ _ _ hI t1
  exact wpAny_mono (ho X A s1 vs R (V.wd _ _ I1) (V.low _ _ I1) r1) (fun v s2 h => ⟨t1.trans h.1, h.2⟩) fun _ _ x => x

/-- a def of the text's top -/
structure FName (G : GC) (env : Env) (x : PySem.Str) (f : PySem.Addr) (o : Obj) (fd : FuncData) : Prop where
  kind : env.kindOf x = some .globalImplicit
  mg : G.mg x = some (.ref f)
  ho : G.h₁.get? f = some o
  hd : o.data = .func fd
  nd : (x == ("__debug__" : PySem.Str)) = false

theorem Ev.callF (V : InvF G I) (B : Base G) (ok : EnvOk env) {x : PySem.Str} {f : PySem.Addr} {o : Obj} {fd : FuncData} {p pos : Pos} {e : Expr} {es : List Expr} {ds : List Dat} {d : Dat} (b : FName G env x f o fd)
    (h : EvL prog w G k I env (e :: es) ds) (ho : OpN prog w G k (fun vs => call (.ref f) vs) ds d)
    (he : starEach (e :: es) env = (false, eval e env) :: starEach es env) :
    Ev prog w G k I env (.Call (.Name x p) (e :: es) [] pos) d := fun X A s R hI => by
  refine wpAny_Call_NameR (name_global B (V.wd _ _ hI) ok b.kind b.mg ?_ b.nd)
  refine PyProof.Rows.callWith_def b.hd (wpAny_mono (h X A s pos R hI) (fun vs s1 h => ?_) fun _ _ x => x) he
  obtain ⟨t1, r1⟩ := h
  have I1 := V.mono _ _ _ hI t1
  refine ⟨(V.wd _ _ I1).get B b.ho (fun q => by have := b.hd; rw [q] at this; cases this), ?_⟩
  exact wpAny_mono (ho X A s1 vs R (V.wd _ _ I1) (V.low _ _ I1) r1) (fun v s2 h => ⟨t1.trans h.1, h.2⟩) fun _ _ x => x

/-! ## built-ins -/
theorem one_of {h : PySem.Heap} {vs : List Value} {d : Dat} (r : RepAll X h vs [d]) : ∃ v, vs = [v] ∧ Rep X h v d := by
  cases r with | cons a r => cases r; exact ⟨_, rfl, a⟩
theorem two_of {h : PySem.Heap} {vs : List Value} {d e : Dat} (r : RepAll X h vs [d, e]) : ∃ v u, vs = [v, u] ∧ Rep X h v d ∧ Rep X h u e := by
  cases r with | cons a r => cases r with | cons b r => cases r; exact ⟨_, _, rfl, a, b⟩
theorem three_of {h : PySem.Heap} {vs : List Value} {d e f : Dat} (r : RepAll X h vs [d, e, f]) : ∃ v u t, vs = [v, u, t] ∧ Rep X h v d ∧ Rep X h u e ∧ Rep X h t f := by
  cases r with | cons a r => cases r with | cons b r => cases r with | cons c r => cases r; exact ⟨_, _, _, rfl, a, b, c⟩

theorem op_len {ds : List Dat} (hn : ds.length < 2 ^ 63) : OpN prog w G k (fun vs => call (.builtin "len") vs) [.list ds] (.int ds.length) := fun X A s vs R W L r => by
  obtain ⟨v, rfl, r'⟩ := one_of r
  obtain ⟨a, vs, rfl, _, hl, q⟩ := r'.isList
  have hlen := q.length
  refine PyProof.Rows.len_list hl (by simp; omega) ⟨St.toks W, ?_⟩
  simp only [List.size_toArray, hlen]
  exact .int _ _
theorem op_maxInt {a b : Int} : OpN prog w G k (fun vs => call (.builtin "max") vs) [.int a, .int b] (.int (if b > a then b else a)) := fun X A s vs R W L r => by
  obtain ⟨v, u, rfl, r1, r2⟩ := two_of r
  obtain ⟨t1, rfl⟩ := r1.isInt
  obtain ⟨t2, rfl⟩ := r2.isInt
  refine max_two_ints R.handled fun h' tk hk => ⟨St.of_keeps W hk, ?_⟩
  split <;> exact .int _ _
theorem op_minInt {a b : Int} : OpN prog w G k (fun vs => call (.builtin "min") vs) [.int a, .int b] (.int (if b < a then b else a)) := fun X A s vs R W L r => by
  obtain ⟨v, u, rfl, r1, r2⟩ := two_of r
  obtain ⟨t1, rfl⟩ := r1.isInt
  obtain ⟨t2, rfl⟩ := r2.isInt
  refine min_two_ints R.handled fun h' tk hk => ⟨St.of_keeps W hk, ?_⟩
  split <;> exact .int _ _

theorem RepAll.ints {h : PySem.Heap} : ∀ {vs : List Value} {ns : List Int}, RepAll X h vs (ns.map .int) → ∃ xs : List (Int × Tok), vs = xs.map (fun p => .int p.1 p.2) ∧ xs.map (·.1) = ns
  | _, [], .nil => ⟨[], rfl, rfl⟩
  | _, n :: ns, .cons a r => by
    obtain ⟨t, rfl⟩ := a.isInt
    obtain ⟨xs, rfl, e⟩ := RepAll.ints r
    exact ⟨(n, t) :: xs, rfl, by rw [List.map_cons, e]⟩
theorem RepAll.intsAre {h : PySem.Heap} : ∀ {vs : List Value} {ns : List Int}, RepAll X h vs (ns.map .int) → IntsAre vs ns
  | _, [], .nil => .nil
  | _, n :: ns, .cons a r => by
    obtain ⟨t, rfl⟩ := a.isInt
    exact .cons n t (RepAll.intsAre r)
theorem RepAll.of_ints {h : PySem.Heap} : ∀ {vs : List Value} {ns : List Int}, IntsAre vs ns → RepAll X h vs (ns.map .int)
  | _, _, .nil => .nil
  | _, _, .cons n t r => .cons (.int n t) (RepAll.of_ints r)
theorem RepAll.strsAre {h : PySem.Heap} : ∀ {vs : List Value} {ns : List PySem.Str}, RepAll X h vs (ns.map .str) → StrsAre vs ns
  | _, [], .nil => .nil
  | _, n :: ns, .cons a r => by
    obtain ⟨t, rfl⟩ := a.isStr
    exact .cons n t (RepAll.strsAre r)

theorem op_sum {ns : List Int} : OpN prog w G k (fun vs => call (.builtin "sum") vs) [.list (ns.map .int)] (.int ns.sum) := fun X A s vs R W L r => by
  obtain ⟨v, rfl, r'⟩ := one_of r
  obtain ⟨a, vs, rfl, _, hl, q⟩ := r'.isList
  obtain ⟨tt, hI, _⟩ : ∃ _ : Unit, IntsAre vs ns ∧ True := ⟨(), q.intsAre, trivial⟩
  obtain ⟨xs, hx⟩ := hI.allInts.items
  rw [show vs.toArray = intItems xs from hx] at hl
  refine sum_intListG R.handled hl fun h' tk t' hk => ⟨St.of_keeps W hk, ?_⟩
  have e : preSum (numAt xs) xs.size = ns.sum := by
    rw [preSum_eq, List.take_of_length_le (by simp), ← nums_intItems, ← hx]
    exact congrArg List.sum hI.numsOf
  rw [e]
  exact .int _ _

/-! ## things to walk over -/
inductive Src (X : List PySem.Addr) (h : PySem.Heap) (J : PySem.Addr) (ds : List Dat) (i : Nat) : Prop
  | list (l : PySem.Addr) (vs : List Value) : i ≤ ds.length → l ≠ J → l ∉ X → h.IsListIter J l i → h.IsList l vs.toArray → RepAll X h vs ds → Src X h J ds i
  | range (a c : Int) (n : Nat) : i ≤ n → IsRangeIter h J (a + (i : Int) * c) ((n : Int) - (i : Int)) c → ds = (List.range n).map (fun j : Nat => Dat.int (a + (j : Int) * c)) → Src X h J ds i

theorem Src.keep {h h' : PySem.Heap} {J : PySem.Addr} {ds : List Dat} {i : Nat} (k : KeepSeq X h h') (hJ : ∀ o, h.get? J = some o → h'.get? J = some o) (x : Src X h J ds i) : Src X h' J ds i := by
  cases x with
  | list l vs le n1 n2 it hl r =>
    obtain ⟨o, e, c, m, d⟩ := hl
    obtain ⟨oJ, eJ, rest⟩ := it
    exact .list l vs le n1 n2 ⟨oJ, hJ _ eJ, rest⟩ ⟨o, k _ _ _ _ (fun q => absurd q n2) e d, c, m, d⟩ (r.keep k)
  | range a c n le it e => exact .range a c n le (hJ _ it) e

theorem Src.at {h : PySem.Heap} {J : PySem.Addr} {ds : List Dat} {i : Nat} (x : Src X h J ds i) : ∃ o, h.get? J = some o ∧ (∃ T, o.cls = .type T) ∧ ∃ vs, o.data = .fields vs := by
  cases x with
  | list l vs le n1 n2 it hl r =>
    obtain ⟨o, e, c, d⟩ := it
    exact ⟨o, e, ⟨_, c⟩, _, d⟩
  | range a c n le it e => exact ⟨_, it, ⟨_, rfl⟩, _, rfl⟩

theorem Src.next {J : PySem.Addr} {ds : List Dat} {i : Nat} {A : Around} {s : Shared} {Q : Option Value → Shared → Prop} {E : Value → Shared → Prop} (hh : A.handled = none) (x : Src X s.heap J ds i)
    (item : ∀ v d h' tk, ds[i]? = some d → (∀ b o, b ≠ J → s.heap.get? b = some o → h'.get? b = some o) → Src X h' J ds (i + 1) → Rep X h' v d → Q (some v) { s with heap := h', toks := tk })
    (done : ∀ h', i = ds.length → (∀ b o, b ≠ J → s.heap.get? b = some o → h'.get? b = some o) → Q none { s with heap := h' }) : wpAny (model prog w) A (pyNext (.ref J)) Q E s := by
  cases x with
  | list l vs le n1 n2 it hl r =>
    have hlen := r.length
    by_cases hi : i < ds.length
    · obtain ⟨v, hv, rv⟩ := r.get? (List.getElem?_eq_getElem hi)
      refine wpAny_pyNext_list_item it hl (by simpa using hv) fun h' it' hs => ?_
      have hk : ∀ b o, b ≠ J → s.heap.get? b = some o → h'.get? b = some o := fun b o n e => (hs.2 b n).trans e
      have hq : KeepSeq X s.heap h' := fun b o us m _ e d => by
        obtain ⟨oJ, eJ, _, dJ⟩ := it
        exact hk b o (fun q => by rw [q, eJ] at e; cases e; rw [dJ] at d; cases d) e
      obtain ⟨o, e, c, m, d⟩ := hl
      exact item v _ h' _ (List.getElem?_eq_getElem hi) hk (.list l vs hi n1 n2 it' ⟨o, hk _ _ n1 e, c, m, d⟩ (r.keep hq)) (rv.keep hq)
    · have hx : vs.toArray[i]? = none := by simp; omega
      refine wpAny_pyNext_list_end hh it hl hx fun h' hs => ?_
      exact done h' (by omega) fun b o n e => hs b o n e
  | range a c n le it e =>
    have hlen : ds.length = n := by rw [e]; simp
    by_cases hi : i < n
    · refine wpAny_pyNext_range_item it (by omega) fun h' it' hs => ?_
      have hk : ∀ b o, b ≠ J → s.heap.get? b = some o → h'.get? b = some o := fun b o n e => (hs.2 b n).trans e
      have e1 : a + (i : Int) * c + c = a + ((i + 1 : Nat) : Int) * c := by push_cast; rw [Int.add_mul, Int.one_mul, Int.add_assoc]
      have e2 : (n : Int) - (i : Int) - 1 = (n : Int) - ((i + 1 : Nat) : Int) := by push_cast; omega
      rw [e1, e2] at it'
      exact item _ (.int (a + (i : Int) * c)) h' _ (by rw [e]; simp [hi]) hk (.range a c n hi it' e) (.int _ _)
    · refine wpAny_pyNext_range_end hh it (by omega) fun h' hs => ?_
      exact done h' (by omega) fun b o n e => hs b o n e
end
end Mine

namespace Mine

/-- an object that is no code object -/
def Soft (o : Obj) : Prop := ∀ vs, o.data = .fields vs → ∀ q t, vs[1]? ≠ some (.str q t)
theorem Soft.of_not {o : Obj} (n : ∀ vs, o.data ≠ .fields vs) : Soft o := fun vs e => absurd e (n vs)

section
variable {G : GC} {s₀ s : Shared}
theorem Wd.none_off (W : Wd G s.heap) {a : PySem.Addr} (h : s.heap.get? a = none) : a ∉ G.tps := fun m => by
  obtain ⟨q, hq, rfl⟩ := List.mem_map.mp m
  obtain ⟨ps, hp, _⟩ := W.tab q hq
  rw [hp] at h; cases h
/-- a turn of one object that the stretch has made -/
theorem St.touch (W₀ : Wd G s₀.heap) (T : St G s₀ s) {a : PySem.Addr} {h' : PySem.Heap} {tk : Nat} (h0 : s₀.heap.get? a = none) (so : ∀ o, s.heap.get? a = some o → Soft o)
    (k : ∀ b o, b ≠ a → s.heap.get? b = some o → h'.get? b = some o) : St G s₀ { s with heap := h', toks := tk } := by
  have ne : ∀ b o, s₀.heap.get? b = some o → b ≠ a := fun b o e q => by rw [q, h0] at e; cases e
  refine ⟨T.gens, T.os, fun b o e n => k b o (ne b o e) (T.keep b o e n), fun b o e n => k b o (ne b o (W₀.keep b o e n)) (T.wd.keep b o e n), fun q hq => ?_⟩
  obtain ⟨ps, hp, b, c⟩ := T.wd.tab q hq
  obtain ⟨ps0, hp0, _⟩ := W₀.tab q hq
  refine ⟨ps, k _ _ (ne _ _ hp0) hp, b, fun pos cv e => ?_⟩
  obtain ⟨c', o, vs, t, e1, e2, e3, e4⟩ := c pos cv e
  refine ⟨c', o, vs, t, e1, k _ _ (fun q => ?_) e2, e3, e4⟩
  rw [q] at e2
  exact so o e2 vs e3 _ _ e4
end

section
variable {prog : Program} {w : World} {G : GC} {I : Fam} {k : Nat} {env : Env}

/-! ## what a loop may walk over -/
inductive Walkable (X : List PySem.Addr) (h : PySem.Heap) (v : Value) (ds : List Dat) : Prop
  | list : Rep X h v (.list ds) → Walkable X h v ds
  | range (r : PySem.Addr) (a b c : Int) (n : Nat) (t u v' : Tok) : v = .ref r → IsRange h r a b c t u v' → Builtin.Range.small a b c = true → Builtin.Range.rangeSize a b c = (n : Int) →
      ds = (List.range n).map (fun j : Nat => Dat.int (a + (j : Int) * c)) → Walkable X h v ds

theorem Walkable.iter {X : List PySem.Addr} {v : Value} {ds : List Dat} {A : Around} {s : Shared} {Q : Value → Shared → Prop} {E : Value → Shared → Prop} (x : Walkable X s.heap v ds)
    (h : ∀ o, (∃ T, o.cls = .type T) → Src X (s.heap.push o) s.heap.objs.size ds 0 → (∀ b o', s.heap.get? b = some o' → (s.heap.push o).get? b = some o') → Q (.ref s.heap.objs.size) { s with heap := s.heap.push o }) :
    wpAny (model prog w) A (pyIter v) Q E s := by
  cases x with
  | list r =>
    obtain ⟨l, vs, rfl, n, hl, q⟩ := r.isList
    refine wpAny_pyIter_list hl (h _ ⟨_, rfl⟩ ?_ fun b o e => PySem.Heap.get?_push_of_some _ e)
    obtain ⟨o, e, c, m, d⟩ := hl
    exact .list l vs (Nat.zero_le _) (Nat.ne_of_lt (PySem.Heap.lt_size e)) n ⟨_, PySem.Heap.get?_push_size _ rfl, rfl, rfl⟩ ⟨o, PySem.Heap.get?_push_of_some _ e, c, m, d⟩ (q.keep fun _ _ _ _ _ e _ => PySem.Heap.get?_push_of_some _ e)
  | range r a b c n t u v' e hr hs hz hd =>
    subst e
    refine wpAny_pyIter_range hr hs (h _ ⟨_, rfl⟩ ?_ fun b o e => PySem.Heap.get?_push_of_some _ e)
    refine .range a c n (Nat.zero_le _) ?_ hd
    rw [hz]
    simpa using (PySem.Heap.get?_push_size s.heap rfl : (s.heap.push { cls := .type "range_iterator", data := .fields #[rawInt a, rawInt (n : Int), rawInt c] }).get? s.heap.objs.size = some _)

theorem Src.self {X : List PySem.Addr} {J : PySem.Addr} {ds : List Dat} {i : Nat} {A : Around} {s : Shared} {Q : Value → Shared → Prop} {E : Value → Shared → Prop} (x : Src X s.heap J ds i) (h : Q (.ref J) s) :
    wpAny (model prog w) A (pyIter (.ref J)) Q E s := by
  cases x with
  | list l vs le n1 n2 it hl r => exact wpAny_pyIter_listiter it h
  | range a c n le it e => exact wpAny_pyIter_rangeiter it h
theorem Src.wide {X X' : List PySem.Addr} {h : PySem.Heap} {J : PySem.Addr} {ds : List Dat} {i : Nat} (x : Src X h J ds i) (up : ∀ a ∈ X', a ∈ X ∨ h.get? a = none) : Src X' h J ds i := by
  cases x with
  | list l vs le n1 n2 it hl r =>
    refine .list l vs le n1 (fun m => ?_) it hl (r.mono (fun _ _ _ _ _ e _ => e) up)
    rcases up _ m with m | q
    · exact n2 m
    · obtain ⟨o, e, _⟩ := hl; rw [q] at e; cases e
  | range a c n le it e => exact .range a c n le it e
theorem Src.grow {X : List PySem.Addr} {h : PySem.Heap} {D J : PySem.Addr} {ds : List Dat} {i : Nat} (x : Src X h J ds i) (hD : h.get? D = none) : Src (D :: X) h J ds i :=
  x.wide fun a m => (List.mem_cons.mp m).elim (fun z => .inr (z ▸ hD)) .inl
theorem Src.soft {X : List PySem.Addr} {h : PySem.Heap} {J : PySem.Addr} {ds : List Dat} {i : Nat} (x : Src X h J ds i) : ∀ o, h.get? J = some o → Soft o := by
  intro o e
  cases x with
  | list l vs le n1 n2 it hl r =>
    obtain ⟨o', e', _, d⟩ := it
    rw [e] at e'; cases e'
    intro vs h q t
    rw [d] at h; cases h; simp
  | range a c n le it e' =>
    have it' : h.get? J = some _ := it
    rw [e] at it'; cases it'
    intro vs h q t
    cases h; simp [rawInt]

/-- an expression may be walked over -/
def It (prog : Program) (w : World) (G : GC) (k : Nat) (I : Fam) (env : Env) (e : Expr) (ds : List Dat) : Prop :=
  ∀ X A s, Room k A → I X s → wpAny (model prog w) A (eval e env) (fun v s' => St G s s' ∧ Walkable X s'.heap v ds) No s
theorem It.list {e : Expr} {ds : List Dat} (h : Ev prog w G k I env e (.list ds)) : It prog w G k I env e ds := fun X A s R hI =>
  wpAny_mono (h X A s R hI) (fun v s' q => ⟨q.1, .list q.2⟩) fun _ _ x => x

/-- the integers of a range -/
def rangeD (a c : Int) (n : Nat) : List Dat := (List.range n).map fun j : Nat => Dat.int (a + (j : Int) * c)

theorem It.range (V : InvF G I) (B : Base G) (ok : EnvOk env) {p pos : Pos} {e : Expr} {es : List Expr} {as : List Dat} {ds : List Dat} (b : BName G env "range" (.type "range"))
    (h : EvL prog w G k I env (e :: es) as) (ho : ∀ X A s vs, Room k A → Wd G s.heap → RepAll X s.heap vs as → wpAny (model prog w) A (call (.type "range") vs) (fun v s' => St G s s' ∧ Walkable X s'.heap v ds) No s)
    (he : starEach (e :: es) env = (false, eval e env) :: starEach es env) (hpl : (backTo pos (starEach es env)).any (·.1) = false) :
    It prog w G k I env (.Call (.Name "range" p) (e :: es) [] pos) ds := fun X A s R hI => by
  refine wpAny_Call_NameR (name_builtin B (V.wd _ _ hI) ok b.kind b.miss b.boot b.ne ?_ b.nd)
  refine PyProof.Rows.callWith_type1 (wpAny_mono (h X A s pos R hI) (fun vs s1 h => ?_) fun _ _ x => x) he hpl
  obtain ⟨t1, r1⟩ := h
  have I1 := V.mono _ _ _ hI t1
  exact wpAny_mono (ho X A s1 vs R (V.wd _ _ I1) r1) (fun v s2 h => ⟨t1.trans h.1, h.2⟩) fun _ _ x => x

theorem rangeSize_nat (n : Nat) : Builtin.Range.rangeSize 0 (n : Int) 1 = (n : Int) := by
  rw [rangeSize_one]; split <;> omega
theorem range1_walk {n : Nat} (hn : n < 2 ^ 60) : ∀ X A s vs, Room k A → Wd G s.heap → RepAll X s.heap vs [.int (n : Int)] → wpAny (model prog w) A (call (.type "range") vs) (fun v s' => St G s s' ∧ Walkable X s'.heap v (rangeD 0 1 n)) No s := fun X A s vs R W r => by
  obtain ⟨v, rfl, r'⟩ := one_of r
  cases r' with
  | int _ t =>
    refine call_range_1 ⟨(St.push W _).trans (St.toks (St.push W _).wd), .range _ 0 n 1 n _ _ _ rfl (IsRange.new ..) (small_one (by omega) (by omega) (by omega) (by omega)) (rangeSize_nat n) rfl⟩
theorem range2_walk {a b : Int} {n : Nat} (ha : -(2 ^ 60) ≤ a) (ha' : a < 2 ^ 60) (hb : -(2 ^ 60) ≤ b) (hb' : b < 2 ^ 60) (hn : (n : Int) = if a < b then b - a else 0) :
    ∀ X A s vs, Room k A → Wd G s.heap → RepAll X s.heap vs [.int a, .int b] → wpAny (model prog w) A (call (.type "range") vs) (fun v s' => St G s s' ∧ Walkable X s'.heap v (rangeD a 1 n)) No s := fun X A s vs R W r => by
  obtain ⟨v, u, rfl, r1, r2⟩ := two_of r
  cases r1 with
  | int _ t =>
    cases r2 with
    | int _ t' =>
      refine call_range_2 ⟨(St.push W _).trans (St.toks (St.push W _).wd), .range _ a b 1 n _ _ _ rfl (IsRange.new ..) (small_one (by omega) (by omega) (by omega) (by omega)) (by rw [rangeSize_one, hn]) rfl⟩
theorem range3_walk {a b c : Int} {n : Nat} (hc : c ≠ 0) (hs : Builtin.Range.small a b c = true) (hz : Builtin.Range.rangeSize a b c = (n : Int)) (hp : c.natAbs < 1073741824) :
    ∀ X A s vs, Room k A → Wd G s.heap → RepAll X s.heap vs [.int a, .int b, .int c] → wpAny (model prog w) A (call (.type "range") vs) (fun v s' => St G s s' ∧ Walkable X s'.heap v (rangeD a c n)) No s := fun X A s vs R W r => by
  obtain ⟨v, u, x, rfl, r1, r2, r3⟩ := three_of r
  cases r1 with
  | int _ t =>
    cases r2 with
    | int _ t' =>
      cases r3 with
      | int _ t'' =>
        exact call_range_3 hc ⟨St.push W _, .range _ a b c n _ _ _ rfl (IsRange.new ..) hs hz rfl⟩ (.inl (PyProof.noPylong_small hp))

/-! ## comprehensions -/
/-- the family within a comprehension (or a loop): the target holds the item -/
def With (I : Fam) (env : Env) (x : PySem.Str) (d : Dat) : Fam := fun X s => I X s ∧ ∃ v, HasVar env s.heap x v ∧ Rep X s.heap v d
theorem With.inv (V : InvF G I) {x : PySem.Str} {d : Dat} : InvF G (With I env x d) where
  wd := fun X s h => V.wd X s h.1
  mono := fun X s s' h t => ⟨V.mono _ _ _ h.1 t, let ⟨v, a, b⟩ := h.2; ⟨v, a.st (V.wd _ _ h.1) t, t.rep (V.wd _ _ h.1) b⟩⟩
  low := fun X s h => V.low X s h.1
  wide := fun X X' s s' h t s1 s2 l => ⟨V.wide _ _ _ _ h.1 t s1 s2 l, let ⟨v, p, q⟩ := h.2; ⟨v, p.st (V.wd _ _ h.1) t, t.rep (V.wd _ _ h.1) (q.mono (fun _ _ _ _ _ e _ => e) s2)⟩⟩
theorem With.knows {x : PySem.Str} {d : Dat} : Knows (With I env x d) env x d := fun X s h => h.2
theorem Knows.within {env' : Env} {x y : PySem.Str} {d e : Dat} (h : Knows I env' y e) : Knows (With I env x d) env' y e := fun X s q => h X s q.1

/-- a captured name in the comprehension's frame -/
theorem HasVar.comp {scope : Scope} {cl : List (PySem.Str × PySem.Addr)} {C : PySem.Addr} {h : PySem.Heap} {y : PySem.Str} {v : Value} (q : HasVar env h y v)
    (hf : scope.names.lookup y = some .free) (hl : cl.lookup y = env.cells.lookup y) (ho : env.kindOf y = some .cell ∨ env.kindOf y = some .free) : HasVar (compEnvC scope cl C env) h y v := by
  rcases q with ⟨q, _⟩ | ⟨q, c, l, e⟩
  · rcases ho with ho | ho <;> rw [ho] at q <;> cases q
  · refine .inr ⟨?_, c, hl.trans l, e⟩
    have key : (compEnvC scope cl C env).kindOf y = some .cell ∨ (compEnvC scope cl C env).kindOf y = some .free := by
      show (List.lookup y (scope.names.map _)) = _ ∨ _
      have gen : ∀ l : List (PySem.Str × NameKind), l.lookup y = some .free → (List.lookup y (l.map fun (n, k) => if (k == .free && env.scope.kind == .function && env.kindOf n == some .cell) = true then (n, NameKind.cell) else (n, k))) = some .cell ∨
          (List.lookup y (l.map fun (n, k) => if (k == .free && env.scope.kind == .function && env.kindOf n == some .cell) = true then (n, NameKind.cell) else (n, k))) = some .free := by
        intro l
        induction l with
        | nil => intro e; cases e
        | cons p r ih =>
          obtain ⟨n, k⟩ := p
          intro e
          rw [List.lookup_cons] at e
          simp only [List.map_cons]
          by_cases hb : (y == n) = true
          · rw [hb] at e
            cases e
            split
            · left; rw [List.lookup_cons, hb]
            · right; rw [List.lookup_cons, hb]
          · have hb' : (y == n) = false := by simpa using hb
            rw [hb'] at e
            split <;> (rw [List.lookup_cons, hb']; exact ih e)
      exact gen _ hf
    exact key
theorem Knows.comp {scope : Scope} {cl : List (PySem.Str × PySem.Addr)} {C : PySem.Addr} {y : PySem.Str} {d : Dat} (q : Knows I env y d)
    (hf : scope.names.lookup y = some .free) (hl : cl.lookup y = env.cells.lookup y) (ho : env.kindOf y = some .cell ∨ env.kindOf y = some .free) : Knows I (compEnvC scope cl C env) y d := fun X s h =>
  let ⟨v, a, b⟩ := q X s h; ⟨v, a.comp hf hl ho, b⟩

/-- the tests of a comprehension -/
def Tests (prog : Program) (w : World) (G : GC) (k : Nat) (I : Fam) (env : Env) : List Expr → Bool → Prop
  | [], b => b = true
  | [c], b => Tv prog w G k I env c b
  | _, _ => False
theorem Tests.run (V : InvF G I) {ifs : List Expr} {b : Bool} (h : Tests prog w G k I env ifs b) {X : List PySem.Addr} {A : Around} {s : Shared} (R : Room k A) (hI : I X s) :
    wpAny (model prog w) A (forIn ifs true fun c r => if r = true then do let ok ← PySem.isTrue c env (eval c env); pure (ForInStep.yield ok) else pure (ForInStep.yield r)) (fun r s' => St G s s' ∧ r = b) No s := by
  match ifs, h with
  | [], h => exact wpAny_tests_nil ⟨St.refl (V.wd _ _ hI), h.symm⟩
  | [c], h => exact wpAny_tests_one (h X A s R hI)

structure CompOk (scope : Scope) (env : Env) (cl : List (PySem.Str × PySem.Addr)) (x : PySem.Str) : Prop where
  clos : closureFor scope env = pure cl
  cell : ∀ y ∈ scope.names, y.2 ≠ .cell
  kind : scope.kind = .function
  names : ∀ y ∈ scope.names, y.2 = .local → scope.names.lookup y.1 = some .local
  tgt : scope.names.lookup x = some .local

theorem compEnv_ok (ok : EnvOk env) {scope : Scope} {cl : List (PySem.Str × PySem.Addr)} {C : PySem.Addr} (hk : scope.kind = .function) : EnvOk (compEnvC scope cl C env) := ⟨hk, ok.globals, ok.builtins⟩

theorem comp_core (V : InvF G I) {elt iter : Expr} {x : PySem.Str} {px : Pos} {ifs : List Expr} {scope : Scope} {cl : List (PySem.Str × PySem.Addr)} {pos : Pos} (c : CompOk scope env cl x)
    {ds : List Dat} (hz : ds.length ≤ sizeLine) (p : Dat → Bool) (f : Dat → Dat)
    (htests : ∀ d ∈ ds, ∀ C, Tests prog w G k (With I (compEnvC scope cl C env) x d) (compEnvC scope cl C env) ifs (p d))
    (helt : ∀ d ∈ ds, p d = true → ∀ C, Ev prog w G k (With I (compEnvC scope cl C env) x d) (compEnvC scope cl C env) elt (f d))
    {X : List PySem.Addr} {A : Around} {s₁ s₂ : Shared} {J : PySem.Addr} (R : Room k A) (h1 : I X s₁) (t2 : St G s₁ s₂) (hJ : s₁.heap.get? J = none) (hs : Src X s₂.heap J ds 0) {RR : Value → PySem.Addr → Result → Shared → Prop}
    (hRR : ∀ D C s' m ys, St G s₁ s' → s₁.heap.get? D = none → s₁.heap.get? C = none → D ≠ C → s'.heap.Ns C m → IsL0 s'.heap D ys.toArray → RepAll (D :: X) s'.heap ys ((ds.filter p).map f) → RR (.ref D) C (.ok .next) s') :
    wpAny (model prog w) A (newList []) (fun acc s₃ => wpAny (model prog w) A (newFunctionEnv scope env.globals cl [] env.qual none .none (some env)) (fun cenv s₄ =>
      codeAny (model prog w) A (.compStart (.ListComp elt [⟨.Name x px, iter, ifs, 0⟩] scope pos) 0 (.ref J) acc { cenv with scope := relabel scope env }) (RR acc cenv.locals) s₄) No s₃) No s₂ := by
  have W1 := V.wd _ _ h1
  have h2 := V.mono _ _ _ h1 t2
  have W2 := V.wd _ _ h2
  refine wpAny_newObj_type (wpAny_newFunctionEnv c.cell (by intro y hy; simp at hy) (fun h₁ hns₁ hsb₁ => ?_) c.kind)
  dsimp only at hns₁ hsb₁ ⊢
  have hD2 := new_none s₂.heap
  have hD1 : s₁.heap.get? s₂.heap.objs.size = none := by
    cases e : s₁.heap.get? s₂.heap.objs.size with
    | none => rfl
    | some o => rw [t2.keep _ _ e (W2.none_off hD2)] at hD2; cases hD2
  generalize hH3 : s₂.heap.push { cls := .type "list", dict := none, data := .seq ([] : List Value).toArray } = H3 at hns₁ hsb₁ ⊢
  have t3 : St G s₁ { s₂ with heap := H3 } := hH3 ▸ t2.trans (St.push W2 _)
  have W3 := t3.wd
  have hC3 := new_none H3
  have hC1 : s₁.heap.get? H3.objs.size = none := by
    cases e : s₁.heap.get? H3.objs.size with
    | none => rfl
    | some o => rw [t3.keep _ _ e (W3.none_off hC3)] at hC3; cases hC3
  have hDC : s₂.heap.objs.size ≠ H3.objs.size := by rw [← hH3, PySem.Heap.size_push]; exact Nat.ne_of_lt (Nat.lt_succ_self _)
  have t4 : St G { s₂ with heap := H3 } { s₂ with heap := h₁, toks := s₂.toks + ([] : List (PySem.Str × Value)).length } :=
    St.of_keeps (s := { s₂ with heap := H3 }) W3 fun b o e => hsb₁.extBut b o (Nat.ne_of_lt (PySem.Heap.lt_size e)) (PySem.Heap.get?_push_of_some _ e)
  generalize hb : ({ s₂ with heap := h₁, toks := s₂.toks + ([] : List (PySem.Str × Value)).length } : Shared) = b at t4 ⊢
  have hbh : b.heap = h₁ := by rw [← hb]
  have tb := t3.trans t4
  have keep3 : ∀ x o, H3.get? x = some o → b.heap.get? x = some o := fun x o e => hbh ▸ hsb₁.extBut x o (Nat.ne_of_lt (PySem.Heap.lt_size e)) (PySem.Heap.get?_push_of_some _ e)
  have keep2 : ∀ x o, s₂.heap.get? x = some o → b.heap.get? x = some o := fun x o e => keep3 x o (hH3 ▸ PySem.Heap.get?_push_of_some _ e)
  have hDb : b.heap.get? s₂.heap.objs.size = some { cls := .type "list", dict := none, data := .seq ([] : List Value).toArray } := keep3 _ _ (hH3 ▸ PySem.Heap.get?_push_size _ rfl)
  have hJD : J ≠ s₂.heap.objs.size := fun q => by obtain ⟨o, e, _⟩ := hs.at; rw [q, hD2] at e; cases e
  have hJC : J ≠ H3.objs.size := fun q => by obtain ⟨o, e, _⟩ := hs.at; rw [q] at e; have e3 : H3.get? H3.objs.size = some o := hH3 ▸ PySem.Heap.get?_push_of_some _ (hH3 ▸ e); rw [e3] at hC3; cases hC3
  generalize hDd : s₂.heap.objs.size = D at hD2 hD1 hDC hDb hJD ⊢
  generalize hCc : H3.objs.size = C at hns₁ hC3 hC1 hDC hJC ⊢
  have hs0 : Src (D :: X) b.heap J ds 0 := (hs.grow hD2).keep (fun x o _ _ _ e _ => keep2 x o e) fun o e => keep2 _ o e
  have loop : codeAny (model prog w) A (.compLoop (.ListComp elt [⟨.Name x px, iter, ifs, 0⟩] scope pos) 0 (.ref J) (.ref D) (compEnvC scope cl C env)) (RR (.ref D) C) b := by
    refine codeAny_compLoop_tests (fun n s' => ∃ i ys m e, n = ds.length + 1 - i ∧ i ≤ ds.length ∧ St G s₁ s' ∧ Src (D :: X) s'.heap J ds i ∧ s'.heap.get? D = some (seqObj "list" (List.toArray ys) e) ∧
      RepAll (D :: X) s'.heap ys (((ds.take i).filter p).map f) ∧ s'.heap.Ns C m) ?_ (ds.length + 1) ⟨0, [], _, 0, rfl, Nat.zero_le _, tb, hs0, hDb, by simpa using RepAll.nil, hbh ▸ hns₁⟩
    rintro n s' ⟨i, ys, m, e, rfl, hi, T, S, hD', hys, hC'⟩
    refine no_elim (S.next (Q := fun r s'' => _) R.handled (fun v d h' tk hd hk S' rv => ?_) fun h' hlen hk => ?_) fun a s' x => x
    · -- an item
      have hm : d ∈ ds := List.mem_of_getElem? hd
      have hlt : i < ds.length := (List.getElem?_eq_some_iff.mp hd).1
      have T5 : St G s₁ { s' with heap := h', toks := tk } := T.touch W1 hJ S.soft hk
      have hD5 : h'.get? D = some (seqObj "list" (List.toArray ys) e) := hk _ _ (Ne.symm hJD) hD'
      have hC5 : h'.Ns C m := let ⟨o, es, ep, e1, e2, r⟩ := hC'; ⟨o, es, ep, hk _ _ (Ne.symm hJC) e1, e2, r⟩
      have ksJ : KeepSeq (D :: X) s'.heap h' := fun b o vs n _ e d => hk b o (fun q => by
        obtain ⟨o', e', _, vs', d'⟩ := S.at
        rw [q, e'] at e; cases e; rw [d'] at d; cases d) e
      have hys5 := hys.keep ksJ
      refine no_elim (wpAny_assign_Name (wpAny_storeName_local (Q := fun _ s'' => ∃ h6 tk6, s'' = { s' with heap := h6, toks := tk6 } ∧ (h6.Ns C fun z => if z = x then some v else m z) ∧ PySem.Heap.SameBut C h' h6) (lookup_relabel_local c.tgt) hC5 (fun h6 hn6 hs6 => ⟨h6, _, rfl, hn6, hs6⟩)
        (by show (scope.kind == .class || (scope.kind == .module && _)) = false; rw [c.kind]; rfl))) fun _ s6 q => ?_
      obtain ⟨h6, tk6, rfl, hn6, hs6⟩ := q
      have hCsoft : ∀ o, h'.get? C = some o → Soft o := fun o e => .of_not fun vs q => by
        obtain ⟨o', es, ep, e1, e2, _⟩ := hC5
        rw [e] at e1; cases e1; rw [q] at e2; cases e2
      have k6 : ∀ b o, b ≠ C → h'.get? b = some o → h6.get? b = some o := fun b o n e => (hs6.2 b n).trans e
      have T6 : St G s₁ { s' with heap := h6, toks := tk6 } := T5.touch (tk := tk6) W1 hC1 hCsoft k6
      have ksC : KeepSeq (D :: X) h' h6 := fun b o vs n _ e d => k6 b o (fun q => by
        obtain ⟨o', es, ep, e1, e2, _⟩ := hC5
        rw [q, e1] at e; cases e; rw [e2] at d; cases d) e
      have hD6 : h6.get? D = some (seqObj "list" (List.toArray ys) e) := k6 _ _ hDC hD5
      have S6 : Src (D :: X) h6 J ds (i + 1) := S'.keep ksC fun o e => k6 _ _ hJC e
      have I6 : I (D :: X) { s' with heap := h6, toks := tk6 } := V.grow _ _ _ _ h1 T6 hD1 ⟨_, hD6, fun vs q => by cases q⟩
      have F6 : With I (compEnvC scope cl C env) x d (D :: X) { s' with heap := h6, toks := tk6 } := ⟨I6, v, .inl ⟨lookup_relabel_local c.tgt, _, hn6, by simp⟩, rv.keep ksC⟩
      refine no_elim ((htests d hm C).run (With.inv V) R F6) fun ok s7 q => ?_
      obtain ⟨t7, rfl⟩ := q
      have F7 := (With.inv V).mono _ _ _ F6 t7
      have W6 : Wd G h6 := T6.wd
      have offD : D ∉ G.tps := W1.none_off hD1
      have offJ : J ∉ G.tps := W1.none_off hJ
      have S7 : Src (D :: X) s7.heap J ds (i + 1) := S6.keep (t7.keepSeq _ W6) fun o e => t7.keep _ _ e offJ
      have hD7 := t7.keep _ _ hD6 offD
      have hys7 := t7.repAll W6 (hys5.keep ksC)
      have hn7 := t7.ns W6 hn6
      have hfil : (ds.take (i + 1)).filter p = (ds.take i).filter p ++ (if p d then [d] else []) := take_succ_filter p ds i d hd
      cases hpd : p d with
      | false =>
        simp only [Bool.false_eq_true, if_false]
        refine ⟨ds.length + 1 - (i + 1), by omega, i + 1, ys, _, e, rfl, hlt, T6.trans t7, S7, hD7, ?_, hn7⟩
        rw [hfil, hpd]; simpa using hys7
      | true =>
        simp only [if_true]
        refine no_elim (helt d hm hpd C _ A s7 R F7) fun y s8 q => ?_
        obtain ⟨t8, r8⟩ := q
        have W7 := t7.wd
        have S8 : Src (D :: X) s8.heap J ds (i + 1) := S7.keep (t8.keepSeq _ W7) fun o e => t8.keep _ _ e offJ
        have hD8 := t8.keep _ _ hD7 offD
        have hys8 := t8.repAll W7 hys7
        have hn8 := t8.ns W7 hn7
        have hlen := hys8.length
        have hle : ys.length ≤ sizeLine := by
          rw [hlen, List.length_map]
          refine Nat.le_trans (List.length_filter_le _ _) ?_
          rw [List.length_take]
          omega
        refine wpAny_list_append_plain (hsz := by simpa using hle) ⟨e, hD8⟩ fun h9 hl9 hs9 => ?_
        obtain ⟨e9, hD9⟩ := hl9
        have k9 : ∀ b o, b ≠ D → s8.heap.get? b = some o → h9.get? b = some o := fun b o n e => (hs9.2 b n).trans e
        have T9 : St G s₁ { s8 with heap := h9 } := ((T6.trans t7).trans t8).touch (tk := s8.toks) W1 hD1 (fun o e => .of_not (fun vs z => by rw [hD8] at e; cases e; cases z)) k9
        have ksD : KeepSeq (D :: X) s8.heap h9 := fun b o vs n hx e d => k9 b o (fun q => by
          have := hx (q ▸ .head _)
          rw [q, hD8] at e; cases e; exact absurd this (show ¬ (Value.type "list" = Value.type "tuple") by decide)) e
        refine ⟨ds.length + 1 - (i + 1), by omega, i + 1, ys ++ [y], _, e9, rfl, hlt, T9, S8.keep ksD (fun o e => k9 _ _ hJD e), ?_, ?_, let ⟨o, es, ep, e1, e2, r⟩ := hn8; ⟨o, es, ep, k9 _ _ (Ne.symm hDC) e1, e2, r⟩⟩
        · show h9.get? D = _
          rw [hD9]; simp
        · rw [hfil, hpd]
          simpa using (hys8.keep ksD).append (RepAll.one (r8.keep ksD))
    · -- the end
      have T5 : St G s₁ { s' with heap := h', toks := s'.toks } := T.touch W1 hJ S.soft hk
      have ksJ : KeepSeq (D :: X) s'.heap h' := fun b o vs n _ e d => hk b o (fun q => by
        obtain ⟨o', e', _, vs', d'⟩ := S.at
        rw [q, e'] at e; cases e; rw [d'] at d; cases d) e
      refine hRR D C _ m ys T5 hD1 hC1 hDC (let ⟨o, es, ep, e1, e2, r⟩ := hC'; ⟨o, es, ep, hk _ _ (Ne.symm hJC) e1, e2, r⟩) ⟨_, hk _ _ (Ne.symm hJD) hD', rfl, _, rfl, rfl⟩ ?_
      have := hys.keep ksJ
      rwa [hlen, List.take_length] at this
  exact codeAny_compStart_list loop (hs0.self loop)
end
end Mine

namespace Mine
section
variable {prog : Program} {w : World} {G : GC} {I : Fam} {k : Nat} {env : Env}

theorem Ev.comp (V : InvF G I) {elt iter : Expr} {x : PySem.Str} {px : Pos} {ifs : List Expr} {scope : Scope} {cl : List (PySem.Str × PySem.Addr)} {pos : Pos} (c : CompOk scope env cl x)
    {ds : List Dat} (hiter : It prog w G k I env iter ds) (hz : ds.length ≤ sizeLine) (p : Dat → Bool) (f : Dat → Dat)
    (htests : ∀ d ∈ ds, ∀ C, Tests prog w G k (With I (compEnvC scope cl C env) x d) (compEnvC scope cl C env) ifs (p d))
    (helt : ∀ d ∈ ds, p d = true → ∀ C, Ev prog w G k (With I (compEnvC scope cl C env) x d) (compEnvC scope cl C env) elt (f d))
    (hs : ∀ x, foldedSetIterable iter env x = pure x) : Ev prog w G k I env (.ListComp elt [⟨.Name x px, iter, ifs, 0⟩] scope pos) (.list ((ds.filter p).map f)) := fun X A s R hI => by
  rw [eval_ListComp]
  refine wpAny_comprehension_free (use := none) rfl hs c.clos c.kind c.names (wpAny_mono (hiter X A s R hI) (fun xv s1 h => ?_) fun _ _ e => e)
  obtain ⟨t1, wk⟩ := h
  have I1 := V.mono _ _ _ hI t1
  refine wk.iter fun o ho src hk => ?_
  refine comp_core V c hz p f htests helt R I1 (St.of_keeps (tk := s1.toks) (V.wd _ _ I1) hk) (new_none _) src (RR := fun acc C => compPost (model prog w) A No none (fun v s' => St G s s' ∧ Rep X s'.heap v (.list ((ds.filter p).map f))) acc C) ?_
  intro D C s' m ys T hD hC hDC hn hl hr
  refine ⟨m, hn, fun h'' hs'' => ?_⟩
  have k'' : ∀ b o, b ≠ C → s'.heap.get? b = some o → h''.get? b = some o := fun b o n e => (hs''.2 b n).trans e
  have ksC : KeepSeq (D :: X) s'.heap h'' := fun b o vs n _ e d => k'' b o (fun q => by
    obtain ⟨o', es, ep, e1, e2, _⟩ := hn
    rw [q, e1] at e; cases e; rw [e2] at d; cases d) e
  have hDX : D ∉ X := (V.low _ _ I1).new hD
  refine ⟨t1.trans (T.touch (tk := s'.toks) (V.wd _ _ I1) hC (fun o e => .of_not fun vs z => by
    obtain ⟨o', es, ep, e1, e2, _⟩ := hn
    rw [e] at e1; cases e1; rw [e2] at z; cases z) k''), .listOf hDX ?_ ((hr.keep ksC).less fun a m => .tail _ m)⟩
  obtain ⟨o, e, c, n, d⟩ := hl
  exact ⟨o, k'' _ _ hDC e, c, n, d⟩

/-! ## frames -/
/-- what stands of a frame from its making on -/
structure FrS (G : GC) (s₀ : Shared) (X₀ : List PySem.Addr) (env : Env) : Prop where
  ok : EnvOk env
  wd0 : Wd G s₀.heap
  low0 : Low X₀ s₀.heap
  locN : s₀.heap.get? env.locals = none
  cellN : ∀ x c, env.kindOf x = some .cell → env.cells.lookup x = some c → s₀.heap.get? c = none
  inj : ∀ x y c, env.kindOf x = some .cell → env.cells.lookup x = some c → env.cells.lookup y = some c → x = y

abbrev Its := List (PySem.Addr × List Dat × Nat)

/-- the frame's state: known data, known values, lists that grow, iterators under way -/
structure FI (G : GC) (s₀ : Shared) (X₀ : List PySem.Addr) (env : Env) (σ : List (PySem.Str × Dat)) (τ : List (PySem.Str × Value)) (own : List (PySem.Str × List Dat)) (its : Its) (X : List PySem.Addr) (s : Shared) : Prop where
  st : St G s₀ s
  low : Low X s.heap
  sub : ∀ a ∈ X₀, a ∈ X
  sup : ∀ a ∈ X, a ∈ X₀ ∨ s₀.heap.get? a = none
  loc : ∃ m, s.heap.Ns env.locals m
  cells : ∀ x, env.kindOf x = some .cell → ∃ c v, env.cells.lookup x = some c ∧ s.heap.IsCell c v
  vars : ∀ p ∈ σ, ∃ v, HasVar env s.heap p.1 v ∧ Rep X s.heap v p.2
  vals : ∀ p ∈ τ, HasVar env s.heap p.1 p.2
  ownI : ∀ q ∈ own, ∃ a vs n, HasVar env s.heap q.1 (.ref a) ∧ a ∈ X ∧ s₀.heap.get? a = none ∧ s.heap.get? a = some (seqObj "list" (List.toArray vs) n) ∧ RepAll X s.heap vs q.2
  ownD : ∀ q ∈ own, ∀ q' ∈ own, q.1 ≠ q'.1 → ∀ a, HasVar env s.heap q.1 (.ref a) → ¬ HasVar env s.heap q'.1 (.ref a)
  itsI : ∀ q ∈ its, s₀.heap.get? q.1 = none ∧ Src X s.heap q.1 q.2.1 q.2.2
  itsD : its.Pairwise fun a b => a.1 ≠ b.1

theorem HasVar.fun {env : Env} {h : PySem.Heap} {x : PySem.Str} {v u : Value} (a : HasVar env h x v) (b : HasVar env h x u) : v = u := by
  rcases a with ⟨k1, m, n, e⟩ | ⟨k1, c, l, e⟩ <;> rcases b with ⟨k2, m', n', e'⟩ | ⟨k2, c', l', e'⟩
  · obtain ⟨o, es, ep, h1, h2, _, h3⟩ := n
    obtain ⟨o', es', ep', h1', h2', _, h3'⟩ := n'
    rw [h1] at h1'; cases h1'
    rw [h2] at h2'; cases h2'
    rw [← h3 x, h3' x, e'] at e
    exact (Option.some.inj e).symm
  · rw [k1] at k2; rcases k2 with k2 | k2 <;> cases k2
  · rw [k2] at k1; rcases k1 with k1 | k1 <;> cases k1
  · rw [l] at l'; cases l'
    obtain ⟨o, h1, h2⟩ := e
    obtain ⟨o', h1', h2'⟩ := e'
    rw [h1] at h1'; cases h1'
    rw [h2] at h2'; cases h2'; rfl

theorem HasVar.back {s s' : Shared} {x : PySem.Str} {v u : Value} (W : Wd G s.heap) (t : St G s s') (a : HasVar env s.heap x u) (b : HasVar env s'.heap x v) : v = u := b.fun (a.st W t)

section
variable {s₀ : Shared} {X₀ : List PySem.Addr} {σ : List (PySem.Str × Dat)} {τ : List (PySem.Str × Value)} {own : List (PySem.Str × List Dat)} {its : Its}

theorem FI.next {X : List PySem.Addr} {s s' : Shared} (W₀ : Wd G s₀.heap) (f : FI G s₀ X₀ env σ τ own its X s) (t : St G s s') : FI G s₀ X₀ env σ τ own its X s' where
  st := f.st.trans t
  low := f.low.st f.st.wd t
  sub := f.sub
  sup := f.sup
  loc := let ⟨m, n⟩ := f.loc; ⟨m, t.ns f.st.wd n⟩
  cells := fun x h => let ⟨c, v, a, b⟩ := f.cells x h; ⟨c, v, a, t.cell f.st.wd b⟩
  vars := fun p hp => let ⟨v, a, b⟩ := f.vars p hp; ⟨v, a.st f.st.wd t, t.rep f.st.wd b⟩
  vals := fun p hp => (f.vals p hp).st f.st.wd t
  ownI := fun q hq => let ⟨a, vs, n, h1, h2, h3, h4, h5⟩ := f.ownI q hq; ⟨a, vs, n, h1.st f.st.wd t, h2, h3, t.keep _ _ h4 (f.st.wd.seqOff h4 fun _ z => by cases z), t.repAll f.st.wd h5⟩
  ownD := fun q hq q' hq' n a h h' => by
    obtain ⟨b, _, _, h1, _⟩ := f.ownI q hq
    obtain ⟨b', _, _, h1', _⟩ := f.ownI q' hq'
    have e1 := h1.back f.st.wd t h
    have e2 := h1'.back f.st.wd t h'
    rw [← e1] at h1
    rw [← e2] at h1'
    exact f.ownD q hq q' hq' n a h1 h1'
  itsI := fun q hq => let ⟨a, b⟩ := f.itsI q hq; ⟨a, b.keep (t.keepSeq _ f.st.wd) fun o e => t.keep _ _ e (W₀.none_off a)⟩
  itsD := f.itsD

theorem FI.inv (F : FrS G s₀ X₀ env) : InvF G (FI G s₀ X₀ env σ τ own its) where
  wd := fun X s f => f.st.wd
  mono := fun X s s' f t => f.next F.wd0 t
  low := fun X s f => f.low
  wide := fun X X' s s' f t s1 up l => by
    have g := f.next F.wd0 t
    have keepD : KeepSeq X s.heap s.heap := fun _ _ _ _ _ e _ => e
    exact {
      st := g.st
      low := l
      sub := fun b m => s1 b (g.sub b m)
      sup := fun b m => by
        rcases up b m with m | n
        · exact f.sup b m
        · right
          cases e : s₀.heap.get? b with
          | none => rfl
          | some o =>
            have := f.st.keep _ _ e (f.st.wd.none_off n)
            rw [n] at this; cases this
      loc := g.loc
      cells := g.cells
      vars := fun p hp => let ⟨v, h1, h2⟩ := f.vars p hp; ⟨v, h1.st f.st.wd t, t.rep f.st.wd (h2.mono keepD up)⟩
      vals := g.vals
      ownI := fun q hq => let ⟨b, vs, m, h1, h2, h3, h4, h5⟩ := f.ownI q hq; ⟨b, vs, m, h1.st f.st.wd t, s1 _ h2, h3, t.keep _ _ h4 (f.st.wd.seqOff h4 fun _ z => by cases z), t.repAll f.st.wd (h5.mono keepD up)⟩
      ownD := g.ownD
      itsI := fun q hq => let ⟨h1, h2⟩ := f.itsI q hq; ⟨h1, (h2.wide up).keep (t.keepSeq _ f.st.wd) fun o e => t.keep _ _ e (F.wd0.none_off h1)⟩
      itsD := f.itsD }

theorem FI.knows {x : PySem.Str} {d : Dat} (h : (x, d) ∈ σ) : Knows (FI G s₀ X₀ env σ τ own its) env x d := fun X s f => f.vars _ h

/-- fewer things known -/
theorem FI.weaken {σ' : List (PySem.Str × Dat)} {τ' : List (PySem.Str × Value)} {own' : List (PySem.Str × List Dat)} {its' : Its} {X : List PySem.Addr} {s : Shared} (f : FI G s₀ X₀ env σ τ own its X s)
    (h1 : ∀ p ∈ σ', p ∈ σ) (h2 : ∀ p ∈ τ', p ∈ τ) (h3 : ∀ p ∈ own', p ∈ own) (h4 : its'.Sublist its) : FI G s₀ X₀ env σ' τ' own' its' X s :=
  ⟨f.st, f.low, f.sub, f.sup, f.loc, f.cells, fun p hp => f.vars p (h1 p hp), fun p hp => f.vals p (h2 p hp), fun q hq => f.ownI q (h3 q hq), fun q hq q' hq' => f.ownD q (h3 q hq) q' (h3 q' hq'), fun q hq => f.itsI q (h4.subset hq), f.itsD.sublist h4⟩

/-- a variable stored -/
theorem FI.store (F : FrS G s₀ X₀ env) {A : Around} {X : List PySem.Addr} {s : Shared} (f : FI G s₀ X₀ env σ τ own its X s) {x : PySem.Str} {v : Value} (hx : env.kindOf x = some .local ∨ env.kindOf x = some .cell)
    (hown : ∀ q ∈ own, q.1 ≠ x) {E : Value → Shared → Prop} {Q : Unit → Shared → Prop}
    (h : ∀ h' tk, HasVar env h' x v → (∀ y u, y ≠ x → HasVar env s.heap y u → HasVar env h' y u) → KeepSeq [] s.heap h' → (∀ b o, b ≠ env.locals → (∀ v, o.data ≠ .cell v) → s.heap.get? b = some o → h'.get? b = some o) →
      (∀ σ' τ', (∀ p ∈ σ', (p.1 = x ∧ Rep X s.heap v p.2) ∨ (p ∈ σ ∧ p.1 ≠ x)) → (∀ p ∈ τ', (p.1 = x ∧ p.2 = v) ∨ (p ∈ τ ∧ p.1 ≠ x)) → FI G s₀ X₀ env σ' τ' own its X { s with heap := h', toks := tk }) → Q () { s with heap := h', toks := tk }) :
    wpAny (model prog w) A (storeName env x v) Q E s := by
  have hk := F.ok.kind
  -- what both ways share
  have fin : ∀ (a : PySem.Addr) (h' : PySem.Heap) (tk : Nat), s₀.heap.get? a = none → (∃ o, s.heap.get? a = some o ∧ (∀ vs n, o.data ≠ .seq vs n) ∧ (∀ vs, o.data ≠ .fields vs) ∧ (a = env.locals ∨ ∃ v, o.data = .cell v)) → PySem.Heap.SameBut a s.heap h' → (∃ o', h'.get? a = some o' ∧ ∀ vs, o'.data ≠ .fields vs) → HasVar env h' x v →
      (∀ y u, y ≠ x → HasVar env s.heap y u → HasVar env h' y u) → (∃ m, h'.Ns env.locals m) → (∀ x, env.kindOf x = some .cell → ∃ c v, env.cells.lookup x = some c ∧ h'.IsCell c v) → Q () { s with heap := h', toks := tk } := by
    intro a h' tk ha0 ⟨o, ho, hseq, hfld, hwhich⟩ hs hoa hv hy hloc hcells
    have kk : ∀ b o, b ≠ a → s.heap.get? b = some o → h'.get? b = some o := fun b o n e => (hs.2 b n).trans e
    have ks0 : KeepSeq [] s.heap h' := fun b o' vs n _ e d => kk b o' (fun q => by rw [q, ho] at e; cases e; exact hseq _ _ d) e
    have ks : KeepSeq X s.heap h' := fun b o vs n _ e d => ks0 b o vs n (fun m => nomatch m) e d
    refine h h' tk hv hy ks0 (fun b o' n1 n2 e => kk b o' (fun z => by
      rcases hwhich with q | ⟨v, q⟩
      · exact n1 (z.trans q)
      · rw [z, ho] at e; cases e; exact n2 _ q) e) fun σ' τ' hσ hτ => ?_
    have T : St G s₀ { s with heap := h', toks := tk } := f.st.touch F.wd0 ha0 (fun o' e => .of_not fun vs z => by rw [ho] at e; cases e; exact hfld _ z) kk
    exact {
      st := T
      low := fun b m => by
        obtain ⟨ob, e, n⟩ := f.low b m
        by_cases hb : b = a
        · exact hb ▸ hoa
        · exact ⟨ob, kk b ob hb e, n⟩
      sub := f.sub
      sup := f.sup
      loc := hloc
      cells := hcells
      vars := fun p hp => by
        rcases hσ p hp with ⟨e, r⟩ | ⟨m, n⟩
        · exact ⟨v, e ▸ hv, r.keep ks⟩
        · obtain ⟨u, h1, h2⟩ := f.vars p m
          exact ⟨u, hy _ _ n h1, h2.keep ks⟩
      vals := fun p hp => by
        rcases hτ p hp with ⟨e, r⟩ | ⟨m, n⟩
        · rw [e, r]; exact hv
        · exact hy _ _ n (f.vals p m)
      ownI := fun q hq => by
        obtain ⟨b, vs, m, h1, h2, h3, h4, h5⟩ := f.ownI q hq
        exact ⟨b, vs, m, hy _ _ (hown q hq) h1, h2, h3, kk _ _ (fun z => by rw [z, ho] at h4; cases h4; exact hseq _ _ rfl) h4, h5.keep ks⟩
      ownD := fun q hq q' hq' n b h1 h2 => by
        obtain ⟨c, _, _, g1, _⟩ := f.ownI q hq
        obtain ⟨c', _, _, g1', _⟩ := f.ownI q' hq'
        have e1 := h1.fun (hy _ _ (hown q hq) g1)
        have e2 := h2.fun (hy _ _ (hown q' hq') g1')
        rw [← e1] at g1
        rw [← e2] at g1'
        exact f.ownD q hq q' hq' n b g1 g1'
      itsI := fun q hq => by
        obtain ⟨h1, h2⟩ := f.itsI q hq
        refine ⟨h1, h2.keep ks fun o' e => kk _ _ (fun z => ?_) e⟩
        obtain ⟨o2, e2, _, vs, d⟩ := h2.at
        rw [z, ho] at e2; cases e2; exact hfld _ d
      itsD := f.itsD }
  obtain ⟨m, hm⟩ := f.loc
  rcases hx with hx | hx
  · refine wpAny_storeName_local hx hm (fun h' hn' hs' => ?_) (by rw [hk]; rfl)
    obtain ⟨o, es, ep, e1, e2, _⟩ := id hm
    obtain ⟨o', es', ep', e1', e2', _⟩ := id hn'
    have cellNe : ∀ c v, s.heap.IsCell c v → c ≠ env.locals := fun c v ⟨oc, h1, h2⟩ z => by rw [z, e1] at h1; cases h1; rw [e2] at h2; cases h2
    refine fin env.locals h' _ F.locN ⟨o, e1, (fun _ _ z => by rw [e2] at z; cases z), (fun _ z => by rw [e2] at z; cases z), .inl rfl⟩ hs' ⟨o', e1', (fun _ z => by rw [e2'] at z; cases z)⟩ (.inl ⟨hx, _, hn', by simp⟩) ?_ ⟨_, hn'⟩ ?_
    · intro y u hne hv
      rcases hv with ⟨k1, m1, n1, e⟩ | ⟨k1, c, l, e⟩
      · refine .inl ⟨k1, _, hn', ?_⟩
        rw [if_neg hne]
        have : m y = m1 y := by
          obtain ⟨oa, ea, pa, ha1, ha2, _, ha3⟩ := n1
          obtain ⟨ob, eb, pb, hb1, hb2, _, hb3⟩ := hm
          rw [ha1] at hb1; cases hb1
          rw [ha2] at hb2; cases hb2
          rw [← ha3, ← hb3]
        rw [this]; exact e
      · exact .inr ⟨k1, c, l, e.sameBut hs' (cellNe c _ e)⟩
    · intro y hy
      obtain ⟨c, v', l, e⟩ := f.cells y hy
      exact ⟨c, v', l, e.sameBut hs' (cellNe c _ e)⟩
  · obtain ⟨c, v₀, l, e⟩ := f.cells x hx
    refine wpAny_storeName_cell hk hx l e fun h' hc' hs' => ?_
    obtain ⟨oc, h1, h2⟩ := id e
    obtain ⟨oc', h1', h2'⟩ := id hc'
    obtain ⟨o, es, ep, e1, e2, _⟩ := id hm
    have hLc : env.locals ≠ c := fun z => by rw [← z, e1] at h1; cases h1; rw [e2] at h2; cases h2
    refine fin c h' s.toks (F.cellN x c hx l) ⟨oc, h1, (fun _ _ z => by rw [h2] at z; cases z), (fun _ z => by rw [h2] at z; cases z), .inr ⟨_, h2⟩⟩ hs' ⟨oc', h1', (fun _ z => by rw [h2'] at z; cases z)⟩ (.inr ⟨.inl hx, c, l, hc'⟩) ?_ ⟨_, hm.sameBut hs' hLc⟩ ?_
    · intro y u hne hv
      rcases hv with ⟨k1, m1, n1, e'⟩ | ⟨k1, c', l', e'⟩
      · exact .inl ⟨k1, m1, n1.sameBut hs' hLc, e'⟩
      · refine .inr ⟨k1, c', l', e'.sameBut hs' fun z => hne ?_⟩
        exact (F.inj x y c hx l (z ▸ l')).symm
    · intro y hy
      obtain ⟨c', v', l', e'⟩ := f.cells y hy
      by_cases hcc : c' = c
      · exact ⟨c', some v, l', hcc ▸ hc'⟩
      · exact ⟨c', v', l', e'.sameBut hs' hcc⟩
end
end
end Mine

namespace Mine
section
variable {prog : Program} {w : World} {G : GC} {I J K : Fam} {k : Nat} {env : Env} {s₀ : Shared} {X₀ : List PySem.Addr}

/-! ## statements -/
def DoS (prog : Program) (w : World) (k : Nat) (I J : Fam) (env : Env) (st : Stmt) : Prop :=
  ∀ X A s, Room k A → I X s → wpAny (model prog w) A (exec st env) (fun f s' => f = .next ∧ ∃ X', J X' s') No s
def DoL (prog : Program) (w : World) (k : Nat) (I J : Fam) (env : Env) (ss : List Stmt) : Prop :=
  ∀ X A s, Room k A → I X s → wpAny (model prog w) A (execs ss env) (fun f s' => f = .next ∧ ∃ X', J X' s') No s
def RtL (prog : Program) (w : World) (G : GC) (k : Nat) (s₀ : Shared) (X₀ : List PySem.Addr) (I : Fam) (env : Env) (ss : List Stmt) (d : Dat) : Prop :=
  ∀ X A s, Room k A → I X s → wpAny (model prog w) A (execs ss env) (fun f s' => ∃ v, f = .ret v ∧ St G s₀ s' ∧ Rep X₀ s'.heap v d) No s

/-- one state told as another -/
def Imp (I J : Fam) : Prop := ∀ X s, I X s → ∃ X', J X' s
theorem Imp.refl : Imp I I := fun X s h => ⟨X, h⟩

theorem DoL.nil (h : Imp I J) : DoL prog w k I J env [] := fun X A s R hI => wpAny_execs_nil ⟨rfl, h X s hI⟩
theorem DoL.cons {st : Stmt} {ss : List Stmt} (h1 : DoS prog w k I J env st) (h2 : DoL prog w k J K env ss) : DoL prog w k I K env (st :: ss) := fun X A s R hI => by
  refine wpAny_execs_cons (wpAny_mono (h1 X A s R hI) (fun f s' h => ?_) fun _ _ x => x)
  obtain ⟨rfl, X', hJ⟩ := h
  exact h2 X' A s' R hJ
theorem DoL.pre {ss : List Stmt} (h : Imp I J) (h2 : DoL prog w k J K env ss) : DoL prog w k I K env ss := fun X A s R hI => let ⟨X', hJ⟩ := h X s hI; h2 X' A s R hJ
theorem DoS.pre {st : Stmt} (h : Imp I J) (h2 : DoS prog w k J K env st) : DoS prog w k I K env st := fun X A s R hI => let ⟨X', hJ⟩ := h X s hI; h2 X' A s R hJ
theorem DoS.post {st : Stmt} (h2 : DoS prog w k I J env st) (h : Imp J K) : DoS prog w k I K env st := fun X A s R hI =>
  wpAny_mono (h2 X A s R hI) (fun f s' q => ⟨q.1, let ⟨X', hJ⟩ := q.2; h X' s' hJ⟩) fun _ _ x => x
theorem RtL.pre {ss : List Stmt} {d : Dat} (h : Imp I J) (h2 : RtL prog w G k s₀ X₀ J env ss d) : RtL prog w G k s₀ X₀ I env ss d := fun X A s R hI => let ⟨X', hJ⟩ := h X s hI; h2 X' A s R hJ
theorem RtL.cons {st : Stmt} {ss : List Stmt} {d : Dat} (h1 : DoS prog w k I J env st) (h2 : RtL prog w G k s₀ X₀ J env ss d) : RtL prog w G k s₀ X₀ I env (st :: ss) d := fun X A s R hI => by
  refine wpAny_execs_cons (wpAny_mono (h1 X A s R hI) (fun f s' h => ?_) fun _ _ x => x)
  obtain ⟨rfl, X', hJ⟩ := h
  exact h2 X' A s' R hJ
theorem RtL.ifRet {test : Expr} {body ss : List Stmt} {pos : Pos} {b : Bool} {d : Dat} (V : InvF G I) (ht : Tv prog w G k I env test b) (h1 : b = true → RtL prog w G k s₀ X₀ I env body d) (h2 : b = false → RtL prog w G k s₀ X₀ I env ss d) :
    RtL prog w G k s₀ X₀ I env (.If test body [] pos :: ss) d := fun X A s R hI => by
  refine wpAny_execs_cons (wpAny_If (wpAny_mono (ht X A s R hI) (fun r s1 h => ?_) fun _ _ x => x))
  obtain ⟨t1, rfl⟩ := h
  have I1 := V.mono _ _ _ hI t1
  cases r with
  | true =>
    refine wpAny_mono (h1 rfl X A s1 R I1) (fun f s2 h => ?_) fun _ _ x => x
    obtain ⟨v, rfl, q⟩ := h
    exact ⟨v, rfl, q⟩
  | false => exact wpAny_execs_nil (h2 rfl X A s1 R I1)
theorem DoS.ifFalse {test : Expr} {body : List Stmt} {pos : Pos} (V : InvF G I) (ht : Tv prog w G k I env test false) : DoS prog w k I I env (.If test body [] pos) := fun X A s R hI => by
  refine wpAny_If (wpAny_mono (ht X A s R hI) (fun r s1 h => ?_) fun _ _ x => x)
  obtain ⟨t1, rfl⟩ := h
  exact wpAny_execs_nil ⟨rfl, X, V.mono _ _ _ hI t1⟩
theorem DoS.ifElse {test : Expr} {body orelse : List Stmt} {pos : Pos} {b : Bool} (V : InvF G I) (ht : Tv prog w G k I env test b) (h1 : b = true → DoL prog w k I J env body) (h2 : b = false → DoL prog w k I J env orelse) :
    DoS prog w k I J env (.If test body orelse pos) := fun X A s R hI => by
  refine wpAny_If (wpAny_mono (ht X A s R hI) (fun r s1 h => ?_) fun _ _ x => x)
  obtain ⟨t1, rfl⟩ := h
  have I1 := V.mono _ _ _ hI t1
  cases r with
  | true => exact h1 rfl X A s1 R I1
  | false => exact h2 rfl X A s1 R I1

section
variable {σ σ' : List (PySem.Str × Dat)} {τ τ' : List (PySem.Str × Value)} {own own' : List (PySem.Str × List Dat)} {its its' : Its}

theorem Imp.weaken (h1 : ∀ p ∈ σ', p ∈ σ) (h2 : ∀ p ∈ τ', p ∈ τ) (h3 : ∀ p ∈ own', p ∈ own) (h4 : its'.Sublist its) : Imp (FI G s₀ X₀ env σ τ own its) (FI G s₀ X₀ env σ' τ' own' its') := fun X s f => ⟨X, f.weaken h1 h2 h3 h4⟩

/-- a list that grew is a datum from now on -/
theorem Imp.freeze (F : FrS G s₀ X₀ env) {y : PySem.Str} {ds : List Dat} (hy : ∀ q ∈ own, q.1 ≠ y) : Imp (FI G s₀ X₀ env σ τ ((y, ds) :: own) its) (FI G s₀ X₀ env ((y, .list ds) :: σ) τ own its) := fun X s f => by
  obtain ⟨a, vs, n, h1, h2, h3, h4, h5⟩ := f.ownI _ (.head _)
  have sub : ∀ b ∈ X.filter (fun b => decide (b ≠ a)), b ∈ X := fun b m => (List.mem_filter.mp m).1
  refine ⟨X.filter (fun b => decide (b ≠ a)), {
    st := f.st
    low := fun b m => f.low b (sub b m)
    sub := fun b m => List.mem_filter.mpr ⟨f.sub b m, decide_eq_true fun z => by
      obtain ⟨o, e, _⟩ := F.low0 b m
      rw [z, h3] at e; cases e⟩
    sup := fun b m => f.sup b (sub b m)
    loc := f.loc
    cells := f.cells
    vars := fun p hp => by
      rcases List.mem_cons.mp hp with rfl | hp
      · refine ⟨.ref a, h1, .list (fun m => ?_) h4 rfl rfl rfl (h5.less sub)⟩
        have := (List.mem_filter.mp m).2
        simp at this
      · obtain ⟨v, q1, q2⟩ := f.vars p hp
        exact ⟨v, q1, q2.less sub⟩
    vals := f.vals
    ownI := fun q hq => by
      obtain ⟨b, us, m, g1, g2, g3, g4, g5⟩ := f.ownI q (.tail _ hq)
      refine ⟨b, us, m, g1, List.mem_filter.mpr ⟨g2, decide_eq_true fun z => ?_⟩, g3, g4, g5.less sub⟩
      exact f.ownD _ (.head _) q (.tail _ hq) (Ne.symm (hy q hq)) a h1 (z ▸ g1)
    ownD := fun q hq q' hq' => f.ownD q (.tail _ hq) q' (.tail _ hq')
    itsI := fun q hq => by
      obtain ⟨g1, g2⟩ := f.itsI q hq
      refine ⟨g1, ?_⟩
      cases g2 with
      | list l vs le n1 n2 it hl r => exact .list l vs le n1 (fun m => n2 (sub _ m)) it hl (r.less sub)
      | range a c n le it e => exact .range a c n le it e
    itsD := f.itsD }⟩

theorem RtL.ret (F : FrS G s₀ X₀ env) {e : Expr} {pos : Pos} {ss : List Stmt} {d : Dat} (h : Ev prog w G k (FI G s₀ X₀ env σ τ own its) env e d) : RtL prog w G k s₀ X₀ (FI G s₀ X₀ env σ τ own its) env (.Return (some e) pos :: ss) d := fun X A s R hI =>
  wpAny_execs_cons (wpAny_Return_some (wpAny_mono (h X A s R hI) (fun v s' q => ⟨v, rfl, hI.st.trans q.1, q.2.less hI.sub⟩) fun _ _ x => x))

/-- x = e -/
theorem DoS.assign (F : FrS G s₀ X₀ env) {x : PySem.Str} {px pos : Pos} {e : Expr} {d : Dat} (h : Ev prog w G k (FI G s₀ X₀ env σ τ own its) env e d) (hx : env.kindOf x = some .local ∨ env.kindOf x = some .cell)
    (hown : ∀ q ∈ own, q.1 ≠ x) (hσ : ∀ p ∈ σ', p ∈ σ ∧ p.1 ≠ x) (hτ : ∀ p ∈ τ', p ∈ τ ∧ p.1 ≠ x) (hs : swapsWith e (some (.Name x px)) pos.line env = pure false) :
    DoS prog w k (FI G s₀ X₀ env σ τ own its) (FI G s₀ X₀ env ((x, d) :: σ') τ' own its) env (.Assign [.Name x px] e pos) := fun X A s R hI => by
  refine wpAny_Assign_Name (wpAny_mono (h X A s R hI) (fun v s1 q => ?_) fun _ _ x => x) hs
  obtain ⟨t1, r1⟩ := q
  refine (hI.next F.wd0 t1).store F (A := A) hx hown fun h' tk hv hy ks _ fin => ⟨rfl, X, fin _ _ (fun p hp => ?_) fun p hp => .inr (hτ p hp)⟩
  rcases List.mem_cons.mp hp with rfl | hp
  · exact .inl ⟨rfl, r1⟩
  · exact .inr (hσ p hp)

/-- x = [] : a list to grow -/
theorem DoS.assignNil (F : FrS G s₀ X₀ env) {x : PySem.Str} {px pos lp : Pos} (hx : env.kindOf x = some .local ∨ env.kindOf x = some .cell)
    (hown : ∀ q ∈ own, q.1 ≠ x) (hσ : ∀ p ∈ σ', p ∈ σ ∧ p.1 ≠ x) (hτ : ∀ p ∈ τ', p ∈ τ ∧ p.1 ≠ x) :
    DoS prog w k (FI G s₀ X₀ env σ τ own its) (FI G s₀ X₀ env σ' τ' ((x, []) :: own) its) env (.Assign [.Name x px] (.List [] lp) pos) := fun X A s R hI => by
  refine wpAny_Assign_Name (List_ (args_nil (wpAny_newObj_type ?_ (by show (List.toArray ([] : List Value)).size ≤ sizeLine; simp)))) rfl
  have hD := new_none s.heap
  have hD0 : s₀.heap.get? s.heap.objs.size = none := by
    cases e : s₀.heap.get? s.heap.objs.size with
    | none => rfl
    | some o => rw [hI.st.keep _ _ e (hI.st.wd.none_off hD)] at hD; cases hD
  have hobj : (s.heap.push (seqObj "list" (List.toArray []) 0)).get? s.heap.objs.size = some (seqObj "list" (List.toArray []) 0) := PySem.Heap.get?_push_size _ rfl
  have S := St.push hI.st.wd (seqObj "list" (List.toArray []) 0)
  have I2 := (FI.inv F).grow _ _ _ _ hI S hD ⟨_, hobj, fun _ z => by cases z⟩
  have unk : ∀ q ∈ own, ¬ HasVar env (s.heap.push (seqObj "list" (List.toArray []) 0)) q.1 (.ref s.heap.objs.size) := fun q hq hv => by
    obtain ⟨a, vs, n, h1, _, _, h4, _⟩ := hI.ownI q hq
    have := h1.back hI.st.wd S hv
    cases this
    rw [hD] at h4; cases h4
  refine I2.store F (A := A) hx hown fun h' tk hv hy ks _ fin => ⟨rfl, s.heap.objs.size :: X, ?_⟩
  have f := fin σ' τ' (fun p hp => .inr (hσ p hp)) fun p hp => .inr (hτ p hp)
  have hl : h'.get? s.heap.objs.size = some (seqObj "list" (List.toArray []) 0) := ks _ _ _ _ (fun m => nomatch m) hobj rfl
  exact { f with
    ownI := fun q hq => by
      rcases List.mem_cons.mp hq with rfl | hq
      · exact ⟨_, [], 0, hv, .head _, hD0, hl, .nil⟩
      · exact f.ownI q hq
    ownD := fun q hq q' hq' n a h1 h2 => by
      rcases List.mem_cons.mp hq with rfl | hq <;> rcases List.mem_cons.mp hq' with rfl | hq'
      · exact n rfl
      · have e := h1.fun hv; cases e
        obtain ⟨b, _, _, g1, _⟩ := I2.ownI q' hq'
        have := (hy _ _ (hown q' hq') g1).fun h2; cases this
        exact unk q' hq' g1
      · have e := h2.fun hv; cases e
        obtain ⟨b, _, _, g1, _⟩ := I2.ownI q hq
        have := (hy _ _ (hown q hq) g1).fun h1; cases this
        exact unk q hq g1
      · exact f.ownD q hq q' hq' n a h1 h2 }
end
end
end Mine

namespace Mine
section
variable {prog : Program} {w : World} {G : GC} {I J K : Fam} {k : Nat} {env : Env} {s₀ : Shared} {X₀ : List PySem.Addr}
variable {σ σ' : List (PySem.Str × Dat)} {τ τ' : List (PySem.Str × Value)} {own own' : List (PySem.Str × List Dat)} {its its' : Its}

/-- one object of the frame's own turned, no name's, no datum's -/
theorem FI.turn (F : FrS G s₀ X₀ env) {X : List PySem.Addr} {s : Shared} (f : FI G s₀ X₀ env σ τ own its X s) {a : PySem.Addr} {h' : PySem.Heap} {tk : Nat} (ha : s₀.heap.get? a = none)
    (hoa : ∃ o, s.heap.get? a = some o ∧ Soft o ∧ ((∀ es n, o.data ≠ .dict es n) ∨ a ≠ env.locals) ∧ (∀ v, o.data ≠ .cell v) ∧ ((∀ vs n, o.data ≠ .seq vs n) ∨ (a ∈ X ∧ o.cls = .type "list")))
    (hoa' : a ∈ X → ∃ o, h'.get? a = some o ∧ ∀ vs, o.data ≠ .fields vs)
    (hk : ∀ b o, b ≠ a → s.heap.get? b = some o → h'.get? b = some o)
    (hown : ∀ q ∈ own', (q ∈ own ∧ ¬ HasVar env s.heap q.1 (.ref a)) ∨ ∃ vs n, HasVar env s.heap q.1 (.ref a) ∧ a ∈ X ∧ h'.get? a = some (seqObj "list" (List.toArray vs) n) ∧ RepAll X h' vs q.2)
    (hownD : ∀ q ∈ own', ∃ q' ∈ own, q.1 = q'.1)
    (hits : ∀ q ∈ its', (q ∈ its ∧ q.1 ≠ a) ∨ (q.1 = a ∧ Src X h' a q.2.1 q.2.2)) (hitsD : its'.Pairwise fun a b => a.1 ≠ b.1) : FI G s₀ X₀ env σ τ own' its' X { s with heap := h', toks := tk } := by
  obtain ⟨o, ho, hsoft, hdict, hcell, hseq⟩ := hoa
  have ks : KeepSeq X s.heap h' := fun b ob vs n hX e d => hk b ob (fun z => by
    rw [z, ho] at e; cases e
    rcases hseq with q | ⟨m, c⟩
    · exact q _ _ d
    · rw [hX (z ▸ m)] at c; exact absurd c (show ¬ (Value.type "tuple" = Value.type "list") by decide)) e
  have hns : ∀ m, s.heap.Ns env.locals m → h'.Ns env.locals m := fun m ⟨ob, es, ep, e1, e2, r⟩ => ⟨ob, es, ep, hk _ _ (fun z => by
    rcases hdict with hd | hd
    · rw [z, ho] at e1; cases e1; exact hd _ _ e2
    · exact hd z.symm) e1, e2, r⟩
  have hcl : ∀ c v, s.heap.IsCell c v → h'.IsCell c v := fun c v ⟨ob, e1, e2⟩ => ⟨ob, hk _ _ (fun z => by rw [z, ho] at e1; cases e1; exact hcell _ e2) e1, e2⟩
  have hv : ∀ y u, HasVar env s.heap y u → HasVar env h' y u := fun y u q => by
    rcases q with ⟨q, m, n, e⟩ | ⟨q, c, l, e⟩
    · exact .inl ⟨q, m, hns _ n, e⟩
    · exact .inr ⟨q, c, l, hcl _ _ e⟩
  exact {
    st := f.st.touch F.wd0 ha (fun o' e => by rw [ho] at e; cases e; exact hsoft) hk
    low := fun b m => by
      obtain ⟨ob, e, n⟩ := f.low b m
      by_cases hb : b = a
      · subst hb
        exact hoa' m
      · exact ⟨ob, hk b ob hb e, n⟩
    sub := f.sub
    sup := f.sup
    loc := let ⟨m, n⟩ := f.loc; ⟨m, hns _ n⟩
    cells := fun x h => let ⟨c, v, p, q⟩ := f.cells x h; ⟨c, v, p, hcl _ _ q⟩
    vars := fun p hp => let ⟨v, q, r⟩ := f.vars p hp; ⟨v, hv _ _ q, r.keep ks⟩
    vals := fun p hp => hv _ _ (f.vals p hp)
    ownI := fun q hq => by
      rcases hown q hq with ⟨m, n⟩ | ⟨vs, n, h1, h2, h3, h4⟩
      · obtain ⟨b, vs, n', h1, h2, h3, h4, h5⟩ := f.ownI q m
        exact ⟨b, vs, n', hv _ _ h1, h2, h3, hk _ _ (fun z => n (z ▸ h1)) h4, h5.keep ks⟩
      · exact ⟨a, vs, n, hv _ _ h1, h2, ha, h3, h4⟩
    ownD := fun q hq q' hq' n b h1 h2 => by
      obtain ⟨p, hp, e⟩ := hownD q hq
      obtain ⟨p', hp', e'⟩ := hownD q' hq'
      rw [e] at h1 n
      rw [e'] at h2 n
      obtain ⟨c, _, _, g1, _⟩ := f.ownI p hp
      obtain ⟨c', _, _, g1', _⟩ := f.ownI p' hp'
      have e1 := h1.fun (hv _ _ g1)
      have e2 := h2.fun (hv _ _ g1')
      rw [← e1] at g1
      rw [← e2] at g1'
      exact f.ownD p hp p' hp' n b g1 g1'
    itsI := fun q hq => by
      rcases hits q hq with ⟨m, n⟩ | ⟨e, r⟩
      · obtain ⟨h1, h2⟩ := f.itsI q m
        exact ⟨h1, h2.keep ks fun o e => hk _ _ n e⟩
      · exact ⟨e ▸ ha, e ▸ r⟩
    itsD := hitsD }

/-- y.append(e) -/
theorem DoS.append (F : FrS G s₀ X₀ env) {y : PySem.Str} {np apos cpos pos : Pos} {e : Expr} {d : Dat} {ds : List Dat} (h : Ev prog w G k (FI G s₀ X₀ env σ τ ((y, ds) :: own) its) env e d)
    (he : starEach [e] env = [(false, eval e env)]) (hline : (apos.endLine == cpos.line) = true) (hz : ds.length ≤ sizeLine) (hy : ∀ q ∈ own, q.1 ≠ y) (hint : interactive env = false)
    (hd : (y == ("__debug__" : PySem.Str)) = false) (hc : (y == ("__classdict__" : PySem.Str)) = false) :
    DoS prog w k (FI G s₀ X₀ env σ τ ((y, ds) :: own) its) (FI G s₀ X₀ env σ τ ((y, ds ++ [d]) :: own) its) env (.Expr (.Call (.Attribute (.Name y np) "append" apos) [e] [] cpos) pos) := fun X A s R hI => by
  have hb : backTo cpos (starEach [e] env) = [(false, eval e env)] := by rw [he]; rfl
  refine wpAny_Expr_any (wpAny_Call_append rfl (by rw [hb]; rfl) hline hb ?_) hint rfl
  obtain ⟨a, vs, n, h1, h2, h3, h4, h5⟩ := hI.ownI _ (.head _)
  refine name_has F.ok.kind h1 ⟨a, List.toArray vs, rfl, ⟨_, n, h4, rfl, rfl, rfl⟩, ?_⟩ hd hc
  refine wpAny_mono (h X A s R hI) (fun v s1 q => ?_) fun _ _ x => x
  obtain ⟨t1, r1⟩ := q
  have I1 := hI.next F.wd0 t1
  have h4' := t1.keep _ _ h4 (hI.st.wd.seqOff h4 fun _ z => by cases z)
  have h5' := t1.repAll hI.st.wd h5
  have h1' := h1.st hI.st.wd t1
  refine wpAny_list_append_plain (hsz := by simpa [h5'.length] using hz) ⟨n, h4'⟩ fun h' hl hs => ⟨rfl, X, ?_⟩
  obtain ⟨n', hl⟩ := hl
  have kk : ∀ b o, b ≠ a → s1.heap.get? b = some o → h'.get? b = some o := fun b o n e => (hs.2 b n).trans e
  have ks : KeepSeq X s1.heap h' := fun b o vs n hx e d => kk b o (fun z => by
    have := hx (z ▸ h2)
    rw [z, h4'] at e; cases e
    exact absurd this (show ¬ (Value.type "list" = Value.type "tuple") by decide)) e
  refine I1.turn F (tk := s1.toks) h3 ⟨_, h4', .of_not (fun _ z => by cases z), (.inl fun _ _ z => by cases z), (fun _ z => by cases z), .inr ⟨h2, rfl⟩⟩ (fun _ => ⟨_, hl, fun _ z => by cases z⟩) kk ?_ ?_ ?_ I1.itsD
  · intro q hq
    rcases List.mem_cons.mp hq with rfl | hq
    · exact .inr ⟨vs ++ [v], n', h1', h2, by rw [hl]; simp, (h5'.keep ks).append (RepAll.one (r1.keep ks))⟩
    · exact .inl ⟨.tail _ hq, fun z => I1.ownD _ (.head _) q (.tail _ hq) (Ne.symm (hy q hq)) a h1' z⟩
  · intro q hq
    rcases List.mem_cons.mp hq with rfl | hq
    · exact ⟨_, .head _, rfl⟩
    · exact ⟨q, .tail _ hq, rfl⟩
  · intro q hq
    refine .inl ⟨hq, fun z => ?_⟩
    obtain ⟨o, e, _, us, d⟩ := (I1.itsI q hq).2.at
    rw [z, h4'] at e; cases e; cases d

/-- for x in e: body -/
theorem DoS.for (F : FrS G s₀ X₀ env) {x : PySem.Str} {px pos : Pos} {iter : Expr} {body : List Stmt} {ds : List Dat} (σ : Nat → List (PySem.Str × Dat)) (own : Nat → List (PySem.Str × List Dat))
    (hx : env.kindOf x = some .local ∨ env.kindOf x = some .cell) (hiter : It prog w G k (FI G s₀ X₀ env (σ 0) τ (own 0) its) env iter ds)
    (hσ : ∀ i, ∀ p ∈ σ i, p.1 ≠ x) (hτ : ∀ p ∈ τ, p.1 ≠ x) (hown : ∀ i, ∀ p ∈ own i, p.1 ≠ x)
    (hbody : ∀ i d J, ds[i]? = some d → DoL prog w k (FI G s₀ X₀ env ((x, d) :: σ i) τ (own i) ((J, ds, i + 1) :: its)) (FI G s₀ X₀ env (σ (i + 1)) τ (own (i + 1)) ((J, ds, i + 1) :: its)) env body)
    (hs : ∀ x, foldedSetIterable iter env x = pure x) :
    DoS prog w k (FI G s₀ X₀ env (σ 0) τ (own 0) its) (FI G s₀ X₀ env (σ ds.length) τ (own ds.length) its) env (.For (.Name x px) iter body [] pos) := fun X A s R hI => by
  refine wpAny_For (wpAny_mono (hiter X A s R hI) (fun xv s1 h => ?_) fun _ _ e => e) hs
  obtain ⟨t1, wk⟩ := h
  have I1 := hI.next F.wd0 t1
  refine wk.iter fun o ho src hk => ?_
  have t2 : St G s1 { s1 with heap := s1.heap.push o } := St.of_keeps (tk := s1.toks) I1.st.wd hk
  have I2 := I1.next F.wd0 t2
  have hJ1 := new_none s1.heap
  have hJ0 : s₀.heap.get? s1.heap.objs.size = none := by
    cases e : s₀.heap.get? s1.heap.objs.size with
    | none => rfl
    | some o => rw [I1.st.keep _ _ e (I1.st.wd.none_off hJ1)] at hJ1; cases hJ1
  have I3 : FI G s₀ X₀ env (σ 0) τ (own 0) ((s1.heap.objs.size, ds, 0) :: its) X { s1 with heap := s1.heap.push o } :=
    { I2 with
      itsI := fun q hq => by
        rcases List.mem_cons.mp hq with rfl | hq
        · exact ⟨hJ0, src⟩
        · exact I2.itsI q hq
      itsD := List.pairwise_cons.mpr ⟨fun q hq z => by
        obtain ⟨o, e, _⟩ := (I1.itsI q hq).2.at
        rw [← z] at e
        simp only at e
        rw [hJ1] at e; exact (nomatch e), I2.itsD⟩ }
  generalize s1.heap.objs.size = J at hJ1 hJ0 I3 src ⊢
  refine codeAny_mono (codeAny_forLoop (R := fun r s' => r = .ok .next ∧ ∃ X', FI G s₀ X₀ env (σ ds.length) τ (own ds.length) its X' s')
    (fun n s' => ∃ i X', n = ds.length + 1 - i ∧ i ≤ ds.length ∧ FI G s₀ X₀ env (σ i) τ (own i) ((J, ds, i) :: its) X' s') ?_ (ds.length + 1) ⟨0, X, rfl, Nat.zero_le _, I3⟩ (by intro v; rfl)) fun r s' q => ?_
  · rintro n s' ⟨i, X', rfl, hi, f⟩
    obtain ⟨hJ, S⟩ := f.itsI _ (.head _)
    refine no_elim (S.next (Q := fun r s'' => _) R.handled (fun v d h' tk hd hk S' rv => ?_) fun h' hlen hk => ?_) fun a s' x => x
    · have hlt : i < ds.length := (List.getElem?_eq_some_iff.mp hd).1
      obtain ⟨oJ, eJ, _, us, dJ⟩ := S.at
      have hJX : J ∈ X' → ∃ o, h'.get? J = some o ∧ ∀ vs, o.data ≠ .fields vs := fun m => by
        obtain ⟨o, e, n⟩ := f.low J m
        rw [eJ] at e; cases e; exact absurd dJ (n _)
      have f2 : FI G s₀ X₀ env (σ i) τ (own i) ((J, ds, i + 1) :: its) X' { s' with heap := h', toks := tk } :=
        f.turn F hJ ⟨oJ, eJ, S.soft _ eJ, (.inl fun _ _ z => by rw [dJ] at z; cases z), (fun _ z => by rw [dJ] at z; cases z), .inl fun _ _ z => by rw [dJ] at z; cases z⟩ hJX hk
          (fun q hq => .inl ⟨hq, fun z => by
            obtain ⟨b, _, _, g1, _, _, g4, _⟩ := f.ownI q hq
            have := g1.fun z; cases this
            have e2 : s'.heap.get? J = some oJ := eJ
            rw [e2] at g4; cases g4; cases dJ⟩) (fun q hq => ⟨q, hq, rfl⟩)
          (fun q hq => by
            rcases List.mem_cons.mp hq with rfl | hq
            · exact .inr ⟨rfl, S'⟩
            · exact .inl ⟨.tail _ hq, fun z => (List.pairwise_cons.mp f.itsD).1 q hq z.symm⟩)
          (List.pairwise_cons.mpr ⟨fun q hq => (List.pairwise_cons.mp f.itsD).1 q hq, (List.pairwise_cons.mp f.itsD).2⟩)
      have rv' : Rep X' ({ s' with heap := h', toks := tk } : Shared).heap v d := rv
      refine wpAny_assign_Name (f2.store F (A := A) hx (hown i) fun h6 tk6 hv hy ks _ fin => ?_)
      have f3 := fin ((x, d) :: σ i) τ (fun p hp => by
        rcases List.mem_cons.mp hp with rfl | hp
        · exact .inl ⟨rfl, rv'⟩
        · exact .inr ⟨hp, hσ i p hp⟩) fun p hp => .inr ⟨hp, hτ p hp⟩
      refine no_elim (hbody i d J hd X' A _ R f3) fun fl s7 q => ?_
      obtain ⟨rfl, X7, f7⟩ := q
      exact ⟨ds.length + 1 - (i + 1), by omega, i + 1, X7, rfl, hlt, f7⟩
    · obtain ⟨oJ, eJ, _, us, dJ⟩ := S.at
      have hJX : J ∈ X' → ∃ o, h'.get? J = some o ∧ ∀ vs, o.data ≠ .fields vs := fun m => by
        obtain ⟨o, e, n⟩ := f.low J m
        rw [eJ] at e; cases e; exact absurd dJ (n _)
      have f2 : FI G s₀ X₀ env (σ i) τ (own i) its X' { s' with heap := h', toks := s'.toks } :=
        f.turn F hJ ⟨oJ, eJ, S.soft _ eJ, (.inl fun _ _ z => by rw [dJ] at z; cases z), (fun _ z => by rw [dJ] at z; cases z), .inl fun _ _ z => by rw [dJ] at z; cases z⟩ hJX hk
          (fun q hq => .inl ⟨hq, fun z => by
            obtain ⟨b, _, _, g1, _, _, g4, _⟩ := f.ownI q hq
            have := g1.fun z; cases this
            have e2 : s'.heap.get? J = some oJ := eJ
            rw [e2] at g4; cases g4; cases dJ⟩) (fun q hq => ⟨q, hq, rfl⟩)
          (fun q hq => .inl ⟨.tail _ hq, fun z => (List.pairwise_cons.mp f.itsD).1 q hq z.symm⟩) (List.pairwise_cons.mp f.itsD).2
      exact wpAny_execs_nil ⟨rfl, X', hlen ▸ f2⟩
  · obtain ⟨rfl, q⟩ := q
    exact ⟨rfl, q⟩
end
end Mine

namespace Mine
section
variable {prog : Program} {w : World} {G : GC} {I J K : Fam} {k : Nat} {env : Env} {s₀ : Shared} {X₀ : List PySem.Addr}
variable {σ σ' : List (PySem.Str × Dat)} {τ τ' : List (PySem.Str × Value)} {own own' : List (PySem.Str × List Dat)} {its its' : Its}

/-- while test: body -/
theorem DoS.while {test : Expr} {body : List Stmt} {pos : Pos} (S : Nat → Fam) (n : Nat) (V : ∀ i, InvF G (S i))
    (ht : ∀ i, i ≤ n → Tv prog w G k (S i) env test (decide (i < n))) (hb : ∀ i, i < n → DoL prog w k (S i) (S (i + 1)) env body) :
    DoS prog w k (S 0) (S n) env (.While test body [] pos) := fun X A s R hI => by
  refine wpAny_While (codeAny_mono (codeAny_whileLoop (R := fun r s' => r = .ok .next ∧ ∃ X', S n X' s')
    (fun m s' => ∃ i X', m = n + 1 - i ∧ i ≤ n ∧ S i X' s') ?_ (n + 1) ⟨0, X, rfl, Nat.zero_le _, hI⟩) fun r s' q => ?_)
  · rintro m s' ⟨i, X', rfl, hi, f⟩
    refine no_elim (ht i hi X' A s' R f) fun r s1 q => ?_
    obtain ⟨t1, rfl⟩ := q
    have f1 := (V i).mono _ _ _ f t1
    by_cases hlt : i < n
    · rw [if_pos (decide_eq_true hlt)]
      refine no_elim (hb i hlt X' A s1 R f1) fun fl s2 q => ?_
      obtain ⟨rfl, X2, f2⟩ := q
      exact ⟨n + 1 - (i + 1), by omega, i + 1, X2, rfl, hlt, f2⟩
    · rw [if_neg (by simpa using hlt)]
      have : i = n := by omega
      subst this
      exact wpAny_execs_nil ⟨rfl, X', f1⟩
  · obtain ⟨rfl, q⟩ := q
    exact ⟨rfl, q⟩

/-- a, b = e -/
theorem DoS.assign2 (F : FrS G s₀ X₀ env) {a b : PySem.Str} {pa pb tp pos : Pos} {n : Nat} {e : Expr} {d1 d2 : Dat} (h : Ev prog w G k (FI G s₀ X₀ env σ τ own its) env e (.tuple [d1, d2]))
    (ha : env.kindOf a = some .local ∨ env.kindOf a = some .cell) (hb : env.kindOf b = some .local ∨ env.kindOf b = some .cell) (hab : a ≠ b)
    (hown : ∀ q ∈ own, q.1 ≠ a ∧ q.1 ≠ b) (hσ : ∀ p ∈ σ, p.1 ≠ a ∧ p.1 ≠ b) (hτ : ∀ p ∈ τ, p.1 ≠ a ∧ p.1 ≠ b)
    (hs : swapsWithSole [.Tuple [.Name a pa, .Name b pb] n tp] e pos.line env = pure false) (hw : swappedStores [.Tuple [.Name a pa, .Name b pb] n tp] e env = pure none) :
    DoS prog w k (FI G s₀ X₀ env σ τ own its) (FI G s₀ X₀ env ((b, d2) :: (a, d1) :: σ) τ own its) env (.Assign [.Tuple [.Name a pa, .Name b pb] n tp] e pos) := fun X A s R hI => by
  refine PyProof.Rows.Assign_Tuple (wpAny_mono (h X A s R hI) (fun v s1 q => ?_) fun _ _ x => x) hs hw
  obtain ⟨t1, r1⟩ := q
  have I1 := hI.next F.wd0 t1
  obtain ⟨t, vs, rfl, ht, hr⟩ := r1.isTuple
  obtain ⟨v1, v2, rfl, q1, q2⟩ := two_of hr
  refine wpAny_assign_Tuple R.handled ht rfl rfl fun h' hx => ?_
  have t2 : St G s1 { s1 with heap := h' } := St.of_keeps (tk := s1.toks) I1.st.wd fun b o e => hx b o (Nat.ne_of_lt (PySem.Heap.lt_size e)) e
  have I2 := I1.next F.wd0 t2
  have q1' := t2.rep I1.st.wd q1
  have q2' := t2.rep I1.st.wd q2
  refine wpAny_assignInOrder_more (wpAny_assign_Name (I2.store F (A := A) ha (fun q hq => (hown q hq).1) fun h3 tk3 hv3 hy3 ks3 _ fin3 => ?_))
  have f3 := fin3 ((a, d1) :: σ) τ (fun p hp => by
    rcases List.mem_cons.mp hp with rfl | hp
    · exact .inl ⟨rfl, q1'⟩
    · exact .inr ⟨hp, (hσ p hp).1⟩) fun p hp => .inr ⟨hp, (hτ p hp).1⟩
  have q2'' : Rep X h3 v2 d2 := q2'.keep fun b o vs n _ e d => ks3 b o vs n (fun m => nomatch m) e d
  refine wpAny_assignInOrder_more (wpAny_assign_Name (f3.store F (A := A) hb (fun q hq => (hown q hq).2) fun h4 tk4 hv4 hy4 ks4 _ fin4 => wpAny_assignInOrder_none ⟨rfl, X, ?_⟩))
  refine fin4 ((b, d2) :: (a, d1) :: σ) τ (fun p hp => ?_) fun p hp => .inr ⟨hp, (hτ p hp).2⟩
  rcases List.mem_cons.mp hp with rfl | hp
  · exact .inl ⟨rfl, q2''⟩
  · rcases List.mem_cons.mp hp with rfl | hp
    · exact .inr ⟨.head _, hab⟩
    · exact .inr ⟨.tail _ hp, (hσ p hp).2⟩

/-- y = [elt for x in iter if ..], the stores exchanged -/
theorem DoS.assignComp (F : FrS G s₀ X₀ env) {elt iter : Expr} {x y : PySem.Str} {px py : Pos} {ifs : List Expr} {scope : Scope} {cl : List (PySem.Str × PySem.Addr)} {pos spos : Pos} (c : CompOk scope env cl x)
    {ds : List Dat} (hiter : It prog w G k (FI G s₀ X₀ env σ τ own its) env iter ds) (hz : ds.length ≤ sizeLine) (p : Dat → Bool) (f : Dat → Dat)
    (htests : ∀ d ∈ ds, ∀ C, Tests prog w G k (With (FI G s₀ X₀ env σ τ own its) (compEnvC scope cl C env) x d) (compEnvC scope cl C env) ifs (p d))
    (helt : ∀ d ∈ ds, p d = true → ∀ C, Ev prog w G k (With (FI G s₀ X₀ env σ τ own its) (compEnvC scope cl C env) x d) (compEnvC scope cl C env) elt (f d))
    (hs : ∀ x, foldedSetIterable iter env x = pure x) (hy : env.kindOf y = some .local) (hown : ∀ q ∈ own, q.1 ≠ y) (hσ : ∀ p ∈ σ', p ∈ σ ∧ p.1 ≠ y) (hτ : ∀ p ∈ τ', p ∈ τ ∧ p.1 ≠ y)
    (hsw : swapsWith (.ListComp elt [⟨.Name x px, iter, ifs, 0⟩] scope pos) (some (.Name y py)) spos.line env = pure true) :
    DoS prog w k (FI G s₀ X₀ env σ τ own its) (FI G s₀ X₀ env ((y, .list ((ds.filter p).map f)) :: σ') τ' own its) env (.Assign [.Name y py] (.ListComp elt [⟨.Name x px, iter, ifs, 0⟩] scope pos) spos) := fun X A s R hI => by
  have V : InvF G (FI G s₀ X₀ env σ τ own its) := FI.inv F
  rw [exec_Assign_Name_used _ _ _ _ hsw]
  refine wpAny_bind (wpAny_standAt (wpAny_bind ?_))
  show wpAny _ A (do let _ ← comprehension (.ListComp elt [⟨.Name x px, iter, ifs, 0⟩] scope pos) scope env _ (newList []) false (eval iter env) (some (PySem.assign (.Name y py) env))) _ _ s
  refine wpAny_bind (wpAny_mono (wpAny_comprehension_free (use := some (PySem.assign (.Name y py) env)) (Q := fun _ s' => ∃ X', FI G s₀ X₀ env ((y, .list ((ds.filter p).map f)) :: σ') τ' own its X' s') rfl hs c.clos c.kind c.names
    (wpAny_mono (hiter X A s R hI) (fun xv s1 h => ?_) fun _ _ e => e)) (fun _ s' hq => wpAny_pure (wpAny_pure ⟨rfl, hq⟩)) fun _ _ e => e)
  obtain ⟨t1, wk⟩ := h
  have I1 := hI.next F.wd0 t1
  refine wk.iter fun o ho src hk => ?_
  refine comp_core V c hz p f htests helt R I1 (St.of_keeps (tk := s1.toks) I1.st.wd hk) (new_none _) src (RR := fun acc C => compPost (model prog w) A No (some (PySem.assign (.Name y py) env)) (fun _ s' => ∃ X', FI G s₀ X₀ env ((y, .list ((ds.filter p).map f)) :: σ') τ' own its X' s') acc C) ?_
  intro D C s' m ys T hD hC hDC hn hl hr
  have I2 := I1.next F.wd0 T
  have hDX : D ∉ X := I1.low.new hD
  have rD : Rep X s'.heap (.ref D) (.list ((ds.filter p).map f)) := .listOf hDX hl (hr.less fun a m => .tail _ m)
  have back : ∀ a, s1.heap.get? a = none → s₀.heap.get? a = none := fun a h => by
    cases e : s₀.heap.get? a with
    | none => rfl
    | some o => rw [I1.st.keep _ _ e (I1.st.wd.none_off h)] at h; cases h
  have hLC : env.locals ≠ C := fun z => by
    obtain ⟨m, o, _, _, e, _⟩ := I1.loc
    rw [z, hC] at e; cases e
  show wpAny _ A (PySem.assign (.Name y py) env (.ref D)) _ _ _
  refine wpAny_assign_Name (I2.store F (A := A) (.inl hy) hown fun h3 tk3 hv3 hy3 ks3 kk3 fin3 => ?_)
  have f3 := fin3 ((y, .list ((ds.filter p).map f)) :: σ') τ' (fun p hp => by
    rcases List.mem_cons.mp hp with rfl | hp
    · exact .inl ⟨rfl, rD⟩
    · exact .inr (hσ p hp)) fun p hp => .inr (hτ p hp)
  obtain ⟨oC, es, ep, e1, e2, e3, e4⟩ := hn
  -- the comprehension's own names stand as they stood
  have hC3 : ∃ o es' ep', h3.get? C = some o ∧ o.data = .dict es' ep' ∧ h3.Ns C m := by
    have := kk3 C oC (Ne.symm hLC) (fun _ z => by rw [e2] at z; cases z) e1
    exact ⟨oC, es, ep, this, e2, ⟨oC, es, ep, this, e2, e3, e4⟩⟩
  obtain ⟨o3, es3, ep3, g1, g2, g3⟩ := hC3
  refine ⟨m, g3, fun h4 hs4 => ⟨X, ?_⟩⟩
  refine f3.turn F (tk := tk3) (back C hC) ⟨o3, g1, .of_not (fun _ z => by rw [g2] at z; cases z), .inr (Ne.symm hLC), (fun _ z => by rw [g2] at z; cases z), .inl fun _ _ z => by rw [g2] at z; cases z⟩
    (fun m => by
      obtain ⟨o, e, _⟩ := I1.low C m
      rw [hC] at e; cases e) (fun b o n e => (hs4.2 b n).trans e) (fun q hq => .inl ⟨hq, fun z => ?_⟩) (fun q hq => ⟨q, hq, rfl⟩) (fun q hq => .inl ⟨hq, fun z => ?_⟩) f3.itsD
  · obtain ⟨b, _, _, k1, _, _, k4, _⟩ := f3.ownI q hq
    have := k1.fun z; cases this
    rw [g1] at k4; cases k4; cases g2
  · obtain ⟨o, e, _, us, d⟩ := (f3.itsI q hq).2.at
    rw [z] at e
    rw [g1] at e; cases e; rw [g2] at d; cases d

/-! ## reading a list that grows -/
theorem Tv.owned (F : FrS G s₀ X₀ env) {y : PySem.Str} {ds : List Dat} {e : Expr} {b : Bool} (hy : ∀ q ∈ own, q.1 ≠ y) (h : Tv prog w G k (FI G s₀ X₀ env ((y, .list ds) :: σ) τ own its) env e b) :
    Tv prog w G k (FI G s₀ X₀ env σ τ ((y, ds) :: own) its) env e b := fun X A s R hI => let ⟨X', f⟩ := Imp.freeze F hy X s hI; h X' A s R f
theorem Ev.ownInt (F : FrS G s₀ X₀ env) {y : PySem.Str} {ds : List Dat} {e : Expr} {i : Int} (hy : ∀ q ∈ own, q.1 ≠ y) (h : Ev prog w G k (FI G s₀ X₀ env ((y, .list ds) :: σ) τ own its) env e (.int i)) :
    Ev prog w G k (FI G s₀ X₀ env σ τ ((y, ds) :: own) its) env e (.int i) := fun X A s R hI => by
  obtain ⟨X', f⟩ := Imp.freeze F hy X s hI
  refine wpAny_mono (h X' A s R f) (fun v s' q => ⟨q.1, ?_⟩) fun _ _ x => x
  obtain ⟨t, rfl⟩ := q.2.isInt
  exact .int i t
theorem Ev.ownItem (F : FrS G s₀ X₀ env) {y : PySem.Str} {ds : List Dat} {slice : Expr} {i : Int} {d : Dat} {p pos : Pos} (h : Ev prog w G k (FI G s₀ X₀ env σ τ ((y, ds) :: own) its) env slice (.int i))
    (h0 : 0 ≤ i) (hi : i < 2 ^ 63) (hd : ds[i.toNat]? = some d) (hs : ∀ o j, subscripted slice false o j = operate [o, j] (getItem o j))
    (hdb : (y == ("__debug__" : PySem.Str)) = false) (hc : (y == ("__classdict__" : PySem.Str)) = false) :
    Ev prog w G k (FI G s₀ X₀ env σ τ ((y, ds) :: own) its) env (.Subscript (.Name y p) slice pos) d := fun X A s R hI => by
  obtain ⟨a, vs, n, h1, h2, h3, h4, h5⟩ := hI.ownI _ (.head _)
  refine Subscript_ (name_has F.ok.kind h1 (wpAny_mono (h X A s R hI) (fun v s1 q => ?_) fun _ _ x => x) hdb hc)
  obtain ⟨t1, r1⟩ := q
  have I1 := hI.next F.wd0 t1
  have h4' := t1.keep _ _ h4 (hI.st.wd.seqOff h4 fun _ z => by cases z)
  have h5' := t1.repAll hI.st.wd h5
  obtain ⟨t, rfl⟩ := r1.isInt
  obtain ⟨v, hv, r⟩ := h5'.get? hd
  have hl : s1.heap.IsList a (List.toArray vs) := ⟨_, h4', rfl, _, rfl⟩
  exact tail_any hl.typeIs slot_list_getitem.lookup (wpAny_getItem_list hl h0 hi (by simpa using hv) ⟨t1, r⟩) (hs _ _)
end
end Mine

namespace Mine

theorem bindL_other {kf : PySem.Str → Option NameKind} {n : PySem.Str} : ∀ (r : List (PySem.Str × Value)) (m : PySem.Str → Option Value), (∀ p ∈ r, p.1 ≠ n) → bindL kf r m n = m n
  | [], _, _ => rfl
  | (n', v) :: r, m, h => by
    have hne : n ≠ n' := Ne.symm (h _ (.head _))
    unfold bindL
    rw [bindL_other r _ fun p hp => h p (.tail _ hp)]
    split
    · exact if_neg hne
    · rfl
theorem bindC_other {kf : PySem.Str → Option NameKind} {n : PySem.Str} : ∀ (r : List (PySem.Str × Value)) (m : PySem.Str → Option Value), (∀ p ∈ r, p.1 ≠ n) → bindC kf r m n = m n
  | [], _, _ => rfl
  | (n', v) :: r, m, h => by
    have hne : n ≠ n' := Ne.symm (h _ (.head _))
    unfold bindC
    rw [bindC_other r _ fun p hp => h p (.tail _ hp)]
    split
    · rfl
    · exact if_neg hne
theorem bindL_get {kf : PySem.Str → Option NameKind} {n : PySem.Str} {v : Value} (hk : kf n = some .local) : ∀ (r : List (PySem.Str × Value)) (m : PySem.Str → Option Value), (r.Pairwise fun a b => a.1 ≠ b.1) → (n, v) ∈ r → bindL kf r m n = some v
  | (n', v') :: r, m, hp, h => by
    obtain ⟨h1, h2⟩ := List.pairwise_cons.mp hp
    unfold bindL
    rcases List.mem_cons.mp h with e | h
    · cases e
      rw [bindL_other r _ fun p hp => Ne.symm (h1 p hp), if_pos hk]
      exact if_pos rfl
    · exact bindL_get hk r _ h2 h
theorem bindC_get {kf : PySem.Str → Option NameKind} {n : PySem.Str} {v : Value} (hk : kf n ≠ some .local) : ∀ (r : List (PySem.Str × Value)) (m : PySem.Str → Option Value), (r.Pairwise fun a b => a.1 ≠ b.1) → (n, v) ∈ r → bindC kf r m n = some v
  | (n', v') :: r, m, hp, h => by
    obtain ⟨h1, h2⟩ := List.pairwise_cons.mp hp
    unfold bindC
    rcases List.mem_cons.mp h with e | h
    · cases e
      rw [bindC_other r _ fun p hp => Ne.symm (h1 p hp), if_neg hk]
      exact if_pos rfl
    · exact bindC_get hk r _ h2 h
theorem cellsFrom_isSome {x : PySem.Str} : ∀ (names : List (PySem.Str × NameKind)) (n : Nat) (acc : List (PySem.Str × PySem.Addr)), ((x, NameKind.cell) ∈ names ∨ (acc.lookup x).isSome = true) → ((cellsFrom n names acc).lookup x).isSome = true
  | [], n, acc, h => by
    rcases h with h | h
    · cases h
    · exact h
  | (y, k) :: r, n, acc, h => by
    unfold cellsFrom
    by_cases hk : (k == NameKind.cell) = true
    · rw [if_pos hk]
      refine cellsFrom_isSome r _ _ ?_
      rcases h with h | h
      · rcases List.mem_cons.mp h with e | h
        · cases e
          right
          rw [List.lookup_cons, beq_self_eq_true]; rfl
        · exact .inl h
      · right
        rw [List.lookup_cons]
        split
        · rfl
        · exact h
    · rw [if_neg hk]
      refine cellsFrom_isSome r _ _ ?_
      rcases h with h | h
      · rcases List.mem_cons.mp h with e | h
        · cases e; exact absurd rfl hk
        · exact .inl h
      · exact .inr h

theorem InCallC.has {s₀ s : Shared} {env : Env} {binds : List (PySem.Str × Value)} (x : InCallC s₀ env.locals (bindL env.kindOf binds fun _ => none) env.cells (bindC env.kindOf binds fun _ => none) s)
    (hp : binds.Pairwise fun a b => a.1 ≠ b.1) {n : PySem.Str} {v : Value} (hm : (n, v) ∈ binds) (hk : env.kindOf n = some .local ∨ (env.kindOf n = some .cell ∧ (env.cells.lookup n).isSome = true)) : HasVar env s.heap n v := by
  rcases hk with hk | ⟨hk, hc⟩
  · exact .inl ⟨hk, _, x.toInCall.ns, bindL_get hk binds _ hp hm⟩
  · obtain ⟨c, hc⟩ := Option.isSome_iff_exists.mp hc
    refine .inr ⟨.inl hk, c, hc, ?_⟩
    have := x.cell n c hc
    rwa [bindC_get (by rw [hk]; simp) binds _ hp hm] at this

section
variable {prog : Program} {w : World} {G : GC} {k : Nat}

/-- a def of the text's top, as it is written -/
structure FOk (G : GC) (f : PySem.Addr) (o : Obj) (fd : FuncData) (body : List Stmt) (names : List PySem.Str) : Prop where
  ho : G.h₁.get? f = some o
  hd : o.data = .func fd
  code : G.h₁.CodeRec fd.code fd.qualname
  body : fd.body = .stmts body
  clo : fd.closure = []
  glob : fd.globals = mainGlobals
  blt : fd.builtins = builtinsNs
  co : fd.scope.isCoroutine = false
  gen : fd.scope.isGenerator = false
  kind : fd.scope.kind = .function
  bind : ∀ vs : List Value, vs.length = names.length → bindArgs fd ⟨vs, []⟩ = pure (names.zip vs)
  nodup : names.Nodup
  kinds : ∀ n ∈ names, fd.scope.names.lookup n = some .local ∨ (fd.scope.names.lookup n = some .cell ∧ (n, NameKind.cell) ∈ fd.scope.names)
  cells : ∀ n, fd.scope.names.lookup n = some .cell → (n, NameKind.cell) ∈ fd.scope.names

theorem mem_zip_pairwise {names : List PySem.Str} (hn : names.Nodup) : ∀ (vs : List Value), (names.zip vs).Pairwise fun a b => a.1 ≠ b.1 := by
  induction names with
  | nil => intro vs; simp
  | cons n r ih =>
    intro vs
    cases vs with
    | nil => simp
    | cons v vs =>
      obtain ⟨h1, h2⟩ := List.nodup_cons.mp hn
      rw [List.zip_cons_cons]
      exact List.pairwise_cons.mpr ⟨fun p hp z => h1 (by have := (List.of_mem_zip hp).1; rw [← z] at this; exact this), ih h2 vs⟩

theorem call_def (B : Base G) {f : PySem.Addr} {o : Obj} {fd : FuncData} {body : List Stmt} {names : List PySem.Str} (ok : FOk G f o fd body names)
    {X : List PySem.Addr} {A : Around} {s : Shared} {vs : List Value} {σ : List (PySem.Str × Dat)} {d : Dat} (R : Room (k + 1) A) (W : Wd G s.heap) (L : Low X s.heap) (hl : vs.length = names.length)
    (hσ : ∀ p ∈ σ, ∃ v, (p.1, v) ∈ names.zip vs ∧ Rep X s.heap v p.2)
    (h : ∀ env, env = callEnvC fd s.heap.objs.size f → FrS G s X env → RtL prog w G k s X (FI G s X env σ (names.zip vs) [] []) env body d) :
    wpAny (model prog w) A (call (.ref f) vs) (fun v s' => St G s s' ∧ Rep X s'.heap v d) No s := by
  have hof : o ≠ tabObj #[] := fun z => by have := ok.hd; rw [z] at this; cases this
  have isC : ∀ n, fd.scope.names.lookup n = some .cell → ∀ m, ((cellsFrom m fd.scope.names []).lookup n).isSome = true := fun n hn m => cellsFrom_isSome _ _ _ (.inl (ok.cells n hn))
  refine wpAny_call (codeAny_call_cells (o := o) (fd := fd) (body := body) (binds := names.zip vs) R.lim (W.get B ok.ho hof) ok.hd (W.nolimit B) (W.codeRec B ok.code) ok.body (ok.bind vs hl) ok.clo ?_ ?_ ok.co ok.gen ok.kind)
  · intro p hp
    rcases ok.kinds p.1 (List.of_mem_zip hp).1 with q | ⟨q, q2⟩
    · exact .inl q
    · exact .inr ⟨q, isC _ q _⟩
  · intro s₁ x
    generalize henv : callEnvC fd s.heap.objs.size f = env at x ⊢
    have hloc : env.locals = s.heap.objs.size := by rw [← henv]; rfl
    have hkf : ∀ n, env.kindOf n = fd.scope.names.lookup n := fun n => by rw [← henv]; rfl
    have hcells : env.cells = cellsFrom (s.heap.objs.size + 1) fd.scope.names [] := by rw [← henv]; rfl
    have eok : EnvOk env := by rw [← henv]; exact ⟨ok.kind, ok.glob, ok.blt⟩
    have fresh : ∀ a, s.heap.objs.size ≤ a → s.heap.get? a = none := fun a h => PySem.Heap.get?_none_of_le h
    have F : FrS G s X env := {
      ok := eok
      wd0 := W
      low0 := L
      locN := by rw [hloc]; exact new_none _
      cellN := fun y c _ hc => fresh c (Nat.le_of_lt (hloc ▸ x.above y c (mem_of_lookup hc)))
      inj := fun y z c _ hc hc' => name_of_addr x.apart (mem_of_lookup hc) (mem_of_lookup hc') }
    obtain ⟨h', tk, hs₁, hk⟩ := x.done
    have T : St G s s₁ := by rw [hs₁]; exact St.of_keeps W hk
    have hv : ∀ p ∈ names.zip vs, HasVar env s₁.heap p.1 p.2 := fun p hp => InCallC.has x (mem_zip_pairwise ok.nodup vs) hp (by
      rw [hkf, hcells]
      rcases ok.kinds p.1 (List.of_mem_zip hp).1 with q | ⟨q, q2⟩
      · exact .inl q
      · exact .inr ⟨q, isC _ q _⟩)
    have I1 : FI G s X env σ (names.zip vs) [] [] X s₁ := {
      st := T
      low := L.st W T
      sub := fun a h => h
      sup := fun a h => .inl h
      loc := ⟨_, x.toInCall.ns⟩
      cells := fun y hy => by
        rw [hkf] at hy
        obtain ⟨c, hc⟩ := Option.isSome_iff_exists.mp (isC y hy (s.heap.objs.size + 1))
        rw [← hcells] at hc
        exact ⟨c, _, hc, x.cell y c hc⟩
      vars := fun p hp => let ⟨v, m, r⟩ := hσ p hp; ⟨v, hv _ m, T.rep W r⟩
      vals := hv
      ownI := fun q hq => nomatch hq
      ownD := fun q hq => nomatch hq
      itsI := fun q hq => nomatch hq
      itsD := .nil }
    refine no_elim (h env henv.symm F X _ s₁ R.deeper I1) fun fl s' q => ?_
    obtain ⟨v, rfl, q⟩ := q
    exact q

/-- a def whose arguments are all data -/
theorem op_call (B : Base G) {f : PySem.Addr} {o : Obj} {fd : FuncData} {body : List Stmt} {names : List PySem.Str} (ok : FOk G f o fd body names) {ds : List Dat} {d : Dat} (hl : ds.length = names.length)
    (h : ∀ s₀ X₀ L env, env = callEnvC fd L f → FrS G s₀ X₀ env → RtL prog w G k s₀ X₀ (FI G s₀ X₀ env (names.zip ds) [] [] []) env body d) :
    OpN prog w G (k + 1) (fun vs => call (.ref f) vs) ds d := fun X A s vs R W L r => by
  refine call_def B ok (σ := names.zip ds) R W L (r.length.trans hl) ?_ fun env he F => RtL.pre (Imp.weaken (fun _ h => h) (fun _ h => absurd h List.not_mem_nil) (fun _ h => h) (List.Sublist.refl _)) (h _ _ _ env he F)
  have gen : ∀ (names : List PySem.Str) (vs : List Value) (ds : List Dat), RepAll X s.heap vs ds → ∀ p ∈ names.zip ds, ∃ v, (p.1, v) ∈ names.zip vs ∧ Rep X s.heap v p.2 := by
    intro names
    induction names with
    | nil => intro vs ds r p hp; simp at hp
    | cons n ns ih =>
      intro vs ds r p hp
      cases r with
      | nil => simp at hp
      | cons a r =>
        rw [List.zip_cons_cons] at hp
        rcases List.mem_cons.mp hp with rfl | hp
        · exact ⟨_, .head _, a⟩
        · obtain ⟨v, m, q⟩ := ih _ _ r p hp
          exact ⟨v, .tail _ m, q⟩
  exact gen names vs ds r
end
end Mine

namespace Mine

theorem codeAmong_append {pos : Pos} {a b : Int} {c : Value} (l : List Value) (h : TriplesOk l) {cv : Value} (e : codeAmong pos (l ++ [rawInt a, rawInt b, c]) = some cv) : codeAmong pos l = some cv ∨ cv = c := by
  fun_induction TriplesOk l with
  | case1 =>
    simp only [List.nil_append, codeAmong, rawInt] at e
    split at e
    · exact .inr (Option.some.inj e).symm
    · cases e
  | case2 a' t b' u x rest ih =>
    simp only [List.cons_append, codeAmong] at e ⊢
    split at e
    · rename_i hc; rw [if_pos hc]; exact .inl e
    · rename_i hc; rw [if_neg hc]; exact ih h e
  | case3 l h1 h2 => exact h.elim

/-- a made function object -/
def FnAt (h : PySem.Heap) (f : PySem.Addr) (fd : FuncData) : Prop := h.get? f = some { cls := .type "function", data := .func fd } ∧ h.CodeRec fd.code fd.qualname

section
variable {prog : Program} {w : World} {G : GC} {k : Nat} {env : Env}

theorem codeRec_st {s s' : Shared} (T : St G s s') {cd : Value} {q : PySem.Str} (x : s.heap.CodeRec cd q) (W : Wd G s.heap) : s'.heap.CodeRec cd q := by
  obtain ⟨c, o, vs, t, e, g, hd, r⟩ := x
  refine ⟨c, o, vs, t, e, T.keep c o g (fun m => ?_), hd, r⟩
  obtain ⟨p, hp, rfl⟩ := List.mem_map.mp m
  obtain ⟨ps, hps, htr, _⟩ := W.tab p hp
  rw [hps] at g; cases g; cases hd
  -- a table's second entry is an int
  have : ∀ l : List Value, TriplesOk l → ∀ q t, l[1]? ≠ some (.str q t) := by
    intro l hl q t
    match l, hl with
    | [], _ => simp
    | .int _ _ :: .int _ _ :: _ :: rest, _ => simp
  exact this _ htr q t (by simpa using r)
theorem FnAt.st {s s' : Shared} (T : St G s s') (W : Wd G s.heap) {f : PySem.Addr} {fd : FuncData} (x : FnAt s.heap f fd) : FnAt s'.heap f fd :=
  ⟨T.keep _ _ x.1 (W.seqOff x.1 fun _ z => by cases z), codeRec_st T x.2 W⟩

abbrev lamFd (params : Arguments) (body : Expr) (scope : Scope) (clos : List (PySem.Str × PySem.Addr)) (qual : PySem.Str) (pm cv ct : Value) : FuncData := kla_fn "<lambda>" qual params body scope clos pm cv ct

/-- the tables stand apart -/
def Apart (G : GC) : Prop := ∀ p ∈ G.tabs, ∀ q ∈ G.tabs, p.2.1 = q.2.1 → p = q

theorem make_lambda (B : Base G) (ap : Apart G) {A : Around} {s : Shared} (W : Wd G s.heap) {q : PySem.Addr × PySem.Addr × PySem.Str} (hq : q ∈ G.tabs) (hcode : env.code = .ref q.1) (hqual : env.qual ++ "<lambda>" = q.2.2)
    (hg : env.globals = mainGlobals) {params : Arguments} {body : Expr} {scope : Scope} {pos : Pos} {clos : List (PySem.Str × PySem.Addr)} (hcl : closureFor scope env = pure clos) (hdef : defaultsOf params env = ([], [])) :
    wpAny (model prog w) A (eval (.Lambda params body scope pos) env) (fun v s' => St G s s' ∧ ∃ f pm cv ct, v = .ref f ∧ s.heap.get? f = none ∧ FnAt s'.heap f (lamFd params body scope clos q.2.2 pm cv ct)) No s := by
  refine kla_eval hdef ?_
  rw [hqual]
  obtain ⟨ps, hP, htr, hcd⟩ := W.tab q hq
  have hgs := W.ns B B.g
  obtain ⟨t0, ch0⟩ := B.tab0 q hq
  have C := W.codeHd B ch0
  obtain ⟨bm, ob, b1, b2, b3, b4, b5, b6⟩ := B.bmain
  have hgP : mainGlobals ≠ q.2.1 := fun z => by
    obtain ⟨o, es, ep, e, hd, _⟩ := hgs
    rw [z, hP] at e; cases e; cases hd
  have b3' := W.get B b3 (fun z => by rw [z] at b4; cases b4)
  have hbP : bm ≠ q.2.1 := fun z => by
    rw [z, hP] at b3'; cases b3'; cases b4
  have hbG : bm ≠ mainGlobals := fun z => by
    obtain ⟨o, es, ep, e, hd, _⟩ := hgs
    rw [z, e] at b3'; cases b3'; rw [hd] at b6; cases b6
  have hbb : s.heap.BuiltinsAt G.mg q.2.1 := ⟨bm, ob, b1, b2, hbG, hbP, b3', b4, b5, b6⟩
  cases hf : codeAmong pos ps.toList with
  | some cv =>
    refine kla_makeFunctionHit hcl hg hgs hcode C hP htr hf hbb fun ctv h' tk hk hsz => ?_
    have S1 : St G s { s with heap := h', toks := tk } := St.of_keeps W hk
    refine ⟨S1.trans (St.push S1.wd _), h'.objs.size, _, cv, ctv, rfl, PySem.Heap.get?_none_of_le hsz, PySem.Heap.get?_push_size _ rfl, ?_⟩
    exact (hcd pos cv hf).keeps fun b o e => PySem.Heap.get?_push_of_some _ (hk b o e)
  | none =>
    refine kla_makeFunction hcl hg hgs hcode C hP htr hf hgP hbb fun c' ctv h' tk hx hge hlt hrec htb => ?_
    have W1 : Wd G h' := {
      keep := fun b o e n => hx b o (fun z => n (z ▸ List.mem_map_of_mem hq)) (W.keep b o e n)
      tab := fun q' hq' => by
        by_cases hqq : q'.2.1 = q.2.1
        · obtain rfl := ap q' hq' q hq hqq
          refine ⟨_, htb, ?_, fun pos' cv e => ?_⟩
          · simpa using TriplesOk_snoc pos.line pos.col (.ref c') ps.toList htr
          · rcases codeAmong_append ps.toList htr (by simpa using e) with e | e
            · obtain ⟨c, o, vs, t, e1, e2, e3, e4⟩ := hcd pos' cv e
              refine ⟨c, o, vs, t, e1, hx _ _ (fun z => ?_) e2, e3, e4⟩
              rw [z, hP] at e2; cases e2; cases e3
              have : ∀ l : List Value, TriplesOk l → ∀ q t, l[1]? ≠ some (.str q t) := by
                intro l hl q t
                match l, hl with
                | [], _ => simp
                | .int _ _ :: .int _ _ :: _ :: rest, _ => simp
              exact this _ htr _ t (by simpa using e4)
            · rw [e]; exact hrec
        · obtain ⟨ps', hP', htr', hcd'⟩ := W.tab q' hq'
          refine ⟨ps', hx _ _ hqq hP', htr', fun pos' cv e => ?_⟩
          obtain ⟨c, o, vs, t, e1, e2, e3, e4⟩ := hcd' pos' cv e
          refine ⟨c, o, vs, t, e1, hx _ _ (fun z => ?_) e2, e3, e4⟩
          rw [z, hP] at e2; cases e2; cases e3
          have : ∀ l : List Value, TriplesOk l → ∀ q t, l[1]? ≠ some (.str q t) := by
            intro l hl q t
            match l, hl with
            | [], _ => simp
            | .int _ _ :: .int _ _ :: _ :: rest, _ => simp
          exact this _ htr _ t (by simpa using e4) }
    have S1 : St G s { s with heap := h', toks := tk } := ⟨rfl, rfl, fun b o e n => hx b o (fun z => n (z ▸ List.mem_map_of_mem hq)) e, W1⟩
    refine ⟨S1.trans (St.push S1.wd _), h'.objs.size, _, .ref c', ctv, rfl, PySem.Heap.get?_none_of_le (Nat.le_of_lt (Nat.lt_of_le_of_lt hge hlt)), PySem.Heap.get?_push_size _ rfl, hrec.push _⟩

/-- a lambda's call -/
theorem call_lambda (B : Base G) {A : Around} {s : Shared} (R : Room (k + 1) A) (W : Wd G s.heap) {f : PySem.Addr} {params : Arguments} {body : Expr} {scope : Scope} {clos : List (PySem.Str × PySem.Addr)} {qual : PySem.Str} {pm cv ct : Value} (hf : FnAt s.heap f (lamFd params body scope clos qual pm cv ct))
    {vs : List Value} {binds : List (PySem.Str × Value)} (hbind : bindArgs (lamFd params body scope clos qual pm cv ct) ⟨vs, []⟩ = pure binds) (hloc : ∀ y ∈ binds, scope.names.lookup y.1 = some .local)
    (hco : scope.isCoroutine = false) (hgen : scope.isGenerator = false) (hk : scope.kind = .function) (hcell : ∀ x ∈ scope.names, x.2 ≠ .cell) {P : Value → Shared → Prop}
    (h : ∀ env s₁, env = newEnv scope s.heap.objs.size mainGlobals clos (qual ++ ".<locals>.") (some f) cv none builtinsNs → EnvOk env → St G s s₁ → (s₁.heap.Ns env.locals fun x => binds.reverse.lookup x) →
      wpAny (model prog w) (A.deeper env) (eval body env) (fun v s' => St G s₁ s' ∧ P v s') No s₁) :
    wpAny (model prog w) A (call (.ref f) vs) (fun v s' => St G s s' ∧ P v s') No s := by
  refine wpAny_call (kla_callFunE (body := body) R.lim hf.1 rfl hco hgen rfl hf.2 ?_)
  rw [hbind]
  refine wpAny_pure (wpAny_newFunctionEnv hcell hloc (fun h₁ hns hsb => ?_) hk)
  have hk₁ : ∀ b o, s.heap.get? b = some o → h₁.get? b = some o := fun b o e => hsb.extBut b o (Nat.ne_of_lt (PySem.Heap.lt_size e)) (PySem.Heap.get?_push_of_some _ e)
  have S1 : St G s { s with heap := h₁, toks := s.toks + binds.length } := St.of_keeps W hk₁
  refine ⟨S1.wd.nolimit B, kla_codeExpr (no_elim (h _ _ rfl ⟨hk, rfl, rfl⟩ S1 hns) fun v s' q => ⟨S1.trans q.1, q.2⟩)⟩
end
end Mine

namespace Mine

theorem ofString_inj {a b : String} : PySem.Str.ofString a = PySem.Str.ofString b ↔ a = b := by
  constructor
  · intro h
    rw [PySem.Str.ofString_eq_toList, PySem.Str.ofString_eq_toList] at h
    have h2 : a.toList.map Char.toNat = b.toList.map Char.toNat := by simpa using h
    have inj : ∀ x y : Char, x.toNat = y.toNat → x = y := fun x y e => Char.ext (UInt32.toNat_inj.mp e)
    have gen : ∀ l m : List Char, l.map Char.toNat = m.map Char.toNat → l = m := by
      intro l
      induction l with
      | nil => intro m h; cases m <;> simp_all
      | cons x l ih =>
        intro m h
        cases m with
        | nil => simp at h
        | cons y m =>
          simp only [List.map_cons, List.cons.injEq] at h
          rw [inj _ _ h.1, ih m h.2]
    exact String.toList_inj.mp (gen _ _ h2)
  · intro h; rw [h]

/-- a def of the text, made a function object -/
def fdOf (st : Stmt) (pm cd : Value) : FuncData := match st with
  | .FunctionDef name args body _ _ _ scope _ _ _ => { name, qualname := name, params := args, body := .stmts body, scope, globals := mainGlobals, closure := [], defaults := .none, kwdefaults := .none, pyModule := pm, code := cd }
  | _ => default
def bodyOf (st : Stmt) : List Stmt := match st with
  | .FunctionDef _ _ body _ _ _ _ _ _ _ => body
  | _ => []

section
variable {prog : Program} {w : World} {G : GC} {k : Nat}

/-- a value that answers like a test p on the data ds, from the state s on -/
def PredAt (prog : Program) (w : World) (G : GC) (k : Nat) (X : List PySem.Addr) (s : Shared) (f : Value) (p : Dat → Bool) (ds : List Dat) : Prop :=
  (∃ a fd, f = .ref a ∧ s.heap.get? a = some { cls := .type "function", data := .func fd }) ∧
  ∀ X' A s' v d, Room k A → St G s s' → (∀ a ∈ X, a ∈ X') → (∀ a ∈ X', a ∈ X ∨ s.heap.get? a = none) → Low X' s'.heap → d ∈ ds → Rep X' s'.heap v d →
    wpAny (model prog w) A (call f [v]) (fun r s'' => St G s' s'' ∧ r = .bool (p d)) No s'
end
end Mine
namespace Mine
section
variable {prog : Program} {w : World} {G : GC} {k : Nat} {env : Env} {s₀ : Shared} {X₀ : List PySem.Addr}
variable {σ : List (PySem.Str × Dat)} {τ : List (PySem.Str × Value)} {own : List (PySem.Str × List Dat)} {its : Its}
theorem PredAt.less {X : List PySem.Addr} {s : Shared} {f : Value} {p : Dat → Bool} {ds : List Dat} {j : Nat} (h : PredAt prog w G k X s f p ds) (hj : k ≤ j := by omega) : PredAt prog w G j X s f p ds :=
  ⟨h.1, fun X' A s' v d R => h.2 X' A s' v d (R.less hj)⟩
theorem Tv.pred (F : FrS G s₀ X₀ env) {y x : PySem.Str} {pf : Value} {p : Dat → Bool} {ds : List Dat} {d : Dat} {py px pos : Pos} (hy : (y, pf) ∈ τ) (hp : PredAt prog w G k X₀ s₀ pf p ds) (hd : d ∈ ds)
    (hx : (x, d) ∈ σ) (hxd : (x == ("__debug__" : PySem.Str)) = false) (hxc : (x == ("__classdict__" : PySem.Str)) = false) (hyd : (y == ("__debug__" : PySem.Str)) = false) (hyc : (y == ("__classdict__" : PySem.Str)) = false) :
    Tv prog w G k (FI G s₀ X₀ env σ τ own its) env (.Call (.Name y py) [.Name x px] [] pos) (p d) := fun X A s R hI => by
  refine wpAny_isTrue_value (wpAny_Call_NameR (name_has F.ok.kind (hI.vals _ hy) ?_ hyd hyc)) rfl
  obtain ⟨⟨a, fd, rfl, ha⟩, run⟩ := hp
  refine PyProof.Rows.callWith_def (o := { cls := .type "function", data := .func fd }) rfl (args_cons ?_ rfl) rfl
  obtain ⟨v, q1, q2⟩ := hI.vars _ hx
  refine name_has F.ok.kind q1 (args_nil ⟨hI.st.keep _ _ ha (F.wd0.seqOff ha fun _ z => by cases z), ?_⟩) hxd hxc
  refine wpAny_mono (run X A s v d R hI.st hI.sub hI.sup hI.low hd q2) (fun r s' q => ?_) fun _ _ x => x
  obtain ⟨t, rfl⟩ := q
  exact wpAny_truthy_bool ⟨t, rfl⟩
end
end Mine

namespace Mine
section
variable {prog : Program} {w : World} {G : GC} {I : Fam} {k : Nat} {env : Env}

/-- what a split of a list promises -/
def SplitOk (prog : Program) (w : World) (G : GC) (f : PySem.Addr) : Prop :=
  ∀ (k : Nat) (X : List PySem.Addr) (A : Around) (s : Shared) (lst pf : Value) (ds : List Dat) (p : Dat → Bool), Room (k + 1) A → Wd G s.heap → Low X s.heap → Rep X s.heap lst (.list ds) → PredAt prog w G k X s pf p ds → ds.length ≤ 1000 →
    wpAny (model prog w) A (call (.ref f) [lst, pf]) (fun v s' => St G s s' ∧ Rep X s'.heap v (.tuple [.list (ds.filter p), .list (ds.filter fun d => !p d)])) No s

/-- a lambda's frame -/
abbrev lamEnv (scope : Scope) (L : PySem.Addr) (clos : List (PySem.Str × PySem.Addr)) (qual : PySem.Str) (fa : PySem.Addr) (cv : Value) : Env := newEnv scope L mainGlobals clos (qual ++ ".<locals>.") (some fa) cv none builtinsNs

theorem HasVar.lam {scope : Scope} {L fa : PySem.Addr} {clos : List (PySem.Str × PySem.Addr)} {qual : PySem.Str} {cv : Value} {h : PySem.Heap} {y : PySem.Str} {v : Value} (q : HasVar env h y v)
    (hf : scope.names.lookup y = some .free) (hl : clos.lookup y = env.cells.lookup y) (ho : env.kindOf y = some .cell ∨ env.kindOf y = some .free) : HasVar (lamEnv scope L clos qual fa cv) h y v := by
  rcases q with ⟨q, _⟩ | ⟨q, c, l, e⟩
  · rcases ho with ho | ho <;> rw [ho] at q <;> cases q
  · exact .inr ⟨.inr hf, c, hl.trans l, e⟩
theorem Knows.lam {scope : Scope} {L fa : PySem.Addr} {clos : List (PySem.Str × PySem.Addr)} {qual : PySem.Str} {cv : Value} {y : PySem.Str} {d : Dat} (q : Knows I env y d)
    (hf : scope.names.lookup y = some .free) (hl : clos.lookup y = env.cells.lookup y) (ho : env.kindOf y = some .cell ∨ env.kindOf y = some .free) : Knows I (lamEnv scope L clos qual fa cv) y d := fun X s h =>
  let ⟨v, a, b⟩ := q X s h; ⟨v, a.lam hf hl ho, b⟩

/-- a lambda of one name, as it is written -/
structure LamOk (G : GC) (env : Env) (q : PySem.Addr × PySem.Addr × PySem.Str) (params : Arguments) (body : Expr) (scope : Scope) (clos : List (PySem.Str × PySem.Addr)) (x : PySem.Str) : Prop where
  hq : q ∈ G.tabs
  code : env.code = .ref q.1
  qual : env.qual ++ "<lambda>" = q.2.2
  clo : closureFor scope env = pure clos
  dfl : defaultsOf params env = ([], [])
  bind : ∀ (v pm cv ct : Value), bindArgs (lamFd params body scope clos q.2.2 pm cv ct) ⟨[v], []⟩ = pure [(x, v)]
  tgt : scope.names.lookup x = some .local
  co : scope.isCoroutine = false
  gen : scope.isGenerator = false
  kind : scope.kind = .function
  cell : ∀ x ∈ scope.names, x.2 ≠ .cell

/-- a lambda made is a test -/
theorem lam_pred (V : InvF G I) (B : Base G) {q : PySem.Addr × PySem.Addr × PySem.Str} {params : Arguments} {body : Expr} {scope : Scope} {clos : List (PySem.Str × PySem.Addr)} {x : PySem.Str}
    (lo : LamOk G env q params body scope clos x) {ds : List Dat} (p : Dat → Dat)
    (hbody : ∀ d ∈ ds, ∀ L fa cv, Ev prog w G k (With I (lamEnv scope L clos q.2.2 fa cv) x d) (lamEnv scope L clos q.2.2 fa cv) body (p d))
    {X : List PySem.Addr} {s : Shared} (hI : I X s) {f : PySem.Addr} {pm cv ct : Value} (hf : FnAt s.heap f (lamFd params body scope clos q.2.2 pm cv ct)) :
    ∀ X' A s' v d, Room (k + 1) A → St G s s' → (∀ a ∈ X, a ∈ X') → (∀ a ∈ X', a ∈ X ∨ s.heap.get? a = none) → Low X' s'.heap → d ∈ ds → Rep X' s'.heap v d →
      wpAny (model prog w) A (call (.ref f) [v]) (fun r s'' => St G s' s'' ∧ Rep X' s''.heap r (p d)) No s' := fun X' A s' v d R T h1 h2 l hd r => by
  have W := V.wd _ _ hI
  refine call_lambda B R T.wd (hf.st T W) (lo.bind v pm cv ct) (fun y hy => by rw [List.mem_singleton.mp hy]; exact lo.tgt) lo.co lo.gen lo.kind lo.cell fun env' s₁ he eok T1 hns => ?_
  have I1 : I X' s₁ := V.mono _ _ _ (V.wide _ _ _ _ hI T h1 h2 l) T1
  subst he
  refine no_elim (hbody d hd _ _ _ X' _ s₁ R.deeper ⟨I1, v, .inl ⟨lo.tgt, _, hns, ?_⟩, T1.rep T.wd r⟩) fun r' s'' q => q
  simp

theorem Ev.split (V : InvF G I) (B : Base G) (ap : Apart G) (ok : EnvOk env) {f : PySem.Addr} {o : Obj} {fd : FuncData} (hsp : SplitOk prog w G f) {p1 pos lpos : Pos} {e1 : Expr} {q : PySem.Addr × PySem.Addr × PySem.Str} {params : Arguments} {body : Expr} {scope : Scope}
    {clos : List (PySem.Str × PySem.Addr)} {x : PySem.Str} (b : FName G env "_split_list" f o fd) (lo : LamOk G env q params body scope clos x)
    {ds : List Dat} (h1 : Ev prog w G (k + 2) I env e1 (.list ds)) (hz : ds.length ≤ 1000) (p : Dat → Bool)
    (hbody : ∀ d ∈ ds, ∀ L fa cv, Ev prog w G k (With I (lamEnv scope L clos q.2.2 fa cv) x d) (lamEnv scope L clos q.2.2 fa cv) body (.bool (p d)))
    (he : starEach [e1, .Lambda params body scope lpos] env = (false, eval e1 env) :: starEach [.Lambda params body scope lpos] env) :
    Ev prog w G (k + 2) I env (.Call (.Name "_split_list" p1) [e1, .Lambda params body scope lpos] [] pos) (.tuple [.list (ds.filter p), .list (ds.filter fun d => !p d)]) := fun X A s R hI => by
  refine wpAny_Call_NameR (name_global B (V.wd _ _ hI) ok b.kind b.mg ?_ b.nd)
  refine PyProof.Rows.callWith_def b.hd (args_cons (wpAny_mono (h1 X A s R hI) (fun v s1 h => ?_) fun _ _ x => x) he) he
  obtain ⟨t1, r1⟩ := h
  have I1 := V.mono _ _ _ hI t1
  refine args_cons (wpAny_mono (make_lambda B ap (V.wd _ _ I1) lo.hq lo.code lo.qual ok.globals lo.clo lo.dfl) (fun fv s2 h => ?_) fun _ _ x => x) rfl
  obtain ⟨t2, fa, pm, cv, ct, rfl, hfn, hfa⟩ := h
  have I2 := V.mono _ _ _ I1 t2
  refine args_nil ⟨(V.wd _ _ I2).get B b.ho (fun q => by have := b.hd; rw [q] at this; cases this), ?_⟩
  refine wpAny_mono (hsp (k + 1) X A s2 v (.ref fa) ds p R (V.wd _ _ I2) (V.low _ _ I2) (t2.rep (V.wd _ _ I1) r1) ⟨⟨fa, _, rfl, hfa.1⟩, ?_⟩ hz) (fun v' s3 h => ⟨(t1.trans t2).trans h.1, h.2⟩) fun _ _ x => x
  intro X' A' s' v d R' T h1 h2 l hd r
  refine wpAny_mono (lam_pred V B lo (fun d => .bool (p d)) hbody I2 hfa X' A' s' v d R' T h1 h2 l hd r) (fun r' s'' q => ⟨q.1, q.2.isBool⟩) fun _ _ x => x
end
end Mine

namespace Mine

/-- before, in the order of code points -/
abbrev SLt (x y : PySem.Str) : Prop := x.cps.toList < y.cps.toList

theorem cmp_strs_gt {prog : Program} {w : World} {A : Around} {P : Nat → Value → Prop} (val : Nat → PySem.Str) (hval : ∀ i v, P i v → ∃ t, v = .str (val i) t) :
    CmpOf prog w A .Gt P (fun i j => decide (SLt (val j) (val i))) := fun i j vi vj s Q E hi hj h => by
  obtain ⟨t, rfl⟩ := hval i vi hi
  obtain ⟨u, rfl⟩ := hval j vj hj
  exact richCompare_gives (op := .Gt) (typeIs_str s _ t) (typeIs_str s _ u) F.slot_str_gt F.entry_str_gt (F.args_str_gt_2 _ _) (gives_str_gt _ _ t u) (fun x => nomatch x) h
theorem cmp_strs_lt {prog : Program} {w : World} {A : Around} {P : Nat → Value → Prop} (val : Nat → PySem.Str) (hval : ∀ i v, P i v → ∃ t, v = .str (val i) t) :
    CmpOf prog w A .Lt P (fun i j => decide (SLt (val i) (val j))) := fun i j vi vj s Q E hi hj h => by
  obtain ⟨t, rfl⟩ := hval i vi hi
  obtain ⟨u, rfl⟩ := hval j vj hj
  exact richCompare_gives (op := .Lt) (typeIs_str s _ t) (typeIs_str s _ u) F.slot_str_lt F.entry_str_lt (F.args_str_lt_2 _ _) (gives_str_lt _ _ t u) (fun x => nomatch x) h

section
variable {prog : Program} {w : World} {A : Around} {E : Value → Shared → Prop} {s : Shared}

theorem two_at {a b v : Value} {i : Nat} (h : (#[a, b] : Array Value)[i]? = some v) : (i = 0 ∧ v = a) ∨ (i = 1 ∧ v = b) := by
  match i, h with
  | 0, h => exact .inl ⟨rfl, (Option.some.inj h).symm⟩
  | 1, h => exact .inr ⟨rfl, (Option.some.inj h).symm⟩
  | n + 2, h => simp at h

theorem two_val {x y : PySem.Str} {t u : Tok} {i : Nat} {v : Value} (h : (#[Value.str x t, .str y u] : Array Value)[i]? = some v) : ∃ t', v = .str (if i = 0 then x else y) t' := by
  rcases two_at h with ⟨rfl, rfl⟩ | ⟨rfl, rfl⟩
  · exact ⟨t, rfl⟩
  · exact ⟨u, rfl⟩

theorem max_two_strs {x y : PySem.Str} {t u : Tok} {Q : Value → Shared → Prop} (hh : A.handled = none)
    (h : ∀ h' tk, (∀ c o, s.heap.get? c = some o → h'.get? c = some o) → Q (if SLt x y then .str y u else .str x t) { s with heap := h', toks := tk }) :
    wpAny (model prog w) A (call (.builtin "max") [.str x t, .str y u]) Q E s := by
  have hT : (s.heap.push { cls := .type "tuple", data := .seq #[.str x t, .str y u] }).IsTuple s.heap.objs.size #[.str x t, .str y u] := ⟨_, PySem.Heap.get?_push_size _ rfl, rfl, 0, rfl⟩
  refine call_max_two (wpAny_pyIter_tuple hT ?_)
  have hsz : (s.heap.push { cls := .type "tuple", data := .seq #[.str x t, .str y u] }).objs.size = s.heap.objs.size + 1 := PySem.Heap.size_push ..
  refine ⟨_, [_, s.heap.objs.size], [_], _, _, _, _, rfl, Walks.tuple (A := A.in1) hh _ s.heap.objs.size (by rw [hsz]; exact Nat.ne_of_lt (Nat.lt_succ_self _)) #[.str x t, .str y u],
    ⟨⟨_, PySem.Heap.get?_push_size _ rfl, rfl, rfl⟩, hT.push _⟩, fun c hc => ?_, by simp, cmp_strs_gt (fun i => if i = 0 then x else y) (fun _ _ => two_val), fun v h' tk hP hk => ?_⟩
  · show c < ((s.heap.push _).push _).objs.size
    rw [PySem.Heap.size_push, hsz]
    rcases List.mem_cons.mp hc with rfl | hc
    · rw [hsz]; exact Nat.lt_succ_self _
    · rcases List.mem_cons.mp hc with rfl | hc
      · exact Nat.lt_succ_of_lt (Nat.lt_succ_self _)
      · cases hc
  · have hold : ∀ c o, s.heap.get? c = some o → h'.get? c = some o := fun c o e => by
      refine hk c o (fun hm => ?_) (PySem.Heap.get?_push_of_some _ (PySem.Heap.get?_push_of_some _ e))
      rcases List.mem_cons.mp hm with e1 | hm
      · have := PySem.Heap.lt_size e; rw [e1, hsz] at this; exact Nat.lt_irrefl _ (Nat.lt_of_succ_lt this)
      · cases hm
    have := h h' tk hold
    have hv : v = if SLt x y then Value.str y u else Value.str x t := by
      have hP' : (#[Value.str x t, .str y u] : Array Value)[argBest (fun i j => decide (SLt (if j = 0 then x else y) (if i = 0 then x else y))) 1]? = some v := hP
      by_cases hba : SLt x y
      · have e : argBest (fun i j => decide (SLt (if j = 0 then x else y) (if i = 0 then x else y))) 1 = 1 := by simp [argBest, hba]
        rw [e] at hP'
        rw [if_pos hba]
        exact (Option.some.inj hP').symm
      · have e : argBest (fun i j => decide (SLt (if j = 0 then x else y) (if i = 0 then x else y))) 1 = 0 := by simp [argBest, hba]
        rw [e] at hP'
        rw [if_neg hba]
        exact (Option.some.inj hP').symm
    rw [hv]; exact this

theorem min_two_strs {x y : PySem.Str} {t u : Tok} {Q : Value → Shared → Prop} (hh : A.handled = none)
    (h : ∀ h' tk, (∀ c o, s.heap.get? c = some o → h'.get? c = some o) → Q (if SLt y x then .str y u else .str x t) { s with heap := h', toks := tk }) :
    wpAny (model prog w) A (call (.builtin "min") [.str x t, .str y u]) Q E s := by
  have hT : (s.heap.push { cls := .type "tuple", data := .seq #[.str x t, .str y u] }).IsTuple s.heap.objs.size #[.str x t, .str y u] := ⟨_, PySem.Heap.get?_push_size _ rfl, rfl, 0, rfl⟩
  refine call_min_two (wpAny_pyIter_tuple hT ?_)
  have hsz : (s.heap.push { cls := .type "tuple", data := .seq #[.str x t, .str y u] }).objs.size = s.heap.objs.size + 1 := PySem.Heap.size_push ..
  refine ⟨_, [_, s.heap.objs.size], [_], _, _, _, _, rfl, Walks.tuple (A := A.in1) hh _ s.heap.objs.size (by rw [hsz]; exact Nat.ne_of_lt (Nat.lt_succ_self _)) #[.str x t, .str y u],
    ⟨⟨_, PySem.Heap.get?_push_size _ rfl, rfl, rfl⟩, hT.push _⟩, fun c hc => ?_, by simp, cmp_strs_lt (fun i => if i = 0 then x else y) (fun _ _ => two_val), fun v h' tk hP hk => ?_⟩
  · show c < ((s.heap.push _).push _).objs.size
    rw [PySem.Heap.size_push, hsz]
    rcases List.mem_cons.mp hc with rfl | hc
    · rw [hsz]; exact Nat.lt_succ_self _
    · rcases List.mem_cons.mp hc with rfl | hc
      · exact Nat.lt_succ_of_lt (Nat.lt_succ_self _)
      · cases hc
  · have hold : ∀ c o, s.heap.get? c = some o → h'.get? c = some o := fun c o e => by
      refine hk c o (fun hm => ?_) (PySem.Heap.get?_push_of_some _ (PySem.Heap.get?_push_of_some _ e))
      rcases List.mem_cons.mp hm with e1 | hm
      · have := PySem.Heap.lt_size e; rw [e1, hsz] at this; exact Nat.lt_irrefl _ (Nat.lt_of_succ_lt this)
      · cases hm
    have := h h' tk hold
    have hv : v = if SLt y x then Value.str y u else Value.str x t := by
      have hP' : (#[Value.str x t, .str y u] : Array Value)[argBest (fun i j => decide (SLt (if i = 0 then x else y) (if j = 0 then x else y))) 1]? = some v := hP
      by_cases hba : SLt y x
      · have e : argBest (fun i j => decide (SLt (if i = 0 then x else y) (if j = 0 then x else y))) 1 = 1 := by simp [argBest, hba]
        rw [e] at hP'
        rw [if_pos hba]
        exact (Option.some.inj hP').symm
      · have e : argBest (fun i j => decide (SLt (if i = 0 then x else y) (if j = 0 then x else y))) 1 = 0 := by simp [argBest, hba]
        rw [e] at hP'
        rw [if_neg hba]
        exact (Option.some.inj hP').symm
    rw [hv]; exact this
end

section
variable {prog : Program} {w : World} {G : GC} {I : Fam} {k : Nat} {env : Env}
theorem op_maxStr {x y : PySem.Str} : OpN prog w G k (fun vs => call (.builtin "max") vs) [.str x, .str y] (.str (if SLt x y then y else x)) := fun X A s vs R W L r => by
  obtain ⟨v, u, rfl, r1, r2⟩ := two_of r
  obtain ⟨t1, rfl⟩ := r1.isStr
  obtain ⟨t2, rfl⟩ := r2.isStr
  refine max_two_strs R.handled fun h' tk hk => ⟨St.of_keeps W hk, ?_⟩
  split <;> exact .str _ _
theorem op_minStr {x y : PySem.Str} : OpN prog w G k (fun vs => call (.builtin "min") vs) [.str x, .str y] (.str (if SLt y x then y else x)) := fun X A s vs R W L r => by
  obtain ⟨v, u, rfl, r1, r2⟩ := two_of r
  obtain ⟨t1, rfl⟩ := r1.isStr
  obtain ⟨t2, rfl⟩ := r2.isStr
  refine min_two_strs R.handled fun h' tk hk => ⟨St.of_keeps W hk, ?_⟩
  split <;> exact .str _ _
end
end Mine

namespace Mine

/-- the asker's run with known answers -/
def kasRun {α : Type} (lt : Nat → Nat → Bool) : KasT α → α
  | .ret a => a
  | .ask i j k => kasRun lt (k (lt i j))

/-- all questions lie below n -/
def asksIn {α : Type} (n : Nat) (lt : Nat → Nat → Bool) : KasT α → Bool
  | .ret _ => true
  | .ask i j k => decide (i < n) && decide (j < n) && asksIn n lt (k (lt i j))

section
variable {prog : Program} {w : World} {G : GC} {A : Around} {E : Value → Shared → Prop}

theorem kas_go {α : Type} {cmp : Nat → Nat → (Bool → Shared → Prop) → Shared → Prop} {lt : Nat → Nat → Bool} {n : Nat} {Q : α → Shared → Prop} {s : Shared} (hc : ∀ i j C, i < n → j < n → C (lt i j) s → cmp i j C s) :
    ∀ t : KasT α, asksIn n lt t = true → Q (kasRun lt t) s → t.kasWp cmp Q s
  | .ret a, _, h => h
  | .ask i j k, ha, h => by
    simp only [asksIn, Bool.and_eq_true, decide_eq_true_eq] at ha
    exact hc i j _ ha.1.1 ha.1.2 (kas_go hc (k (lt i j)) ha.2 h)

theorem strs_at : ∀ {vs : List Value} {xs : List PySem.Str}, StrsAre vs xs → ∀ i, i < xs.length → ∃ t, vs.getD i Value.none = .str (xs.getD i default) t
  | _, _, .nil, i, h => absurd h (Nat.not_lt_zero _)
  | _, _, .cons x t r, 0, _ => ⟨t, rfl⟩
  | _, _, .cons x t r, i + 1, h => strs_at r i (Nat.lt_of_succ_lt_succ h)
theorem strs_len : ∀ {vs : List Value} {xs : List PySem.Str}, StrsAre vs xs → vs.length = xs.length
  | _, _, .nil => rfl
  | _, _, .cons x t r => congrArg (· + 1) (strs_len r)

/-- the answers by the keys -/
def keyLt (xs : List PySem.Str) (i j : Nat) : Bool := decide (SLt (xs.getD i default) (xs.getD j default))

theorem strs_snoc {x : PySem.Str} {t : Tok} : ∀ {vs : List Value} {xs : List PySem.Str}, StrsAre vs xs → StrsAre (vs ++ [.str x t]) (xs ++ [x])
  | _, _, .nil => .cons x t .nil
  | _, _, .cons y u r => .cons y u (strs_snoc r)

theorem sort_end {s s' : Shared} {a kS : PySem.Addr} {vs ks : List Value} {xs : List PySem.Str} {e e1 : Nat} {P : PySem.Fin → Shared → Prop} (W : Wd G s.heap) (T : St G s s') (ha0 : s.heap.get? a = none) (hk0 : s.heap.get? kS = none) (hka : kS ≠ a)
    (hk : s'.heap.get? kS = some (seqObj "list" (List.toArray ks) e)) (ha : s'.heap.get? a = some (seqObj "list" #[] e1)) (hs : StrsAre ks xs) (hl : xs.length = vs.length) (h2 : 2 ≤ vs.length) (h64 : vs.length < 64)
    (hin : asksIn vs.length (keyLt xs) (kas_sort vs.length) = true)
    (h : ∀ h' c, St G s { s' with heap := h' } → h'.get? a = some (seqObj "list" (List.toArray ((kasRun (keyLt xs) (kas_sort vs.length)).toList.map fun i => vs.getD i Value.none)) c) → P (.done (.ret .none)) { s' with heap := h' }) :
    wpAny (model prog w) A (ksk_end a false vs.toArray e1 (.ref kS) (List.toArray ks)) P E s' := by
  have hkl : ks.length = vs.length := (strs_len hs).trans hl
  unfold ksk_end
  dsimp only
  have hn2 : ¬ vs.toArray.size < 2 := by rw [List.size_toArray]; omega
  rw [if_neg hn2, if_neg hn2]
  obtain ⟨v₁, v₂, rest, hks⟩ : ∃ v₁ v₂ rest, ks = v₁ :: v₂ :: rest := by
    match ks, hkl with
    | [], h => simp at h; omega
    | [_], h => simp at h; omega
    | v₁ :: v₂ :: rest, _ => exact ⟨_, _, _, rfl⟩
  have hkind : keyKind' (List.toArray ks) = pure oneType' := by
    rw [hks] at hs ⊢
    exact keyKind_strs hs
  rw [hkind]
  simp only [Bool.false_eq_true, if_false]
  refine wpAny_bind (wpAny_pure ?_)
  refine wpAny_bind (wpAny_mono (kat_run (κ := oneType') (E := E) (Q := fun st' s'' => s'' = s' ∧ (kasRun (keyLt xs) (kas_sort vs.length)).size = vs.length ∧ arrOf st' = (kasRun (keyLt xs) (kas_sort vs.length)).map (kas_item (ks.toArray.zip vs.toArray)) ∧ failedOf st' = none)
    (G := fun p s'' => s'' = s' ∧ p = kasRun (keyLt xs) (kas_sort vs.length)) hkl h2 h64 (fun p st' s'' h1 h2 h3 h4 => ?_) ?_) ?_ fun _ _ x => x)
  · obtain ⟨h5, h6⟩ := h4
    subst h6
    exact ⟨h5, h1, h2, h3⟩
  · refine kas_go (n := vs.length) (fun i j C hi hj hC => ?_) _ hin ⟨rfl, rfl⟩
    unfold kas_ask
    obtain ⟨t1, e1⟩ := strs_at hs i (by omega)
    obtain ⟨t2, e2⟩ := strs_at hs j (by omega)
    rw [e1, e2]
    exact kas_lt_str hC
  · rintro ⟨⟨⟩, st'⟩ s'' ⟨rfl, hp, har, hf⟩
    dsimp only
    unfold ksk_tail
    dsimp only
    have hout := kat_snds hkl har
    have hsz : (List.toArray ((kasRun (keyLt xs) (kas_sort vs.length)).toList.map fun i => vs.getD i Value.none)).size = vs.length := by rw [List.size_toArray, List.length_map, Array.length_toList, hp]
    rw [hout]
    simp only [Bool.false_eq_true, if_false]
    have s1 := PySem.Heap.SameBut.update s''.heap kS (Obj.mapSeq fun _ => (#[] : Array Value))
    have na1 : (s''.heap.update kS (Obj.mapSeq fun _ => (#[] : Array Value))).get? a = some (seqObj "list" #[] e1) := (s1.2 a hka.symm).trans ha
    have s2 := PySem.Heap.SameBut.update (s''.heap.update kS (Obj.mapSeq fun _ => (#[] : Array Value))) a (Obj.mapSeq fun _ => List.toArray ((kasRun (keyLt xs) (kas_sort vs.length)).toList.map fun i => vs.getD i Value.none))
    obtain ⟨c2, hc2⟩ : ∃ c2, ((s''.heap.update kS (Obj.mapSeq fun _ => (#[] : Array Value))).update a (Obj.mapSeq fun _ => List.toArray ((kasRun (keyLt xs) (kas_sort vs.length)).toList.map fun i => vs.getD i Value.none))).get? a = some (seqObj "list" (List.toArray ((kasRun (keyLt xs) (kas_sort vs.length)).toList.map fun i => vs.getD i Value.none)) c2) :=
      ⟨_, get?_update_seq na1 fun _ => List.toArray ((kasRun (keyLt xs) (kas_sort vs.length)).toList.map fun i => vs.getD i Value.none)⟩
    refine wpAny_bind (listUpdate_at hk rfl ?_ (by rw [List.size_toArray, hkl, sizeLine_eq]; omega) (Nat.zero_le _))
    refine wpAny_bind (wpAny_letGo ?_)
    refine wpAny_bind (seqEpoch_at na1 rfl ?_)
    refine wpAny_bind (listUpdate_at na1 rfl ?_ (Nat.zero_le _) (Nat.le_trans (Nat.le_of_eq hsz) (by rw [sizeLine_eq]; omega)))
    rw [hf]
    simp only [bne_self_eq_false, Bool.false_eq_true, if_false]
    have T1 : St G s { s'' with heap := s''.heap.update kS (Obj.mapSeq fun _ => (#[] : Array Value)) } := T.touch (tk := s''.toks) W hk0 (fun o q => .of_not fun vs z => by rw [hk] at q; cases q; cases z) fun b o n q => (s1.2 b n).trans q
    have T2 := T1.touch (tk := s''.toks) W ha0 (fun o q => .of_not fun vs z => by
      have q' : (s''.heap.update kS (Obj.mapSeq fun _ => (#[] : Array Value))).get? a = some o := q
      rw [na1] at q'; cases q'; cases z) fun b o n q => (s2.2 b n).trans q
    exact wpAny_pure (h _ c2 T2 hc2)
end
end Mine

namespace Mine
section
variable {prog : Program} {w : World} {G : GC} {A : Around} {E : Value → Shared → Prop}

theorem sort_rest {s s' : Shared} {a kS : PySem.Addr} {vs : List Value} {xs : List PySem.Str} {e1 : Nat} {f : Value} {P : PySem.Fin → Shared → Prop} (W : Wd G s.heap) (T : St G s s') (ha0 : s.heap.get? a = none) (hk0 : s.heap.get? kS = none) (hka : kS ≠ a)
    (hk : s'.heap.get? kS = some (seqObj "list" #[] 0)) (ha : s'.heap.get? a = some (seqObj "list" #[] e1)) (hl : xs.length = vs.length) (h2 : 2 ≤ vs.length) (h64 : vs.length < 64)
    (hin : asksIn vs.length (keyLt xs) (kas_sort vs.length) = true)
    (hcall : ∀ (i : Nat) v x, vs[i]? = some v → xs[i]? = some x → ∀ s', St G s s' → wpAny (model prog w) A (call f [v]) (fun r s'' => St G s' s'' ∧ ∃ t, r = .str x t) No s')
    (h : ∀ c s'', St G s s'' → s''.heap.get? a = some (seqObj "list" (List.toArray ((kasRun (keyLt xs) (kas_sort vs.length)).toList.map fun i => vs.getD i Value.none)) c) → P (.done (.ret .none)) s'') :
    wpAny (model prog w) A (ksk_rest a f false vs.toArray e1 (.ref kS)) P E s' := by
  unfold ksk_rest
  refine wpAny_bind (wpAny_rule ?_)
  first
    | rw [List.forIn_toArray]
    | (rw [← Array.forIn_toList]; simp only [List.toList_toArray])
    | rw [← Array.forIn_toList]
  have offa : a ∉ G.tps := W.none_off ha0
  have offk : kS ∉ G.tps := W.none_off hk0
  refine wpAny_bind (ksk_fold (fun i s'' => St G s s'' ∧ s''.heap.get? a = some (seqObj "list" #[] e1) ∧ ∃ ks e, s''.heap.get? kS = some (seqObj "list" (List.toArray ks) e) ∧ StrsAre ks (xs.take i)) vs 0 s'
    ⟨T, ha, [], 0, hk, by simpa using StrsAre.nil⟩ ?step ?done)
  case step =>
    rintro j x s2 hx ⟨T2, ha2, ks, e, hk2, hs2⟩
    simp only [Nat.zero_add] at hs2 ⊢
    have hj : j < vs.length := (List.getElem?_eq_some_iff.mp hx).1
    obtain ⟨y, hy⟩ : ∃ y, xs[j]? = some y := ⟨_, List.getElem?_eq_getElem (by omega)⟩
    refine wpAny_bind (wpAny_attempt (wpAny_mono (hcall j x y hx hy s2 T2) (fun k s3 hk3 => ?_) fun _ _ hF => hF.elim))
    obtain ⟨T3, t, rfl⟩ := hk3
    have hk3 := T3.keep _ _ hk2 offk
    have ha3 := T3.keep _ _ ha2 offa
    have s1 := PySem.Heap.SameBut.update s3.heap kS (Obj.mapSeq (·.push (Value.str y t)))
    have ea : (List.toArray ks).push (Value.str y t) = List.toArray (ks ++ [.str y t]) := by simp
    obtain ⟨c2, hc2⟩ : ∃ c2, (s3.heap.update kS (Obj.mapSeq (·.push (Value.str y t)))).get? kS = some (seqObj "list" (List.toArray (ks ++ [.str y t])) c2) := ⟨_, by rw [← ea]; exact get?_update_seq hk3 (·.push (Value.str y t))⟩
    have hkl : ks.length ≤ vs.length := by rw [strs_len hs2, List.length_take]; omega
    try dsimp only
    refine wpAny_bind (listUpdate_at hk3 rfl ?_ (by rw [List.size_toArray, sizeLine_eq]; omega) (Nat.le_trans (Nat.le_of_eq (Array.size_push ..)) (by rw [List.size_toArray, sizeLine_eq]; omega)))
    have T4 : St G s { s3 with heap := s3.heap.update kS (Obj.mapSeq (·.push (Value.str y t))) } := (T2.trans T3).touch (tk := s3.toks) W hk0 (fun o q => .of_not fun vs z => by rw [hk3] at q; cases q; cases z) fun b o n q => (s1.2 b n).trans q
    refine wpAny_pure ⟨rfl, T4, (s1.2 a hka.symm).trans ha3, ks ++ [.str y t], c2, hc2, ?_⟩
    have ek : xs.take (j + 1) = xs.take j ++ [y] := by rw [List.take_add_one, hy]; simp
    rw [ek]
    exact strs_snoc hs2
  case done =>
    rintro s2 ⟨T2, ha2, ks, e, hk2, hs2⟩
    have hs3 : StrsAre ks xs := by
      rw [Nat.zero_add, List.take_of_length_le (by omega)] at hs2
      exact hs2
    try dsimp only
    refine wpAny_bind (listItems_at hk2 rfl ?_)
    refine sort_end W T2 ha0 hk0 hka hk2 ha2 hs3 hl h2 h64 hin fun h' c T3 hc => h c _ T3 hc

theorem sorted_raw {s : Shared} {l : PySem.Addr} {vs : List Value} {xs : List PySem.Str} {q : PySem.Addr} {Q : Value → Shared → Prop} (W : Wd G s.heap) (hl : s.heap.IsList l vs.toArray) (hx : xs.length = vs.length) (h2 : 2 ≤ vs.length) (h64 : vs.length < 64)
    (hin : asksIn vs.length (keyLt xs) (kas_sort vs.length) = true)
    (hcall : ∀ (i : Nat) v x, vs[i]? = some v → xs[i]? = some x → ∀ s', St G s s' → wpAny (model prog w) A.in1.in1 (call (.ref q) [v]) (fun r s'' => St G s' s'' ∧ ∃ t, r = .str x t) No s')
    (h : ∀ s'' D c, St G s s'' → s.heap.get? D = none → s''.heap.get? D = some (seqObj "list" (List.toArray ((kasRun (keyLt xs) (kas_sort vs.length)).toList.map fun i => vs.getD i Value.none)) c) → Q (.ref D) s'') :
    wpAny (model prog w) A (call (.builtin "sorted") [.ref l] [(PySem.Str.ofString "key", .ref q)]) Q E s := by
  refine call_function_entry_kw kind_sorted plain_sorted entry_sorted (ksk_s1 _ _) ?_
  unfold Builtin.«sorted»
  refine wpAny_bind (m := checkCount "sorted" 1 1 _) (wpAny_pure ?_)
  refine wpAny_bind (collect_list hl ?_ (by rw [sizeLine_eq]; omega))
  refine wpAny_bind (wpAny_newList ?_ (by rw [sizeLine_eq]; omega))
  have hsz : ((s.heap.push (seqObj "list" #[] 0)).update s.heap.objs.size (Obj.mapSeq (· ++ vs.toArray))).objs.size = s.heap.objs.size + 1 := by
    rw [PySem.Heap.size_update, size_push']
  have hoL : (((s.heap.push (seqObj "list" #[] 0)).update s.heap.objs.size (Obj.mapSeq (· ++ vs.toArray))).push (seqObj "list" vs.toArray 0)).get? (s.heap.objs.size + 1) = some (seqObj "list" vs.toArray 0) := by
    rw [← hsz]; exact PySem.Heap.get?_push_size _ rfl
  have keep : ∀ b o, s.heap.get? b = some o → (((s.heap.push (seqObj "list" #[] 0)).update s.heap.objs.size (Obj.mapSeq (· ++ vs.toArray))).push (seqObj "list" vs.toArray 0)).get? b = some o := fun b o q => by
    have hlt : b < s.heap.objs.size := PySem.Heap.lt_size q
    rw [PySem.Heap.get?_push_ne _ _ _ (by rw [hsz]; exact Nat.ne_of_lt (Nat.lt_succ_of_lt hlt)), PySem.Heap.get?_update_ne _ _ _ _ (Nat.ne_of_lt hlt), PySem.Heap.get?_push_ne _ _ _ (Nat.ne_of_lt hlt)]
    exact q
  have T1 : St G s { s with heap := ((s.heap.push (seqObj "list" #[] 0)).update s.heap.objs.size (Obj.mapSeq (· ++ vs.toArray))).push (seqObj "list" vs.toArray 0) } := St.of_keeps (tk := s.toks) W keep
  show wpAny _ _ _ _ _ { s with heap := ((s.heap.push (seqObj "list" #[] 0)).update s.heap.objs.size (Obj.mapSeq (· ++ vs.toArray))).push (seqObj "list" vs.toArray 0) }
  rw [hsz]
  refine wpAny_bind (wpAny_holding (wpAny_call_entry_kw slot_list_sort ⟨_, hoL, rfl⟩ entry_list_sort ?body (ksk_l1 _ _)))
  case body =>
    have hD0 : s.heap.get? (s.heap.objs.size + 1) = none := PySem.Heap.get?_none_of_le (Nat.le_succ _)
    generalize hH : ((s.heap.push (seqObj "list" #[] 0)).update s.heap.objs.size (Obj.mapSeq (· ++ vs.toArray))).push (seqObj "list" vs.toArray 0) = H at hoL keep T1 ⊢
    generalize hD : s.heap.objs.size + 1 = D at hoL hD0 ⊢
    show wpAny (model prog w) A.in1.in1 (Builtin.«list.sort» ⟨[.ref D], [(PySem.Str.ofString "key", .ref q)]⟩) _ _ _
    rw [ksk_t1]
    have s1 := PySem.Heap.SameBut.update H D (Obj.mapSeq fun _ => (#[] : Array Value))
    obtain ⟨e1, ho1⟩ : ∃ e1, (H.update D (Obj.mapSeq fun _ => (#[] : Array Value))).get? D = some (seqObj "list" #[] e1) := ⟨_, get?_update_seq hoL fun _ => #[]⟩
    have T2 : St G s { s with heap := H.update D (Obj.mapSeq fun _ => (#[] : Array Value)) } := T1.touch (tk := s.toks) W hD0 (fun o q => .of_not fun vs z => by
      have q' : H.get? D = some o := q
      rw [hoL] at q'; cases q'; cases z) fun b o n q => (s1.2 b n).trans q
    unfold ksk_tree
    refine wpAny_bind (listItems_at hoL rfl ?_)
    refine wpAny_bind (listUpdate_at hoL rfl ?_ (by rw [List.size_toArray, sizeLine_eq]; omega) (Nat.zero_le _))
    refine wpAny_bind (seqEpoch_at ho1 rfl ?_)
    refine wpAny_bind (wpAny_newTuple ?_ (by show vs.length ≤ _; rw [sizeLine_eq]; omega))
    refine wpAny_bind (wpAny_newList ?_ (Nat.zero_le _))
    refine wpAny_holding ?_
    have hkS : s.heap.get? ((H.update D (Obj.mapSeq fun _ => (#[] : Array Value))).push (seqObj "tuple" vs.toArray 0)).objs.size = none := by
      cases z : s.heap.get? ((H.update D (Obj.mapSeq fun _ => (#[] : Array Value))).push (seqObj "tuple" vs.toArray 0)).objs.size with
      | none => rfl
      | some o =>
        have h1 := PySem.Heap.lt_size (keep _ _ z)
        rw [size_push', PySem.Heap.size_update] at h1
        exact absurd h1 (Nat.not_lt.mpr (Nat.le_succ _))
    have hDlt : D < H.objs.size := PySem.Heap.lt_size hoL
    refine sort_rest (s := s) (s' := { s with heap := ((H.update D (Obj.mapSeq fun _ => (#[] : Array Value))).push (seqObj "tuple" vs.toArray 0)).push (seqObj "list" #[] 0) }) (kS := ((H.update D (Obj.mapSeq fun _ => (#[] : Array Value))).push (seqObj "tuple" vs.toArray 0)).objs.size) (e1 := e1) W
      ((T2.trans (St.push T2.wd _)).trans (St.push (St.push T2.wd _).wd _)) hD0 hkS (by rw [size_push', PySem.Heap.size_update]; exact Nat.ne_of_gt (Nat.lt_succ_of_lt hDlt)) (PySem.Heap.get?_push_size _ rfl) (PySem.Heap.get?_push_of_some _ (PySem.Heap.get?_push_of_some _ ho1)) hx h2 h64 hin hcall ?_
    intro c s'' T4 hc
    exact ⟨_, rfl, wpAny_pure ⟨_, rfl, h s'' D c T4 hD0 hc⟩⟩
end
end Mine

namespace Mine
section
variable {prog : Program} {w : World} {G : GC} {I : Fam} {k : Nat} {env : Env}

theorem RepAll.getD {X : List PySem.Addr} {h : PySem.Heap} : ∀ {vs : List Value} {ds : List Dat}, RepAll X h vs ds → ∀ i, Rep X h (vs.getD i Value.none) (ds.getD i Dat.none)
  | _, _, .nil, i => .none
  | _, _, .cons a r, 0 => a
  | _, _, .cons a r, i + 1 => RepAll.getD r i
theorem RepAll.pick {X : List PySem.Addr} {h : PySem.Heap} {vs : List Value} {ds : List Dat} (r : RepAll X h vs ds) : ∀ p : List Nat, RepAll X h (p.map fun i => vs.getD i Value.none) (p.map fun i => ds.getD i Dat.none)
  | [] => .nil
  | i :: p => .cons (r.getD i) (RepAll.pick r p)

theorem Ev.sorted (V : InvF G I) (B : Base G) (ap : Apart G) (ok : EnvOk env) {p1 pos lpos kp : Pos} {e1 : Expr} {q : PySem.Addr × PySem.Addr × PySem.Str} {params : Arguments} {body : Expr} {scope : Scope}
    {clos : List (PySem.Str × PySem.Addr)} {x : PySem.Str} (b : BName G env "sorted" (.builtin "sorted")) (lo : LamOk G env q params body scope clos x)
    {ds : List Dat} (h1 : Ev prog w G (k + 3) I env e1 (.list ds)) (h2 : 2 ≤ ds.length) (h64 : ds.length < 64) (key : Dat → PySem.Str)
    (hin : asksIn ds.length (keyLt (ds.map key)) (kas_sort ds.length) = true)
    (hbody : ∀ d ∈ ds, ∀ L fa cv, Ev prog w G k (With I (lamEnv scope L clos q.2.2 fa cv) x d) (lamEnv scope L clos q.2.2 fa cv) body (.str (key d)))
    (he : backTo pos (starEach [e1] env) = (false, eval e1 env) :: backTo pos (starEach [] env))
    (hplain : (backTo pos (starEach [e1] env)).any (·.1) = false)
    (hall : (backToKw pos (keywordEach [⟨some (PySem.Str.ofString "key"), .Lambda params body scope lpos, kp⟩] env)).all (·.1.isSome) = true)
    (hkw : (backToKw pos (keywordEach [⟨some (PySem.Str.ofString "key"), .Lambda params body scope lpos, kp⟩] env)).any (·.1.isNone) = false)
    (hnames : (backToKw pos (keywordEach [⟨some (PySem.Str.ofString "key"), .Lambda params body scope lpos, kp⟩] env)).filterMap (·.1) = [PySem.Str.ofString "key"])
    (hst : starEach [e1] env = (false, eval e1 env) :: starEach [] env) :
    Ev prog w G (k + 3) I env (.Call (.Name "sorted" p1) [e1] [⟨some (PySem.Str.ofString "key"), .Lambda params body scope lpos, kp⟩] pos)
      (.list ((kasRun (keyLt (ds.map key)) (kas_sort ds.length)).toList.map fun i => ds.getD i Dat.none)) := fun X A s R hI => by
  show wpAny _ A (do callWith pos (← eval (.Name "sorted" p1) env) [] (backTo pos (starEach [e1] env)) (backToKw pos (keywordEach [⟨some (PySem.Str.ofString "key"), .Lambda params body scope lpos, kp⟩] env))) _ _ s
  refine wpAny_bind (name_builtin B (V.wd _ _ hI) ok b.kind b.miss b.boot b.ne ?_ b.nd)
  refine callWith_kw ?_ he hplain hall hkw
  refine args_cons (wpAny_mono (h1 X A s R hI) (fun v s1 h => ?_) fun _ _ x => x) hst
  obtain ⟨t1, r1⟩ := h
  have I1 := V.mono _ _ _ hI t1
  refine args_nil (kws_cons (wpAny_mono (make_lambda B ap (V.wd _ _ I1) lo.hq lo.code lo.qual ok.globals lo.clo lo.dfl) (fun fv s2 h => ?_) fun _ _ x => x))
  obtain ⟨t2, fa, pm, cv, ct, rfl, hfn, hfa⟩ := h
  have I2 := V.mono _ _ _ I1 t2
  refine kws_nil ?_
  rw [hnames]
  obtain ⟨a, vs, rfl, ha, hl, hr⟩ := (t2.rep (V.wd _ _ I1) r1).isList
  have hlen := hr.length
  show wpAny _ A (call (.builtin "sorted") [.ref a] [(PySem.Str.ofString "key", .ref fa)]) _ _ _
  refine sorted_raw (V.wd _ _ I2) hl (xs := ds.map key) (by rw [List.length_map, hlen]) (by omega) (by omega) (by rw [hlen]; exact hin) (fun i v x hv hx s' T => ?_) fun s3 D c T3 hD hc => ?_
  · obtain ⟨d, hd, hdx⟩ : ∃ d, ds[i]? = some d ∧ key d = x := by
      rw [List.getElem?_map] at hx
      cases e : ds[i]? with
      | none => rw [e] at hx; simp at hx
      | some d => rw [e] at hx; exact ⟨d, rfl, Option.some.inj hx⟩
    obtain ⟨v', hv', rv⟩ := hr.get? hd
    rw [hv] at hv'; cases hv'
    refine wpAny_mono (lam_pred V B lo (fun d => .str (key d)) hbody I2 hfa X A.in1.in1 s' v d R.in1.in1 T (fun _ m => m) (fun _ m => .inl m) ((V.low _ _ I2).st (V.wd _ _ I2) T) (List.mem_of_getElem? hd) (T.rep (V.wd _ _ I2) rv)) (fun r s'' q => ⟨q.1, ?_⟩) fun _ _ x => x
    rw [← hdx]
    exact q.2.isStr
  · have DX : D ∉ X := (V.low _ _ I2).new hD
    refine ⟨(t1.trans t2).trans T3, .listOf DX ⟨_, hc, rfl, _, rfl, rfl⟩ ?_⟩
    rw [hlen]
    exact (T3.repAll (V.wd _ _ I2) hr).pick _
end
end Mine

namespace Mine
section
variable {prog : Program} {w : World} {G : GC} {I : Fam} {k j : Nat} {env : Env}

theorem Ev.less {e : Expr} {d : Dat} (h : Ev prog w G j I env e d) (hj : j ≤ k) : Ev prog w G k I env e d := fun X A s R hI => h X A s (R.less hj) hI
theorem OpN.less {t : List Value → Sem Value} {ds : List Dat} {d : Dat} (h : OpN prog w G j t ds d) (hj : j ≤ k) : OpN prog w G k t ds d := fun X A s vs R W L r => h X A s vs (R.less hj) W L r

/-- a name that no rule treats apart -/
def okName (x : PySem.Str) : Bool := !(x == ("__debug__" : PySem.Str)) && !(x == ("__classdict__" : PySem.Str))
theorem Ev.name' (V : InvF G I) {x : PySem.Str} {pos : Pos} {d : Dat} (q : Knows I env x d) (hk : env.scope.kind = .function) (ho : okName x = true) : Ev prog w G k I env (.Name x pos) d := by
  simp only [okName, Bool.and_eq_true, Bool.not_eq_true'] at ho
  exact Ev.name V hk q ho.1 ho.2

theorem Ev.from (V : InvF G I) {value e : Expr} {p pos : Pos} {ds : List Dat} {i : Int} {n : Nat} (h1 : Ev prog w G k I env value (.list ds)) (h2 : Ev prog w G k I env e (.int i)) (hi : i = (n : Int)) (hz : ds.length ≤ sizeLine) :
    Ev prog w G k I env (.Subscript value (.Slice (some e) none none p) pos) (.list (ds.drop n)) := by
  have h := Ev.sliceList (lo := some e) (hi := none) (pl := some i) (ph := none) V h1 h2 trivial hz (p := p) (pos := pos)
  subst hi
  simp only [Option.elim, clipAt_nat] at h
  rw [List.take_of_length_le (by rw [List.length_drop]; omega)] at h
  by_cases hn : n ≤ ds.length
  · rw [Nat.min_eq_left hn] at h; exact h
  · rw [Nat.min_eq_right (by omega), List.drop_length] at h
    rw [List.drop_eq_nil_of_le (by omega)]; exact h
theorem Ev.upto (V : InvF G I) {value e : Expr} {p pos : Pos} {ds : List Dat} {i : Int} {n : Nat} (h1 : Ev prog w G k I env value (.list ds)) (h2 : Ev prog w G k I env e (.int i)) (hi : i = (n : Int)) (hz : ds.length ≤ sizeLine) :
    Ev prog w G k I env (.Subscript value (.Slice none (some e) none p) pos) (.list (ds.take n)) := by
  have h := Ev.sliceList (lo := none) (hi := some e) (pl := none) (ph := some i) V h1 trivial h2 hz (p := p) (pos := pos)
  subst hi
  simp only [Option.elim, clipAt_nat, List.drop_zero, Nat.sub_zero] at h
  by_cases hn : n ≤ ds.length
  · rw [Nat.min_eq_left hn] at h; exact h
  · rw [Nat.min_eq_right (by omega), List.take_length] at h
    rw [List.take_of_length_le (by omega)]; exact h
theorem Ev.span (V : InvF G I) {value e e' : Expr} {p pos : Pos} {ds : List Dat} {i i' : Int} {n n' : Nat} (h1 : Ev prog w G k I env value (.list ds)) (h2 : Ev prog w G k I env e (.int i)) (h3 : Ev prog w G k I env e' (.int i')) (hi : i = (n : Int)) (hi' : i' = (n' : Int)) (hz : ds.length ≤ sizeLine) :
    Ev prog w G k I env (.Subscript value (.Slice (some e) (some e') none p) pos) (.list ((ds.take n').drop n)) := by
  have h := Ev.sliceList (lo := some e) (hi := some e') (pl := some i) (ph := some i') V h1 h2 h3 hz (p := p) (pos := pos)
  subst hi hi'
  simp only [Option.elim, clipAt_nat] at h
  have e : (ds.drop (min n ds.length)).take (min n' ds.length - min n ds.length) = (ds.take n').drop n := by
    rw [List.drop_take]
    rcases Nat.le_total n ds.length with hn | hn
    · rcases Nat.le_total n' ds.length with hn' | hn'
      · rw [Nat.min_eq_left hn, Nat.min_eq_left hn']
      · rw [Nat.min_eq_left hn, Nat.min_eq_right hn']
        rw [List.take_of_length_le (by rw [List.length_drop]; omega), List.take_of_length_le (by rw [List.length_drop]; omega)]
    · rw [Nat.min_eq_right hn, List.drop_length, List.take_nil, List.drop_eq_nil_of_le hn, List.take_nil]
  rw [e] at h
  exact h

theorem Ev.itemTup (V : InvF G I) {value slice : Expr} {pos : Pos} {ds : List Dat} {i : Int} {n : Nat} {d : Dat} (h1 : Ev prog w G k I env value (.tuple ds)) (h2 : Ev prog w G k I env slice (.int i)) (hi : i = (n : Int)) (hn : n < 1000) (hd : ds[n]? = some d)
    (hs : ∀ o j, subscripted slice false o j = operate [o, j] (getItem o j)) : Ev prog w G k I env (.Subscript value slice pos) d := by
  subst hi
  exact Ev.sub V h1 h2 (op_itemTup hn hd hs)
theorem Ev.itemList (V : InvF G I) {value slice : Expr} {pos : Pos} {ds : List Dat} {i : Int} {n : Nat} {d : Dat} (h1 : Ev prog w G k I env value (.list ds)) (h2 : Ev prog w G k I env slice (.int i)) (hi : i = (n : Int)) (hn : n < 2 ^ 60) (hd : ds[n]? = some d)
    (hs : ∀ o j, subscripted slice false o j = operate [o, j] (getItem o j)) : Ev prog w G k I env (.Subscript value slice pos) d := by
  subst hi
  exact Ev.sub V h1 h2 (op_itemList (by omega) (by omega) (by simpa using hd) hs)

theorem op_call' {σ : List (PySem.Str × Dat)} (B : Base G) {f : PySem.Addr} {o : Obj} {fd : FuncData} {body : List Stmt} {names : List PySem.Str} (ok : FOk G f o fd body names) {ds : List Dat} {d : Dat} (hs : names.zip ds = σ) (hl : ds.length = names.length)
    (h : ∀ s₀ X₀ L env, env = callEnvC fd L f → FrS G s₀ X₀ env → RtL prog w G k s₀ X₀ (FI G s₀ X₀ env σ [] [] []) env body d) :
    OpN prog w G (k + 1) (fun vs => call (.ref f) vs) ds d := by
  subst hs
  exact op_call B ok hl h
end
end Mine

namespace Mine
section
variable {prog : Program} {w : World} {G : GC} {I : Fam} {k j : Nat} {env : Env}

theorem op_subInt {a b : Int} : Op2 prog w G k (binaryOp .Sub) (.int a) (.int b) (.int (a - b)) := fun X A s v1 v2 R W _ r1 r2 => by
  obtain ⟨t1, rfl⟩ := r1.isInt
  obtain ⟨t2, rfl⟩ := r2.isInt
  exact sub_int ⟨St.toks W, .int _ _⟩

variable {s₀ : Shared} {X₀ : List PySem.Addr} {σ σ' : List (PySem.Str × Dat)} {τ τ' : List (PySem.Str × Value)} {own : List (PySem.Str × List Dat)} {its : Its}
/-- x = [e, ..] : a list to grow -/
theorem DoS.assignList (F : FrS G s₀ X₀ env) {x : PySem.Str} {px pos lp : Pos} {es : List Expr} {ds : List Dat} (h : EvL prog w G k (FI G s₀ X₀ env σ τ own its) env es ds) (hz : ds.length ≤ sizeLine) (hx : env.kindOf x = some .local ∨ env.kindOf x = some .cell)
    (hown : ∀ q ∈ own, q.1 ≠ x) (hσ : ∀ p ∈ σ', p ∈ σ ∧ p.1 ≠ x) (hτ : ∀ p ∈ τ', p ∈ τ ∧ p.1 ≠ x) (hs : swapsWith (.List es lp) (some (.Name x px)) pos.line env = pure false) :
    DoS prog w k (FI G s₀ X₀ env σ τ own its) (FI G s₀ X₀ env σ' τ' ((x, ds) :: own) its) env (.Assign [.Name x px] (.List es lp) pos) := fun X A s₁ R hI₁ => by
  refine wpAny_Assign_Name (List_ (wpAny_mono (h X A s₁ lp R hI₁) (fun vs s q => ?_) fun _ _ x => x)) hs
  obtain ⟨t1, r1⟩ := q
  have hI := hI₁.next F.wd0 t1
  have hlen := r1.length
  refine wpAny_newObj_type ?_ (by show (List.toArray vs).size ≤ sizeLine; simp; omega)
  have hD := new_none s.heap
  have hD0 : s₀.heap.get? s.heap.objs.size = none := by
    cases e : s₀.heap.get? s.heap.objs.size with
    | none => rfl
    | some o => rw [hI.st.keep _ _ e (hI.st.wd.none_off hD)] at hD; cases hD
  have hobj : (s.heap.push (seqObj "list" (List.toArray vs) 0)).get? s.heap.objs.size = some (seqObj "list" (List.toArray vs) 0) := PySem.Heap.get?_push_size _ rfl
  have S := St.push hI.st.wd (seqObj "list" (List.toArray vs) 0)
  have I2 := (FI.inv F).grow _ _ _ _ hI S hD ⟨_, hobj, fun _ z => by cases z⟩
  have rv : RepAll (s.heap.objs.size :: X) (s.heap.push (seqObj "list" (List.toArray vs) 0)) vs ds := r1.mono (S.keepSeq X hI.st.wd) fun b m => (List.mem_cons.mp m).elim (fun z => .inr (z ▸ hD)) .inl
  have unk : ∀ q ∈ own, ¬ HasVar env (s.heap.push (seqObj "list" (List.toArray vs) 0)) q.1 (.ref s.heap.objs.size) := fun q hq hv => by
    obtain ⟨a, vs, n, h1, _, _, h4, _⟩ := hI.ownI q hq
    have := h1.back hI.st.wd S hv
    cases this
    rw [hD] at h4; cases h4
  refine I2.store F (A := A) hx hown fun h' tk hv hy ks _ fin => ⟨rfl, s.heap.objs.size :: X, ?_⟩
  have f := fin σ' τ' (fun p hp => .inr (hσ p hp)) fun p hp => .inr (hτ p hp)
  have hl : h'.get? s.heap.objs.size = some (seqObj "list" (List.toArray vs) 0) := ks _ _ _ _ (fun m => nomatch m) hobj rfl
  exact { f with
    ownI := fun q hq => by
      rcases List.mem_cons.mp hq with rfl | hq
      · exact ⟨_, vs, 0, hv, .head _, hD0, hl, rv.keep fun b o us n _ e d => ks b o us n (fun m => nomatch m) e d⟩
      · exact f.ownI q hq
    ownD := fun q hq q' hq' n a h1 h2 => by
      rcases List.mem_cons.mp hq with rfl | hq <;> rcases List.mem_cons.mp hq' with rfl | hq'
      · exact n rfl
      · have e := h1.fun hv; cases e
        obtain ⟨b, _, _, g1, _⟩ := I2.ownI q' hq'
        have := (hy _ _ (hown q' hq') g1).fun h2; cases this
        exact unk q' hq' g1
      · have e := h2.fun hv; cases e
        obtain ⟨b, _, _, g1, _⟩ := I2.ownI q hq
        have := (hy _ _ (hown q hq) g1).fun h1; cases this
        exact unk q hq g1
      · exact f.ownD q hq q' hq' n a h1 h2 }
end
end Mine

namespace Mine

theorem rangeStep {i n c : Nat} (hi : i ≤ 1000) (hn : n ≤ 1000) (h1 : 1 ≤ c) (hc : c ≤ 1000) :
    ∃ m : Nat, Builtin.Range.small (i : Int) (n : Int) (c : Int) = true ∧ Builtin.Range.rangeSize (i : Int) (n : Int) (c : Int) = (m : Int) ∧ m ≤ 1000 ∧ ∀ t, t < m → i + t * c < n := by
  have hcp : (c : Int) > 0 := by omega
  by_cases hlt : (i : Int) < (n : Int)
  · have q0 : 0 ≤ ((n : Int) - i - 1) / (c : Int) := Int.ediv_nonneg (by omega) (by omega)
    have q1 : ((n : Int) - i - 1) / (c : Int) ≤ (n : Int) - i - 1 := Int.ediv_le_self _ (by omega)
    have hr : Builtin.Range.rangeSize (i : Int) (n : Int) (c : Int) = ((n : Int) - i - 1) / (c : Int) + 1 := by
      unfold Builtin.Range.rangeSize; rw [if_pos hcp, if_pos hlt]
    refine ⟨(((n : Int) - i - 1) / (c : Int) + 1).toNat, ?_, by rw [hr]; omega, by omega, fun t ht => ?_⟩
    · unfold Builtin.Range.small
      rw [hr]
      simp only [Builtin.Range.rangeFitsLong, Bool.and_eq_true, Bool.or_eq_true, decide_eq_true_eq, beq_iff_eq, hcp, if_true]
      refine ⟨⟨⟨⟨?_, ?_⟩, ?_⟩, ?_⟩, .inr ?_⟩ <;> omega
    · have ht' : (t : Int) ≤ ((n : Int) - i - 1) / (c : Int) := by omega
      have hm : (t : Int) * (c : Int) ≤ (n : Int) - i - 1 := Int.mul_le_of_le_ediv hcp ht'
      have : ((t * c : Nat) : Int) ≤ (n : Int) - i - 1 := by push_cast; exact hm
      omega
  · have hr : Builtin.Range.rangeSize (i : Int) (n : Int) (c : Int) = 0 := by
      unfold Builtin.Range.rangeSize; rw [if_pos hcp, if_neg hlt]
    refine ⟨0, ?_, by rw [hr]; rfl, by omega, fun t ht => absurd ht (Nat.not_lt_zero _)⟩
    unfold Builtin.Range.small
    rw [hr]
    simp only [Builtin.Range.rangeFitsLong, Bool.and_eq_true, Bool.or_eq_true, decide_eq_true_eq, beq_iff_eq, hcp, if_true]
    refine ⟨⟨⟨⟨?_, ?_⟩, ?_⟩, ?_⟩, .inl trivial⟩ <;> omega

def intOf : Dat → Int
  | .int i => i
  | _ => 0
@[simp] theorem intOf_int (i : Int) : intOf (.int i) = i := rfl
theorem comp_range (f : Dat → Dat) (a c : Int) (n : Nat) : ((rangeD a c n).filter fun _ => true).map f = (List.range n).map fun j : Nat => f (.int (a + (j : Int) * c)) := by
  rw [List.filter_eq_self.mpr (fun _ _ => rfl), rangeD, List.map_map]; rfl

/-- the sum of a column -/
def colSum (xs : List Int) (i sz : Nat) : Int := ((List.range (Builtin.Range.rangeSize (i : Int) (xs.length : Int) (sz : Int)).toNat).map fun t => xs.getD (i + t * sz) 0).sum

section
variable {prog : Program} {w : World} {G : GC} {I : Fam} {k : Nat} {env : Env}
theorem Ev.columns (V : InvF G I) (B : Base G) (ok : EnvOk env) (bs : BName G env "sum" (.builtin "sum")) (br : BName G env "range" (.type "range")) (bl : BName G env "len" (.builtin "len")) {scope : Scope} {cl : List (PySem.Str × PySem.Addr)} {xs : List Int} {i sz : Nat}
    (c : CompOk scope env cl "j") (ki : Knows I env "i" (.int (i : Int))) (ks : Knows I env "script" (.list (xs.map .int))) (kz : Knows I env "size" (.int (sz : Int)))
    (hf : scope.names.lookup ("script" : PySem.Str) = some .free) (hl : cl.lookup ("script" : PySem.Str) = env.cells.lookup ("script" : PySem.Str)) (ho : env.kindOf "script" = some .cell ∨ env.kindOf "script" = some .free)
    (hi : i ≤ 1000) (hn : xs.length ≤ 1000) (h1 : 1 ≤ sz) (hz : sz ≤ 1000) {p1 p2 p3 p4 p5 p6 p7 p8 p9 p10 p11 p12 p13 p14 : Pos} :
    Ev prog w G k I env (.Call (.Name "sum" p1) [.ListComp (.Subscript (.Name "script" p2) (.Name "j" p3) p4) [⟨.Name "j" p5, .Call (.Name "range" p6) [.Name "i" p7, .Call (.Name "len" p8) [.Name "script" p9] [] p10, .Name "size" p11] [] p12, [], 0⟩] scope p13] [] p14)
      (.int (colSum xs i sz)) := by
  obtain ⟨m, hs, hr, hm, hin⟩ := rangeStep hi hn h1 hz
  have hcs : colSum xs i sz = ((List.range m).map fun t => xs.getD (i + t * sz) 0).sum := by unfold colSum; rw [hr]; rfl
  rw [hcs]
  refine Ev.callB V B ok bs (EvL.cons (d := .list (((List.range m).map fun t => xs.getD (i + t * sz) 0).map .int)) V ?_ (EvL.nil V) rfl) op_sum rfl rfl
  have e : (((List.range m).map fun t => xs.getD (i + t * sz) 0).map Dat.int) = (((rangeD (i : Int) (sz : Int) m).filter fun _ => true).map fun d => .int (xs.getD (intOf d).toNat 0)) := by
    rw [comp_range, List.map_map]
    refine List.map_congr_left fun t _ => ?_
    have : ((i : Int) + (t : Int) * (sz : Int)).toNat = i + t * sz := by
      have : (i : Int) + (t : Int) * (sz : Int) = ((i + t * sz : Nat) : Int) := by push_cast; rfl
      rw [this]; rfl
    simp only [Function.comp, intOf_int, this]
  rw [e]
  refine Ev.comp V c (It.range V B ok br (EvL.cons V (Ev.name' V ki ok.kind (by decide +kernel)) (EvL.cons (d := .int ((xs.map Dat.int).length : Nat)) V (Ev.callB V B ok bl (EvL.cons V (Ev.name' V ks ok.kind (by decide +kernel)) (EvL.nil V) rfl) (op_len (by rw [List.length_map]; omega)) rfl rfl) (EvL.cons V (Ev.name' V kz ok.kind (by decide +kernel)) (EvL.nil V) rfl) rfl) rfl)
    (range3_walk (n := m) (by omega) (by rw [List.length_map]; exact hs) (by rw [List.length_map]; exact hr) (by omega)) rfl rfl) (by simp [rangeD]; rw [sizeLine_eq]; omega) (fun _ => true) _ (fun _ _ _ => rfl) (fun d hd _ C => ?_) (fun _ => rfl)
  simp only [rangeD, List.mem_map, List.mem_range] at hd
  obtain ⟨t, ht, rfl⟩ := hd
  have hlt := hin t ht
  have e1 : (i : Int) + (t : Int) * (sz : Int) = ((i + t * sz : Nat) : Int) := by push_cast; rfl
  refine Ev.itemList (ds := xs.map Dat.int) (n := i + t * sz) (With.inv V) (Ev.name' (With.inv V) ((ks.comp hf hl ho).within) c.kind (by decide +kernel)) (Ev.name' (With.inv V) With.knows c.kind (by decide +kernel)) e1 (by omega) ?_ fun _ _ => rfl
  rw [e1, List.getElem?_map]
  simp only [intOf_int, Int.toNat_natCast, List.getD_eq_getElem?_getD]
  rw [List.getElem?_eq_getElem hlt]
  rfl
end
end Mine

namespace Mine

theorem St.oldK {G : GC} {s s' : Shared} (B : Base G) (e : G.h₁ = s.heap) (t : St G s s') : OldK s.heap s'.heap := by
  have key : ∀ b, b ∈ G.tps → isCodeTable s.heap b ∧ s.heap.get? b = some (tabObj #[]) ∧ ∃ ps, s'.heap.get? b = some (tabObj ps) := fun b hb => by
    obtain ⟨q, hq, rfl⟩ := List.mem_map.mp hb
    obtain ⟨h0, o, vs, file, tf, flags, tg, inF, text, tt, h1, h2, h3, h4, _⟩ := B.tab0 q hq
    obtain ⟨ps, hp, _⟩ := t.wd.tab q hq
    rw [e] at h0 h1
    exact ⟨⟨q.1, o, vs, h1, h2, h3, h4⟩, h0, ps, hp⟩
  refine ⟨fun b o hb => ?_, fun b o hb => ?_⟩
  · by_cases m : b ∈ G.tps
    · obtain ⟨c, h0, ps, hp⟩ := key b m
      rw [h0] at hb; cases hb
      exact .inr (.inl ⟨c, rfl, #[], ps, rfl, by rw [hp]; simp⟩)
    · exact .inl (t.keep b o hb m)
  · by_cases m : b ∈ G.tps
    · obtain ⟨_, _, ps, hp⟩ := key b m
      exact ⟨_, hp⟩
    · exact ⟨o, t.keep b o hb m⟩

/-- the ground at the law's start -/
theorem base_of {p : Program} {loose : List PySem.Str} {mean : ExcName → Option Value} {mg mb : PySem.Str → Option Value} {h : PySem.Heap} (T : Top p loose mean mg mb h) {tabs : List (PySem.Addr × PySem.Addr × PySem.Str)} (ht : ∀ q ∈ tabs, CodeHd h q.1 q.2.1 ∧ h.get? q.2.1 = some (tabObj #[])) :
    Base ⟨h, tabs, mg, mb⟩ := ⟨T.g, T.b, T.nolimit, T.builtins, T.bmain, fun q hq => ⟨(ht q hq).2, (ht q hq).1⟩⟩
theorem wd_of {h : PySem.Heap} {tabs : List (PySem.Addr × PySem.Addr × PySem.Str)} {mg mb : PySem.Str → Option Value} (ht : ∀ q ∈ tabs, CodeHd h q.1 q.2.1 ∧ h.get? q.2.1 = some (tabObj #[])) : Wd ⟨h, tabs, mg, mb⟩ h where
  keep := fun b o e _ => e
  tab := fun q hq => ⟨#[], (ht q hq).2, trivial, fun pos cv e => by simp [codeAmong] at e⟩

theorem isL0_of_well {P : Params} {h : PySem.Heap} {l : PySem.Addr} {vals : List Value} {ds : List WData} (x : Well P h (.ref l) (.list ds)) (hl : h.IsList l vals.toArray) : IsL0 h l vals.toArray := by
  cases x with
  | list e _ =>
    obtain ⟨o, e', c, n, q⟩ := hl
    rw [e] at e'; cases e'
    exact ⟨_, e, rfl, n, q, rfl⟩

/-- the law answers True -/
theorem law_true {prog : Program} {w : World} {G : GC} {s : Shared} {k : Nat} (B : Base G) (e : G.h₁ = s.heap) (W : Wd G s.heap) (hg : s.gens = #[]) (hk : k ≤ 500) {fa l : PySem.Addr} {vals : List Value} {xs : List Int} (hl : IsL0 s.heap l vals.toArray) (hi : IntsAre vals xs)
    (h : OpN prog w G k (fun vs => call (.ref fa) vs) [.list (xs.map .int)] (.bool true)) {Q : Value → Shared → Prop} {E : Value → Shared → Prop}
    (hQ : ∀ s', OldK s.heap s'.heap → s'.os = s.os → s'.gens = #[] → Q (.bool true) s') :
    wpAny (model prog w) callerA (call (.ref fa) [.ref l]) Q E s := by
  have R : Room k callerA := ⟨rfl, by show 1 + claimMargin + k ≤ 900; have : claimMargin = 300 := rfl; omega, by show 4 + 16 * k ≤ 9000; omega⟩
  refine no_elim (h [] callerA s [.ref l] R W (fun a m => nomatch m) (RepAll.one (Rep.listOf (List.not_mem_nil) hl (RepAll.of_ints hi)))) fun v s' q => ?_
  obtain ⟨t, r⟩ := q
  rw [r.isBool]
  exact hQ s' (t.oldK B e) t.os (t.gens.trans hg)
end Mine

namespace Mine
section
variable {prog : Program} {w : World} {G : GC} {I : Fam} {k : Nat} {env : Env}

/-! ## pieces of a text -/
theorem Ev.strFrom (V : InvF G I) {value e : Expr} {p pos : Pos} {x : PySem.Str} {i : Int} {n : Nat} (h1 : Ev prog w G k I env value (.str x)) (h2 : Ev prog w G k I env e (.int i)) (hi : i = (n : Int)) (hn : n ≤ x.length) (hz : x.length ≤ sizeLine) :
    Ev prog w G k I env (.Subscript value (.Slice (some e) none none p) pos) (.str ⟨(x.cps.toList.drop n).toArray⟩) := fun X A s R hI => by
  refine Subscript_ (wpAny_mono (h1 X A s R hI) (fun a s1 h => ?_) fun _ _ x => x)
  obtain ⟨t1, r1⟩ := h
  have I1 := V.mono _ _ _ hI t1
  refine wpAny_Slice (wpAny_evalPart_some (wpAny_mono (h2 X A s1 R I1) (fun vl s2 h => ?_) fun _ _ x => x))
  obtain ⟨t2, r2⟩ := h
  have I2 := V.mono _ _ _ I1 t2
  obtain ⟨t, rfl⟩ := r1.isStr
  obtain ⟨u, rfl⟩ := r2.isInt
  refine wpAny_evalPart_none (wpAny_evalPart_none ?_)
  have S4 := St.push (V.wd _ _ I2) { cls := .type "slice", data := .fields #[.int i u, .none, .none] }
  refine tail_any (typeIs_str _ _ _) F.slot_str_getitem.lookup (wpAny_getItem_str_slice (l := some (i, u)) (u := none) (st := none) ⟨_, PySem.Heap.get?_push_size _ rfl, rfl, rfl⟩ rfl (post_val_or_str ⟨Nat.le_trans (Txt.slice_le x _ _) hz, fun t' k => ?_⟩)) (ops := [.ref s2.heap.objs.size, .str x t]) (by rfl)
  have e1 : (⟨(x.cps.toList.drop n).toArray⟩ : PySem.Str) = Txt.slice x (some i) none := by
    rw [slice_from_eq (b := (x.length : Int)) (by omega) (by omega) rfl, hi]
    congr 2
    rw [List.take_of_length_le]
    · simp
    · simp only [List.length_drop, Array.length_toList]
      have : x.length = x.cps.size := rfl
      omega
  rw [e1]
  exact ⟨(t1.trans t2).trans (S4.trans (St.toks S4.wd)), .str _ _⟩
theorem Ev.strUpto (V : InvF G I) {value e : Expr} {p pos : Pos} {x : PySem.Str} {i : Int} {n : Nat} (h1 : Ev prog w G k I env value (.str x)) (h2 : Ev prog w G k I env e (.int i)) (hi : i = (n : Int)) (hn : n ≤ x.length) (hz : x.length ≤ sizeLine) :
    Ev prog w G k I env (.Subscript value (.Slice none (some e) none p) pos) (.str ⟨(x.cps.toList.take n).toArray⟩) := fun X A s R hI => by
  refine Subscript_ (wpAny_mono (h1 X A s R hI) (fun a s1 h => ?_) fun _ _ x => x)
  obtain ⟨t1, r1⟩ := h
  have I1 := V.mono _ _ _ hI t1
  refine wpAny_Slice (wpAny_evalPart_none (wpAny_evalPart_some (wpAny_mono (h2 X A s1 R I1) (fun vl s2 h => ?_) fun _ _ x => x)))
  obtain ⟨t2, r2⟩ := h
  have I2 := V.mono _ _ _ I1 t2
  obtain ⟨t, rfl⟩ := r1.isStr
  obtain ⟨u, rfl⟩ := r2.isInt
  refine wpAny_evalPart_none ?_
  have S4 := St.push (V.wd _ _ I2) { cls := .type "slice", data := .fields #[.none, .int i u, .none] }
  refine tail_any (typeIs_str _ _ _) F.slot_str_getitem.lookup (wpAny_getItem_str_slice (l := none) (u := some (i, u)) (st := none) ⟨_, PySem.Heap.get?_push_size _ rfl, rfl, rfl⟩ rfl (post_val_or_str ⟨Nat.le_trans (Txt.slice_le x _ _) hz, fun t' k => ?_⟩)) (ops := [.ref s2.heap.objs.size, .str x t]) (by rfl)
  have e1 : (⟨(x.cps.toList.take n).toArray⟩ : PySem.Str) = Txt.slice x none (some i) := by
    have hx : x.length = x.cps.size := rfl
    have := beq_iff_eq.mp (slice_closes_to (x := x) (j := i) ⟨by omega, by rw [Array.length_toList]; omega⟩)
    rw [this, hi]
    simp
  rw [e1]
  exact ⟨(t1.trans t2).trans (S4.trans (St.toks S4.wd)), .str _ _⟩

/-- -1 -/
theorem Ev.neg1 (V : InvF G I) {n : Nat} {p pos : Pos} : Ev prog w G k I env (.UnaryOp .USub (.Constant (.int 1) n p) pos) (.int (-1)) := fun X A s R hI => by
  refine wpAny_UnaryOp (wpAny_mono (Ev.int V X A s R hI) (fun v s1 h => ?_) fun _ _ x => x)
  obtain ⟨t1, r1⟩ := h
  obtain ⟨t, rfl⟩ := r1.isInt
  exact P.neg_int ⟨t1.trans (St.toks t1.wd), .int _ _⟩

/-- the last of a text -/
theorem Ev.strLast (V : InvF G I) {value : Expr} {n : Nat} {p p' pos : Pos} {x : PySem.Str} {c : Nat} (h1 : Ev prog w G k I env value (.str x)) (hx : x.cps.toList.getLast? = some c) :
    Ev prog w G k I env (.Subscript value (.UnaryOp .USub (.Constant (.int 1) n p) p') pos) (.str ⟨#[c]⟩) := by
  refine Ev.sub V h1 (Ev.neg1 V) (op_itemStr (by decide) ?_ fun _ _ => rfl)
  have hpos : 0 < x.cps.size := by
    rcases Nat.eq_zero_or_pos x.cps.size with q | q
    · have : x.cps.toList = [] := by rw [Array.size_eq_zero_iff.mp q]
      rw [this] at hx; cases hx
    · exact q
  have e : seqIndex? (-1) x.length = some (x.cps.size - 1) := by
    have hl : x.length = x.cps.size := rfl
    unfold seqIndex?
    rw [hl]
    have h1 : ¬ ((-1 : Int) + (x.cps.size : Int) < 0) := by omega
    simp only [show ((-1 : Int) < 0) by decide, if_true]
    split
    · congr 1; omega
    · exfalso; rename_i h; simp at h; omega
  rw [e]
  show x.cps[x.cps.size - 1]? = some c
  rw [List.getLast?_eq_getElem?] at hx
  simpa using hx
/-- the last of a list -/
theorem Ev.listLast (V : InvF G I) {value : Expr} {n : Nat} {p p' pos : Pos} {ds : List Dat} {d : Dat} (h1 : Ev prog w G k I env value (.list ds)) (hx : ds.getLast? = some d) :
    Ev prog w G k I env (.Subscript value (.UnaryOp .USub (.Constant (.int 1) n p) p') pos) d := by
  have hpos : 0 < ds.length := by
    cases ds with
    | nil => cases hx
    | cons _ _ => simp
  refine Ev.sub V h1 (Ev.neg1 V) (op_itemListNeg (by decide) (by omega) (by decide) ?_ fun _ _ => rfl)
  rw [List.getLast?_eq_getElem?] at hx
  have e : ((-1 : Int) + (ds.length : Int)).toNat = ds.length - 1 := by omega
  rw [e]; exact hx

/-! ## methods -/
theorem Ev.join (V : InvF G I) {n : Nat} {p apos pos : Pos} {e : Expr} {ys : List PySem.Str} (h1 : Ev prog w G k I env e (.list (ys.map .str))) (hz : (ys.map (·.length)).sum ≤ 10000)
    (hbase : attributeBase (.Constant (.str "") n p) "join" env (eval (.Constant (.str "") n p) env) = eval (.Constant (.str "") n p) env) (hline : (apos.endLine == pos.line) = true)
    (he : starEach [e] env = (false, eval e env) :: starEach [] env)
    (hfew : ((backTo pos (starEach [e] env)).all (fun x => !x.1) && (backToKw pos (keywordEach [] env)).all (fun x => x.1.isSome)
      && decide ([e].length + ([] : List Keyword).length + (if ([] : List Keyword).isEmpty then 0 else 1) < 30)) = true) :
    Ev prog w G k I env (.Call (.Attribute (.Constant (.str "") n p) "join" apos) [e] [] pos) (.str (Txt.join "" ys)) := fun X A s R hI => by
  refine wpAny_Call_method (T := "str") (id := "str.join") hbase hfew hline F.plainAttrs_str F.slot_str_join F.type_str_join (wpAny_mono (Ev.str V X A s R hI) (fun v s1 h => ?_) fun _ _ x => x)
  obtain ⟨t1, r1⟩ := h
  have I1 := V.mono _ _ _ hI t1
  obtain ⟨t, rfl⟩ := r1.isStr
  refine ⟨typeIs_str _ _ _, fun a e => (nomatch e), callWith_method1 (args_cons (wpAny_mono (h1 X A s1 R I1) (fun v s2 h => ?_) fun _ _ x => x) he) he rfl⟩
  obtain ⟨t2, r2⟩ := h
  have I2 := V.mono _ _ _ I1 t2
  obtain ⟨a, vs, rfl, _, hl, q⟩ := r2.isList
  refine args_nil (join_list hl q.strsAre (by show _ + _ * 0 ≤ _; omega) fun t' k => ⟨(t1.trans t2).trans (St.toks t2.wd), .str _ _⟩)

theorem lt_idxOf_ne {x : PySem.Str} : ∀ {ys : List PySem.Str} {j : Nat}, j < ys.idxOf x → ∀ (h2 : j < ys.length), (ys[j] == x) = false
  | n :: r, 0, h, _ => by
    by_cases e : n = x
    · subst e; simp at h
    · simpa using e
  | n :: r, j + 1, h, h2 => by
    by_cases e : n = x
    · subst e; simp at h
    · have hb : (n == x) = false := by simpa using e
      have h' : j < r.idxOf x := by
        rw [List.idxOf_cons, hb] at h
        exact Nat.lt_of_succ_lt_succ h
      exact lt_idxOf_ne h' (Nat.lt_of_succ_lt_succ h2)
def isStrV (x : PySem.Str) : Value → Bool
  | .str y _ => y.cps.toList == x.cps.toList
  | _ => false
theorem isStrV_at {x : PySem.Str} : ∀ {vs : List Value} {ys : List PySem.Str}, StrsAre vs ys → ∀ (i : Nat) (h1 : i < vs.length) (h2 : i < ys.length), isStrV x vs[i] = (ys[i] == x)
  | _, _, .cons y t r, 0, _, _ => by
    show (y.cps.toList == x.cps.toList) = (y == x)
    rw [Bool.eq_iff_iff, beq_iff_eq, beq_iff_eq]
    constructor
    · intro h
      obtain ⟨cy⟩ := y
      obtain ⟨cx⟩ := x
      exact congrArg PySem.Str.mk (Array.toList_inj.mp h)
    · intro h; rw [h]
  | _, _, .cons y t r, i + 1, h1, h2 => isStrV_at r i (by simpa using h1) (by simpa using h2)
theorem isStrV_eq {x : PySem.Str} {u : Tok} : ∀ {vs : List Value} {ys : List PySem.Str}, StrsAre vs ys → ∀ y ∈ vs, PySem.MeetsSeq.EqGives y (.str x u) (isStrV x y)
  | _, _, .cons y t r, v, hv => by
    rcases List.mem_cons.mp hv with rfl | hv
    · exact PySem.SeqRoads2.EqGives.str y x t u
    · exact isStrV_eq r v hv

theorem Ev.index (V : InvF G I) {y : PySem.Str} {p apos pos : Pos} {e : Expr} {ys : List PySem.Str} {x : PySem.Str} (h0 : Ev prog w G k I env (.Name y p) (.list (ys.map .str))) (h1 : Ev prog w G k I env e (.str x)) (hx : x ∈ ys) (hz : ys.length ≤ 1000)
    (hbase : attributeBase (.Name y p) "index" env (eval (.Name y p) env) = eval (.Name y p) env) (hline : (apos.endLine == pos.line) = true)
    (he : starEach [e] env = (false, eval e env) :: starEach [] env)
    (hfew : ((backTo pos (starEach [e] env)).all (fun x => !x.1) && (backToKw pos (keywordEach [] env)).all (fun x => x.1.isSome)
      && decide ([e].length + ([] : List Keyword).length + (if ([] : List Keyword).isEmpty then 0 else 1) < 30)) = true) :
    Ev prog w G k I env (.Call (.Attribute (.Name y p) "index" apos) [e] [] pos) (.int (ys.idxOf x : Nat)) := fun X A s R hI => by
  refine wpAny_Call_method (T := "list") (id := "list.index") hbase hfew hline F.plainAttrs_list F.slot_list_index F.type_list_index (wpAny_mono (h0 X A s R hI) (fun v s1 h => ?_) fun _ _ x => x)
  obtain ⟨t1, r1⟩ := h
  have I1 := V.mono _ _ _ hI t1
  obtain ⟨a, vs, rfl, _, hl, q⟩ := r1.isList0
  refine ⟨hl.list.typeIs, fun b e => ?_, callWith_method1 (args_cons (wpAny_mono (h1 X A s1 R I1) (fun v s2 h => ?_) fun _ _ x => x) he) he rfl⟩
  · cases e
    obtain ⟨o, e, _, _, _, z⟩ := hl
    exact ⟨o, e, z⟩
  obtain ⟨t2, r2⟩ := h
  have I2 := V.mono _ _ _ I1 t2
  obtain ⟨t, rfl⟩ := r2.isStr
  obtain ⟨a', vs', ea, _, hl', q'⟩ := (t2.rep (V.wd _ _ I1) (Rep.listOf ‹_› hl q)).isList
  cases ea
  have qs := q'.strsAre
  have hlen := strs_len qs
  obtain ⟨⟨cls, dd, data, sl⟩, ho, hc, n, hd⟩ := id hl'
  simp only at hc hd
  subst hc hd
  have hj : ys.idxOf x < ys.length := List.idxOf_lt_length_iff.mpr hx
  refine args_nil (call_meets F.slot_list_index ⟨_, ho, rfl⟩ F.entry_list_index (F.args_list_index_2 _ _)
    (PySem.SeqAt.list_indexAt a vs'.toArray n dd sl (.str x t) (isStrV x) (ys.idxOf x) (by simpa [hlen] using hj) (by omega) ?_ ?_) ⟨ho, fun y hy => (isStrV_eq qs y (by simpa using hy)).at _ _, ?_⟩)
  · show isStrV x vs'[ys.idxOf x] = true
    rw [isStrV_at qs _ (by omega) hj]
    simp
  · intro j hjs hlt
    show isStrV x vs'[j] = false
    rw [isStrV_at qs j (by simpa using hjs) (by omega)]
    exact lt_idxOf_ne hlt _
  · exact ⟨(t1.trans t2).trans (St.toks t2.wd), .int _ _⟩
end
end Mine

namespace Mine
section
variable {prog : Program} {w : World} {G : GC} {I : Fam} {k : Nat} {env : Env}

theorem tuple_lt_tree {A : Around} {E : Value → Shared → Prop} {s : Shared} {x y : PySem.Addr} {a b c d : Int} {ta tb tc td : Tok} {P : PySem.Fin → Shared → Prop} (hx : s.heap.IsTuple x #[.int a ta, .int b tb]) (hy : s.heap.IsTuple y #[.int c tc, .int d td])
    (h : P (.done (.ret (.bool (decide (a < c) || (a == c && decide (b < d)))))) s) :
    wpAny (model prog w) A (Builtin.«tuple.__lt__» ⟨[.ref x, .ref y], []⟩) P E s := by
  obtain ⟨oa, hoa, hca, na, hda⟩ := hx
  obtain ⟨ob, hob, hcb, nb, hdb⟩ := hy
  show wpAny _ _ (isInstance (.ref y) (.type "tuple") >>= _) _ _ s
  refine wpAny_bind (wpAny_isInstance (T := "tuple") ⟨ob, hob, hcb⟩ isSubtype_tuple_tuple ?_)
  simp only [Bool.not_true, Bool.false_eq_true, if_false]
  refine wpAny_bind (wpAny_tupleItemsOf hoa hda ?_)
  refine wpAny_bind (wpAny_tupleItemsOf hob hdb ?_)
  refine wpAny_bind ?_
  show wpAny _ _ (forIn [(Value.int a ta, Value.int c tc), (Value.int b tb, Value.int d td)] _ _) _ _ s
  rw [List.forIn_cons]
  refine wpAny_bind (wpAny_bind (wpAny_eqBool_int ?_))
  by_cases hac : a = c
  · subst hac
    have hlt : decide (a < a) = false := decide_eq_false (Int.lt_irrefl a)
    rw [beq_self_eq_true, hlt, Bool.false_or, Bool.true_and] at h
    simp only [beq_self_eq_true, Bool.not_true, Bool.false_eq_true, if_false]
    refine wpAny_pure ?_
    dsimp only
    rw [List.forIn_cons]
    refine wpAny_bind (wpAny_bind (wpAny_eqBool_int ?_))
    by_cases hbd : b = d
    · subst hbd
      have hlt2 : decide (b < b) = false := decide_eq_false (Int.lt_irrefl b)
      rw [hlt2] at h
      simp only [beq_self_eq_true, Bool.not_true, Bool.false_eq_true, if_false]
      refine wpAny_pure ?_
      dsimp only
      rw [List.forIn_nil]
      exact wpAny_pure (wpAny_pure h)
    · have hb : (b == d) = false := by simpa using hbd
      simp only [hb, Bool.not_false, if_true]
      refine wpAny_bind (wpAny_rule ?_)
      refine wpAny_bind (show wpAny _ _ (compareOp .Lt (.int b tb) (.int d td)) _ _ s from wpAny_lt_int ?_)
      exact wpAny_bind (wpAny_pure (wpAny_pure (wpAny_pure (wpAny_pure h))))
  · have ha : (a == c) = false := by simpa using hac
    rw [ha, Bool.false_and, Bool.or_false] at h
    simp only [ha, Bool.not_false, if_true]
    refine wpAny_bind (wpAny_rule ?_)
    refine wpAny_bind (show wpAny _ _ (compareOp .Lt (.int a ta) (.int c tc)) _ _ s from wpAny_lt_int ?_)
    exact wpAny_bind (wpAny_pure (wpAny_pure (wpAny_pure (wpAny_pure h))))

theorem op_ltTup2 {a b c d : Int} : Op2 prog w G k (compareOp .Lt) (.tuple [.int a, .int b]) (.tuple [.int c, .int d]) (.bool (decide (a < c) || (a == c && decide (b < d)))) := fun X A s v1 v2 R W _ r1 r2 => by
  obtain ⟨x, vs, rfl, hx, q1⟩ := r1.isTuple
  obtain ⟨y, us, rfl, hy, q2⟩ := r2.isTuple
  obtain ⟨v, u, rfl, p1, p2⟩ := two_of q1
  obtain ⟨v', u', rfl, p3, p4⟩ := two_of q2
  obtain ⟨ta, rfl⟩ := p1.isInt
  obtain ⟨tb, rfl⟩ := p2.isInt
  obtain ⟨tc, rfl⟩ := p3.isInt
  obtain ⟨td, rfl⟩ := p4.isInt
  have hTx : s.TypeIs (.ref x) "tuple" := let ⟨o, e, c, _⟩ := hx; ⟨o, e, c⟩
  have hTy : s.TypeIs (.ref y) "tuple" := let ⟨o, e, c, _⟩ := hy; ⟨o, e, c⟩
  show wpAny _ _ (richCompare .Lt (.ref x) (.ref y)) _ _ s
  refine wpAny_richCompare_same_room hTx hTy F.slot_tuple_lt (wpAny_call_entry F.slot_tuple_lt hTx F.entry_tuple_lt (tuple_lt_tree hx hy ⟨_, rfl, ?_⟩) (F.args_tuple_lt_2 _ _)) (by have := R.cl; omega)
  exact ⟨by simp, St.refl W, .bool _⟩
end
end Mine

namespace Mine
abbrev Att := PySem.Str × Int
def attD (a : Att) : Dat := .tuple [.str a.1, .int a.2]
abbrev wordD (w : List Att) : Dat := .list (w.map attD)
inductive Tr (α : Type) where
  | leaf : Tr α
  | node : Tr α → α → Tr α → Tr α
def Tr.toL {α : Type} : Tr α → List α
  | .leaf => []
  | .node l a r => l.toL ++ a :: r.toL
/-- the tree of a word: the first letter, the letters before it, the others -/
def qt {α : Type} (lt : α → α → Bool) : List α → Tr α
  | [] => .leaf
  | a :: r => .node (qt lt (r.filter fun x => lt x a)) a (qt lt (r.filter fun x => !lt x a))
termination_by w => w.length
decreasing_by
  · simp only [List.length_cons, List.length_unattach]; exact Nat.lt_succ_of_le (Nat.le_trans (List.length_filter_le _ _) (by simp))
  · simp only [List.length_cons, List.length_unattach]; exact Nat.lt_succ_of_le (Nat.le_trans (List.length_filter_le _ _) (by simp))
def attLt (a b : Att) : Bool := decide (SLt a.1 b.1)
def keyOf : Dat → PySem.Str
  | .tuple (.str x :: _) => x
  | _ => default
@[simp] theorem keyOf_att (a : Att) : keyOf (attD a) = a.1 := rfl

theorem attD_inj {a b : Att} (h : attD a = attD b) : a = b := by
  obtain ⟨x, i⟩ := a
  obtain ⟨y, j⟩ := b
  simp only [attD, Dat.tuple.injEq, List.cons.injEq, Dat.str.injEq, Dat.int.injEq, and_true] at h
  rw [h.1, h.2]
theorem map_att_inj : ∀ {u v : List Att}, u.map attD = v.map attD → u = v
  | [], [], _ => rfl
  | a :: u, b :: v, h => by
    simp only [List.map_cons, List.cons.injEq] at h
    rw [attD_inj h.1, map_att_inj h.2]
theorem wordD_inj {u v : List Att} (h : wordD u = wordD v) : u = v := map_att_inj (Dat.list.inj h)
theorem attD_ok (n : Nat) (a : Att) (h : PyData.strOk a.1 = true) : kqdOk (n + 1) (attD a) = true := by simp [attD, kqdOk, h]
theorem wordD_ok (n : Nat) (u : List Att) (h : ∀ a ∈ u, PyData.strOk a.1 = true) : kqdOk (n + 2) (wordD u) = true := by
  simp only [kqdOk, List.all_eq_true]
  intro d hd
  obtain ⟨a, ha, rfl⟩ := List.mem_map.mp hd
  exact attD_ok n a (h a ha)

theorem rangeD_at {a : Int} {n m : Nat} {d : Dat} (h : (rangeD a 1 n)[m]? = some d) : m < n ∧ d = .int (a + (m : Int)) := by
  rcases Nat.lt_or_ge m n with q | q
  · rw [rangeD, List.getElem?_map, List.getElem?_range q] at h
    exact ⟨q, (Option.some.inj h).symm.trans (by show Dat.int (a + (m : Int) * 1) = _; rw [Int.mul_one])⟩
  · rw [rangeD, List.getElem?_eq_none (by simpa using q)] at h; cases h
theorem any_filter {α : Type} (p : α → Bool) : ∀ l : List α, l.any p = !(l.filter p).isEmpty
  | [] => rfl
  | a :: l => by
    rw [List.any_cons, List.filter_cons]
    cases h : p a with
    | true => simp
    | false => simpa using any_filter p l

theorem qt_len {α : Type} (lt : α → α → Bool) : ∀ (n : Nat) (u : List α), u.length ≤ n → (qt lt u).toL.length = u.length := by
  intro n
  induction n with
  | zero =>
    intro u h
    obtain rfl : u = [] := List.length_eq_zero_iff.mp (Nat.le_zero.mp h)
    rw [qt]; rfl
  | succ n ih =>
    intro u h
    cases u with
    | nil => rw [qt]; rfl
    | cons a r =>
      have hr : r.length ≤ n := by simpa using h
      rw [qt, Tr.toL, List.length_append, List.length_cons, ih _ (Nat.le_trans (List.length_filter_le _ _) hr), ih _ (Nat.le_trans (List.length_filter_le _ _) hr), List.length_cons]
      have := List.length_eq_countP_add_countP (fun x => lt x a) (l := r)
      rw [List.countP_eq_length_filter, List.countP_eq_length_filter] at this
      have e : (fun x => decide ¬(lt x a = true)) = fun x => !lt x a := by funext x; cases lt x a <;> rfl
      rw [e] at this
      omega
theorem qt_mem {α : Type} (lt : α → α → Bool) : ∀ (n : Nat) (u : List α), u.length ≤ n → ∀ x, x ∈ (qt lt u).toL ↔ x ∈ u := by
  intro n
  induction n with
  | zero =>
    intro u h x
    obtain rfl : u = [] := List.length_eq_zero_iff.mp (Nat.le_zero.mp h)
    rw [qt]; rfl
  | succ n ih =>
    intro u h x
    cases u with
    | nil => rw [qt]; rfl
    | cons a r =>
      have hr : r.length ≤ n := by simpa using h
      rw [qt, Tr.toL, List.mem_append, List.mem_cons, ih _ (Nat.le_trans (List.length_filter_le _ _) hr), ih _ (Nat.le_trans (List.length_filter_le _ _) hr), List.mem_cons, List.mem_filter, List.mem_filter]
      cases lt x a <;> simp <;> exact Or.comm

/-- an order by a key -/
structure Swo {α : Type} (lt : α → α → Bool) : Prop where
  irrefl : ∀ a, lt a a = false
  trans : ∀ a b c, lt a b = true → lt b c = true → lt a c = true
  ntrans : ∀ a b c, lt a b = false → lt b c = false → lt a c = false

section
variable {α : Type} {lt : α → α → Bool}
theorem qt_nil : qt lt ([] : List α) = .leaf := by rw [qt]
theorem qt_cons (a : α) (r : List α) : qt lt (a :: r) = .node (qt lt (r.filter fun x => lt x a)) a (qt lt (r.filter fun x => !lt x a)) := by rw [qt]

theorem qt_perm : ∀ (n : Nat) (u : List α), u.length ≤ n → (qt lt u).toL.Perm u := by
  intro n
  induction n with
  | zero =>
    intro u h
    obtain rfl : u = [] := List.length_eq_zero_iff.mp (Nat.le_zero.mp h)
    rw [qt]; exact .refl _
  | succ n ih =>
    intro u h
    cases u with
    | nil => rw [qt]; exact .refl _
    | cons a r =>
      have hr : r.length ≤ n := by simpa using h
      rw [qt, Tr.toL]
      refine List.perm_middle.trans (List.Perm.cons a ?_)
      exact ((ih _ (Nat.le_trans (List.length_filter_le _ _) hr)).append (ih _ (Nat.le_trans (List.length_filter_le _ _) hr))).trans (List.filter_append_perm _ r)
end
theorem slt_irrefl (x : PySem.Str) : ¬ SLt x x := List.lt_irrefl _
theorem slt_trans {x y z : PySem.Str} (a : SLt x y) (b : SLt y z) : SLt x z := List.lt_trans a b
theorem slt_asymm {x y : PySem.Str} (a : SLt x y) : ¬ SLt y x := List.lt_asymm a
theorem slt_tri {x y : PySem.Str} (a : ¬ SLt x y) (b : ¬ SLt y x) : x = y := by
  have h : x.cps.toList = y.cps.toList := List.le_antisymm (List.not_lt.mp b) (List.not_lt.mp a)
  obtain ⟨cx⟩ := x
  obtain ⟨cy⟩ := y
  exact congrArg PySem.Str.mk (Array.toList_inj.mp h)
theorem slt_ntrans {x y z : PySem.Str} (a : ¬ SLt x y) (b : ¬ SLt y z) : ¬ SLt x z := fun h => by
  by_cases q : SLt y x
  · exact b (slt_trans q h)
  · rw [slt_tri a q] at h; exact b h
theorem att_swo : Swo attLt where
  irrefl := fun a => decide_eq_false (slt_irrefl _)
  trans := fun a b c h1 h2 => decide_eq_true (slt_trans (of_decide_eq_true h1) (of_decide_eq_true h2))
  ntrans := fun a b c h1 h2 => decide_eq_false (slt_ntrans (of_decide_eq_false h1) (of_decide_eq_false h2))

section
variable {prog : Program} {w : World} {G : GC} {I : Fam} {k : Nat} {env : Env}
theorem Ev.to {e : Expr} {d d' : Dat} (h : Ev prog w G k I env e d) (q : d = d') : Ev prog w G k I env e d' := q ▸ h
theorem Tv.to {e : Expr} {b b' : Bool} (h : Tv prog w G k I env e b) (q : b = b') : Tv prog w G k I env e b' := q ▸ h
theorem Ev.att0 (V : InvF G I) {value slice : Expr} {pos : Pos} {a : Att} (h1 : Ev prog w G k I env value (attD a)) (h2 : Ev prog w G k I env slice (.int 0))
    (hs : ∀ o j, subscripted slice false o j = operate [o, j] (getItem o j)) : Ev prog w G k I env (.Subscript value slice pos) (.str a.1) :=
  Ev.itemTup V h1 h2 (n := 0) rfl (by omega) rfl hs

theorem Ev.att1 (V : InvF G I) {value slice : Expr} {pos : Pos} {a : Att} (h1 : Ev prog w G k I env value (attD a)) (h2 : Ev prog w G k I env slice (.int 1))
    (hs : ∀ o j, subscripted slice false o j = operate [o, j] (getItem o j)) : Ev prog w G k I env (.Subscript value slice pos) (.int a.2) :=
  Ev.itemTup V h1 h2 (n := 1) rfl (by omega) rfl hs
end
end Mine

namespace Mine
def stAt (i : Nat) : Stmt := PySem.Challenge.pw_rl0156_01.main.body.getD i (.Pass default)


/-- a def of the text, as the heap holds it -/
structure Def (G : GC) (x : PySem.Str) (f : PySem.Addr) (o : Obj) (i : Nat) (pm cd : Value) : Prop where
  mg : G.mg x = some (.ref f)
  ho : G.h₁.get? f = some o
  hd : o.data = .func (fdOf (stAt i) pm cd)
  code : G.h₁.CodeRec cd x
theorem lookup_cell {n : PySem.Str} {names : List (PySem.Str × NameKind)} (h : names.lookup n = some .cell) : (n, NameKind.cell) ∈ names := mem_of_lookup h

section
variable {prog : Program} {w : World} {G : GC} {k : Nat}
theorem split_ok (B : Base G) {f : PySem.Addr} {o : Obj} {pm cd : Value} (D : Def G "_split_list" f o 1 pm cd) : SplitOk prog w G f := by
  intro k X A s lst pf ds p R W L hl hp hz
  have ok : FOk G f o (fdOf (stAt 1) pm cd) (bodyOf (stAt 1)) ["s", "predicate"] := {
    ho := D.ho, hd := D.hd, code := D.code, body := rfl, clo := rfl, glob := rfl, blt := rfl, co := rfl, gen := rfl, kind := rfl
    bind := fun vs h => by match vs, h with | [v, u], _ => rfl
    nodup := by simp [ofString_inj]
    kinds := fun n hn => by
      rcases List.mem_cons.mp hn with rfl | hn
      · exact .inl rfl
      · rw [List.mem_singleton.mp hn]; exact .inl rfl
    cells := fun n h => lookup_cell h }
  refine call_def (k := k) B ok (σ := [("s", .list ds)]) R W L rfl (fun q hq => ?_) (fun env he F => ?_)
  · rw [List.mem_singleton.mp hq]
    exact ⟨lst, .head _, hl⟩
  subst he
  refine RtL.cons (DoS.assignNil F (.inl rfl) (fun _ h => nomatch h) (σ' := [("s", .list ds)]) (τ' := [("predicate", pf)]) (by simp [ofString_inj]) (by simp [ofString_inj])) ?_
  refine RtL.cons (DoS.assignNil F (.inl rfl) (by simp [ofString_inj]) (σ' := [("s", .list ds)]) (τ' := [("predicate", pf)]) (by simp [ofString_inj]) (by simp [ofString_inj])) ?_
  refine RtL.cons (DoS.for F (ds := ds) (σ := fun _ => [("s", .list ds)]) (own := fun i => [("no", (ds.take i).filter fun d => !p d), ("yes", (ds.take i).filter p)]) (.inl rfl) ?_ ?_ ?_ ?_ ?_ (fun _ => rfl)) ?_
  · exact It.list (Ev.name (FI.inv F) F.ok.kind (FI.knows (.head _)) (by decide +kernel) (by decide +kernel))
  · simp [ofString_inj]
  · simp [ofString_inj]
  · simp [ofString_inj]
  · intro i d J hd
    have hm : d ∈ ds := List.mem_of_getElem? hd
    have hlt : i < ds.length := (List.getElem?_eq_some_iff.mp hd).1
    have e1 := take_succ_filter p ds i d hd
    have e2 := take_succ_filter (fun d => !p d) ds i d hd
    have hle1 : ((ds.take i).filter p).length ≤ sizeLine := by
      refine Nat.le_trans (List.length_filter_le _ _) ?_
      rw [List.length_take, sizeLine_eq]; omega
    have hle2 : ((ds.take i).filter fun d => !p d).length ≤ sizeLine := by
      refine Nat.le_trans (List.length_filter_le _ _) ?_
      rw [List.length_take, sizeLine_eq]; omega
    refine DoL.cons (DoS.ifElse (FI.inv F) (Tv.pred F (.head _) hp hm (.head _) (by decide +kernel) (by decide +kernel) (by decide +kernel) (by decide +kernel)) (fun hb => ?_) fun hb => ?_) (DoL.nil Imp.refl)
    · rw [e1, e2, hb]
      simp only [Bool.not_true, Bool.false_eq_true, if_true, if_false, List.append_nil]
      refine DoL.pre (Imp.weaken (own' := [("yes", (ds.take i).filter p), ("no", (ds.take i).filter fun d => !p d)]) (fun _ h => h) (fun _ h => h) (by simp) (List.Sublist.refl _)) (DoL.cons (DoS.append F (d := d) ?_ rfl rfl hle1 (by simp [ofString_inj]) rfl (by decide +kernel) (by decide +kernel)) (DoL.nil (Imp.weaken (by simp) (fun _ h => h) (by simp) (List.Sublist.refl _))))
      exact Ev.name (FI.inv F) F.ok.kind (FI.knows (.head _)) (by decide +kernel) (by decide +kernel)
    · rw [e1, e2, hb]
      simp only [Bool.not_false, Bool.false_eq_true, if_true, if_false, List.append_nil]
      refine DoL.cons (DoS.append F (d := d) ?_ rfl rfl hle2 (by simp [ofString_inj]) rfl (by decide +kernel) (by decide +kernel)) (DoL.nil (Imp.weaken (by simp) (fun _ h => h) (fun _ h => h) (List.Sublist.refl _)))
      exact Ev.name (FI.inv F) F.ok.kind (FI.knows (.head _)) (by decide +kernel) (by decide +kernel)
  · rw [List.take_length]
    refine RtL.pre (Imp.freeze F (by simp [ofString_inj])) (RtL.pre (Imp.freeze F (by simp)) (RtL.ret F (Ev.tuple (FI.inv F) (EvL.cons (FI.inv F) (Ev.name (FI.inv F) F.ok.kind (FI.knows (.head _)) (by decide +kernel) (by decide +kernel))
      (EvL.cons (FI.inv F) (Ev.name (FI.inv F) F.ok.kind (FI.knows (.tail _ (.head _))) (by decide +kernel) (by decide +kernel)) (EvL.nil (FI.inv F)) rfl) rfl) (by rw [sizeLine_eq]; simp))))
end
end Mine

namespace Mine

/-- the worth of figures -/
def worthOf (ds : List Int) : Int := ds.foldl (fun w d => 4 * w + d) 0
def strOf : Dat → PySem.Str
  | .str x => x
  | _ => ""
/-- a sign told to the front -/
def fr (ss : List PySem.Str) (x : PySem.Str) : List PySem.Str := ss.filter (fun y => y == x) ++ ss.filter fun y => !(y == x)
def dealtOf : List Att → List PySem.Str → List Att
  | ps, [] => ps
  | ps, s :: ss => ps.filter (fun p => p.1 == s) ++ dealtOf (ps.filter fun p => !(p.1 == s)) ss
theorem dealt_len : ∀ (ss : List PySem.Str) (ps : List Att), (dealtOf ps ss).length = ps.length
  | [], ps => rfl
  | s :: ss, ps => by
    rw [dealtOf, List.length_append, dealt_len ss]
    have := List.length_eq_countP_add_countP (fun p : Att => p.1 == s) (l := ps)
    rw [List.countP_eq_length_filter, List.countP_eq_length_filter] at this
    have e : (fun p : Att => decide ¬((p.1 == s) = true)) = fun p => !(p.1 == s) := by funext p; cases p.1 == s <;> rfl
    rw [e] at this
    exact this.symm

local macro_rules | `(tactic| kd_mem) => `(tactic| first | with_reducible exact List.Mem.head _ | (refine List.Mem.tail _ ?_; kd_mem))
local macro_rules | `(tactic| kd_facts) => `(tactic| first | exact FI.inv (by assumption) | (refine With.inv ?_; kd_facts))
local macro_rules | `(tactic| kd_in) => `(tactic| first
  | with_reducible exact With.knows
  | (refine FI.knows ?_; kd_mem)
  | (refine Knows.within ?_; kd_in)
  | (refine Knows.comp ?_ rfl rfl (by first | exact .inl rfl | exact .inr rfl); kd_in)
  | (refine Knows.lam (FI.knows ?_) (by exact rfl) (by exact rfl) (by first | exact .inl rfl | exact .inr rfl); kd_mem))
local macro_rules | `(tactic| kd_all) => `(tactic| (refine Ev.name' ?_ ?_ rfl (by decide +kernel); kd_facts; kd_in))

section
variable {prog : Program} {w : World} {G : GC} {I : Fam} {k : Nat} {env : Env}
variable {f1 f3 f4 f5 f6 f8 c3 t3 c5 t5 c6 t6 c8 t8 : PySem.Addr} {o1 o3 o4 o5 o6 o8 : Obj} {pm1 pm3 pm4 pm5 pm6 pm8 cd1 cd4 : Value}
theorem risen_ok (B : Base G) (ap : Apart G) (D1 : Def G "_split_list" f1 o1 1 pm1 cd1) (D3 : Def G "_law_risen" f3 o3 3 pm3 (.ref c3)) (hq : (c3, t3, ("_law_risen.<locals>.<lambda>" : PySem.Str)) ∈ G.tabs) :
    ∀ (n : Nat) (u : List Att), u.length ≤ n → n ≤ 100 → OpN prog w G (n + 3) (fun vs => call (.ref f3) vs) [wordD u] (wordD (qt attLt u).toL) := by
  have ok : FOk G f3 o3 (fdOf (stAt 3) pm3 (.ref c3)) (bodyOf (stAt 3)) ["rows"] := {
    ho := D3.ho, hd := D3.hd, code := D3.code, body := rfl, clo := rfl, glob := rfl, blt := rfl, co := rfl, gen := rfl, kind := rfl
    bind := fun vs h => by match vs, h with | [v], _ => rfl
    nodup := by simp
    kinds := fun n hn => by rw [List.mem_singleton.mp hn]; exact .inr ⟨rfl, .head _⟩
    cells := fun n h => lookup_cell h }
  intro n
  induction n with
  | zero =>
    intro u hu _
    obtain rfl : u = [] := List.length_eq_zero_iff.mp (Nat.le_zero.mp hu)
    refine op_call' (σ := [("rows", wordD [])]) B ok rfl rfl fun s₀ X₀ L env he F => ?_
    subst he
    refine RtL.ifRet (b := true) (FI.inv F) (Tv.not (Tv.list (ds := []) (FI.inv F) (by kd_all) (by simp) rfl)) (fun _ => ?_) (fun h => nomatch h)
    rw [qt]
    exact RtL.ret F (Ev.list (FI.inv F) (EvL.nil (FI.inv F)) (Nat.zero_le _))
  | succ n ih =>
    intro u hu hn
    refine op_call' (σ := [("rows", wordD u)]) B ok rfl rfl fun s₀ X₀ L env he F => ?_
    subst he
    cases u with
    | nil =>
      refine RtL.ifRet (b := true) (FI.inv F) (Tv.not (Tv.list (ds := []) (FI.inv F) (by kd_all) (by simp) rfl)) (fun _ => ?_) (fun h => nomatch h)
      rw [qt]
      exact RtL.ret F (Ev.list (FI.inv F) (EvL.nil (FI.inv F)) (Nat.zero_le _))
    | cons a r =>
      have hr : r.length ≤ n := by simpa using hu
      refine RtL.ifRet (b := false) (FI.inv F) (Tv.not (Tv.list (ds := (a :: r).map attD) (FI.inv F) (by kd_all) (by rw [List.length_map, List.length_cons]; omega) rfl)) (fun h => nomatch h) (fun _ => ?_)
      have hf1 : (r.map attD).filter (fun d => decide (SLt (keyOf d) a.1)) = (r.filter fun x => attLt x a).map attD := by rw [List.filter_map]; rfl
      have hf2 : (r.map attD).filter (fun d => !decide (SLt (keyOf d) a.1)) = (r.filter fun x => !attLt x a).map attD := by rw [List.filter_map]; rfl
      refine RtL.cons (DoS.assign2 F (d1 := wordD (r.filter fun x => attLt x a)) (d2 := wordD (r.filter fun x => !attLt x a)) ?_ (.inl rfl) (.inl rfl) (by simp [ofString_inj]) (by simp) (by simp [ofString_inj]) (by simp) rfl rfl) ?_
      · show Ev _ _ _ _ _ _ _ (.tuple [.list _, .list _])
        rw [← hf1, ← hf2]
        refine Ev.less (Ev.split (k := n) (ds := r.map attD) (x := "row") (q := (c3, t3, "_law_risen.<locals>.<lambda>")) (FI.inv F) B ap F.ok (split_ok B D1) ⟨rfl, D1.mg, D1.ho, D1.hd, by decide +kernel⟩
          ⟨hq, rfl, by show ("_law_risen" : PySem.Str) ++ ".<locals>." ++ "<lambda>" = "_law_risen.<locals>.<lambda>"; decide +kernel, rfl, rfl, fun _ _ _ _ => rfl, rfl, rfl, rfl, rfl, by simp⟩ ?_ (by rw [List.length_map]; omega) (fun d => decide (SLt (keyOf d) a.1)) (fun d hd L fa cv => ?_) rfl) (by omega)
        · exact Ev.from (ds := (a :: r).map attD) (n := 1) (FI.inv F) (by kd_all) (Ev.int (FI.inv F)) rfl (by rw [sizeLine_eq, List.length_map, List.length_cons]; omega)
        · obtain ⟨x, hx, rfl⟩ := List.mem_map.mp hd
          refine Ev.cmp (d1 := .str x.1) (d2 := .str a.1) (With.inv (FI.inv F)) (Ev.att0 (With.inv (FI.inv F)) (by kd_all) (Ev.int (With.inv (FI.inv F))) fun _ _ => rfl) (Ev.att0 (a := a) (With.inv (FI.inv F)) ?_ (Ev.int (With.inv (FI.inv F))) fun _ _ => rfl) op_ltStr rfl
          exact Ev.itemList (ds := (a :: r).map attD) (n := 0) (With.inv (FI.inv F)) (by kd_all) (Ev.int (With.inv (FI.inv F))) rfl (by omega) rfl fun _ _ => rfl
      · refine RtL.ret F ?_
        have l1 : (r.filter fun x => attLt x a).length ≤ n := Nat.le_trans (List.length_filter_le _ _) hr
        have l2 : (r.filter fun x => !attLt x a).length ≤ n := Nat.le_trans (List.length_filter_le _ _) hr
        have q1 := qt_len attLt _ (r.filter fun x => attLt x a) (Nat.le_refl _)
        have q2 := qt_len attLt _ (r.filter fun x => !attLt x a) (Nat.le_refl _)
        have e2 : wordD (qt attLt (a :: r)).toL = .list (((qt attLt (r.filter fun x => attLt x a)).toL.map attD ++ [attD a]) ++ (qt attLt (r.filter fun x => !attLt x a)).toL.map attD) := by
          rw [qt]; simp [Tr.toL]
        rw [e2]
        refine Ev.binop (FI.inv F) (Ev.binop (FI.inv F) ?_ (Ev.list (FI.inv F) (EvL.cons (FI.inv F) ?_ (EvL.nil (FI.inv F)) rfl) (by rw [sizeLine_eq]; simp)) (op_addList (by rw [sizeLine_eq, List.length_map]; simp; omega))) ?_ (op_addList (by rw [sizeLine_eq, List.length_append, List.length_map, List.length_map]; simp; omega))
        · exact Ev.callF (FI.inv F) B F.ok ⟨rfl, D3.mg, D3.ho, D3.hd, by decide +kernel⟩ (EvL.cons (FI.inv F) (by kd_all) (EvL.nil (FI.inv F)) rfl) (ih _ l1 (by omega)) rfl
        · exact Ev.itemList (ds := (a :: r).map attD) (n := 0) (FI.inv F) (by kd_all) (Ev.int (FI.inv F)) rfl (by omega) rfl fun _ _ => rfl
        · exact Ev.callF (FI.inv F) B F.ok ⟨rfl, D3.mg, D3.ho, D3.hd, by decide +kernel⟩ (EvL.cons (FI.inv F) (by kd_all) (EvL.nil (FI.inv F)) rfl) (ih _ l2 (by omega)) rfl

theorem worth_ok (B : Base G) (D4 : Def G "_law_worth" f4 o4 4 pm4 cd4) (ds : List Int) (hz : ds.length ≤ 100) :
    OpN prog w G 1 (fun vs => call (.ref f4) vs) [.list (ds.map .int)] (.int (worthOf ds)) := by
  have ok : FOk G f4 o4 (fdOf (stAt 4) pm4 cd4) (bodyOf (stAt 4)) ["digits"] := {
    ho := D4.ho, hd := D4.hd, code := D4.code, body := rfl, clo := rfl, glob := rfl, blt := rfl, co := rfl, gen := rfl, kind := rfl
    bind := fun vs h => by match vs, h with | [v], _ => rfl
    nodup := by simp
    kinds := fun n hn => by rw [List.mem_singleton.mp hn]; exact .inl rfl
    cells := fun n h => lookup_cell h }
  refine op_call' (σ := [("digits", .list (ds.map .int))]) B ok rfl rfl fun s₀ X₀ L env he F => ?_
  subst he
  refine RtL.cons (DoS.assign (σ' := [("digits", .list (ds.map .int))]) (τ' := []) (d := .int (worthOf (ds.take 0))) F (Ev.int (FI.inv F)) (.inl rfl) (by simp) (by simp [ofString_inj]) (by simp) rfl) ?_
  refine RtL.cons (DoS.for F (ds := ds.map .int) (σ := fun i => [("worth", .int (worthOf (ds.take i))), ("digits", .list (ds.map .int))]) (own := fun _ => []) (.inl rfl) (It.list (by kd_all)) (by simp [ofString_inj]) (by simp) (by simp) (fun i d J hd => ?_) (fun _ => rfl)) ?_
  · obtain ⟨x, hx, rfl⟩ : ∃ x, ds[i]? = some x ∧ d = .int x := by
      rw [List.getElem?_map, Option.map_eq_some_iff] at hd
      obtain ⟨x, h1, h2⟩ := hd
      exact ⟨x, h1, h2.symm⟩
    have e : worthOf (ds.take (i + 1)) = 4 * worthOf (ds.take i) + x := by
      rw [List.take_add_one, hx]
      simp [worthOf]
    refine DoL.cons (DoS.assign (σ' := [("digits", .list (ds.map .int))]) (τ' := []) (d := .int (worthOf (ds.take (i + 1)))) F ?_ (.inl rfl) (by simp) (by simp [ofString_inj]) (by simp) rfl) (DoL.nil Imp.refl)
    rw [e]
    exact Ev.binop (FI.inv F) (Ev.binop (FI.inv F) (Ev.int (FI.inv F)) (by kd_all) (op_mulInt (.of_left (PySem.intBits_le_64 (by omega) (by omega))))) (by kd_all) op_addInt
  · refine RtL.ret F ?_
    rw [List.length_map, List.take_length]
    kd_all

theorem fronted_ok (B : Base G) (ap : Apart G) (D1 : Def G "_split_list" f1 o1 1 pm1 cd1) (D5 : Def G "_law_fronted" f5 o5 5 pm5 (.ref c5)) (hq : (c5, t5, ("_law_fronted.<locals>.<lambda>" : PySem.Str)) ∈ G.tabs)
    (ss : List PySem.Str) (x : PySem.Str) (hz : ss.length ≤ 100) : OpN prog w G 3 (fun vs => call (.ref f5) vs) [.list (ss.map .str), .str x] (.list ((fr ss x).map .str)) := by
  have ok : FOk G f5 o5 (fdOf (stAt 5) pm5 (.ref c5)) (bodyOf (stAt 5)) ["signs", "sign"] := {
    ho := D5.ho, hd := D5.hd, code := D5.code, body := rfl, clo := rfl, glob := rfl, blt := rfl, co := rfl, gen := rfl, kind := rfl
    bind := fun vs h => by match vs, h with | [v, u], _ => rfl
    nodup := by simp [ofString_inj]
    kinds := fun n hn => by
      rcases List.mem_cons.mp hn with rfl | hn
      · exact .inl rfl
      · rw [List.mem_singleton.mp hn]; exact .inr ⟨rfl, .tail _ (.head _)⟩
    cells := fun n h => lookup_cell h }
  refine op_call' (σ := [("signs", .list (ss.map .str)), ("sign", .str x)]) B ok rfl rfl fun s₀ X₀ L env he F => ?_
  subst he
  have hf1 : (ss.map Dat.str).filter (fun d => strOf d == x) = (ss.filter fun y => y == x).map .str := by rw [List.filter_map]; rfl
  have hf2 : (ss.map Dat.str).filter (fun d => !(strOf d == x)) = (ss.filter fun y => !(y == x)).map .str := by rw [List.filter_map]; rfl
  refine RtL.cons (DoS.assign2 F (d1 := .list ((ss.filter fun y => y == x).map .str)) (d2 := .list ((ss.filter fun y => !(y == x)).map .str)) ?_ (.inl rfl) (.inl rfl) (by simp [ofString_inj]) (by simp) (by simp [ofString_inj]) (by simp) rfl rfl) ?_
  · rw [← hf1, ← hf2]
    refine Ev.split (k := 0) (ds := ss.map .str) (x := "other") (q := (c5, t5, "_law_fronted.<locals>.<lambda>")) (FI.inv F) B ap F.ok (split_ok B D1) ⟨rfl, D1.mg, D1.ho, D1.hd, by decide +kernel⟩
      ⟨hq, rfl, by show ("_law_fronted" : PySem.Str) ++ ".<locals>." ++ "<lambda>" = "_law_fronted.<locals>.<lambda>"; decide +kernel, rfl, rfl, fun _ _ _ _ => rfl, rfl, rfl, rfl, rfl, by simp⟩ (by kd_all) (by rw [List.length_map]; omega) (fun d => strOf d == x) (fun d hd L fa cv => ?_) rfl
    obtain ⟨y, hy, rfl⟩ := List.mem_map.mp hd
    exact Ev.cmp (d1 := .str y) (d2 := .str x) (With.inv (FI.inv F)) (by kd_all) (by kd_all) op_eqStr rfl
  · refine RtL.ret F ?_
    rw [fr, List.map_append]
    refine Ev.binop (FI.inv F) (by kd_all) (by kd_all) (op_addList ?_)
    have l1 := List.length_filter_le (fun y => y == x) ss
    have l2 := List.length_filter_le (fun y => !(y == x)) ss
    rw [sizeLine_eq, List.length_map, List.length_map]
    omega

theorem fronted_again_ok (B : Base G) (ap : Apart G) (D1 : Def G "_split_list" f1 o1 1 pm1 cd1) (D6 : Def G "_law_fronted_again" f6 o6 6 pm6 (.ref c6)) (hq : (c6, t6, ("_law_fronted_again.<locals>.<lambda>" : PySem.Str)) ∈ G.tabs)
    (ss : List PySem.Str) (n : Nat) (x : PySem.Str) (hx : ss[n]? = some x) (hz : ss.length ≤ 100) : OpN prog w G 3 (fun vs => call (.ref f6) vs) [.list (ss.map .str), .int (n : Int)] (.list ((fr ss x).map .str)) := by
  have ok : FOk G f6 o6 (fdOf (stAt 6) pm6 (.ref c6)) (bodyOf (stAt 6)) ["signs", "number"] := {
    ho := D6.ho, hd := D6.hd, code := D6.code, body := rfl, clo := rfl, glob := rfl, blt := rfl, co := rfl, gen := rfl, kind := rfl
    bind := fun vs h => by match vs, h with | [v, u], _ => rfl
    nodup := by simp [ofString_inj]
    kinds := fun n hn => by
      rcases List.mem_cons.mp hn with rfl | hn
      · exact .inr ⟨rfl, .head _⟩
      · rw [List.mem_singleton.mp hn]; exact .inr ⟨rfl, .tail _ (.head _)⟩
    cells := fun n h => lookup_cell h }
  refine op_call' (σ := [("signs", .list (ss.map .str)), ("number", .int (n : Int))]) B ok rfl rfl fun s₀ X₀ L env he F => ?_
  subst he
  have hn : n < ss.length := (List.getElem?_eq_some_iff.mp hx).1
  have hf1 : (ss.map Dat.str).filter (fun d => strOf d != x) = (ss.filter fun y => !(y == x)).map .str := by rw [List.filter_map]; rfl
  have hf2 : (ss.map Dat.str).filter (fun d => !(strOf d != x)) = (ss.filter fun y => y == x).map .str := by
    rw [List.filter_map]
    congr 2
    funext y
    show (!(y != x)) = (y == x)
    simp [bne]
  refine RtL.cons (DoS.assign2 F (d1 := .list ((ss.filter fun y => !(y == x)).map .str)) (d2 := .list ((ss.filter fun y => y == x).map .str)) ?_ (.inl rfl) (.inl rfl) (by simp [ofString_inj]) (by simp) (by simp [ofString_inj]) (by simp) rfl rfl) ?_
  · rw [← hf1, ← hf2]
    refine Ev.split (k := 0) (ds := ss.map .str) (x := "other") (q := (c6, t6, "_law_fronted_again.<locals>.<lambda>")) (FI.inv F) B ap F.ok (split_ok B D1) ⟨rfl, D1.mg, D1.ho, D1.hd, by decide +kernel⟩
      ⟨hq, rfl, by show ("_law_fronted_again" : PySem.Str) ++ ".<locals>." ++ "<lambda>" = "_law_fronted_again.<locals>.<lambda>"; decide +kernel, rfl, rfl, fun _ _ _ _ => rfl, rfl, rfl, rfl, rfl, by simp⟩ (by kd_all) (by rw [List.length_map]; omega) (fun d => strOf d != x) (fun d hd L fa cv => ?_) rfl
    obtain ⟨y, hy, rfl⟩ := List.mem_map.mp hd
    refine Ev.cmp (d1 := .str y) (d2 := .str x) (With.inv (FI.inv F)) (by kd_all) ?_ op_neStr rfl
    exact Ev.itemList (ds := ss.map .str) (n := n) (With.inv (FI.inv F)) (by kd_all) (by kd_all) rfl (by omega) (by rw [List.getElem?_map, hx]; rfl) fun _ _ => rfl
  · refine RtL.ret F ?_
    rw [fr, List.map_append]
    refine Ev.binop (FI.inv F) (by kd_all) (by kd_all) (op_addList ?_)
    have l1 := List.length_filter_le (fun y => y == x) ss
    have l2 := List.length_filter_le (fun y => !(y == x)) ss
    rw [sizeLine_eq, List.length_map, List.length_map]
    omega

theorem dealt_ok (B : Base G) (ap : Apart G) (D1 : Def G "_split_list" f1 o1 1 pm1 cd1) (D8 : Def G "_law_dealt" f8 o8 8 pm8 (.ref c8)) (hq : (c8, t8, ("_law_dealt.<locals>.<lambda>" : PySem.Str)) ∈ G.tabs) :
    ∀ (ss : List PySem.Str) (u : List Att), u.length ≤ 100 → ss.length ≤ 100 → OpN prog w G (ss.length + 3) (fun vs => call (.ref f8) vs) [wordD u, .list (ss.map .str)] (wordD (dealtOf u ss)) := by
  have ok : FOk G f8 o8 (fdOf (stAt 8) pm8 (.ref c8)) (bodyOf (stAt 8)) ["places", "signs"] := {
    ho := D8.ho, hd := D8.hd, code := D8.code, body := rfl, clo := rfl, glob := rfl, blt := rfl, co := rfl, gen := rfl, kind := rfl
    bind := fun vs h => by match vs, h with | [v, u], _ => rfl
    nodup := by simp [ofString_inj]
    kinds := fun n hn => by
      rcases List.mem_cons.mp hn with rfl | hn
      · exact .inl rfl
      · rw [List.mem_singleton.mp hn]; exact .inr ⟨rfl, .tail _ (.head _)⟩
    cells := fun n h => lookup_cell h }
  intro ss
  induction ss with
  | nil =>
    intro u hu _
    refine op_call' (σ := [("places", wordD u), ("signs", .list [])]) B ok rfl rfl fun s₀ X₀ L env he F => ?_
    subst he
    refine RtL.ifRet (b := true) (FI.inv F) (Tv.not (Tv.list (ds := []) (FI.inv F) (by kd_all) (by simp) rfl)) (fun _ => ?_) (fun h => nomatch h)
    exact RtL.ret F (by kd_all)
  | cons x ss ih =>
    intro u hu hs
    rw [List.length_cons] at hs
    refine op_call' (k := ss.length + 3) (σ := [("places", wordD u), ("signs", .list ((x :: ss).map .str))]) B ok rfl rfl fun s₀ X₀ L env he F => ?_
    subst he
    refine RtL.ifRet (b := false) (FI.inv F) (Tv.not (Tv.list (ds := (x :: ss).map .str) (FI.inv F) (by kd_all) (by rw [List.length_map, List.length_cons]; omega) rfl)) (fun h => nomatch h) (fun _ => ?_)
    have hf1 : (u.map attD).filter (fun d => keyOf d == x) = (u.filter fun p => p.1 == x).map attD := by rw [List.filter_map]; rfl
    have hf2 : (u.map attD).filter (fun d => !(keyOf d == x)) = (u.filter fun p => !(p.1 == x)).map attD := by rw [List.filter_map]; rfl
    refine RtL.cons (DoS.assign2 F (d1 := wordD (u.filter fun p => p.1 == x)) (d2 := wordD (u.filter fun p => !(p.1 == x))) ?_ (.inl rfl) (.inl rfl) (by simp [ofString_inj]) (by simp) (by simp [ofString_inj]) (by simp) rfl rfl) ?_
    · show Ev _ _ _ _ _ _ _ (.tuple [.list _, .list _])
      rw [← hf1, ← hf2]
      refine Ev.less (Ev.split (k := 0) (ds := u.map attD) (x := "place") (q := (c8, t8, "_law_dealt.<locals>.<lambda>")) (FI.inv F) B ap F.ok (split_ok B D1) ⟨rfl, D1.mg, D1.ho, D1.hd, by decide +kernel⟩
        ⟨hq, rfl, by show ("_law_dealt" : PySem.Str) ++ ".<locals>." ++ "<lambda>" = "_law_dealt.<locals>.<lambda>"; decide +kernel, rfl, rfl, fun _ _ _ _ => rfl, rfl, rfl, rfl, rfl, by simp⟩ (by kd_all) (by rw [List.length_map]; omega) (fun d => keyOf d == x) (fun d hd L fa cv => ?_) rfl) (by omega)
      obtain ⟨a, ha, rfl⟩ := List.mem_map.mp hd
      refine Ev.cmp (d1 := .str a.1) (d2 := .str x) (With.inv (FI.inv F)) (Ev.att0 (With.inv (FI.inv F)) (by kd_all) (Ev.int (With.inv (FI.inv F))) fun _ _ => rfl) ?_ op_eqStr rfl
      exact Ev.itemList (ds := (x :: ss).map .str) (n := 0) (With.inv (FI.inv F)) (by kd_all) (Ev.int (With.inv (FI.inv F))) rfl (by omega) rfl fun _ _ => rfl
    · refine RtL.ret F ?_
      have l1 := List.length_filter_le (fun p : Att => p.1 == x) u
      have l2 := List.length_filter_le (fun p : Att => !(p.1 == x)) u
      have e : wordD (dealtOf u (x :: ss)) = .list ((u.filter fun p => p.1 == x).map attD ++ (dealtOf (u.filter fun p => !(p.1 == x)) ss).map attD) := by rw [dealtOf, wordD, List.map_append]
      rw [e]
      refine Ev.binop (FI.inv F) (by kd_all) ?_ (op_addList (by rw [sizeLine_eq, List.length_map, List.length_map, dealt_len]; omega))
      refine Ev.callF (FI.inv F) B F.ok ⟨rfl, D8.mg, D8.ho, D8.hd, by decide +kernel⟩ (EvL.cons (FI.inv F) (by kd_all) (EvL.cons (d := .list (ss.map .str)) (FI.inv F) ?_ (EvL.nil (FI.inv F)) rfl) rfl) (ih _ (by omega) (by omega)) rfl
      exact Ev.from (ds := (x :: ss).map .str) (n := 1) (FI.inv F) (by kd_all) (Ev.int (FI.inv F)) rfl (by rw [sizeLine_eq, List.length_map, List.length_cons]; omega)
end
end Mine

namespace Mine

def befores (told : List PySem.Str) (i : Nat) (x : PySem.Str) : List Nat := (List.range i).filter fun j => told.getD j "" == x
def passedOf (told signs : List PySem.Str) (i : Nat) (x : PySem.Str) : List PySem.Str :=
  match (befores told i x).getLast? with
  | some b => (told.take i).drop (b + 1)
  | none => signs.take (signs.idxOf x) ++ told.take i
open Classical in
noncomputable def deepOf (told signs : List PySem.Str) (i : Nat) (x : PySem.Str) : Nat := (signs.filter fun s => decide (s ∈ passedOf told signs i x)).length

local macro_rules | `(tactic| kd_mem) => `(tactic| first | with_reducible exact List.Mem.head _ | (refine List.Mem.tail _ ?_; kd_mem))
local macro_rules | `(tactic| kd_facts) => `(tactic| first | exact FI.inv (by assumption) | (refine With.inv ?_; kd_facts))
local macro_rules | `(tactic| kd_in) => `(tactic| first
  | with_reducible exact With.knows
  | (refine FI.knows ?_; kd_mem)
  | (refine Knows.within ?_; kd_in)
  | (refine Knows.comp ?_ rfl rfl (by first | exact .inl rfl | exact .inr rfl); kd_in)
  | (refine Knows.lam (FI.knows ?_) (by exact rfl) (by exact rfl) (by first | exact .inl rfl | exact .inr rfl); kd_mem))
local macro_rules | `(tactic| kd_all) => `(tactic| (refine Ev.name' ?_ ?_ rfl (by decide +kernel); kd_facts; kd_in))

theorem str_mem {x : PySem.Str} {ys : List PySem.Str} : Dat.str x ∈ ys.map Dat.str ↔ x ∈ ys := by
  constructor
  · intro h
    obtain ⟨y, hy, e⟩ := List.mem_map.mp h
    exact Dat.str.inj e ▸ hy
  · exact fun h => List.mem_map_of_mem h
theorem strs_ok (n : Nat) (ys : List PySem.Str) (h : ∀ y ∈ ys, PyData.strOk y = true) : ∀ d ∈ ys.map Dat.str, kqdOk n d = true := fun d hd => by
  obtain ⟨y, hy, rfl⟩ := List.mem_map.mp hd
  cases n <;> simp [kqdOk, h y hy]
theorem str_ok (n : Nat) (y : PySem.Str) (h : PyData.strOk y = true) : kqdOk n (.str y) = true := by
  cases n <;> simp [kqdOk, h]

section
variable {prog : Program} {w : World} {G : GC} {I : Fam} {k : Nat} {env : Env}
variable {f7 : PySem.Addr} {o7 : Obj} {pm7 cd7 : Value}
set_option maxHeartbeats 4000000 in
theorem deep_ok (B : Base G) (D7 : Def G "_law_deep" f7 o7 7 pm7 cd7) (hm : ∀ x ∈ (["len", "range"] : List PySem.Str), G.mg x = none)
    (told signs : List PySem.Str) (i : Nat) (x : PySem.Str) (hx : told[i]? = some x) (hs : x ∈ signs) (h1 : told.length ≤ 100) (h2 : signs.length ≤ 100) (ho : ∀ y ∈ told, PyData.strOk y = true) (ho2 : ∀ y ∈ signs, PyData.strOk y = true) :
    OpN prog w G 1 (fun vs => call (.ref f7) vs) [.list (told.map .str), .list (signs.map .str), .int (i : Int)] (.int (deepOf told signs i x)) := by
  have ok : FOk G f7 o7 (fdOf (stAt 7) pm7 cd7) (bodyOf (stAt 7)) ["told", "signs", "i"] := {
    ho := D7.ho, hd := D7.hd, code := D7.code, body := rfl, clo := rfl, glob := rfl, blt := rfl, co := rfl, gen := rfl, kind := rfl
    bind := fun vs h => by match vs, h with | [v, u, t], _ => rfl
    nodup := by simp [ofString_inj]
    kinds := fun n hn => by
      rcases List.mem_cons.mp hn with rfl | hn
      · exact .inr ⟨rfl, .head _⟩
      · rcases List.mem_cons.mp hn with rfl | hn
        · exact .inl rfl
        · rw [List.mem_singleton.mp hn]; exact .inr ⟨rfl, .tail _ (.tail _ (.head _))⟩
    cells := fun n h => lookup_cell h }
  have hmlen := hm "len" (by simp)
  have hmrange := hm "range" (by simp)
  have hi : i < told.length := (List.getElem?_eq_some_iff.mp hx).1
  have hxd : (told.map Dat.str)[i]? = some (.str x) := by rw [List.getElem?_map, hx]; rfl
  refine op_call' (σ := [("told", .list (told.map .str)), ("signs", .list (signs.map .str)), ("i", .int (i : Int))]) B ok rfl rfl fun s₀ X₀ L env he F => ?_
  subst he
  refine RtL.cons (DoS.assignComp (σ' := [("told", .list (told.map .str)), ("signs", .list (signs.map .str)), ("i", .int (i : Int))]) (τ' := []) F ⟨rfl, by simp, rfl, by decide +kernel, rfl⟩ (It.range (FI.inv F) B F.ok ⟨rfl, hmrange, rfl, by decide +kernel, by decide +kernel⟩ (EvL.cons (FI.inv F) (by kd_all) (EvL.nil (FI.inv F)) rfl) (range1_walk (n := i) (by omega)) rfl rfl) (by simp [rangeD]; rw [sizeLine_eq]; omega) (fun d => told.getD (intOf d).toNat "" == x) (fun d => d) (fun d hd C => ?_) (fun d hd _ C => ?_) (fun _ => rfl) rfl (by simp) (by simp [ofString_inj]) (by simp) rfl) ?_
  · simp only [rangeD, List.mem_map, List.mem_range] at hd
    obtain ⟨t, ht, rfl⟩ := hd
    have et : (0 : Int) + (t : Int) * 1 = (t : Int) := by omega
    rw [et]
    have hlt : t < told.length := by omega
    have e1 : told.getD (intOf (.int (t : Int))).toNat "" = told[t] := by simp [List.getD_eq_getElem?_getD, List.getElem?_eq_getElem hlt]
    rw [e1]
    refine Tv.cmp (d1 := .str told[t]) (d2 := .str x) (With.inv (FI.inv F)) ?_ ?_ op_eqStr rfl
    · exact Ev.itemList (ds := told.map .str) (n := t) (With.inv (FI.inv F)) (by kd_all) (by kd_all) rfl (by omega) (by rw [List.getElem?_map, List.getElem?_eq_getElem hlt]; rfl) fun _ _ => rfl
    · exact Ev.itemList (ds := told.map .str) (n := i) (With.inv (FI.inv F)) (by kd_all) (by kd_all) rfl (by omega) hxd fun _ _ => rfl
  · kd_all
  have eb : (((rangeD 0 1 i).filter fun d => told.getD (intOf d).toNat "" == x).map fun d => d) = (befores told i x).map fun j : Nat => Dat.int (j : Int) := by
    rw [rangeD, List.filter_map, List.map_map, befores]
    have e1 : ((fun d => told.getD (intOf d).toNat "" == x) ∘ fun j : Nat => Dat.int (0 + (j : Int) * 1)) = fun j => told.getD j "" == x := by
      funext j; simp
    rw [e1]
    refine List.map_congr_left fun j _ => ?_
    simp
  rw [eb]
  have hbl : (befores told i x).length ≤ i := Nat.le_trans (List.length_filter_le _ _) (by simp)
  have hpl : (passedOf told signs i x).length ≤ 300 := by
    unfold passedOf
    split
    · simp; omega
    · simp; omega
  have hpo : ∀ y ∈ passedOf told signs i x, PyData.strOk y = true := by
    unfold passedOf
    split
    · exact fun y hy => ho y (List.mem_of_mem_take (List.mem_of_mem_drop hy))
    · intro y hy
      rcases List.mem_append.mp hy with hy | hy
      · exact ho2 y (List.mem_of_mem_take hy)
      · exact ho y (List.mem_of_mem_take hy)
  have hts : (told.map Dat.str).length ≤ sizeLine := by rw [sizeLine_eq, List.length_map]; omega
  have hss : (signs.map Dat.str).length ≤ sizeLine := by rw [sizeLine_eq, List.length_map]; omega
  refine RtL.cons (J := FI G s₀ X₀ (callEnvC (fdOf (stAt 7) pm7 cd7) L f7) [("passed", .list ((passedOf told signs i x).map .str)), ("signs", .list (signs.map .str))] [] [] []) (DoS.ifElse (FI.inv F) (Tv.list (ds := (befores told i x).map fun j : Nat => Dat.int (j : Int)) (FI.inv F) (by kd_all) (by rw [List.length_map]; omega) rfl) (fun hb => ?_) (fun hb => ?_)) ?_
  · obtain ⟨b, hb'⟩ : ∃ b, (befores told i x).getLast? = some b := by
      cases q : (befores told i x).getLast? with
      | some b => exact ⟨b, rfl⟩
      | none => rw [List.getLast?_eq_none_iff.mp q] at hb; simp at hb
    have hbi : b < i := by
      have := List.mem_of_getLast? hb'
      rw [befores, List.mem_filter, List.mem_range] at this
      exact this.1
    refine DoL.cons (DoS.assign (σ' := [("signs", .list (signs.map .str))]) (τ' := []) (d := .list ((passedOf told signs i x).map .str)) F ?_ (.inr rfl) (by simp) (by simp [ofString_inj]) (by simp) rfl) (DoL.nil Imp.refl)
    have e : (passedOf told signs i x).map Dat.str = ((told.map Dat.str).take i).drop (b + 1) := by
      unfold passedOf; rw [hb']; simp [List.map_take, List.map_drop]
    rw [e]
    refine Ev.span (n := b + 1) (n' := i) (FI.inv F) (by kd_all) (Ev.binop (d1 := .int (b : Int)) (FI.inv F) (Ev.listLast (ds := (befores told i x).map fun j : Nat => Dat.int (j : Int)) (FI.inv F) (by kd_all) (by rw [List.getLast?_map, hb']; rfl)) (Ev.int (FI.inv F)) op_addInt) (by kd_all) (by push_cast; rfl) rfl hts
  · have hb' : (befores told i x).getLast? = none := by
      rw [List.getLast?_eq_none_iff]
      cases q : befores told i x with
      | nil => rfl
      | cons _ _ => rw [q] at hb; simp at hb
    refine DoL.cons (DoS.assign (σ' := [("signs", .list (signs.map .str))]) (τ' := []) (d := .list ((passedOf told signs i x).map .str)) F ?_ (.inr rfl) (by simp) (by simp [ofString_inj]) (by simp) rfl) (DoL.nil Imp.refl)
    have e : (passedOf told signs i x).map Dat.str = (signs.map Dat.str).take (signs.idxOf x) ++ (told.map Dat.str).take i := by
      unfold passedOf; rw [hb']; simp [List.map_take]
    rw [e]
    refine Ev.binop (FI.inv F) (Ev.upto (n := signs.idxOf x) (FI.inv F) (by kd_all) (Ev.index (FI.inv F) (by kd_all) ?_ hs (by omega) rfl rfl rfl rfl) rfl hss) (Ev.upto (n := i) (FI.inv F) (by kd_all) (by kd_all) rfl hts) (op_addList (by rw [sizeLine_eq]; simp; omega))
    exact Ev.itemList (ds := told.map .str) (n := i) (FI.inv F) (by kd_all) (by kd_all) rfl (by omega) hxd fun _ _ => rfl
  · refine RtL.ret F ?_
    have e : ((deepOf told signs i x : Nat) : Int) = (((((signs.map Dat.str).filter fun d => @decide (d ∈ (passedOf told signs i x).map Dat.str) (Classical.propDecidable _)).map fun d => d).length : Nat) : Int) := by
      rw [List.length_map, List.filter_map, List.length_map, deepOf]
      congr 2
      refine List.filter_congr fun s _ => ?_
      show decide _ = @decide (Dat.str s ∈ (passedOf told signs i x).map Dat.str) (Classical.propDecidable _)
      rw [decide_eq_decide]
      exact str_mem.symm
    rw [e]
    refine Ev.callB (FI.inv F) B F.ok ⟨rfl, hmlen, rfl, by decide +kernel, by decide +kernel⟩ (EvL.cons (FI.inv F) (Ev.comp (FI.inv F) ⟨rfl, by simp, rfl, by decide +kernel, rfl⟩ (It.list (by kd_all)) hss _ _ (fun d hd C => ?_) (fun d hd _ C => ?_) (fun _ => rfl)) (EvL.nil (FI.inv F)) rfl) (op_len ?_) rfl rfl
    · obtain ⟨y, hy, rfl⟩ := List.mem_map.mp hd
      refine Tv.to (Tv.cmp (With.inv (FI.inv F)) (by kd_all) (by kd_all) (op_inD (str_ok 40 y (ho2 y hy)) (strs_ok 40 _ hpo)) rfl) ?_
      rw [decide_eq_decide]
    · kd_all
    · rw [List.length_map]
      refine Nat.lt_of_le_of_lt (List.length_filter_le _ _) ?_
      rw [List.length_map]; omega
end
end Mine

namespace Mine

def cell1 (xs : List Int) (sz i : Nat) : Int := (i : Int) * (i : Int) + 1 + colSum xs i sz
def cellsOf (xs : List Int) (sz : Nat) : List Int := (List.range sz).map (cell1 xs sz)
def lets : List PySem.Str := [" ", "a", "b", "é"]
def shiftOf (cs : List Int) : Nat := ((cs.sum.fdiv 4).fmod 4).toNat
def startOf (cs : List Int) : List PySem.Str := lets.drop (shiftOf cs) ++ lets.take (shiftOf cs)
def digsOf (cs : List Int) : List Int := cs.map fun c => c.fmod 4
def letAt (d : Int) : PySem.Str := lets.getD d.toNat ""
def wordOf (cs : List Int) : PySem.Str := Txt.join "" ((digsOf cs).map letAt)
def rotS (x : PySem.Str) (i : Nat) : PySem.Str := (⟨(x.cps.toList.drop i).toArray⟩ : PySem.Str) ++ (⟨(x.cps.toList.take i).toArray⟩ : PySem.Str)
def rowOf (x : PySem.Str) (i : Nat) : Att := (rotS x i, (i : Int))
def rowsOf (x : PySem.Str) (sz : Nat) : List Att := (List.range sz).map (rowOf x)
def turnsOf (x : PySem.Str) (sz : Nat) : List Att := (qt attLt (rowsOf x sz)).toL
def rotI (ds : List Int) (i : Nat) : List Int := ds.drop i ++ ds.take i
def worthAt (ds : List Int) (i : Nat) : Int := worthOf (rotI ds i)
def ltW (a b c d : Int) : Bool := decide (a < c) || (a == c && decide (b < d))
def spotOf (ds : List Int) (sz i : Nat) : Nat := ((List.range sz).filter fun j => ltW (worthAt ds j) (j : Int) (worthAt ds i) (i : Int)).length
def lastC (t : Att) : PySem.Str := ⟨#[t.1.cps.toList.getLast?.getD 0]⟩
def sgAt (start last : List PySem.Str) (m : Nat) : List PySem.Str := (last.take m).foldl fr start
def codesAt (start last : List PySem.Str) (m : Nat) : List Nat := (List.range m).map fun j => (sgAt start last j).idxOf (last.getD j "")
def placesOf (last : List PySem.Str) (sz : Nat) : List Att := (List.range sz).map fun i => (last.getD i "", (i : Int))
def atAt (D : List Att) (row : Nat) : Nat → Nat
  | 0 => row
  | m + 1 => match D[atAt D row m]? with
    | some p => p.2.toNat
    | none => 0
def toldAt (D : List Att) (back : List PySem.Str) (row : Nat) : Nat → PySem.Str
  | 0 => ""
  | m + 1 => toldAt D back row m ++ back.getD (atAt D row (m + 1)) ""

/-- what the plain law says of the cells -/
structure Plain1 (cs : List Int) (x : PySem.Str) (T : List Att) (last : List PySem.Str) (D : List Att) : Prop where
  xw : x = wordOf cs
  tw : T = turnsOf x cs.length
  lw : last = T.map lastC
  dw : D = dealtOf (placesOf last cs.length) lets
  hlen : x.length = cs.length
  tlen : T.length = cs.length
  spot : ∀ i, i < cs.length → T[spotOf (digsOf cs) cs.length i]? = some (rowOf x i)
  ne : ∀ t ∈ T, ∃ c, t.1.cps.toList.getLast? = some c
  inL : ∀ y ∈ last, y ∈ lets
  sgIn : ∀ m y, last[m]? = some y → y ∈ sgAt (startOf cs) last m
  sgLen : ∀ m, (sgAt (startOf cs) last m).length = 4
  deep : ∀ m y, last[m]? = some y → (sgAt (startOf cs) last m).idxOf y = deepOf last (startOf cs) m y
  dealt : (qt attLt (placesOf last cs.length)).toL = D
  dIn : ∀ p ∈ D, 0 ≤ p.2 ∧ p.2 < cs.length
  told : ∀ r t, T[r]? = some t → toldAt D last r cs.length = t.1
  okT : ∀ t ∈ T, PyData.strOk t.1 = true
  okRow : ∀ i, i < cs.length → PyData.strOk (rotS x i) = true
theorem lets_ok : ∀ y ∈ lets, PyData.strOk y = true := by decide +kernel
theorem rotS_len (x : PySem.Str) (i : Nat) : (rotS x i).length = x.length := by
  show ((x.cps.toList.drop i).toArray ++ (x.cps.toList.take i).toArray).size = x.cps.size
  simp; omega
theorem told_len (D : List Att) (back : List PySem.Str) (h : ∀ y ∈ back, y.length ≤ 1) (row : Nat) : ∀ m, (toldAt D back row m).length ≤ m
  | 0 => Nat.le_refl _
  | m + 1 => by
    have ih := told_len D back h row m
    have h2 : (back.getD (atAt D row (m + 1)) "").length ≤ 1 := by
      rw [List.getD_eq_getElem?_getD]
      cases q : back[atAt D row (m + 1)]? with
      | none => exact Nat.zero_le _
      | some y => exact h y (List.mem_of_getElem? q)
    have e : (toldAt D back row m ++ back.getD (atAt D row (m + 1)) "").length = (toldAt D back row m).length + (back.getD (atAt D row (m + 1)) "").length := by
      show ((toldAt D back row m).cps ++ (back.getD (atAt D row (m + 1)) "").cps).size = _
      rw [Array.size_append]; rfl
    rw [toldAt, e]; omega

local macro_rules | `(tactic| kd_mem) => `(tactic| first | with_reducible exact List.Mem.head _ | (refine List.Mem.tail _ ?_; kd_mem))
local macro_rules | `(tactic| kd_facts) => `(tactic| first | exact FI.inv (by assumption) | (refine With.inv ?_; kd_facts))
local macro_rules | `(tactic| kd_in) => `(tactic| first
  | with_reducible exact With.knows
  | (refine FI.knows ?_; kd_mem)
  | (refine Knows.within ?_; kd_in)
  | (refine Knows.comp ?_ rfl rfl (by first | exact .inl rfl | exact .inr rfl); kd_in)
  | (refine Knows.lam (FI.knows ?_) (by exact rfl) (by exact rfl) (by first | exact .inl rfl | exact .inr rfl); kd_mem))
local macro_rules | `(tactic| kd_all) => `(tactic| (refine Ev.name' ?_ ?_ rfl (by decide +kernel); kd_facts; kd_in))

section
variable {prog : Program} {w : World} {G : GC} {I : Fam} {k : Nat} {env : Env}
variable {f1 f3 f4 f5 f6 f7 f8 f9 c3 t3 c5 t5 c6 t6 c8 t8 : PySem.Addr} {o1 o3 o4 o5 o6 o7 o8 o9 : Obj} {pm1 pm3 pm4 pm5 pm6 pm7 pm8 pm9 cd1 cd4 cd7 cd9 : Value}
set_option maxHeartbeats 16000000 in
theorem law_ok (B : Base G) (ap : Apart G) (D1 : Def G "_split_list" f1 o1 1 pm1 cd1) (D3 : Def G "_law_risen" f3 o3 3 pm3 (.ref c3)) (hq3 : (c3, t3, ("_law_risen.<locals>.<lambda>" : PySem.Str)) ∈ G.tabs)
    (D4 : Def G "_law_worth" f4 o4 4 pm4 cd4) (D5 : Def G "_law_fronted" f5 o5 5 pm5 (.ref c5)) (hq5 : (c5, t5, ("_law_fronted.<locals>.<lambda>" : PySem.Str)) ∈ G.tabs)
    (D6 : Def G "_law_fronted_again" f6 o6 6 pm6 (.ref c6)) (hq6 : (c6, t6, ("_law_fronted_again.<locals>.<lambda>" : PySem.Str)) ∈ G.tabs) (D7 : Def G "_law_deep" f7 o7 7 pm7 cd7)
    (D8 : Def G "_law_dealt" f8 o8 8 pm8 (.ref c8)) (hq8 : (c8, t8, ("_law_dealt.<locals>.<lambda>" : PySem.Str)) ∈ G.tabs) (D9 : Def G "law" f9 o9 9 pm9 cd9)
    (hm : ∀ x ∈ (["len", "range", "min", "max", "sum"] : List PySem.Str), G.mg x = none)
    (xs : List Int) (hx : xs.length ≤ 1000) (sz : Nat) (hsz : sz = max 3 (min xs.length 10)) {x : PySem.Str} {T : List Att} {last : List PySem.Str} {D : List Att} (P : Plain1 (cellsOf xs sz) x T last D) :
    OpN prog w G 21 (fun vs => call (.ref f9) vs) [.list (xs.map .int)] (.bool true) := by
  have ok : FOk G f9 o9 (fdOf (stAt 9) pm9 cd9) (bodyOf (stAt 9)) ["script"] := {
    ho := D9.ho, hd := D9.hd, code := D9.code, body := rfl, clo := rfl, glob := rfl, blt := rfl, co := rfl, gen := rfl, kind := rfl
    bind := fun vs h => by match vs, h with | [v], _ => rfl
    nodup := by simp
    kinds := fun n hn => by rw [List.mem_singleton.mp hn]; exact .inr ⟨rfl, .head _⟩
    cells := fun n h => lookup_cell h }
  have hmlen := hm "len" (by simp)
  have hmrange := hm "range" (by simp)
  have hmmin := hm "min" (by simp)
  have hmmax := hm "max" (by simp)
  have hmsum := hm "sum" (by simp)
  have hsz3 : 3 ≤ sz := by omega
  have hsz10 : sz ≤ 10 := by omega
  have hcl : (cellsOf xs sz).length = sz := by simp [cellsOf]
  refine op_call' (k := 20) (σ := [("script", .list (xs.map .int))]) B ok rfl rfl fun s₀ X₀ L env he F => ?_
  subst he
  -- size
  refine RtL.cons (DoS.assign (σ' := [("script", .list (xs.map .int))]) (τ' := []) (d := .int (sz : Int)) F ?_ (.inr rfl) (by simp) (by simp [ofString_inj]) (by simp) rfl) ?_
  · have e : (sz : Int) = if (if 10 < ((xs.map Dat.int).length : Int) then 10 else ((xs.map Dat.int).length : Int)) > 3 then (if 10 < ((xs.map Dat.int).length : Int) then 10 else ((xs.map Dat.int).length : Int)) else 3 := by
      rw [List.length_map]; split <;> split <;> omega
    rw [e]
    refine Ev.callB (FI.inv F) B F.ok ⟨rfl, hmmax, rfl, by decide +kernel, by decide +kernel⟩ (EvL.cons (FI.inv F) (Ev.int (FI.inv F)) (EvL.cons (FI.inv F) ?_ (EvL.nil (FI.inv F)) rfl) rfl) op_maxInt rfl rfl
    refine Ev.callB (FI.inv F) B F.ok ⟨rfl, hmmin, rfl, by decide +kernel, by decide +kernel⟩ (EvL.cons (FI.inv F) ?_ (EvL.cons (FI.inv F) (Ev.int (FI.inv F)) (EvL.nil (FI.inv F)) rfl) rfl) op_minInt rfl rfl
    exact Ev.callB (FI.inv F) B F.ok ⟨rfl, hmlen, rfl, by decide +kernel, by decide +kernel⟩ (EvL.cons (FI.inv F) (by kd_all) (EvL.nil (FI.inv F)) rfl) (op_len (by rw [List.length_map]; omega)) rfl rfl
  -- cells
  refine RtL.cons (DoS.assignComp (σ' := [("size", .int (sz : Int))]) (τ' := []) F ⟨rfl, by simp, rfl, by decide +kernel, rfl⟩ (It.range (FI.inv F) B F.ok ⟨rfl, hmrange, rfl, by decide +kernel, by decide +kernel⟩ (EvL.cons (FI.inv F) (by kd_all) (EvL.nil (FI.inv F)) rfl) (range1_walk (n := sz) (by omega)) rfl rfl) (by simp [rangeD]; rw [sizeLine_eq]; omega) (fun _ => true) (fun d => .int (cell1 xs sz (intOf d).toNat)) (fun _ _ _ => rfl) (fun d hd _ C => ?_) (fun _ => rfl) rfl (by simp) (by simp [ofString_inj]) (by simp) rfl) ?_
  · simp only [rangeD, List.mem_map, List.mem_range] at hd
    obtain ⟨t, ht, rfl⟩ := hd
    have et : (0 : Int) + (t : Int) * 1 = (t : Int) := by omega
    rw [et]
    refine Ev.binop (With.inv (FI.inv F)) (Ev.binop (With.inv (FI.inv F)) (Ev.binop (With.inv (FI.inv F)) (by kd_all) (by kd_all) (op_mulInt (.of_right (PySem.intBits_le_64 (by omega) (by omega))))) (Ev.int (With.inv (FI.inv F))) op_addInt)
      (Ev.columns (With.inv (FI.inv F)) B (compEnv_ok F.ok rfl) ⟨rfl, hmsum, rfl, by decide +kernel, by decide +kernel⟩ ⟨rfl, hmrange, rfl, by decide +kernel, by decide +kernel⟩ ⟨rfl, hmlen, rfl, by decide +kernel, by decide +kernel⟩ ⟨rfl, by simp, rfl, by decide +kernel, rfl⟩ (i := t) (sz := sz) (xs := xs) (by kd_in) (by kd_in) (by kd_in) (by exact rfl) (by exact rfl) (by first | exact .inl rfl | exact .inr rfl) (by omega) hx (by omega) (by omega)) ?_
    simp only [intOf_int, Int.toNat_natCast, cell1]
    exact op_addInt
  have ec : (((rangeD 0 1 sz).filter fun _ => true).map fun d => Dat.int (cell1 xs sz (intOf d).toNat)) = (cellsOf xs sz).map .int := by
    rw [comp_range, cellsOf, List.map_map]
    refine List.map_congr_left fun t _ => ?_
    simp
  rw [ec]
  generalize hcs : cellsOf xs sz = cs at P hcl ⊢
  have hlen := P.hlen
  rw [hcl] at hlen
  -- letters
  refine RtL.cons (DoS.assign (σ' := [("cells", .list (cs.map .int)), ("size", .int (sz : Int))]) (τ' := []) (d := .list (lets.map .str)) F ?_ (.inr rfl) (by simp) (by simp [ofString_inj]) (by simp) rfl) ?_
  · exact Ev.list (FI.inv F) (EvL.cons (FI.inv F) (Ev.str (FI.inv F)) (EvL.cons (FI.inv F) (Ev.str (FI.inv F)) (EvL.cons (FI.inv F) (Ev.str (FI.inv F)) (EvL.cons (FI.inv F) (Ev.str (FI.inv F)) (EvL.nil (FI.inv F)) rfl) rfl) rfl) rfl) (by rw [sizeLine_eq]; simp [lets])
  -- shift
  have hs0 : 0 ≤ (cs.sum.fdiv 4).fmod 4 := Int.fmod_nonneg_of_pos _ (by omega)
  have hs4 : (cs.sum.fdiv 4).fmod 4 < 4 := Int.fmod_lt_of_pos _ (by omega)
  have hsh : (cs.sum.fdiv 4).fmod 4 = (shiftOf cs : Int) := by rw [shiftOf]; omega
  refine RtL.cons (DoS.assign (σ' := [("letters", .list (lets.map .str)), ("cells", .list (cs.map .int)), ("size", .int (sz : Int))]) (τ' := []) (d := .int (shiftOf cs : Int)) F ?_ (.inl rfl) (by simp) (by simp [ofString_inj]) (by simp) rfl) ?_
  · rw [← hsh]
    exact Ev.binop (FI.inv F) (Ev.binop (FI.inv F) (Ev.callB (FI.inv F) B F.ok ⟨rfl, hmsum, rfl, by decide +kernel, by decide +kernel⟩ (EvL.cons (FI.inv F) (by kd_all) (EvL.nil (FI.inv F)) rfl) op_sum rfl rfl) (Ev.int (FI.inv F)) (op_fdivInt (by omega) (PyProof.noPylong_small (by decide)))) (Ev.int (FI.inv F)) (op_modInt (by omega))
  have hll : (lets.map Dat.str).length ≤ sizeLine := by rw [sizeLine_eq]; simp [lets]
  have hstl : (startOf cs).length = 4 := by
    have : lets.length = 4 := rfl
    simp [startOf]; omega
  have hstin : ∀ y ∈ startOf cs, y ∈ lets := fun y hy => by
    rcases List.mem_append.mp hy with hy | hy
    · exact List.mem_of_mem_drop hy
    · exact List.mem_of_mem_take hy
  -- start
  refine RtL.cons (DoS.assign (σ' := [("letters", .list (lets.map .str)), ("cells", .list (cs.map .int)), ("size", .int (sz : Int))]) (τ' := []) (d := .list ((startOf cs).map .str)) F ?_ (.inr rfl) (by simp) (by simp [ofString_inj]) (by simp) rfl) ?_
  · have e : (startOf cs).map Dat.str = (lets.map .str).drop (shiftOf cs) ++ (lets.map .str).take (shiftOf cs) := by simp [startOf, List.map_drop, List.map_take]
    rw [e]
    exact Ev.binop (FI.inv F) (Ev.from (n := shiftOf cs) (FI.inv F) (by kd_all) (by kd_all) rfl hll) (Ev.upto (n := shiftOf cs) (FI.inv F) (by kd_all) (by kd_all) rfl hll) (op_addList (by rw [sizeLine_eq]; simp [lets]; omega))
  -- digits
  refine RtL.cons (DoS.assign (σ' := [("start", .list ((startOf cs).map .str)), ("letters", .list (lets.map .str)), ("size", .int (sz : Int))]) (τ' := []) (d := .list ((digsOf cs).map .int)) F ?_ (.inr rfl) (by simp) (by simp [ofString_inj]) (by simp) rfl) ?_
  · have e : (digsOf cs).map Dat.int = (((cs.map Dat.int).filter fun _ => true).map fun d => .int ((intOf d).fmod 4)) := by
      rw [List.filter_eq_self.mpr (fun _ _ => rfl), List.map_map, digsOf, List.map_map]; rfl
    rw [e]
    refine Ev.comp (FI.inv F) ⟨rfl, by simp, rfl, by decide +kernel, rfl⟩ (It.list (by kd_all)) (by rw [sizeLine_eq, List.length_map]; omega) (fun _ => true) _ (fun _ _ _ => rfl) (fun d hd _ C => ?_) (fun _ => rfl)
    obtain ⟨c, hc, rfl⟩ := List.mem_map.mp hd
    exact Ev.binop (d1 := .int c) (With.inv (FI.inv F)) (by kd_all) (Ev.int (With.inv (FI.inv F))) (op_modInt (by omega))
  have hdl : (digsOf cs).length = sz := by simp [digsOf, hcl]
  have hdr : ∀ d ∈ digsOf cs, 0 ≤ d ∧ d < 4 := fun d hd => by
    obtain ⟨c, _, rfl⟩ := List.mem_map.mp hd
    exact ⟨Int.fmod_nonneg_of_pos _ (by omega), Int.fmod_lt_of_pos _ (by omega)⟩
  have hlen1 : ∀ d : Int, (letAt d).length ≤ 1 := fun d => by
    unfold letAt
    generalize d.toNat = r
    match r with
    | 0 => decide +kernel
    | 1 => decide +kernel
    | 2 => decide +kernel
    | 3 => decide +kernel
    | n + 4 => simp [lets]; decide +kernel
  -- word
  refine RtL.cons (DoS.assign (σ' := [("digits", .list ((digsOf cs).map .int)), ("start", .list ((startOf cs).map .str)), ("letters", .list (lets.map .str)), ("size", .int (sz : Int))]) (τ' := []) (d := .str x) F ?_ (.inr rfl) (by simp) (by simp [ofString_inj]) (by simp) rfl) ?_
  · rw [P.xw, wordOf]
    refine Ev.join (FI.inv F) ?_ ?_ rfl rfl rfl rfl
    · have e : ((digsOf cs).map letAt).map Dat.str = ((((digsOf cs).map Dat.int).filter fun _ => true).map fun d => .str (letAt (intOf d))) := by
        rw [List.filter_eq_self.mpr (fun _ _ => rfl), List.map_map, List.map_map]; rfl
      rw [e]
      refine Ev.comp (FI.inv F) ⟨rfl, by simp, rfl, by decide +kernel, rfl⟩ (It.list (by kd_all)) (by rw [sizeLine_eq, List.length_map]; omega) (fun _ => true) _ (fun _ _ _ => rfl) (fun d hd _ C => ?_) (fun _ => rfl)
      obtain ⟨c, hc, rfl⟩ := List.mem_map.mp hd
      obtain ⟨h0, h4⟩ := hdr c hc
      refine Ev.itemList (ds := lets.map .str) (n := c.toNat) (i := c) (With.inv (FI.inv F)) (by kd_all) (by kd_all) (by omega) (by omega) ?_ fun _ _ => rfl
      have hlt : c.toNat < lets.length := by show c.toNat < 4; omega
      rw [List.getElem?_map, List.getElem?_eq_getElem hlt]
      simp [letAt, List.getD_eq_getElem?_getD, List.getElem?_eq_getElem hlt]
    · rw [List.map_map]
      have gen : ∀ l : List Int, (l.map ((·.length) ∘ letAt)).sum ≤ l.length := by
        intro l
        induction l with
        | nil => exact Nat.le_refl _
        | cons a l ih => simp only [List.map_cons, List.sum_cons, List.length_cons, Function.comp]; have := hlen1 a; omega
      have := gen (digsOf cs)
      omega
  have hxs : x.length ≤ sizeLine := by rw [sizeLine_eq]; omega
  have hTl : T.length = sz := by rw [P.tlen, hcl]
  have hrows : (rowsOf x sz).length = sz := by simp [rowsOf]
  -- turns
  refine RtL.cons (DoS.assign (σ' := [("word", .str x), ("digits", .list ((digsOf cs).map .int)), ("start", .list ((startOf cs).map .str)), ("letters", .list (lets.map .str)), ("size", .int (sz : Int))]) (τ' := []) (d := wordD T) F ?_ (.inl rfl) (by simp) (by simp [ofString_inj]) (by simp) rfl) ?_
  · have eT : T = (qt attLt (rowsOf x sz)).toL := by rw [P.tw, hcl]; rfl
    rw [eT]
    refine Ev.callF (FI.inv F) B F.ok ⟨rfl, D3.mg, D3.ho, D3.hd, by decide +kernel⟩ (EvL.cons (d := wordD (rowsOf x sz)) (FI.inv F) ?_ (EvL.nil (FI.inv F)) rfl) ((risen_ok B ap D1 D3 hq3 10 (rowsOf x sz) (by omega) (by omega)).less (by omega)) rfl
    have e : wordD (rowsOf x sz) = .list ((((rangeD 0 1 sz).filter fun _ => true).map fun d => attD (rowOf x (intOf d).toNat))) := by
      rw [comp_range, wordD, rowsOf, List.map_map]
      congr 1
      refine List.map_congr_left fun t _ => ?_
      simp
    rw [e]
    refine Ev.comp (FI.inv F) ⟨rfl, by simp, rfl, by decide +kernel, rfl⟩ (It.range (FI.inv F) B F.ok ⟨rfl, hmrange, rfl, by decide +kernel, by decide +kernel⟩ (EvL.cons (FI.inv F) (by kd_all) (EvL.nil (FI.inv F)) rfl) (range1_walk (n := sz) (by omega)) rfl rfl) (by simp [rangeD]; rw [sizeLine_eq]; omega) (fun _ => true) _ (fun _ _ _ => rfl) (fun d hd _ C => ?_) (fun _ => rfl)
    simp only [rangeD, List.mem_map, List.mem_range] at hd
    obtain ⟨t, ht, rfl⟩ := hd
    have et : (0 : Int) + (t : Int) * 1 = (t : Int) := by omega
    rw [et]
    show Ev _ _ _ _ _ _ _ (.tuple [.str (rotS x t), .int (t : Int)])
    refine Ev.tuple (With.inv (FI.inv F)) (EvL.cons (With.inv (FI.inv F)) (Ev.binop (With.inv (FI.inv F)) (Ev.strFrom (n := t) (x := x) (With.inv (FI.inv F)) (by kd_all) (by kd_all) rfl (by omega) hxs) (Ev.strUpto (n := t) (x := x) (With.inv (FI.inv F)) (by kd_all) (by kd_all) rfl (by omega) hxs) (op_addStr ?_)) (EvL.cons (With.inv (FI.inv F)) (by kd_all) (EvL.nil (With.inv (FI.inv F))) rfl) rfl) (by rw [sizeLine_eq]; simp)
    have := rotS_len x t
    have e2 : (rotS x t).length = (⟨(x.cps.toList.drop t).toArray⟩ : PySem.Str).length + (⟨(x.cps.toList.take t).toArray⟩ : PySem.Str).length := by
      show ((x.cps.toList.drop t).toArray ++ (x.cps.toList.take t).toArray).size = _
      rw [Array.size_append]; rfl
    omega
  -- worths
  have hds : ((digsOf cs).map Dat.int).length ≤ sizeLine := by rw [sizeLine_eq, List.length_map]; omega
  refine RtL.cons (DoS.assign (σ' := [("turns", wordD T), ("word", .str x), ("start", .list ((startOf cs).map .str)), ("letters", .list (lets.map .str)), ("size", .int (sz : Int))]) (τ' := []) (d := .list ((List.range sz).map fun i => .int (worthAt (digsOf cs) i))) F ?_ (.inr rfl) (by simp) (by simp [ofString_inj]) (by simp) rfl) ?_
  · have e : ((List.range sz).map fun i => Dat.int (worthAt (digsOf cs) i)) = ((rangeD 0 1 sz).filter fun _ => true).map fun d => .int (worthAt (digsOf cs) (intOf d).toNat) := by
      rw [comp_range]
      refine List.map_congr_left fun t _ => ?_
      simp
    rw [e]
    refine Ev.comp (FI.inv F) ⟨rfl, by simp, rfl, by decide +kernel, rfl⟩ (It.range (FI.inv F) B F.ok ⟨rfl, hmrange, rfl, by decide +kernel, by decide +kernel⟩ (EvL.cons (FI.inv F) (by kd_all) (EvL.nil (FI.inv F)) rfl) (range1_walk (n := sz) (by omega)) rfl rfl) (by simp [rangeD]; rw [sizeLine_eq]; omega) (fun _ => true) _ (fun _ _ _ => rfl) (fun d hd _ C => ?_) (fun _ => rfl)
    simp only [rangeD, List.mem_map, List.mem_range] at hd
    obtain ⟨t, ht, rfl⟩ := hd
    have et : (0 : Int) + (t : Int) * 1 = (t : Int) := by omega
    rw [et]
    have e2 : (rotI (digsOf cs) t).map Dat.int = ((digsOf cs).map .int).drop t ++ ((digsOf cs).map .int).take t := by simp [rotI, List.map_drop, List.map_take]
    refine Ev.callF (With.inv (FI.inv F)) B (compEnv_ok F.ok rfl) ⟨rfl, D4.mg, D4.ho, D4.hd, by decide +kernel⟩ (EvL.cons (d := .list ((rotI (digsOf cs) t).map .int)) (With.inv (FI.inv F)) ?_ (EvL.nil (With.inv (FI.inv F))) rfl) ((worth_ok B D4 (rotI (digsOf cs) t) (by simp [rotI]; omega)).less (by omega)) rfl
    rw [e2]
    exact Ev.binop (With.inv (FI.inv F)) (Ev.from (n := t) (With.inv (FI.inv F)) (by kd_all) (by kd_all) rfl hds) (Ev.upto (n := t) (With.inv (FI.inv F)) (by kd_all) (by kd_all) rfl hds) (op_addList (by rw [sizeLine_eq]; simp; omega))
  -- the places of the turnings
  refine RtL.cons (DoS.for F (ds := rangeD 0 1 sz) (σ := fun _ => [("worths", .list ((List.range sz).map fun i => .int (worthAt (digsOf cs) i))), ("turns", wordD T), ("word", .str x), ("start", .list ((startOf cs).map .str)), ("letters", .list (lets.map .str)), ("size", .int (sz : Int))]) (own := fun _ => []) (.inr rfl)
    (It.range (FI.inv F) B F.ok ⟨rfl, hmrange, rfl, by decide +kernel, by decide +kernel⟩ (EvL.cons (FI.inv F) (by kd_all) (EvL.nil (FI.inv F)) rfl) (range1_walk (n := sz) (by omega)) rfl rfl) (by simp [ofString_inj]) (by simp) (by simp) (fun i d J hd => ?_) (fun _ => rfl)) ?_
  · obtain ⟨hi, rfl⟩ := rangeD_at hd
    have ei : (0 : Int) + (i : Int) = (i : Int) := by omega
    rw [ei]
    have hspot : (spotOf (digsOf cs) sz i) ≤ sz := Nat.le_trans (List.length_filter_le _ _) (by simp)
    have hTs := P.spot i (by omega)
    rw [hcl] at hTs
    refine DoL.cons (DoS.assign (σ' := [("i", .int (i : Int)), ("worths", .list ((List.range sz).map fun i => .int (worthAt (digsOf cs) i))), ("turns", wordD T), ("word", .str x), ("start", .list ((startOf cs).map .str)), ("letters", .list (lets.map .str)), ("size", .int (sz : Int))]) (τ' := []) (d := .int (spotOf (digsOf cs) sz i : Int)) F ?_ (.inl rfl) (by simp) (by simp [ofString_inj]) (by simp) rfl) ?_
    · have e : ((spotOf (digsOf cs) sz i : Nat) : Int) = ((((rangeD 0 1 sz).filter fun d => ltW (worthAt (digsOf cs) (intOf d).toNat) (intOf d) (worthAt (digsOf cs) i) (i : Int)).map fun d => d).length : Nat) := by
        rw [List.length_map, rangeD, List.filter_map, List.length_map, spotOf]
        congr 2
        refine List.filter_congr fun j _ => ?_
        show _ = ltW (worthAt (digsOf cs) ((0 : Int) + (j : Int) * 1).toNat) ((0 : Int) + (j : Int) * 1) _ _
        rw [show (0 : Int) + (j : Int) * 1 = (j : Int) by omega, Int.toNat_natCast]
      rw [e]
      refine Ev.callB (FI.inv F) B F.ok ⟨rfl, hmlen, rfl, by decide +kernel, by decide +kernel⟩ (EvL.cons (FI.inv F) (Ev.comp (FI.inv F) ⟨rfl, by simp, rfl, by decide +kernel, rfl⟩ (It.range (FI.inv F) B F.ok ⟨rfl, hmrange, rfl, by decide +kernel, by decide +kernel⟩ (EvL.cons (FI.inv F) (by kd_all) (EvL.nil (FI.inv F)) rfl) (range1_walk (n := sz) (by omega)) rfl rfl) (by simp [rangeD]; rw [sizeLine_eq]; omega) _ _ (fun d hd C => ?_) (fun d hd _ C => ?_) (fun _ => rfl)) (EvL.nil (FI.inv F)) rfl) (op_len ?_) rfl rfl
      · simp only [rangeD, List.mem_map, List.mem_range] at hd
        obtain ⟨t, ht, rfl⟩ := hd
        have et : (0 : Int) + (t : Int) * 1 = (t : Int) := by omega
        rw [et]
        show Tv _ _ _ _ _ _ _ (ltW (worthAt (digsOf cs) t) (t : Int) (worthAt (digsOf cs) i) (i : Int))
        refine Tv.cmp (With.inv (FI.inv F)) (Ev.tuple (ds := [.int (worthAt (digsOf cs) t), .int (t : Int)]) (With.inv (FI.inv F)) (EvL.cons (With.inv (FI.inv F)) ?_ (EvL.cons (With.inv (FI.inv F)) (by kd_all) (EvL.nil (With.inv (FI.inv F))) rfl) rfl) (by rw [sizeLine_eq]; simp)) (Ev.tuple (ds := [.int (worthAt (digsOf cs) i), .int (i : Int)]) (With.inv (FI.inv F)) (EvL.cons (With.inv (FI.inv F)) ?_ (EvL.cons (With.inv (FI.inv F)) (by kd_all) (EvL.nil (With.inv (FI.inv F))) rfl) rfl) (by rw [sizeLine_eq]; simp)) op_ltTup2 rfl
        · exact Ev.itemList (ds := (List.range sz).map fun i => .int (worthAt (digsOf cs) i)) (n := t) (With.inv (FI.inv F)) (by kd_all) (by kd_all) rfl (by omega) (by rw [List.getElem?_map, List.getElem?_range ht]; rfl) fun _ _ => rfl
        · exact Ev.itemList (ds := (List.range sz).map fun i => .int (worthAt (digsOf cs) i)) (n := i) (With.inv (FI.inv F)) (by kd_all) (by kd_all) rfl (by omega) (by rw [List.getElem?_map, List.getElem?_range hi]; rfl) fun _ _ => rfl
      · kd_all
      · rw [List.length_map]
        refine Nat.lt_of_le_of_lt (List.length_filter_le _ _) ?_
        simp [rangeD]; omega
    · have hok : kqdOk 40 (attD (rowOf x i)) = true := attD_ok 39 _ (P.okRow i (by omega))
      refine DoL.cons (DoS.ifFalse (FI.inv F) (Tv.to (Tv.cmp (d1 := attD (rowOf x i)) (d2 := attD (rowOf x i)) (FI.inv F) ?_ ?_ (op_neD hok hok) rfl) (by simp))) (DoL.nil (Imp.weaken (by simp) (by simp) (by simp) (List.Sublist.refl _)))
      · exact Ev.itemList (ds := T.map attD) (n := spotOf (digsOf cs) sz i) (FI.inv F) (by kd_all) (by kd_all) rfl (by omega) (by rw [List.getElem?_map, hTs]; rfl) fun _ _ => rfl
      · show Ev _ _ _ _ _ _ _ (.tuple [.str (rotS x i), .int (i : Int)])
        refine Ev.tuple (FI.inv F) (EvL.cons (FI.inv F) (Ev.binop (FI.inv F) (Ev.strFrom (n := i) (x := x) (FI.inv F) (by kd_all) (by kd_all) rfl (by omega) hxs) (Ev.strUpto (n := i) (x := x) (FI.inv F) (by kd_all) (by kd_all) rfl (by omega) hxs) (op_addStr ?_)) (EvL.cons (FI.inv F) (by kd_all) (EvL.nil (FI.inv F)) rfl) rfl) (by rw [sizeLine_eq]; simp)
        have := rotS_len x i
        have e2 : (rotS x i).length = (⟨(x.cps.toList.drop i).toArray⟩ : PySem.Str).length + (⟨(x.cps.toList.take i).toArray⟩ : PySem.Str).length := by
          show ((x.cps.toList.drop i).toArray ++ (x.cps.toList.take i).toArray).size = _
          rw [Array.size_append]; rfl
        omega
  -- the last signs
  have hlastl : last.length = sz := by rw [P.lw, List.length_map, hTl]
  refine RtL.cons (DoS.assign (σ' := [("turns", wordD T), ("start", .list ((startOf cs).map .str)), ("letters", .list (lets.map .str)), ("size", .int (sz : Int))]) (τ' := []) (d := .list (last.map .str)) F ?_ (.inr rfl) (by simp) (by simp [ofString_inj]) (by simp) rfl) ?_
  · have e : last.map Dat.str = ((T.map attD).filter fun _ => true).map fun d => .str ⟨#[(keyOf d).cps.toList.getLast?.getD 0]⟩ := by
      rw [List.filter_eq_self.mpr (fun _ _ => rfl), P.lw, List.map_map, List.map_map]; rfl
    rw [e]
    refine Ev.comp (FI.inv F) ⟨rfl, by simp, rfl, by decide +kernel, rfl⟩ (It.list (by kd_all)) (by rw [sizeLine_eq, List.length_map]; omega) (fun _ => true) _ (fun _ _ _ => rfl) (fun d hd _ C => ?_) (fun _ => rfl)
    obtain ⟨t, ht, rfl⟩ := List.mem_map.mp hd
    obtain ⟨c, hc⟩ := P.ne t ht
    have e2 : (keyOf (attD t)).cps.toList.getLast?.getD 0 = c := by rw [keyOf_att, hc]; rfl
    rw [e2]
    exact Ev.strLast (x := t.1) (With.inv (FI.inv F)) (Ev.att0 (a := t) (With.inv (FI.inv F)) (by kd_all) (Ev.int (With.inv (FI.inv F))) fun _ _ => rfl) hc
  -- code
  refine RtL.cons (DoS.assignNil (σ' := [("last", .list (last.map .str)), ("turns", wordD T), ("start", .list ((startOf cs).map .str)), ("letters", .list (lets.map .str)), ("size", .int (sz : Int))]) (τ' := []) F (.inl rfl) (by simp) (by simp [ofString_inj]) (by simp)) ?_
  refine RtL.cons (DoS.assign (σ' := [("last", .list (last.map .str)), ("turns", wordD T), ("start", .list ((startOf cs).map .str)), ("letters", .list (lets.map .str)), ("size", .int (sz : Int))]) (τ' := []) (d := .list ((startOf cs).map .str)) F (by kd_all) (.inl rfl) (by simp [ofString_inj]) (by simp [ofString_inj]) (by simp) rfl) ?_
  have sgS : ∀ m y, last[m]? = some y → sgAt (startOf cs) last (m + 1) = fr (sgAt (startOf cs) last m) y := fun m y hy => by
    rw [sgAt, sgAt, List.take_add_one, hy]; simp
  have getL : ∀ m y, last[m]? = some y → last.getD m "" = y := fun m y hy => by simp [List.getD_eq_getElem?_getD, hy]
  have codS : ∀ m, codesAt (startOf cs) last (m + 1) = codesAt (startOf cs) last m ++ [(sgAt (startOf cs) last m).idxOf (last.getD m "")] := fun m => by
    rw [codesAt, List.range_succ, List.map_append]; rfl
  refine RtL.cons (DoS.for F (ds := last.map .str) (σ := fun m => [("signs", .list ((sgAt (startOf cs) last m).map .str)), ("last", .list (last.map .str)), ("turns", wordD T), ("start", .list ((startOf cs).map .str)), ("letters", .list (lets.map .str)), ("size", .int (sz : Int))]) (own := fun m => [("code", (codesAt (startOf cs) last m).map fun c : Nat => .int (c : Int))]) (.inl rfl) (It.list (by kd_all)) (by simp [ofString_inj]) (by simp) (by simp [ofString_inj]) (fun m d J hd => ?_) (fun _ => rfl)) ?_
  · obtain ⟨y, hy, rfl⟩ : ∃ y, last[m]? = some y ∧ d = .str y := by
      rw [List.getElem?_map, Option.map_eq_some_iff] at hd
      obtain ⟨y, h1, h2⟩ := hd
      exact ⟨y, h1, h2.symm⟩
    have hml : m < last.length := (List.getElem?_eq_some_iff.mp hy).1
    have hin := P.sgIn m y hy
    have hsl := P.sgLen m
    rw [sgS m y hy, codS m, getL m y hy, List.map_append]
    refine DoL.cons (DoS.append F (d := .int (((sgAt (startOf cs) last m).idxOf y : Nat) : Int)) (Ev.index (FI.inv F) (by kd_all) (by kd_all) hin (by omega) rfl rfl rfl rfl) rfl rfl (by rw [sizeLine_eq]; simp [codesAt]; omega) (by simp) rfl (by decide +kernel) (by decide +kernel)) ?_
    refine DoL.cons (DoS.assign (σ' := [("last", .list (last.map .str)), ("turns", wordD T), ("start", .list ((startOf cs).map .str)), ("letters", .list (lets.map .str)), ("size", .int (sz : Int))]) (τ' := []) (d := .list ((fr (sgAt (startOf cs) last m) y).map .str)) F ?_ (.inl rfl) (by simp [ofString_inj]) (by simp [ofString_inj]) (by simp) rfl) (DoL.nil Imp.refl)
    exact Ev.callF (FI.inv F) B F.ok ⟨rfl, D5.mg, D5.ho, D5.hd, by decide +kernel⟩ (EvL.cons (FI.inv F) (by kd_all) (EvL.cons (FI.inv F) (by kd_all) (EvL.nil (FI.inv F)) rfl) rfl) ((fronted_ok B ap D1 D5 hq5 (sgAt (startOf cs) last m) y (by omega)).less (by omega)) rfl
  have hll2 : (last.map Dat.str).length = sz := by rw [List.length_map, hlastl]
  rw [hll2]
  have hlok : ∀ y ∈ last, PyData.strOk y = true := fun y hy => lets_ok y (P.inL y hy)
  refine RtL.pre (Imp.freeze F (by simp)) ?_
  have hints : ∀ l : List Nat, kqdOk 40 (.list (l.map fun c : Nat => Dat.int (c : Int))) = true := fun l => by simp [kqdOk]
  refine RtL.cons (DoS.ifFalse (FI.inv F) (Tv.to (Tv.cmp (d2 := .list ((codesAt (startOf cs) last sz).map fun c : Nat => .int (c : Int))) (FI.inv F) (by kd_all) ?_ (op_neD (hints _) (hints _)) rfl) (by simp))) ?_
  · have e : ((codesAt (startOf cs) last sz).map fun c : Nat => Dat.int (c : Int)) = ((rangeD 0 1 sz).filter fun _ => true).map fun d => .int ((deepOf last (startOf cs) (intOf d).toNat (last.getD (intOf d).toNat "") : Nat) : Int) := by
      rw [comp_range, codesAt, List.map_map]
      refine List.map_congr_left fun t ht => ?_
      have hlt : t < last.length := by rw [hlastl]; exact List.mem_range.mp ht
      have hy : last[t]? = some last[t] := List.getElem?_eq_getElem hlt
      simp only [Function.comp, intOf_int]
      have et : ((0 : Int) + (t : Int) * 1).toNat = t := by omega
      rw [et, getL t _ hy, P.deep t _ hy]
    rw [e]
    refine Ev.comp (FI.inv F) ⟨rfl, by simp, rfl, by decide +kernel, rfl⟩ (It.range (FI.inv F) B F.ok ⟨rfl, hmrange, rfl, by decide +kernel, by decide +kernel⟩ (EvL.cons (FI.inv F) (by kd_all) (EvL.nil (FI.inv F)) rfl) (range1_walk (n := sz) (by omega)) rfl rfl) (by simp [rangeD]; rw [sizeLine_eq]; omega) (fun _ => true) _ (fun _ _ _ => rfl) (fun d hd _ C => ?_) (fun _ => rfl)
    simp only [rangeD, List.mem_map, List.mem_range] at hd
    obtain ⟨t, ht, rfl⟩ := hd
    have et : (0 : Int) + (t : Int) * 1 = (t : Int) := by omega
    rw [et]
    simp only [intOf_int, Int.toNat_natCast]
    have hlt : t < last.length := by rw [hlastl]; exact ht
    have hy : last[t]? = some last[t] := List.getElem?_eq_getElem hlt
    rw [getL t _ hy]
    have hmem : last[t] ∈ startOf cs := by
      have := P.inL _ (List.getElem_mem hlt)
      rw [startOf, List.mem_append]
      rw [← List.take_append_drop (shiftOf cs) lets, List.mem_append] at this
      exact this.symm
    exact Ev.callF (With.inv (FI.inv F)) B (compEnv_ok F.ok rfl) ⟨rfl, D7.mg, D7.ho, D7.hd, by decide +kernel⟩ (EvL.cons (With.inv (FI.inv F)) (by kd_all) (EvL.cons (With.inv (FI.inv F)) (by kd_all) (EvL.cons (With.inv (FI.inv F)) (by kd_all) (EvL.nil (With.inv (FI.inv F))) rfl) rfl) rfl)
      ((deep_ok B D7 (fun x h => hm x (by simp at h ⊢; rcases h with h | h <;> simp [h])) last (startOf cs) t last[t] hy hmem (by omega) (by omega) hlok (fun y hy => lets_ok y (hstin y hy))).less (by omega)) rfl
  -- back
  have hback : ∀ y ∈ last, y.length ≤ 1 := fun y hy => by
    rw [P.lw] at hy
    obtain ⟨t, _, rfl⟩ := List.mem_map.mp hy
    exact Nat.le_refl 1
  refine RtL.cons (DoS.assignNil (σ' := [("code", .list ((codesAt (startOf cs) last sz).map fun c : Nat => .int (c : Int))), ("last", .list (last.map .str)), ("turns", wordD T), ("start", .list ((startOf cs).map .str)), ("letters", .list (lets.map .str)), ("size", .int (sz : Int))]) (τ' := []) F (.inr rfl) (by simp) (by simp [ofString_inj]) (by simp)) ?_
  refine RtL.cons (DoS.assign (σ' := [("code", .list ((codesAt (startOf cs) last sz).map fun c : Nat => .int (c : Int))), ("last", .list (last.map .str)), ("turns", wordD T), ("letters", .list (lets.map .str)), ("size", .int (sz : Int))]) (τ' := []) (d := .list ((startOf cs).map .str)) F (by kd_all) (.inl rfl) (by simp [ofString_inj]) (by simp [ofString_inj]) (by simp) rfl) ?_
  refine RtL.cons (DoS.for F (ds := (codesAt (startOf cs) last sz).map fun c : Nat => .int (c : Int)) (σ := fun m => [("signs", .list ((sgAt (startOf cs) last m).map .str)), ("code", .list ((codesAt (startOf cs) last sz).map fun c : Nat => .int (c : Int))), ("last", .list (last.map .str)), ("turns", wordD T), ("letters", .list (lets.map .str)), ("size", .int (sz : Int))]) (own := fun m => [("back", (last.take m).map .str)]) (.inl rfl) (It.list (by kd_all)) (by simp [ofString_inj]) (by simp) (by simp [ofString_inj]) (fun m d J hd => ?_) (fun _ => rfl)) ?_
  · have hm : m < sz := by
      have := (List.getElem?_eq_some_iff.mp hd).1
      simpa [codesAt] using this
    have hml : m < last.length := by omega
    have hy : last[m]? = some last[m] := List.getElem?_eq_getElem hml
    generalize last[m] = y at hy
    obtain rfl : d = .int (((sgAt (startOf cs) last m).idxOf y : Nat) : Int) := by
      rw [List.getElem?_map, codesAt, List.getElem?_map, List.getElem?_range hm] at hd
      have e : Dat.int (((sgAt (startOf cs) last m).idxOf (last.getD m "") : Nat) : Int) = d := Option.some.inj hd
      rw [getL m y hy] at e
      exact e.symm
    have hin := P.sgIn m y hy
    have hsl := P.sgLen m
    have hidx : (sgAt (startOf cs) last m)[(sgAt (startOf cs) last m).idxOf y]? = some y := by
      have hlt := List.idxOf_lt_length_iff.mpr hin
      rw [List.getElem?_eq_getElem hlt, List.getElem_idxOf hlt]
    have hlt : (sgAt (startOf cs) last m).idxOf y < 4 := by have := List.idxOf_lt_length_iff.mpr hin; omega
    rw [sgS m y hy, List.take_add_one, hy]
    simp only [Option.toList_some, List.map_append, List.map_cons, List.map_nil]
    refine DoL.cons (DoS.append F (d := .str y) (Ev.itemList (ds := (sgAt (startOf cs) last m).map .str) (n := (sgAt (startOf cs) last m).idxOf y) (FI.inv F) (by kd_all) (by kd_all) rfl (by omega) (by rw [List.getElem?_map, hidx]; rfl) fun _ _ => rfl) rfl rfl (by rw [sizeLine_eq]; simp; omega) (by simp) rfl (by decide +kernel) (by decide +kernel)) ?_
    refine DoL.cons (DoS.assign (σ' := [("code", .list ((codesAt (startOf cs) last sz).map fun c : Nat => .int (c : Int))), ("last", .list (last.map .str)), ("turns", wordD T), ("letters", .list (lets.map .str)), ("size", .int (sz : Int))]) (τ' := []) (d := .list ((fr (sgAt (startOf cs) last m) y).map .str)) F ?_ (.inl rfl) (by simp [ofString_inj]) (by simp [ofString_inj]) (by simp) rfl) (DoL.nil Imp.refl)
    exact Ev.callF (FI.inv F) B F.ok ⟨rfl, D6.mg, D6.ho, D6.hd, by decide +kernel⟩ (EvL.cons (FI.inv F) (by kd_all) (EvL.cons (FI.inv F) (by kd_all) (EvL.nil (FI.inv F)) rfl) rfl) ((fronted_again_ok B ap D1 D6 hq6 (sgAt (startOf cs) last m) _ y hidx (by omega)).less (by omega)) rfl
  have hcl2 : ((codesAt (startOf cs) last sz).map fun c : Nat => Dat.int (c : Int)).length = sz := by simp [codesAt]
  rw [hcl2, List.take_of_length_le (show last.length ≤ sz by omega)]
  refine RtL.pre (Imp.freeze F (by simp)) ?_
  -- places
  have hpl : (placesOf last sz).length = sz := by simp [placesOf]
  refine RtL.cons (DoS.assignComp (σ' := [("back", .list (last.map .str)), ("last", .list (last.map .str)), ("turns", wordD T), ("letters", .list (lets.map .str)), ("size", .int (sz : Int))]) (τ' := []) F ⟨rfl, by simp, rfl, by decide +kernel, rfl⟩ (It.range (FI.inv F) B F.ok ⟨rfl, hmrange, rfl, by decide +kernel, by decide +kernel⟩ (EvL.cons (FI.inv F) (by kd_all) (EvL.nil (FI.inv F)) rfl) (range1_walk (n := sz) (by omega)) rfl rfl) (by simp [rangeD]; rw [sizeLine_eq]; omega) (fun _ => true) (fun d => attD (last.getD (intOf d).toNat "", intOf d)) (fun _ _ _ => rfl) (fun d hd _ C => ?_) (fun _ => rfl) rfl (by simp) (by simp [ofString_inj]) (by simp) rfl) ?_
  · simp only [rangeD, List.mem_map, List.mem_range] at hd
    obtain ⟨t, ht, rfl⟩ := hd
    have et : (0 : Int) + (t : Int) * 1 = (t : Int) := by omega
    rw [et]
    have hlt : t < last.length := by rw [hlastl]; exact ht
    have hy : last[t]? = some last[t] := List.getElem?_eq_getElem hlt
    show Ev _ _ _ _ _ _ _ (.tuple [.str (last.getD (intOf (.int (t : Int))).toNat ""), .int (t : Int)])
    simp only [intOf_int, Int.toNat_natCast]
    rw [getL t _ hy]
    refine Ev.tuple (With.inv (FI.inv F)) (EvL.cons (With.inv (FI.inv F)) ?_ (EvL.cons (With.inv (FI.inv F)) (by kd_all) (EvL.nil (With.inv (FI.inv F))) rfl) rfl) (by rw [sizeLine_eq]; simp)
    exact Ev.itemList (ds := last.map .str) (n := t) (With.inv (FI.inv F)) (by kd_all) (by kd_all) rfl (by omega) (by rw [List.getElem?_map, hy]; rfl) fun _ _ => rfl
  have ep : (((rangeD 0 1 sz).filter fun _ => true).map fun d => attD (last.getD (intOf d).toNat "", intOf d)) = (placesOf last sz).map attD := by
    rw [comp_range, placesOf, List.map_map]
    refine List.map_congr_left fun t _ => ?_
    simp
  rw [ep]
  have hDw := P.dw
  rw [hcl] at hDw
  have hDl : D.length = sz := by rw [hDw, dealt_len, hpl]
  have hDd := P.dealt
  rw [hcl] at hDd
  have hpok : ∀ a ∈ placesOf last sz, PyData.strOk a.1 = true := fun a ha => by
    obtain ⟨i, hi, rfl⟩ := List.mem_map.mp ha
    have hlt : i < last.length := by rw [hlastl]; exact List.mem_range.mp hi
    have hy : last[i]? = some last[i] := List.getElem?_eq_getElem hlt
    show PyData.strOk (last.getD i "") = true
    rw [getL i _ hy]
    exact hlok _ (List.getElem_mem hlt)
  have hDok : kqdOk 40 (wordD D) = true := wordD_ok 38 _ fun a ha => by
    rw [← hDd] at ha
    exact hpok a ((qt_mem attLt _ _ (Nat.le_refl _) a).mp ha)
  -- dealt
  refine RtL.cons (DoS.assign (σ' := [("places", wordD (placesOf last sz)), ("back", .list (last.map .str)), ("last", .list (last.map .str)), ("turns", wordD T), ("size", .int (sz : Int))]) (τ' := []) (d := wordD D) F ?_ (.inl rfl) (by simp) (by simp [ofString_inj]) (by simp) rfl) ?_
  · rw [hDw]
    exact Ev.callF (FI.inv F) B F.ok ⟨rfl, D8.mg, D8.ho, D8.hd, by decide +kernel⟩ (EvL.cons (d := wordD (placesOf last sz)) (FI.inv F) (by kd_all) (EvL.cons (FI.inv F) (by kd_all) (EvL.nil (FI.inv F)) rfl) rfl) ((dealt_ok B ap D1 D8 hq8 lets (placesOf last sz) (by omega) (by simp [lets])).less (by simp [lets])) rfl
  have hlo : kqdOk 40 (.list (last.map .str)) = true := by
    simp only [kqdOk, List.all_eq_true]
    exact strs_ok 39 last hlok
  refine RtL.cons (DoS.ifFalse (FI.inv F) (Tv.or2 (x := false) (y := false) (FI.inv F) (Tv.to (Tv.cmp (d1 := .list (last.map .str)) (d2 := .list (last.map .str)) (FI.inv F) (by kd_all) (by kd_all) (op_neD hlo hlo) rfl) (by simp)) fun _ => Tv.to (Tv.cmp (d1 := wordD D) (d2 := wordD D) (FI.inv F) ?_ (by kd_all) (op_neD hDok hDok) rfl) (by simp))) ?_
  · rw [← hDd]
    exact Ev.callF (FI.inv F) B F.ok ⟨rfl, D3.mg, D3.ho, D3.hd, by decide +kernel⟩ (EvL.cons (d := wordD (placesOf last sz)) (FI.inv F) (by kd_all) (EvL.nil (FI.inv F)) rfl) ((risen_ok B ap D1 D3 hq3 10 (placesOf last sz) (by omega) (by omega)).less (by omega)) rfl
  -- from every row to its own turning
  have hat : ∀ r, r < sz → ∀ m, atAt D r m < sz := fun r hr m => by
    induction m with
    | zero => exact hr
    | succ m ih =>
      rw [atAt, List.getElem?_eq_getElem (show atAt D r m < D.length by omega)]
      have := P.dIn _ (List.getElem_mem (show atAt D r m < D.length by omega))
      dsimp only
      omega
  refine RtL.pre (Imp.weaken (σ' := [("dealt", wordD D), ("back", .list (last.map .str)), ("turns", wordD T), ("size", .int (sz : Int))]) (τ' := []) (own' := []) (its' := []) (by simp) (by simp) (by simp) (List.Sublist.refl _)) ?_
  refine RtL.cons (DoS.for F (ds := rangeD 0 1 sz) (σ := fun _ => [("dealt", wordD D), ("back", .list (last.map .str)), ("turns", wordD T), ("size", .int (sz : Int))]) (own := fun _ => []) (.inl rfl)
    (It.range (FI.inv F) B F.ok ⟨rfl, hmrange, rfl, by decide +kernel, by decide +kernel⟩ (EvL.cons (FI.inv F) (by kd_all) (EvL.nil (FI.inv F)) rfl) (range1_walk (n := sz) (by omega)) rfl rfl) (by simp [ofString_inj]) (by simp) (by simp) (fun r d J hd => ?_) (fun _ => rfl)) ?_
  · obtain ⟨hr, rfl⟩ := rangeD_at hd
    have er : (0 : Int) + (r : Int) = (r : Int) := by omega
    rw [er]
    refine DoL.cons (DoS.assign (σ' := [("row", .int (r : Int)), ("dealt", wordD D), ("back", .list (last.map .str)), ("turns", wordD T), ("size", .int (sz : Int))]) (τ' := []) (d := .int ((atAt D r 0 : Nat) : Int)) F ?_ (.inl rfl) (by simp) (by simp [ofString_inj]) (by simp) rfl) ?_
    · show Ev _ _ _ _ _ _ _ (.int (r : Int))
      kd_all
    refine DoL.cons (DoS.assign (σ' := [("at", .int ((atAt D r 0 : Nat) : Int)), ("row", .int (r : Int)), ("dealt", wordD D), ("back", .list (last.map .str)), ("turns", wordD T), ("size", .int (sz : Int))]) (τ' := []) (d := .str (toldAt D last r 0)) F (Ev.str (FI.inv F)) (.inl rfl) (by simp) (by simp [ofString_inj]) (by simp) rfl) ?_
    refine DoL.cons (DoS.for F (ds := rangeD 0 1 sz) (σ := fun m => [("told", .str (toldAt D last r m)), ("at", .int ((atAt D r m : Nat) : Int)), ("row", .int (r : Int)), ("dealt", wordD D), ("back", .list (last.map .str)), ("turns", wordD T), ("size", .int (sz : Int))]) (own := fun _ => []) (.inr rfl)
      (It.range (FI.inv F) B F.ok ⟨rfl, hmrange, rfl, by decide +kernel, by decide +kernel⟩ (EvL.cons (FI.inv F) (by kd_all) (EvL.nil (FI.inv F)) rfl) (range1_walk (n := sz) (by omega)) rfl rfl) (by simp [ofString_inj]) (by simp) (by simp) (fun m d J hd => ?_) (fun _ => rfl)) ?_
    · obtain ⟨hmz, rfl⟩ := rangeD_at hd
      have ha := hat r hr m
      have hal : atAt D r m < D.length := by omega
      have hDat : D[atAt D r m]? = some D[atAt D r m] := List.getElem?_eq_getElem hal
      have hdin := P.dIn _ (List.getElem_mem hal)
      generalize D[atAt D r m] = p at hDat hdin
      have hnext : atAt D r (m + 1) = p.2.toNat := by rw [atAt, hDat]
      refine DoL.cons (DoS.assign (σ' := [("told", .str (toldAt D last r m)), ("row", .int (r : Int)), ("dealt", wordD D), ("back", .list (last.map .str)), ("turns", wordD T), ("size", .int (sz : Int))]) (τ' := []) (d := .int ((atAt D r (m + 1) : Nat) : Int)) F ?_ (.inl rfl) (by simp) (by simp [ofString_inj]) (by simp) rfl) ?_
      · refine Ev.to (Ev.att1 (a := p) (FI.inv F) (Ev.itemList (ds := D.map attD) (n := atAt D r m) (FI.inv F) (by kd_all) (by kd_all) rfl (by omega) (by rw [List.getElem?_map, hDat]; rfl) fun _ _ => rfl) (Ev.int (FI.inv F)) fun _ _ => rfl) ?_
        rw [hnext]; congr 1; omega
      have hb := hat r hr (m + 1)
      have hbl : atAt D r (m + 1) < last.length := by omega
      have hbat : last[atAt D r (m + 1)]? = some last[atAt D r (m + 1)] := List.getElem?_eq_getElem hbl
      have htl := told_len D last hback r m
      have hyl := hback _ (List.getElem_mem hbl)
      generalize last[atAt D r (m + 1)] = y at hbat hyl
      have htold : toldAt D last r (m + 1) = toldAt D last r m ++ y := by rw [toldAt, getL _ y hbat]
      refine DoL.cons (DoS.assign (σ' := [("at", .int ((atAt D r (m + 1) : Nat) : Int)), ("row", .int (r : Int)), ("dealt", wordD D), ("back", .list (last.map .str)), ("turns", wordD T), ("size", .int (sz : Int))]) (τ' := []) (d := .str (toldAt D last r (m + 1))) F ?_ (.inl rfl) (by simp) (by simp [ofString_inj]) (by simp) rfl) (DoL.nil Imp.refl)
      rw [htold]
      exact Ev.binop (FI.inv F) (by kd_all) (Ev.itemList (d := .str y) (ds := last.map .str) (n := atAt D r (m + 1)) (FI.inv F) (by kd_all) (by kd_all) rfl (by omega) (by rw [List.getElem?_map, hbat]; rfl) fun _ _ => rfl) (op_addStr (by rw [sizeLine_eq]; omega))
    · have hrl : (rangeD 0 1 sz).length = sz := by simp [rangeD]
      rw [hrl]
      have hrT : r < T.length := by omega
      have hTr : T[r]? = some T[r] := List.getElem?_eq_getElem hrT
      have htold := P.told r _ hTr
      rw [hcl] at htold
      rw [htold]
      generalize T[r] = t at hTr
      refine DoL.cons (DoS.ifFalse (FI.inv F) (Tv.to (Tv.cmp (d1 := .str t.1) (d2 := .str t.1) (FI.inv F) (by kd_all) ?_ op_neStr rfl) (by simp))) (DoL.nil (Imp.weaken (by simp) (by simp) (by simp) (List.Sublist.refl _)))
      exact Ev.att0 (a := t) (FI.inv F) (Ev.itemList (ds := T.map attD) (n := r) (FI.inv F) (by kd_all) (by kd_all) rfl (by omega) (by rw [List.getElem?_map, hTr]; rfl) fun _ _ => rfl) (Ev.int (FI.inv F)) fun _ _ => rfl
  exact RtL.ret F (Ev.bool (FI.inv F))
end
end Mine

namespace Mine

/-! ## signs told to the front -/
theorem filter_one {x : PySem.Str} : ∀ {l : List PySem.Str}, l.Nodup → x ∈ l → l.filter (fun y => y == x) = [x]
  | a :: l, hn, hx => by
    obtain ⟨h1, h2⟩ := List.nodup_cons.mp hn
    by_cases e : a = x
    · subst e
      have : l.filter (fun y => y == a) = [] := List.filter_eq_nil_iff.mpr fun y hy => by
        intro h; rw [beq_iff_eq.mp h] at hy; exact h1 hy
      rw [List.filter_cons_of_pos (by simp), this]
    · rw [List.filter_cons_of_neg (by simpa using e)]
      rcases List.mem_cons.mp hx with q | q
      · exact absurd q.symm e
      · exact filter_one h2 q
theorem fr_eq {x : PySem.Str} {l : List PySem.Str} (hn : l.Nodup) (hx : x ∈ l) : fr l x = x :: l.filter fun y => !(y == x) := by
  rw [fr, filter_one hn hx]; rfl
theorem fr_perm (l : List PySem.Str) (x : PySem.Str) : (fr l x).Perm l := List.filter_append_perm _ l
theorem sg_perm (start last : List PySem.Str) : ∀ m, (sgAt start last m).Perm start := by
  intro m
  unfold sgAt
  generalize last.take m = l
  induction l generalizing start with
  | nil => exact .refl _
  | cons a l ih => exact (ih (fr start a)).trans (fr_perm start a)
theorem sg_step {start last : List PySem.Str} {m : Nat} {y : PySem.Str} (hy : last[m]? = some y) : sgAt start last (m + 1) = fr (sgAt start last m) y := by
  rw [sgAt, sgAt, List.take_add_one, hy]; simp

abbrev upTo (l : List PySem.Str) (x : PySem.Str) : List PySem.Str := l.takeWhile fun y => !(y == x)
theorem upTo_len {x : PySem.Str} : ∀ l : List PySem.Str, x ∈ l → l.idxOf x = (upTo l x).length
  | a :: l, h => by
    rw [List.idxOf_cons, upTo, List.takeWhile_cons]
    by_cases e : a = x
    · subst e; simp
    · have hb : (a == x) = false := by simpa using e
      rw [hb]
      rcases List.mem_cons.mp h with q | q
      · exact absurd q.symm e
      · simp [upTo_len l q]
theorem upTo_take {x : PySem.Str} : ∀ l : List PySem.Str, x ∈ l → l.take (l.idxOf x) = upTo l x
  | a :: l, h => by
    rw [List.idxOf_cons, upTo, List.takeWhile_cons]
    by_cases e : a = x
    · subst e; simp
    · have hb : (a == x) = false := by simpa using e
      rw [hb]
      rcases List.mem_cons.mp h with q | q
      · exact absurd q.symm e
      · simp [upTo_take l q]
theorem upTo_filter {x t : PySem.Str} (h : x ≠ t) : ∀ l : List PySem.Str, upTo (l.filter fun y => !(y == t)) x = (upTo l x).filter fun y => !(y == t)
  | [] => rfl
  | a :: l => by
    have ih := upTo_filter h l
    unfold upTo at ih ⊢
    by_cases e : a = t
    · subst e
      have hb : (a == x) = false := by simpa using fun z => h z.symm
      rw [List.filter_cons_of_neg (by simp), List.takeWhile_cons, hb, ih]
      simp
    · have hb : (a == t) = false := by simpa using e
      rw [List.filter_cons_of_pos (by rw [hb]; rfl), List.takeWhile_cons, List.takeWhile_cons]
      by_cases e2 : a = x
      · subst e2; simp
      · have hb2 : (a == x) = false := by simpa using e2
        rw [hb2]
        simp [ih, hb]

theorem befores_step (told : List PySem.Str) (i : Nat) (x : PySem.Str) : befores told (i + 1) x = befores told i x ++ if told.getD i "" == x then [i] else [] := by
  rw [befores, befores, List.range_succ, List.filter_append]
  congr 1
  rw [List.filter_cons, List.filter_nil]
theorem passed_step {told signs : List PySem.Str} {i : Nat} {x t : PySem.Str} (ht : told[i]? = some t) : passedOf told signs (i + 1) x = if t = x then [] else passedOf told signs i x ++ [t] := by
  have hg : told.getD i "" = t := by simp [List.getD_eq_getElem?_getD, ht]
  have hi : i < told.length := (List.getElem?_eq_some_iff.mp ht).1
  have htk : told.take (i + 1) = told.take i ++ [t] := by rw [List.take_add_one, ht]; rfl
  unfold passedOf
  rw [befores_step, hg]
  by_cases e : t = x
  · subst e
    simp only [beq_self_eq_true, if_true]
    rw [List.getLast?_concat]
    simp only
    rw [List.drop_eq_nil_of_le (by rw [List.length_take]; omega)]
  · have hb : (t == x) = false := by simpa using e
    simp only [hb, Bool.false_eq_true, if_false, List.append_nil, e]
    cases q : (befores told i x).getLast? with
    | none => simp only; rw [htk, List.append_assoc]
    | some b =>
      have hbi : b < i := by
        have := List.mem_of_getLast? q
        rw [befores, List.mem_filter, List.mem_range] at this
        exact this.1
      simp only
      rw [htk, List.drop_append_of_le_length (by rw [List.length_take]; omega)]

theorem before_iff {start last : List PySem.Str} (hn : start.Nodup) (hin : ∀ y ∈ last, y ∈ start) {x : PySem.Str} (hx : x ∈ start) : ∀ m, m ≤ last.length → ∀ y, y ∈ upTo (sgAt start last m) x ↔ y ∈ passedOf last start m x
  | 0, _, y => by
    have e1 : sgAt start last 0 = start := by simp [sgAt]
    have e2 : passedOf last start 0 x = start.take (start.idxOf x) := by simp [passedOf, befores]
    rw [e1, e2, upTo_take start hx]
  | m + 1, hm, y => by
    have hl : m < last.length := by omega
    have ht : last[m]? = some last[m] := List.getElem?_eq_getElem hl
    have htin := hin _ (List.getElem_mem hl)
    generalize last[m] = t at ht htin
    have ih := before_iff hn hin hx m (by omega) y
    have hp := sg_perm start last m
    rw [sg_step ht, fr_eq (hp.nodup_iff.mpr hn) (hp.mem_iff.mpr htin), passed_step ht]
    by_cases e : t = x
    · subst e
      simp [upTo, List.takeWhile_cons]
    · have hb : (t == x) = false := by simpa using e
      have hf := upTo_filter (Ne.symm e) (sgAt start last m)
      unfold upTo at hf ih ⊢
      rw [if_neg e, List.takeWhile_cons, hb]
      simp only [Bool.not_false, if_true]
      rw [hf, List.mem_cons, List.mem_filter, List.mem_append, List.mem_singleton, ih]
      constructor
      · rintro (q | ⟨q, _⟩)
        · exact .inr q
        · exact .inl q
      · rintro (q | q)
        · by_cases e2 : y = t
          · exact .inl e2
          · exact .inr ⟨q, by simpa using e2⟩
        · exact .inl q
theorem deep_is {start last : List PySem.Str} (hn : start.Nodup) (hin : ∀ y ∈ last, y ∈ start) {m : Nat} {x : PySem.Str} (hm : last[m]? = some x) : (sgAt start last m).idxOf x = deepOf last start m x := by
  have hx := hin x (List.mem_of_getElem? hm)
  have hl : m < last.length := (List.getElem?_eq_some_iff.mp hm).1
  have hp := sg_perm start last m
  rw [upTo_len _ (hp.mem_iff.mpr hx), deepOf]
  refine List.Perm.length_eq ((List.perm_ext_iff_of_nodup ?_ ?_).mpr fun y => ?_)
  · exact List.Nodup.sublist (List.takeWhile_sublist _) (hp.nodup_iff.mpr hn)
  · exact List.Nodup.sublist List.filter_sublist hn
  · rw [List.mem_filter, decide_eq_true_eq, ← before_iff hn hin hx m (by omega) y]
    exact ⟨fun h => ⟨hp.mem_iff.mp ((List.takeWhile_sublist _).subset h), h⟩, fun h => h.2⟩

/-! ## stable orders -/
def Sb (a b : Att) : Prop := (a.2 < b.2 ∧ attLt b a = false) ∨ (¬ a.2 < b.2 ∧ attLt a b = true)
theorem att_asymm {a b : Att} (h : attLt a b = true) : attLt b a = false := by
  cases q : attLt b a with
  | false => rfl
  | true => have := att_swo.trans a b a h q; rw [att_swo.irrefl] at this; cases this
theorem Sb.strict {a b : Att} (h : attLt a b = true) : Sb a b := by
  by_cases q : a.2 < b.2
  · exact .inl ⟨q, att_asymm h⟩
  · exact .inr ⟨q, h⟩
theorem Sb.le {a b : Att} (h : Sb a b) : attLt b a = false := by
  rcases h with h | h
  · exact h.2
  · exact att_asymm h.2
theorem Sb.anti {a b : Att} (h : Sb a b) (h' : Sb b a) : False := by
  rcases h with x | x <;> rcases h' with y | y
  · omega
  · rw [x.2] at y; exact absurd y.2 (by simp)
  · rw [y.2] at x; exact absurd x.2 (by simp)
  · rw [att_asymm x.2] at y; exact absurd y.2 (by simp)
theorem qt_sb : ∀ (n : Nat) (u : List Att), u.length ≤ n → u.Pairwise (fun a b => a.2 < b.2) → (qt attLt u).toL.Pairwise Sb := by
  intro n
  induction n with
  | zero =>
    intro u h _
    obtain rfl : u = [] := List.length_eq_zero_iff.mp (Nat.le_zero.mp h)
    rw [qt]; exact .nil
  | succ n ih =>
    intro u h hp
    cases u with
    | nil => rw [qt]; exact .nil
    | cons a r =>
      have hr : r.length ≤ n := by simpa using h
      obtain ⟨ha, hp⟩ := List.pairwise_cons.mp hp
      have lowM : ∀ x, x ∈ (qt attLt (r.filter fun x => attLt x a)).toL → attLt x a = true := fun x hx => (List.mem_filter.mp ((qt_mem _ _ _ (Nat.le_refl _) x).mp hx)).2
      have highM : ∀ x, x ∈ (qt attLt (r.filter fun x => !attLt x a)).toL → x ∈ r ∧ attLt x a = false := fun x hx => by
        have := List.mem_filter.mp ((qt_mem _ _ _ (Nat.le_refl _) x).mp hx)
        exact ⟨this.1, by simpa using this.2⟩
      rw [qt, Tr.toL]
      refine List.pairwise_append.mpr ⟨ih _ (Nat.le_trans (List.length_filter_le _ _) hr) (hp.filter _), List.pairwise_cons.mpr ⟨fun y hy => ?_, ih _ (Nat.le_trans (List.length_filter_le _ _) hr) (hp.filter _)⟩, fun x hx y hy => ?_⟩
      · obtain ⟨h1, h2⟩ := highM y hy
        exact .inl ⟨ha y h1, h2⟩
      · have hxa := lowM x hx
        rcases List.mem_cons.mp hy with rfl | hy
        · exact .strict hxa
        · have h2 := (highM y hy).2
          refine .strict ?_
          cases q : attLt x y with
          | true => rfl
          | false => have := att_swo.ntrans x y a q h2; rw [hxa] at this; cases this
theorem sb_unique {u v : List Att} (hu : u.Pairwise Sb) (hv : v.Pairwise Sb) (hp : u.Perm v) : u = v :=
  List.Perm.eq_of_pairwise (fun _ _ _ _ h h' => (h.anti h').elim) hu hv hp
theorem dealt_perm : ∀ (ss : List PySem.Str) (ps : List Att), (dealtOf ps ss).Perm ps
  | [], ps => .refl _
  | s :: ss, ps => by
    rw [dealtOf]
    exact ((dealt_perm ss _).append_left _).trans (List.filter_append_perm _ ps)
theorem dealt_sb : ∀ (ss : List PySem.Str) (ps : List Att), ss.Pairwise SLt → ps.Pairwise (fun a b => a.2 < b.2) → (∀ p ∈ ps, p.1 ∈ ss) → (dealtOf ps ss).Pairwise Sb
  | [], ps, _, _, h => by
    cases ps with
    | nil => exact .nil
    | cons p r => exact nomatch h p (.head _)
  | s :: ss, ps, hs, hp, h => by
    obtain ⟨h1, h2⟩ := List.pairwise_cons.mp hs
    rw [dealtOf]
    refine List.pairwise_append.mpr ⟨?_, dealt_sb ss _ h2 (hp.filter _) fun p hm => ?_, fun a ha b hb => ?_⟩
    · refine List.Pairwise.imp_of_mem ?_ (hp.filter _)
      intro a b ha hb hab
      have ea := beq_iff_eq.mp (List.mem_filter.mp ha).2
      have eb := beq_iff_eq.mp (List.mem_filter.mp hb).2
      refine .inl ⟨hab, ?_⟩
      unfold attLt
      rw [ea, eb]
      exact decide_eq_false (slt_irrefl s)
    · obtain ⟨hm1, hm2⟩ := List.mem_filter.mp hm
      rcases List.mem_cons.mp (h p hm1) with q | q
      · rw [q] at hm2; simp at hm2
      · exact q
    · have ea := beq_iff_eq.mp (List.mem_filter.mp ha).2
      have hb' := (dealt_perm ss _).mem_iff.mp hb
      obtain ⟨hm1, hm2⟩ := List.mem_filter.mp hb'
      refine .strict ?_
      unfold attLt
      rw [ea]
      refine decide_eq_true (h1 _ ?_)
      rcases List.mem_cons.mp (h b hm1) with q | q
      · rw [q] at hm2; simp at hm2
      · exact q
end Mine

namespace Mine

def code : Nat → Nat
  | 0 => 32
  | 1 => 97
  | 2 => 98
  | _ => 233
def wc (cs : List Int) : List Nat := (digsOf cs).map fun d => code d.toNat
def rt (u : List Nat) (i : Nat) : List Nat := u.drop i ++ u.take i

theorem digs_range (cs : List Int) : ∀ d ∈ digsOf cs, 0 ≤ d ∧ d < 4 := fun d hd => by
  obtain ⟨c, _, rfl⟩ := List.mem_map.mp hd
  exact ⟨Int.fmod_nonneg_of_pos _ (by omega), Int.fmod_lt_of_pos _ (by omega)⟩
theorem letAt_code {d : Int} (h0 : 0 ≤ d) (h4 : d < 4) : letAt d = ⟨#[code d.toNat]⟩ := by
  unfold letAt
  have : d.toNat < 4 := by omega
  generalize d.toNat = r at this
  match r, this with
  | 0, _ => decide +kernel
  | 1, _ => decide +kernel
  | 2, _ => decide +kernel
  | 3, _ => decide +kernel
theorem word_is (cs : List Int) : wordOf cs = ⟨(wc cs).toArray⟩ := by
  have e1 : (digsOf cs).map letAt = signs ⟨(wc cs).toArray⟩ := by
    unfold signs wc
    rw [List.toList_toArray, List.map_map]
    refine List.map_congr_left fun d hd => ?_
    obtain ⟨h0, h4⟩ := digs_range cs d hd
    exact letAt_code h0 h4
  have e2 : ("" : PySem.Str) = ⟨#[]⟩ := by decide +kernel
  unfold wordOf Txt.join
  rw [e1, e2, StrLaws.glued_eq_join, join_nil_signs]
theorem wc_len (cs : List Int) : (wc cs).length = cs.length := by simp [wc, digsOf]
theorem rotS_list (u : List Nat) (i : Nat) : (rotS ⟨u.toArray⟩ i).cps.toList = rt u i := by
  show ((u.toArray.toList.drop i).toArray ++ (u.toArray.toList.take i).toArray).toList = _
  simp [rt]
theorem rt_len (u : List Nat) (i : Nat) : (rt u i).length = u.length := by simp [rt]; omega
theorem rt_mem (u : List Nat) (i : Nat) (c : Nat) : c ∈ rt u i ↔ c ∈ u := by
  rw [rt, List.mem_append, Or.comm, ← List.mem_append, List.take_append_drop]

/-! ## worths -/
theorem worth_acc : ∀ (ds : List Int) (w : Int), ds.foldl (fun w d => 4 * w + d) w = w * 4 ^ ds.length + worthOf ds
  | [], w => by simp [worthOf]
  | d :: ds, w => by
    have h1 := worth_acc ds (4 * w + d)
    have h2 := worth_acc ds (4 * 0 + d)
    simp only [List.foldl_cons, worthOf, List.length_cons] at h1 h2 ⊢
    rw [h1, h2, Int.pow_succ]
    grind
theorem worth_cons (d : Int) (ds : List Int) : worthOf (d :: ds) = d * 4 ^ ds.length + worthOf ds := by
  have := worth_acc ds (4 * 0 + d)
  simp only [worthOf, List.foldl_cons] at this ⊢
  rw [this]; simp
theorem worth_range : ∀ ds : List Int, (∀ d ∈ ds, 0 ≤ d ∧ d < 4) → 0 ≤ worthOf ds ∧ worthOf ds < 4 ^ ds.length
  | [], _ => by simp [worthOf]
  | d :: ds, h => by
    obtain ⟨h0, h4⟩ := h d (.head _)
    obtain ⟨h1, h2⟩ := worth_range ds fun x hx => h x (.tail _ hx)
    rw [worth_cons, List.length_cons, Int.pow_succ]
    have hp : (0 : Int) < 4 ^ ds.length := by exact Int.pow_pos (by omega)
    generalize (4 : Int) ^ ds.length = p at *
    have hd : d = 0 ∨ d = 1 ∨ d = 2 ∨ d = 3 := by omega
    rcases hd with rfl | rfl | rfl | rfl <;> omega
theorem code_lt {a b : Int} (ha : 0 ≤ a ∧ a < 4) (hb : 0 ≤ b ∧ b < 4) : code a.toNat < code b.toNat ↔ a < b := by
  have h1 : a.toNat < 4 := by omega
  have h2 : b.toNat < 4 := by omega
  have e : a < b ↔ a.toNat < b.toNat := by omega
  rw [e]
  generalize a.toNat = x at h1
  generalize b.toNat = y at h2
  have hx : x = 0 ∨ x = 1 ∨ x = 2 ∨ x = 3 := by omega
  have hy : y = 0 ∨ y = 1 ∨ y = 2 ∨ y = 3 := by omega
  rcases hx with rfl | rfl | rfl | rfl <;> rcases hy with rfl | rfl | rfl | rfl <;> simp [code]
theorem code_eq {a b : Int} (ha : 0 ≤ a ∧ a < 4) (hb : 0 ≤ b ∧ b < 4) : code a.toNat = code b.toNat ↔ a = b := by
  have h1 := code_lt ha hb
  have h2 := code_lt hb ha
  omega
theorem worth_lt : ∀ (a b : List Int), a.length = b.length → (∀ d ∈ a, 0 ≤ d ∧ d < 4) → (∀ d ∈ b, 0 ≤ d ∧ d < 4) → (worthOf a < worthOf b ↔ a.map (fun d => code d.toNat) < b.map fun d => code d.toNat)
  | [], [], _, _, _ => by simp [worthOf]
  | x :: a, y :: b, hl, ha, hb => by
    have hl' : a.length = b.length := by simpa using hl
    have ih := worth_lt a b hl' (fun d h => ha d (.tail _ h)) fun d h => hb d (.tail _ h)
    have ra := worth_range a fun d h => ha d (.tail _ h)
    have rb := worth_range b fun d h => hb d (.tail _ h)
    have hx := ha x (.head _)
    have hy := hb y (.head _)
    have cl := code_lt hx hy
    have ce := code_eq hx hy
    rw [worth_cons, worth_cons, List.map_cons, List.map_cons, List.cons_lt_cons_iff, cl, ce, ← ih, hl']
    rw [hl'] at ra
    have hp : (0 : Int) < 4 ^ b.length := Int.pow_pos (by omega)
    generalize (4 : Int) ^ b.length = p at *
    have hx' : x = 0 ∨ x = 1 ∨ x = 2 ∨ x = 3 := by omega
    have hy' : y = 0 ∨ y = 1 ∨ y = 2 ∨ y = 3 := by omega
    rcases hx' with rfl | rfl | rfl | rfl <;> rcases hy' with rfl | rfl | rfl | rfl <;> omega

theorem att_rows (cs : List Int) (i j : Nat) : attLt (rowOf (wordOf cs) j) (rowOf (wordOf cs) i) = decide (worthAt (digsOf cs) j < worthAt (digsOf cs) i) := by
  have e : ∀ i, (rotI (digsOf cs) i).map (fun d => code d.toNat) = rt (wc cs) i := fun i => by simp [rotI, rt, wc, List.map_drop, List.map_take]
  have hr : ∀ i, ∀ d ∈ rotI (digsOf cs) i, 0 ≤ d ∧ d < 4 := fun i d hd => by
    rcases List.mem_append.mp hd with h | h
    · exact digs_range cs d (List.mem_of_mem_drop h)
    · exact digs_range cs d (List.mem_of_mem_take h)
  have hl : ∀ i, (rotI (digsOf cs) i).length = (digsOf cs).length := fun i => by simp [rotI]; omega
  have h := worth_lt (rotI (digsOf cs) j) (rotI (digsOf cs) i) (by rw [hl, hl]) (hr j) (hr i)
  rw [e, e] at h
  show decide ((rotS (wordOf cs) j).cps.toList < (rotS (wordOf cs) i).cps.toList) = _
  rw [word_is, rotS_list, rotS_list, decide_eq_decide]
  exact h.symm

theorem rows_lt (x : PySem.Str) (n : Nat) : (rowsOf x n).Pairwise fun a b => a.2 < b.2 := by
  refine List.pairwise_map.mpr ?_
  refine List.Pairwise.imp ?_ (List.pairwise_lt_range (n := n))
  intro a b h
  show (a : Int) < (b : Int)
  omega
theorem turns_perm (x : PySem.Str) (n : Nat) : (turnsOf x n).Perm (rowsOf x n) := qt_perm _ _ (Nat.le_refl _)
theorem turns_sb (x : PySem.Str) (n : Nat) : (turnsOf x n).Pairwise Sb := qt_sb _ _ (Nat.le_refl _) (rows_lt x n)

theorem ltW_sb (cs : List Int) (i j : Nat) : ltW (worthAt (digsOf cs) j) (j : Int) (worthAt (digsOf cs) i) (i : Int) = true ↔ Sb (rowOf (wordOf cs) j) (rowOf (wordOf cs) i) := by
  unfold Sb ltW
  rw [att_rows, att_rows]
  show _ ↔ (((j : Int) < (i : Int)) ∧ _) ∨ (¬ ((j : Int) < (i : Int)) ∧ _)
  generalize worthAt (digsOf cs) j = a
  generalize worthAt (digsOf cs) i = b
  simp only [Bool.or_eq_true, Bool.and_eq_true, decide_eq_true_eq, beq_iff_eq, decide_eq_false_iff_not]
  omega

theorem count_at {α : Type} {R : α → α → Prop} [DecidableRel R] (hirr : ∀ a, ¬ R a a) (hanti : ∀ a b, R a b → ¬ R b a) : ∀ (l : List α), l.Pairwise R → ∀ (p : Nat) (x : α), l[p]? = some x → l.countP (fun a => decide (R a x)) = p
  | a :: l, h, p, x, hx => by
    obtain ⟨h1, h2⟩ := List.pairwise_cons.mp h
    cases p with
    | zero =>
      simp at hx; subst hx
      rw [List.countP_cons, List.countP_eq_zero.mpr fun b hb => by simpa using hanti _ _ (h1 b hb)]
      simp [hirr]
    | succ p =>
      have hx' : l[p]? = some x := by simpa using hx
      have ih := count_at hirr hanti l h2 p x hx'
      rw [List.countP_cons, ih]
      simp [h1 x (List.mem_of_getElem? hx')]

open Classical in
theorem spot_is (cs : List Int) (i : Nat) (hi : i < cs.length) : (turnsOf (wordOf cs) cs.length)[spotOf (digsOf cs) cs.length i]? = some (rowOf (wordOf cs) i) := by
  have hm : rowOf (wordOf cs) i ∈ turnsOf (wordOf cs) cs.length := (turns_perm _ _).mem_iff.mpr (List.mem_map_of_mem (List.mem_range.mpr hi))
  obtain ⟨p, hp⟩ := List.mem_iff_getElem?.mp hm
  have hc := count_at (R := Sb) (fun a h => h.anti h) (fun a b h h' => h.anti h') _ (turns_sb (wordOf cs) cs.length) p _ hp
  rw [(turns_perm _ _).countP_eq, rowsOf, List.countP_map, List.countP_eq_length_filter] at hc
  have e : spotOf (digsOf cs) cs.length i = p := by
    rw [← hc, spotOf]
    congr 1
    refine List.filter_congr fun j _ => ?_
    show _ = decide (Sb (rowOf (wordOf cs) j) (rowOf (wordOf cs) i))
    rw [Bool.eq_iff_iff, decide_eq_true_eq]
    exact ltW_sb cs i j
  rw [e]; exact hp
end Mine

namespace Mine

/-- the last first -/
def rr (s : List Nat) : List Nat := s.getLast?.getD 0 :: s.dropLast
theorem rr_snoc (l : List Nat) (c : Nat) : rr (l ++ [c]) = c :: l := by simp [rr]
theorem rr_rt {u : List Nat} {i : Nat} (hi : i < u.length) : rr (rt u (i + 1)) = rt u i := by
  have e : rt u (i + 1) = (u.drop (i + 1) ++ u.take i) ++ [u[i]] := by rw [rt, List.take_add_one, List.getElem?_eq_getElem hi]; simp
  rw [e, rr_snoc, rt, List.drop_eq_getElem_cons hi]; rfl
theorem rr_rt0 {u : List Nat} (h : 0 < u.length) : rr (rt u 0) = rt u (u.length - 1) := by
  have e : rt u 0 = rt u (u.length - 1 + 1) := by
    rw [Nat.sub_add_cancel h]; simp [rt]
  rw [e, rr_rt (by omega)]
theorem rr_perm {u : List Nat} (h : 0 < u.length) : ((List.range u.length).map fun i => rr (rt u i)).Perm ((List.range u.length).map (rt u)) := by
  obtain ⟨m, hm⟩ : ∃ m, u.length = m + 1 := ⟨u.length - 1, by omega⟩
  have e1 : ((List.range (m + 1)).map fun i => rr (rt u i)) = rt u m :: (List.range m).map (rt u) := by
    rw [List.range_succ_eq_map, List.map_cons, List.map_map, rr_rt0 h, hm]
    congr 1
    refine List.map_congr_left fun i hi => ?_
    exact rr_rt (by have := List.mem_range.mp hi; omega)
  rw [hm, e1, List.range_succ, List.map_append]
  exact (List.perm_append_singleton (rt u m) ((List.range m).map (rt u))).symm
theorem lt_app : ∀ (a b x y : List Nat), a.length = b.length → a < b → a ++ x < b ++ y
  | [], [], _, _, _, h => absurd h (List.lt_irrefl _)
  | p :: a, q :: b, x, y, hl, h => by
    rw [List.cons_append, List.cons_append, List.cons_lt_cons_iff]
    rcases List.cons_lt_cons_iff.mp h with h | ⟨e, h⟩
    · exact .inl h
    · exact .inr ⟨e, lt_app a b x y (by simpa using hl) h⟩
theorem snoc_of {s : List Nat} (h : 0 < s.length) : ∃ l c, s = l ++ [c] := by
  rcases List.eq_nil_or_concat s with e | ⟨l, c, e⟩
  · rw [e] at h; simp at h
  · exact ⟨l, c, by rw [e, List.concat_eq_append]⟩

section
variable {u : List Nat} {T : List Att} {last : List PySem.Str} {D : List Att}
abbrev txt (t : Att) : List Nat := t.1.cps.toList

theorem bwt (h : 0 < u.length) (hT : T = turnsOf ⟨u.toArray⟩ u.length) (hlast : last = T.map lastC) (hD : D = (qt attLt (placesOf last u.length)).toL) :
    (D.map fun p => rr ((T.map txt).getD p.2.toNat [])) = T.map txt := by
  have Tp : T.Perm (rowsOf ⟨u.toArray⟩ u.length) := hT ▸ turns_perm _ _
  have Ts : T.Pairwise Sb := hT ▸ turns_sb _ _
  have Tl : T.length = u.length := by rw [Tp.length_eq]; simp [rowsOf]
  have rowsT : (rowsOf ⟨u.toArray⟩ u.length).map txt = (List.range u.length).map (rt u) := by
    rw [rowsOf, List.map_map]
    refine List.map_congr_left fun i _ => ?_
    exact rotS_list u i
  have TSp : (T.map txt).Perm ((List.range u.length).map (rt u)) := rowsT ▸ Tp.map txt
  have TSl : ∀ s ∈ T.map txt, s.length = u.length := fun s hs => by
    obtain ⟨i, _, rfl⟩ := List.mem_map.mp (TSp.mem_iff.mp hs)
    exact rt_len u i
  have Pl : (placesOf last u.length).Pairwise fun a b => a.2 < b.2 := by
    refine List.pairwise_map.mpr (List.Pairwise.imp ?_ (List.pairwise_lt_range (n := u.length)))
    intro a b h
    show (a : Int) < (b : Int)
    omega
  have Dp : D.Perm (placesOf last u.length) := hD ▸ qt_perm _ _ (Nat.le_refl _)
  have Ds : D.Pairwise Sb := hD ▸ qt_sb _ _ (Nat.le_refl _) Pl
  have TSs : (T.map txt).Pairwise fun a b => ¬ b < a := by
    refine List.pairwise_map.mpr (Ts.imp ?_)
    intro a b hab
    exact of_decide_eq_false hab.le
  refine List.Perm.eq_of_pairwise (le := fun a b => ¬ b < a) (fun a b _ _ h h' => List.le_antisymm (List.not_lt.mp h) (List.not_lt.mp h')) ?_ TSs ?_
  · refine List.pairwise_map.mpr (List.Pairwise.imp_of_mem ?_ Ds)
    intro a b ha hb hab
    obtain ⟨r, hr, rfl⟩ := List.mem_map.mp (Dp.mem_iff.mp ha)
    obtain ⟨r', hr', rfl⟩ := List.mem_map.mp (Dp.mem_iff.mp hb)
    have hr := List.mem_range.mp hr
    have hr' := List.mem_range.mp hr'
    have at_ : ∀ r, r < u.length → ∃ l c, (T.map txt)[r]? = some (l ++ [c]) ∧ last.getD r "" = ⟨#[c]⟩ ∧ l.length + 1 = u.length := fun r hr => by
      have hrT : r < T.length := by omega
      have hs : (T.map txt)[r]? = some (txt T[r]) := by rw [List.getElem?_map, List.getElem?_eq_getElem hrT]; rfl
      have hsl := TSl _ (List.mem_of_getElem? hs)
      obtain ⟨l, c, e⟩ := snoc_of (s := txt T[r]) (by omega)
      refine ⟨l, c, by rw [hs, e], ?_, by rw [e] at hsl; simpa using hsl⟩
      rw [hlast, List.getD_eq_getElem?_getD, List.getElem?_map, List.getElem?_eq_getElem hrT]
      show lastC T[r] = _
      have e' : T[r].1.cps.toList = l ++ [c] := e
      unfold lastC
      rw [e']; simp
    obtain ⟨l, c, h1, h2, h3⟩ := at_ r hr
    obtain ⟨l', c', h1', h2', h3'⟩ := at_ r' hr'
    simp only [Int.toNat_natCast, List.getD_eq_getElem?_getD, h1, h1', Option.getD_some]
    rw [rr_snoc, rr_snoc]
    intro hlt
    have ea : ∀ (x y : Nat) (i j : Int), attLt ((⟨#[x]⟩ : PySem.Str), i) ((⟨#[y]⟩ : PySem.Str), j) = decide (x < y) := fun x y i j => by
      unfold attLt
      rw [decide_eq_decide]
      show [x] < [y] ↔ x < y
      rw [List.cons_lt_cons_iff]
      simp
    rw [h2, h2'] at hab
    have hle := hab.le
    rw [ea, decide_eq_false_iff_not] at hle
    rcases List.cons_lt_cons_iff.mp hlt with q | ⟨rfl, q⟩
    · exact hle q
    · rcases hab with ⟨q1, _⟩ | ⟨_, q2⟩
      · have q1' : r < r' := by
          have : (r : Int) < (r' : Int) := q1
          omega
        have hnot : ¬ (l' ++ [c']) < (l ++ [c']) := by
          have hL : r < (T.map txt).length := (List.getElem?_eq_some_iff.mp h1).1
          have hL' : r' < (T.map txt).length := (List.getElem?_eq_some_iff.mp h1').1
          have := List.pairwise_iff_getElem.mp TSs r r' hL hL' q1'
          rw [(List.getElem?_eq_some_iff.mp h1).2, (List.getElem?_eq_some_iff.mp h1').2] at this
          exact this
        exact hnot (lt_app l' l [c'] [c'] (by omega) q)
      · rw [ea, decide_eq_true_eq] at q2
        exact Nat.lt_irrefl _ q2
  · refine (Dp.map _).trans ?_
    have e : ((placesOf last u.length).map fun p => rr ((T.map txt).getD p.2.toNat [])) = (T.map txt).map rr := by
      rw [placesOf, List.map_map]
      apply List.ext_getElem
      · simp [Tl]
      · intro i h1 h2
        have hi : i < u.length := by simpa using h1
        simp [List.getD_eq_getElem?_getD, Tl, hi]
    rw [e]
    have e2 : ((List.range u.length).map (rt u)).map rr = (List.range u.length).map fun i => rr (rt u i) := by rw [List.map_map]; rfl
    exact (TSp.map rr).trans (e2 ▸ (rr_perm h).trans TSp.symm)

theorem told_is (h : 0 < u.length) (hT : T = turnsOf ⟨u.toArray⟩ u.length) (hlast : last = T.map lastC) (hD : D = (qt attLt (placesOf last u.length)).toL) {r : Nat} {t : Att} (hr : T[r]? = some t) :
    ∀ m, m ≤ u.length → (T.map txt)[atAt D r m]? = some (rt (txt t) m) ∧ toldAt D last r m = ⟨((txt t).take m).toArray⟩ := by
  have Tp : T.Perm (rowsOf ⟨u.toArray⟩ u.length) := hT ▸ turns_perm _ _
  have Tl : T.length = u.length := by rw [Tp.length_eq]; simp [rowsOf]
  have tlen : ∀ t ∈ T, (txt t).length = u.length := fun t ht => by
    obtain ⟨i, _, rfl⟩ := List.mem_map.mp (Tp.mem_iff.mp ht)
    show (rotS ⟨u.toArray⟩ i).cps.toList.length = _
    rw [rotS_list, rt_len]
  have Dp : D.Perm (placesOf last u.length) := hD ▸ qt_perm _ _ (Nat.le_refl _)
  have Dl : D.length = u.length := by rw [Dp.length_eq]; simp [placesOf]
  have E := bwt h hT hlast hD
  have hst := tlen t (List.mem_of_getElem? hr)
  intro m
  induction m with
  | zero =>
    intro _
    refine ⟨?_, ?_⟩
    · rw [atAt, List.getElem?_map, hr]; simp [rt]
    · rw [toldAt]
      show ("" : PySem.Str) = ⟨#[]⟩
      decide +kernel
  | succ m ih =>
    intro hm
    obtain ⟨i1, i2⟩ := ih (by omega)
    have ha : atAt D r m < (T.map txt).length := (List.getElem?_eq_some_iff.mp i1).1
    have haD : atAt D r m < D.length := by rw [List.length_map] at ha; omega
    have hDa : D[atAt D r m]? = some D[atAt D r m] := List.getElem?_eq_getElem haD
    have hpin := Dp.mem_iff.mp (List.getElem_mem haD)
    obtain ⟨r', hr', ep⟩ := List.mem_map.mp hpin
    have hr' := List.mem_range.mp hr'
    rw [← ep] at hDa
    have hnext : atAt D r (m + 1) = r' := by rw [atAt, hDa]; simp
    have hr'T : r' < T.length := by omega
    have hs : (T.map txt)[r']? = some (txt T[r']) := by rw [List.getElem?_map, List.getElem?_eq_getElem hr'T]; rfl
    have hsl := tlen _ (List.getElem_mem hr'T)
    -- the row before
    have hE : rr (txt T[r']) = rt (txt t) m := by
      have e1 : (D.map fun p => rr ((T.map txt).getD p.2.toNat []))[atAt D r m]? = some (rr (txt T[r'])) := by
        rw [List.getElem?_map, hDa]
        simp [List.getD_eq_getElem?_getD, hr'T]
      rw [E, i1] at e1
      exact (Option.some.inj e1).symm
    obtain ⟨l, c, el⟩ := snoc_of (s := txt T[r']) (by omega)
    have hmt : m < (txt t).length := by omega
    rw [el, rr_snoc, rt, List.drop_eq_getElem_cons hmt, List.cons_append] at hE
    obtain ⟨hc, hl⟩ := List.cons.inj hE
    refine ⟨?_, ?_⟩
    · rw [hnext, hs, el, hl, hc, rt, List.take_add_one, List.getElem?_eq_getElem hmt]; simp
    · have hlastr : last.getD r' "" = ⟨#[c]⟩ := by
        rw [hlast, List.getD_eq_getElem?_getD, List.getElem?_map, List.getElem?_eq_getElem hr'T]
        show lastC T[r'] = _
        have e' : T[r'].1.cps.toList = l ++ [c] := el
        unfold lastC
        rw [e']; simp
      rw [toldAt, hnext, i2, hlastr, List.take_add_one, List.getElem?_eq_getElem hmt, hc]
      show (⟨((txt t).take m).toArray ++ #[(txt t)[m]]⟩ : PySem.Str) = _
      simp
end
end Mine

namespace Mine

theorem lets_nodup : lets.Nodup := by simp [lets, ofString_inj]
theorem lets_lt : lets.Pairwise SLt := by decide +kernel
theorem start_perm (cs : List Int) : (startOf cs).Perm lets := by
  rw [startOf]
  exact List.perm_append_comm.trans (by rw [List.take_append_drop])
theorem code_in (r : Nat) : (⟨#[code r]⟩ : PySem.Str) ∈ lets := by
  match r with
  | 0 => decide +kernel
  | 1 => decide +kernel
  | 2 => decide +kernel
  | n + 3 => show (⟨#[233]⟩ : PySem.Str) ∈ lets; decide +kernel
theorem code_ok (r : Nat) : code r < 0x110000 := by
  match r with
  | 0 => decide
  | 1 => decide
  | 2 => decide
  | n + 3 => show 233 < 0x110000; decide

theorem plain1 (cs : List Int) (h : 0 < cs.length) : Plain1 cs (wordOf cs) (turnsOf (wordOf cs) cs.length) ((turnsOf (wordOf cs) cs.length).map lastC) (dealtOf (placesOf ((turnsOf (wordOf cs) cs.length).map lastC) cs.length) lets) := by
  have hu := word_is cs
  have hul := wc_len cs
  generalize hT : turnsOf (wordOf cs) cs.length = T
  have Tp : T.Perm (rowsOf (wordOf cs) cs.length) := hT ▸ turns_perm _ _
  have Tl : T.length = cs.length := by rw [Tp.length_eq]; simp [rowsOf]
  have ttxt : ∀ t ∈ T, ∃ i, txt t = rt (wc cs) i := fun t ht => by
    obtain ⟨i, _, rfl⟩ := List.mem_map.mp (Tp.mem_iff.mp ht)
    refine ⟨i, ?_⟩
    show (rotS (wordOf cs) i).cps.toList = _
    rw [hu, rotS_list]
  have rok : ∀ i, PyData.strOk (rotS (wordOf cs) i) = true := fun i => by
    unfold PyData.strOk
    rw [Array.all_eq_true']
    intro c hc
    have hc' : c ∈ (rotS (wordOf cs) i).cps.toList := by simpa using hc
    rw [hu, rotS_list, rt_mem] at hc'
    obtain ⟨d, _, rfl⟩ := List.mem_map.mp hc'
    exact decide_eq_true (code_ok _)
  have tne : ∀ t ∈ T, ∃ c, t.1.cps.toList.getLast? = some c := fun t ht => by
    obtain ⟨i, e⟩ := ttxt t ht
    have e' : t.1.cps.toList = rt (wc cs) i := e
    rw [e']
    obtain ⟨l, c, q⟩ := snoc_of (s := rt (wc cs) i) (by rw [rt_len, hul]; exact h)
    exact ⟨c, by rw [q]; simp⟩
  have lin : ∀ y ∈ T.map lastC, y ∈ lets := fun y hy => by
    obtain ⟨t, ht, rfl⟩ := List.mem_map.mp hy
    obtain ⟨c, hc⟩ := tne t ht
    obtain ⟨i, e⟩ := ttxt t ht
    have e' : t.1.cps.toList = rt (wc cs) i := e
    have hm := List.mem_of_getLast? hc
    rw [e', rt_mem] at hm
    obtain ⟨d, _, q⟩ := List.mem_map.mp hm
    unfold lastC
    rw [hc, ← q]
    exact code_in _
  have lst : ∀ y ∈ T.map lastC, y ∈ startOf cs := fun y hy => (start_perm cs).mem_iff.mpr (lin y hy)
  have Pl : (placesOf (T.map lastC) cs.length).Pairwise fun a b => a.2 < b.2 := by
    refine List.pairwise_map.mpr (List.Pairwise.imp ?_ (List.pairwise_lt_range (n := cs.length)))
    intro a b h
    show (a : Int) < (b : Int)
    omega
  have pin : ∀ p ∈ placesOf (T.map lastC) cs.length, p.1 ∈ lets ∧ 0 ≤ p.2 ∧ p.2 < cs.length := fun p hp => by
    obtain ⟨i, hi, rfl⟩ := List.mem_map.mp hp
    have hi := List.mem_range.mp hi
    refine ⟨?_, by show (0 : Int) ≤ (i : Int); omega, by show (i : Int) < _; omega⟩
    have hl : i < (T.map lastC).length := by rw [List.length_map, Tl]; exact hi
    show (T.map lastC).getD i "" ∈ lets
    rw [List.getD_eq_getElem?_getD, List.getElem?_eq_getElem hl]
    exact lin _ (List.getElem_mem hl)
  have Dp := dealt_perm lets (placesOf (T.map lastC) cs.length)
  have De : (qt attLt (placesOf (T.map lastC) cs.length)).toL = dealtOf (placesOf (T.map lastC) cs.length) lets :=
    sb_unique (qt_sb _ _ (Nat.le_refl _) Pl) (dealt_sb _ _ lets_lt Pl fun p hp => (pin p hp).1) ((qt_perm _ _ (Nat.le_refl _)).trans Dp.symm)
  exact {
    xw := rfl
    tw := hT.symm
    lw := rfl
    dw := rfl
    hlen := by rw [hu]; show (wc cs).toArray.size = _; simp [hul]
    tlen := Tl
    spot := fun i hi => by rw [← hT]; exact spot_is cs i hi
    ne := tne
    inL := lin
    sgIn := fun m y hy => (sg_perm _ _ m).mem_iff.mpr (lst y (List.mem_of_getElem? hy))
    sgLen := fun m => by rw [(sg_perm _ _ m).length_eq, (start_perm cs).length_eq, lets]; rfl
    deep := fun m y hy => deep_is ((start_perm cs).nodup_iff.mpr lets_nodup) lst hy
    dealt := De
    dIn := fun p hp => (pin p (Dp.mem_iff.mp hp)).2
    told := fun r t hr => by
      have hT' : T = turnsOf ⟨(wc cs).toArray⟩ (wc cs).length := by rw [← hT, hu, hul]
      have := (told_is (by rw [hul]; exact h) hT' rfl (D := dealtOf (placesOf (T.map lastC) cs.length) lets) (by rw [hul]; exact De.symm) hr (wc cs).length (Nat.le_refl _)).2
      rw [hul] at this
      rw [this]
      obtain ⟨i, e⟩ := ttxt t (List.mem_of_getElem? hr)
      have hl : (txt t).length = cs.length := by rw [e, rt_len, hul]
      rw [List.take_of_length_le (by omega)]
    okT := fun t ht => by
      obtain ⟨i, _, rfl⟩ := List.mem_map.mp (Tp.mem_iff.mp ht)
      exact rok i
    okRow := fun i _ => rok i }
end Mine

set_option maxRecDepth 100000 in
set_option maxHeartbeats 8000000 in
theorem PySem.Challenge.cw_rl0156_01_holds : PySem.Challenge.rw_rl0156_01.Holds := by
  w_on
  o_law
  k_head
  (case hw => w_witness2)
  k_fill
  intro w s₀ s₁ mg mb G Y fa o pm cd doc dV kV ho hd hcd hD hmg hg args vals as hpre hlay hrd hwl hlo
  have KX := km_in_of Y
  km_tabs Y
  have X := (Ground.X G).1
  have V := (Ground.X G).2
  refine Ground.open G ?_
  intro T B D TE TW
  try (refine guard_noD D (by decide +kernel) ?_; clear D)
  have hmg' := hmg
  km_lay T hmg ho hd cd
  clear hmg
  wrow_args hpre hlay hrd hwl hlo
  clear hd hD hcd X V TE TW B
  rename_i xs _ _ _ _ _ _ _ l vals _ hl _ w1 _ hi _ _ _
  have hl0 := Mine.isL0_of_well w1 hl
  have hx : ¬ (63 : Int) < (xs.length : Int) := by assumption
  have efa : fa = 66 := by
    have e : mg "law" = some (.ref 66) := mg_of KX T.g (by kernel_rfl)
    have e2 : mg "law" = some (.ref fa) := hmg'
    rw [e] at e2; exact (Value.ref.inj (Option.some.inj e2)).symm
  subst efa
  have ht : ∀ q ∈ ([(60, 56, "_law_dealt.<locals>.<lambda>"), (48, 44, "_law_fronted_again.<locals>.<lambda>"), (41, 37, "_law_fronted.<locals>.<lambda>"), (27, 23, "_law_risen.<locals>.<lambda>")] : List (PySem.Addr × PySem.Addr × PySem.Str)), CodeHd s₁.heap q.1 q.2.1 ∧ s₁.heap.get? q.2.1 = some (tabObj #[]) := fun q hq => by
    simp only [List.mem_cons, List.not_mem_nil, or_false] at hq
    rcases hq with rfl | rfl | rfl | rfl
    · exact hT9 _ (.head _)
    · exact hT9 _ (.tail _ (.head _))
    · exact hT9 _ (.tail _ (.tail _ (.head _)))
    · exact hT9 _ (.tail _ (.tail _ (.tail _ (.head _))))
  have hBs := Mine.base_of T ht
  have hWd := Mine.wd_of (mg := mg) (mb := mb) ht
  have ap : Mine.Apart ⟨s₁.heap, [(60, 56, "_law_dealt.<locals>.<lambda>"), (48, 44, "_law_fronted_again.<locals>.<lambda>"), (41, 37, "_law_fronted.<locals>.<lambda>"), (27, 23, "_law_risen.<locals>.<lambda>")], mg, mb⟩ := fun p hp q hq e => by
    simp only [List.mem_cons, List.not_mem_nil, or_false] at hp hq
    rcases hp with rfl | rfl | rfl | rfl <;> rcases hq with rfl | rfl | rfl | rfl <;> first | rfl | exact absurd e (by decide)
  have P := Mine.plain1 (Mine.cellsOf xs (max 3 (min xs.length 10))) (by simp only [Mine.cellsOf, List.length_map, List.length_range]; omega)
  refine Mine.law_true (k := 21) hBs rfl hWd hg (by decide) hl0 hi (Mine.law_ok (f1 := 21) (f3 := 28) (f4 := 35) (f5 := 42) (f6 := 49) (f7 := 54) (f8 := 61) (c3 := 27) (t3 := 23) (c5 := 41) (t5 := 37) (c6 := 48) (t6 := 44) (c8 := 60) (t8 := 56) hBs ap
    ⟨mg_of KX T.g (by kernel_rfl), KX 21 _ rfl, rfl, codeRec_of KX (by kernel_rfl)⟩
    ⟨mg_of KX T.g (by kernel_rfl), KX 28 _ rfl, rfl, codeRec_of KX (by kernel_rfl)⟩ (.tail _ (.tail _ (.tail _ (.head _))))
    ⟨mg_of KX T.g (by kernel_rfl), KX 35 _ rfl, rfl, codeRec_of KX (by kernel_rfl)⟩
    ⟨mg_of KX T.g (by kernel_rfl), KX 42 _ rfl, rfl, codeRec_of KX (by kernel_rfl)⟩ (.tail _ (.tail _ (.head _)))
    ⟨mg_of KX T.g (by kernel_rfl), KX 49 _ rfl, rfl, codeRec_of KX (by kernel_rfl)⟩ (.tail _ (.head _))
    ⟨mg_of KX T.g (by kernel_rfl), KX 54 _ rfl, rfl, codeRec_of KX (by kernel_rfl)⟩
    ⟨mg_of KX T.g (by kernel_rfl), KX 61 _ rfl, rfl, codeRec_of KX (by kernel_rfl)⟩ (.head _)
    ⟨mg_of KX T.g (by kernel_rfl), KX 66 _ rfl, rfl, codeRec_of KX (by kernel_rfl)⟩
    (fun x hx => by
      simp only [List.mem_cons, List.not_mem_nil, or_false] at hx
      rcases hx with rfl | rfl | rfl | rfl | rfl <;> exact mg_none_of KX T.g (by kernel_rfl))
    xs (by omega) _ rfl P) fun s' h1 h2 h3 => ?_
  refine ⟨.inl ⟨.bool true, .bool true, [], rfl, ?_, ReadsW.bool true, ?_, ?_⟩, h1, h2, ?_⟩
  · exact raisesW_false (by wrow_none_raised)
  · wrow_post
  · exact fun _ => ⟨List.nodup_nil, fun _ hm => nomatch hm⟩
  · rw [h3]; exact AllBare.empty
