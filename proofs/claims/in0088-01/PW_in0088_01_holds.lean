import PyProof.Rows.All
import Wide.All
import OpenK.AllK
import Wide.FinOn
import PySem.Challenge.RW_in0088_01
set_option Elab.async false
set_option maxRecDepth 100000

section
open PySem PySem.W PySem.Calls PyProof.Rows
namespace Mine

/-- the addresses of the frames of a stack -/
def frs (l : List Env) : List Addr := l.filterMap (·.frame)

/-- what stood stands; the frames F up to their slots -/
structure Ext (F : List Addr) (s s' : Shared) : Prop where
  keep : ∀ b o, b ∉ F → s.heap.get? b = some o → s'.heap.get? b = some o
  slot : ∀ b o, b ∈ F → s.heap.get? b = some o → ∃ sl, s'.heap.get? b = some { o with slots := sl }
  os : s'.os = s.os
  gens : s'.gens = s.gens

theorem Ext.refl (F : List Addr) (s : Shared) : Ext F s s :=
  ⟨fun _ _ _ e => e, fun _ o _ e => ⟨o.slots, e⟩, rfl, rfl⟩
theorem Ext.trans {F : List Addr} {s₁ s₂ s₃ : Shared} (x : Ext F s₁ s₂) (y : Ext F s₂ s₃) : Ext F s₁ s₃ :=
  ⟨fun b o hb e => y.keep b o hb (x.keep b o hb e),
   fun b o hb e => by
    obtain ⟨sl, e1⟩ := x.slot b o hb e
    obtain ⟨sl', e2⟩ := y.slot b _ hb e1
    exact ⟨sl', e2⟩,
   y.os.trans x.os, y.gens.trans x.gens⟩
/-- fewer frames: what is kept exactly is kept up to slots -/
theorem Ext.mono {F F' : List Addr} {s s' : Shared} (x : Ext F s s') (h : ∀ b, b ∈ F → b ∈ F') : Ext F' s s' :=
  ⟨fun b o hb e => x.keep b o (fun q => hb (h b q)) e,
   fun b o _ e => by
    by_cases hF : b ∈ F
    · exact x.slot b o hF e
    · exact ⟨o.slots, x.keep b o hF e⟩,
   x.os, x.gens⟩
/-- a frame that did not stand at the start is no frame of the relation -/
theorem Ext.drop {F : List Addr} {L : Addr} {s s' : Shared} (x : Ext (L :: F) s s') (h : s.heap.get? L = none) : Ext F s s' :=
  ⟨fun b o hb e => by
    by_cases q : b = L
    · subst q; rw [h] at e; cases e
    · exact x.keep b o (fun m => by rcases List.mem_cons.mp m with m | m; exact q m; exact hb m) e,
   fun b o hb e => x.slot b o (List.mem_cons_of_mem _ hb) e, x.os, x.gens⟩

/-- every object is kept up to its slots -/
theorem Ext.any {F : List Addr} {s s' : Shared} (x : Ext F s s') {b : Addr} {o : Obj} (e : s.heap.get? b = some o) : ∃ sl, s'.heap.get? b = some { o with slots := sl } := by
  by_cases hF : b ∈ F
  · exact x.slot b o hF e
  · exact ⟨o.slots, x.keep b o hF e⟩
theorem Ext.ns {F : List Addr} {s s' : Shared} (x : Ext F s s') {a : Addr} {m : Str → Option Value} (n : s.heap.Ns a m) : s'.heap.Ns a m := by
  obtain ⟨o, es, ep, e, r⟩ := n
  obtain ⟨sl, e'⟩ := x.any e
  exact ⟨_, es, ep, e', r⟩
theorem Ext.gone {F : List Addr} {s s' : Shared} (x : Ext F s s') {a : Addr} (n : s'.heap.get? a = none) : s.heap.get? a = none := by
  cases e : s.heap.get? a with
  | none => rfl
  | some o => obtain ⟨sl, e'⟩ := x.any e; rw [n] at e'; cases e'

/-- a step that lays a new object -/
theorem Ext.push (F : List Addr) (s : Shared) (o : Obj) (tk : Nat) : Ext F s { s with heap := s.heap.push o, toks := tk } :=
  ⟨fun _ _ _ e => Heap.get?_push_of_some _ e, fun _ o' _ e => ⟨o'.slots, Heap.get?_push_of_some _ e⟩, rfl, rfl⟩
/-- a step that changes one object that did not stand -/
theorem Ext.of_same {F : List Addr} {s s₁ : Shared} {h' : Heap} {tk : Nat} {a : Addr} (x : Ext F s s₁) (hs : Heap.SameBut a s₁.heap h') (n : s.heap.get? a = none) :
    Ext F s { s₁ with heap := h', toks := tk } :=
  ⟨fun b o hb e => by
    have hne : b ≠ a := fun q => by subst q; rw [n] at e; cases e
    exact (hs.2 b hne).trans (x.keep b o hb e),
   fun b o hb e => by
    have hne : b ≠ a := fun q => by subst q; rw [n] at e; cases e
    obtain ⟨sl, e1⟩ := x.slot b o hb e
    exact ⟨sl, (hs.2 b hne).trans e1⟩,
   x.os, x.gens⟩
theorem Ext.of_extBut {F : List Addr} {s s₁ : Shared} {h' : Heap} {tk : Nat} {a : Addr} (x : Ext F s s₁) (hs : Heap.ExtBut a s₁.heap h') (n : s.heap.get? a = none) :
    Ext F s { s₁ with heap := h', toks := tk } :=
  ⟨fun b o hb e => by
    have hne : b ≠ a := fun q => by subst q; rw [n] at e; cases e
    exact hs b _ hne (x.keep b o hb e),
   fun b o hb e => by
    have hne : b ≠ a := fun q => by subst q; rw [n] at e; cases e
    obtain ⟨sl, e1⟩ := x.slot b o hb e
    exact ⟨sl, hs b _ hne e1⟩,
   x.os, x.gens⟩
theorem Ext.of_keeps {F : List Addr} {s : Shared} {h' : Heap} {tk : Nat} (hs : ∀ b o, s.heap.get? b = some o → h'.get? b = some o) :
    Ext F s { s with heap := h', toks := tk } :=
  ⟨fun b o _ e => hs b o e, fun b o _ e => ⟨o.slots, hs b o e⟩, rfl, rfl⟩
theorem Ext.toks {F : List Addr} {s : Shared} (tk : Nat) : Ext F s { s with toks := tk } :=
  ⟨fun _ _ _ e => e, fun _ o _ e => ⟨o.slots, e⟩, rfl, rfl⟩

/-- where a walk stands: no exception is handled, the stack is `outer`, there is room; B₀ stands -/
structure Cx (B₀ : Heap) (A : Around) (outer : List Env) (n : Nat) (s : Shared) : Prop where
  hd : A.handled = none
  fr : A.frames = some outer
  room : A.depth + A.units ≤ n
  ne : outer ≠ []
  stays : B₀.StaysIn s.heap
  funs : ∀ e ∈ outer, e.scope.kind ≠ .module ∧ ∃ L, e.frame = some L ∧ B₀.objs.size ≤ L ∧ ∃ o es ep, s.heap.get? L = some o ∧ o.data = .dict es ep

theorem none_of_size {h : Heap} {a : Addr} (q : h.objs.size ≤ a) : h.get? a = none := Heap.get?_none_of_le q
theorem Cx.size {B₀ : Heap} {A : Around} {outer : List Env} {n : Nat} {s : Shared} (c : Cx B₀ A outer n s) : B₀.objs.size ≤ s.heap.objs.size := by
  cases hq : outer with
  | nil => exact absurd hq c.ne
  | cons e r =>
    obtain ⟨_, L, _, hL, o, _, _, ho, _⟩ := c.funs e (by rw [hq]; exact List.mem_cons_self)
    exact Nat.le_of_lt (Nat.lt_of_le_of_lt hL (Heap.lt_size ho))
theorem Cx.no {B₀ : Heap} {A : Around} {outer : List Env} {n : Nat} {s : Shared} (c : Cx B₀ A outer n s) {b : Addr} (m : b ∈ frs outer) : B₀.get? b = none := by
  obtain ⟨env, he, hf⟩ := List.mem_filterMap.mp m
  obtain ⟨_, L, hL, hn, _⟩ := c.funs env he
  rw [hf] at hL; cases hL; exact none_of_size hn
theorem Cx.ext {B₀ : Heap} {A : Around} {outer : List Env} {n : Nat} {s s' : Shared} (c : Cx B₀ A outer n s) (x : Ext (frs outer) s s') : Cx B₀ A outer n s' where
  hd := c.hd
  fr := c.fr
  room := c.room
  ne := c.ne
  stays := fun b o e => x.keep b o (fun m => by rw [c.no m] at e; cases e) (c.stays b o e)
  funs := fun e he => by
    obtain ⟨h1, L, hL, hn, o, es, ep, ho, hd⟩ := c.funs e he
    obtain ⟨sl, ho'⟩ := x.any ho
    exact ⟨h1, L, hL, hn, _, es, ep, ho', hd⟩
theorem Cx.funFrames {B₀ : Heap} {A : Around} {outer : List Env} {n : Nat} {s : Shared} (c : Cx B₀ A outer n s) : s.heap.FunFrames B₀ outer := by
  have : ∀ l : List Env, (∀ e ∈ l, e ∈ outer) → s.heap.FunFrames B₀ l := by
    intro l
    induction l with
    | nil => intro _; trivial
    | cons e r ih =>
      intro h
      obtain ⟨h1, L, hL, hn, o, es, ep, ho, hd⟩ := c.funs e (h e List.mem_cons_self)
      exact ⟨h1, ⟨L, o, hL, none_of_size hn, ho, fun vs q => by rw [hd] at q; cases q⟩, ih fun e' he' => h e' (List.mem_cons_of_mem _ he')⟩
  exact this outer fun _ h => h
theorem Cx.mono {B₀ : Heap} {A : Around} {outer : List Env} {n n' : Nat} {s : Shared} (c : Cx B₀ A outer n s) (h : n ≤ n') : Cx B₀ A outer n' s :=
  { c with room := Nat.le_trans c.room h }
theorem Cx.in1 {B₀ : Heap} {A : Around} {outer : List Env} {n : Nat} {s : Shared} (c : Cx B₀ A outer n s) : Cx B₀ A.in1 outer (n + 1) s :=
  { c with hd := c.hd, fr := c.fr, room := by have := c.room; simp; omega }
theorem Cx.depth {B₀ : Heap} {A : Around} {outer : List Env} {n : Nat} {s : Shared} (c : Cx B₀ A outer n s) (h : n < 900) : A.depth < recursionLimit := by
  have := c.room; unfold recursionLimit; omega
theorem Cx.units {B₀ : Heap} {A : Around} {outer : List Env} {n : Nat} {s : Shared} (c : Cx B₀ A outer n s) (h : n < 900) : A.units + 100 < cLine := by
  have := c.room; unfold cLine; omega
end Mine
end

section
open PySem PySem.W PySem.Calls PyProof.Rows
namespace Mine

/-- every list and tuple stands exactly -/
def SeqUp (h h' : Heap) : Prop := ∀ a o vs n, h.get? a = some o → o.data = .seq vs n → h'.get? a = some o
theorem SeqUp.of_keep {h h' : Heap} (k : h.StaysIn h') : SeqUp h h' := fun a o _ _ e _ => k a o e
theorem SeqUp.trans {h₁ h₂ h₃ : Heap} (x : SeqUp h₁ h₂) (y : SeqUp h₂ h₃) : SeqUp h₁ h₃ := fun a o vs n e d => y a o vs n (x a o vs n e d) d
theorem SeqUp.same {h h' : Heap} {L : Addr} {m : Str → Option Value} (n : h.Ns L m) (s : Heap.SameBut L h h') : SeqUp h h' := fun a o vs k e d => by
  have hne : a ≠ L := fun q => by
    subst q
    obtain ⟨o', es, ep, e', d', _⟩ := n
    rw [e] at e'; cases e'; rw [d] at d'; cases d'
  exact (s.2 a hne).trans e

mutual
/-- a value bears a datum without dicts -/
inductive Rd (h : Heap) : Value → PyData → Prop
  | none : Rd h .none .none
  | bool (b) : Rd h (.bool b) (.bool b)
  | int (i t) : Rd h (.int i t) (.int i)
  | str (x t) : Rd h (.str x t) (.str x)
  | list {a o vs n ds} : h.get? a = some o → o.cls = .type "list" → o.data = .seq vs n → RdAll h vs.toList ds → Rd h (.ref a) (.list ds)
  | tuple {a o vs n ds} : h.get? a = some o → o.cls = .type "tuple" → o.data = .seq vs n → RdAll h vs.toList ds → Rd h (.ref a) (.tuple ds)
inductive RdAll (h : Heap) : List Value → List PyData → Prop
  | nil : RdAll h [] []
  | cons {v vs d ds} : Rd h v d → RdAll h vs ds → RdAll h (v :: vs) (d :: ds)
end

theorem Rd.up {h h' : Heap} (u : SeqUp h h') {v : Value} {d : PyData} (r : Rd h v d) : Rd h' v d := by
  refine Rd.rec (motive_1 := fun v d _ => Rd h' v d) (motive_2 := fun vs ds _ => RdAll h' vs ds) ?_ ?_ ?_ ?_ ?_ ?_ ?_ ?_ r
  · exact .none
  · exact .bool
  · exact .int
  · exact .str
  · intro a o vs n ds e c dd _ ih; exact .list (u a o vs n e dd) c dd ih
  · intro a o vs n ds e c dd _ ih; exact .tuple (u a o vs n e dd) c dd ih
  · exact .nil
  · intro v vs d ds _ _ h1 h2; exact .cons h1 h2
theorem RdAll.up {h h' : Heap} (u : SeqUp h h') : ∀ {vs : List Value} {ds : List PyData}, RdAll h vs ds → RdAll h' vs ds
  | _, _, .nil => .nil
  | _, _, .cons r rs => .cons (r.up u) (rs.up u)
theorem Rd.reads {h : Heap} {v : Value} {d : PyData} (r : Rd h v d) : ∃ as, Reads h v d as := by
  refine Rd.rec (motive_1 := fun v d _ => ∃ as, Reads h v d as) (motive_2 := fun vs ds _ => ∃ as, ReadsAll h vs ds as) ?_ ?_ ?_ ?_ ?_ ?_ ?_ ?_ r
  · exact ⟨_, .none⟩
  · exact fun b => ⟨_, .bool b⟩
  · exact fun i t => ⟨_, .int i t⟩
  · exact fun x t => ⟨_, .str x t⟩
  · rintro a o vs n ds e c dd _ ⟨as, ih⟩; exact ⟨_, .list e c dd ih⟩
  · rintro a o vs n ds e c dd _ ⟨as, ih⟩; exact ⟨_, .tuple e c dd ih⟩
  · exact ⟨_, .nil⟩
  · rintro v vs d ds _ _ ⟨a1, h1⟩ ⟨a2, h2⟩; exact ⟨_, .cons h1 h2⟩
theorem RdAll.reads {h : Heap} : ∀ {vs : List Value} {ds : List PyData}, RdAll h vs ds → ∃ as, ReadsAll h vs ds as
  | _, _, .nil => ⟨_, .nil⟩
  | _, _, .cons r rs => let ⟨_, h1⟩ := r.reads; let ⟨_, h2⟩ := rs.reads; ⟨_, .cons h1 h2⟩

/-- a list or a tuple, its object exactly -/
def SeqAt (h : Heap) (T : String) (a : Addr) (vs : List Value) : Prop := ∃ n, h.get? a = some { cls := .type T, data := .seq vs.toArray n }
theorem SeqAt.up {h h' : Heap} {T : String} {a : Addr} {vs : List Value} (u : SeqUp h h') (x : SeqAt h T a vs) : SeqAt h' T a vs := by
  obtain ⟨n, e⟩ := x
  exact ⟨n, u a _ _ _ e rfl⟩
theorem SeqAt.isList {h : Heap} {a : Addr} {vs : List Value} (x : SeqAt h "list" a vs) : h.IsList a vs.toArray := by
  obtain ⟨n, e⟩ := x
  exact ⟨_, e, rfl, n, rfl⟩
theorem SeqAt.isTuple {h : Heap} {a : Addr} {vs : List Value} (x : SeqAt h "tuple" a vs) : h.IsTuple a vs.toArray := by
  obtain ⟨n, e⟩ := x
  exact ⟨_, e, rfl, n, rfl⟩
theorem SeqAt.lt {h : Heap} {T : String} {a : Addr} {vs : List Value} (x : SeqAt h T a vs) : a < h.objs.size := by
  obtain ⟨n, e⟩ := x
  exact Heap.lt_size e

/-- in the body of a def: the frame, what stood at the call, what is known (B) -/
structure Bd (B₀ : Heap) (s₀ : Shared) (A : Around) (env : Env) (outer : List Env) (n : Nat) (m : Str → Option Value) (B : Heap) (s : Shared) : Prop where
  cx : Cx B₀ A (env :: outer) n s
  ns : s.heap.Ns env.locals m
  efr : env.frame = some env.locals
  ext : Ext (frs outer) s₀ s
  new : s₀.heap.get? env.locals = none
  keep : B.StaysIn s.heap
  hid : ∀ f ∈ frs (env :: outer), B.get? f = none
  above : B₀.objs.size ≤ env.locals

section
variable {B₀ : Heap} {s₀ : Shared} {A : Around} {env : Env} {outer : List Env} {n : Nat} {m m' : Str → Option Value} {B B' : Heap} {s s' : Shared}
theorem Bd.frs (b : Bd B₀ s₀ A env outer n m B s) : frs (env :: outer) = env.locals :: frs outer := by
  unfold Mine.frs; rw [List.filterMap_cons, b.efr]
theorem Bd.fr (b : Bd B₀ s₀ A env outer n m B s) : Fr B₀ env.locals s.heap m := ⟨b.ns, b.cx.stays, b.above⟩
theorem Bd.up (b : Bd B₀ s₀ A env outer n m B s) : SeqUp B s.heap := .of_keep b.keep
theorem Bd.hidL (b : Bd B₀ s₀ A env outer n m B s) : B.get? env.locals = none := b.hid _ (by rw [b.frs]; exact List.mem_cons_self)
/-- a call came back -/
theorem Bd.call (b : Bd B₀ s₀ A env outer n m B s) (x : Ext (Mine.frs (env :: outer)) s s') : Bd B₀ s₀ A env outer n m B s' where
  cx := b.cx.ext x
  ns := x.ns b.ns
  efr := b.efr
  ext := by
    have x' := x; rw [b.frs] at x'
    refine ⟨fun c o hc e => ?_, fun c o hc e => ?_, x.os.trans b.ext.os, x.gens.trans b.ext.gens⟩
    · have hne : c ≠ env.locals := fun q => by subst q; rw [b.new] at e; cases e
      exact x'.keep c o (fun q => by rcases List.mem_cons.mp q with q | q; exact hne q; exact hc q) (b.ext.keep c o hc e)
    · obtain ⟨sl, e1⟩ := b.ext.slot c o hc e
      obtain ⟨sl', e2⟩ := x'.any e1
      exact ⟨sl', e2⟩
  new := b.new
  keep := fun c o e => x.keep c o (fun q => by rw [b.hid c q] at e; cases e) (b.keep c o e)
  hid := b.hid
  above := b.above
/-- an object is laid, or nothing is -/
theorem Bd.grow (b : Bd B₀ s₀ A env outer n m B s) {h' : Heap} {tk : Nat} (hs : ∀ c o, s.heap.get? c = some o → h'.get? c = some o) :
    Bd B₀ s₀ A env outer n m B { s with heap := h', toks := tk } := b.call (Ext.of_keeps hs)
theorem Bd.push (b : Bd B₀ s₀ A env outer n m B s) (o : Obj) : Bd B₀ s₀ A env outer n m B { s with heap := s.heap.push o } := b.grow (tk := s.toks) (fun _ _ e => Heap.get?_push_of_some _ e)
theorem Bd.toks (b : Bd B₀ s₀ A env outer n m B s) (tk : Nat) : Bd B₀ s₀ A env outer n m B { s with toks := tk } := b.call (Ext.toks tk)
/-- one object that B does not name and that did not stand is changed -/
theorem Bd.same (b : Bd B₀ s₀ A env outer n m B s) {h' : Heap} {tk : Nat} {a : Addr} (hs : Heap.SameBut a s.heap h') (ha : a ≠ env.locals) (hf : a ∉ Mine.frs outer) (hB : B.get? a = none) (h0 : s₀.heap.get? a = none) (hB0 : B₀.get? a = none) :
    Bd B₀ s₀ A env outer n m B { s with heap := h', toks := tk } where
  cx := { b.cx with
    stays := fun c o e => (hs.2 c (fun q => by subst q; rw [hB0] at e; cases e)).trans (b.cx.stays c o e)
    funs := fun e he => by
      obtain ⟨h1, L, hL, hn, o, es, ep, ho, hd⟩ := b.cx.funs e he
      refine ⟨h1, L, hL, hn, o, es, ep, (hs.2 L fun q => ?_).trans ho, hd⟩
      rcases List.mem_cons.mp he with rfl | he
      · rw [b.efr] at hL; cases hL; exact ha q.symm
      · exact hf (q ▸ List.mem_filterMap.mpr ⟨e, he, hL⟩) }
  ns := b.ns.sameBut hs (Ne.symm ha)
  efr := b.efr
  ext := b.ext.of_same hs h0
  new := b.new
  keep := fun c o e => (hs.2 c (fun q => by subst q; rw [hB] at e; cases e)).trans (b.keep c o e)
  hid := b.hid
  above := b.above
/-- the frame is stored into -/
theorem Bd.store (b : Bd B₀ s₀ A env outer n m B s) {h' : Heap} {tk : Nat} (hn : h'.Ns env.locals m') (hs : Heap.SameBut env.locals s.heap h') : Bd B₀ s₀ A env outer n m' B { s with heap := h', toks := tk } where
  cx := { b.cx with
    stays := fun c o e => (hs.2 c (fun q => by
      subst q
      exact absurd (Nat.lt_of_lt_of_le (Heap.lt_size e) b.above) (Nat.lt_irrefl _))).trans (b.cx.stays c o e)
    funs := fun e he => by
      obtain ⟨h1, L, hL, hn', o, es, ep, ho, hd⟩ := b.cx.funs e he
      by_cases q : L = env.locals
      · subst q
        obtain ⟨o', es', ep', e', d', _⟩ := hn
        exact ⟨h1, _, hL, hn', o', es', ep', e', d'⟩
      · exact ⟨h1, L, hL, hn', o, es, ep, (hs.2 L q).trans ho, hd⟩ }
  ns := hn
  efr := b.efr
  ext := b.ext.of_same hs b.new
  new := b.new
  keep := fun c o e => (hs.2 c (fun q => by subst q; rw [b.hidL] at e; cases e)).trans (b.keep c o e)
  hid := b.hid
  above := b.above

/-- what stands now is what is known -/
theorem Bd.base (b : Bd B₀ s₀ A env outer n m B s) : Bd B₀ s₀ A env outer n m (hideAll s.heap (Mine.frs (env :: outer))) s :=
  { b with keep := fun _ _ e => of_hideAll _ e, hid := fun _ hf => hideAll_none _ hf }
theorem Cx.seqUp_hide (c : Cx B₀ A outer n s) : SeqUp s.heap (hideAll s.heap (Mine.frs outer)) := fun a o vs k e d => hideAll_get _ e fun hm => by
  obtain ⟨env', he, hf⟩ := List.mem_filterMap.mp hm
  obtain ⟨_, L, hL, _, o', es, ep, ho, hd⟩ := c.funs env' he
  rw [hf] at hL; cases hL
  rw [e] at ho; cases ho; rw [d] at hd; cases hd
theorem Bd.upBase (b : Bd B₀ s₀ A env outer n m B s) : SeqUp s.heap (hideAll s.heap (Mine.frs (env :: outer))) := b.cx.seqUp_hide
theorem Bd.stays (b : Bd B₀ s₀ A env outer n m B s) : B.StaysIn (hideAll s.heap (Mine.frs (env :: outer))) := fun c o e =>
  hideAll_get _ (b.keep c o e) fun q => by rw [b.hid c q] at e; cases e
theorem Cx.seqUp (c : Cx B₀ A outer n s) (x : Ext (Mine.frs outer) s s') : SeqUp s.heap s'.heap := fun a o vs k e d => by
  refine x.keep a o (fun hm => ?_) e
  obtain ⟨env', he, hf⟩ := List.mem_filterMap.mp hm
  obtain ⟨_, L, hL, _, o', es, ep, ho, hd⟩ := c.funs env' he
  rw [hf] at hL; cases hL
  rw [e] at ho; cases ho; rw [d] at hd; cases hd
/-- what is new is no frame and is not known -/
theorem Bd.fresh (b : Bd B₀ s₀ A env outer n m B s) {a : Addr} (h : s.heap.get? a = none) : a ≠ env.locals ∧ a ∉ Mine.frs outer ∧ B.get? a = none ∧ s₀.heap.get? a = none ∧ B₀.get? a = none := by
  refine ⟨fun q => ?_, fun q => ?_, ?_, b.ext.gone h, ?_⟩
  · obtain ⟨o, _, _, e, _⟩ := b.ns; rw [← q, h] at e; cases e
  · obtain ⟨env', he, hf⟩ := List.mem_filterMap.mp q
    obtain ⟨_, L, hL, _, o', _, _, ho, _⟩ := b.cx.funs env' (List.mem_cons_of_mem _ he)
    rw [hf] at hL; cases hL; rw [h] at ho; cases ho
  · cases e : B.get? a with
    | none => rfl
    | some o => have := b.keep a o e; rw [h] at this; cases this
  · cases e : B₀.get? a with
    | none => rfl
    | some o => have := b.cx.stays a o e; rw [h] at this; cases this
theorem get?_size (h : Heap) : h.get? h.objs.size = none := Heap.get?_none_of_le (Nat.le_refl _)
end

section
variable {B₀ : Heap} {s₀ : Shared} {A : Around} {env : Env} {outer : List Env} {n : Nat} {m : Str → Option Value} {B : Heap} {s : Shared} {M : Model} {E : Value → Shared → Prop}
theorem Bd.load {x : Str} {v : Value} {Q : Value → Shared → Prop} (b : Bd B₀ s₀ A env outer n m B s) (hv : m x = some v) (h : Q v s)
    (hk : env.scope.kind = .function := by rfl) (hl : env.kindOf x = some .local := by rfl) : wpAny M A (loadName env x) Q E s := wpAny_loadName_local hk hl b.ns hv h
theorem Bd.name {x : Str} {pos : Pos} {v : Value} {Q : Value → Shared → Prop} (b : Bd B₀ s₀ A env outer n m B s) (hv : m x = some v) (h : Q v s)
    (hk : env.scope.kind = .function := by rfl) (hl : env.kindOf x = some .local := by rfl) (hd : (x == ("__debug__" : Str)) = false := by decide) :
    wpAny M A (eval (.Name x pos) env) Q E s := wpAny_Name (b.load hv h hk hl) hd
theorem Bd.put {x : Str} {v : Value} {Q : Unit → Shared → Prop} (b : Bd B₀ s₀ A env outer n m B s)
    (h : ∀ h' tk, Heap.SameBut env.locals s.heap h' → Bd B₀ s₀ A env outer n (fun y => if y = x then some v else m y) B { s with heap := h', toks := tk } → Q () { s with heap := h', toks := tk })
    (hl : env.kindOf x = some .local := by rfl) (hp : (env.scope.kind == .class || (env.scope.kind == .module && env.locals != env.globals)) = false := by rfl) : wpAny M A (storeName env x v) Q E s :=
  wpAny_storeName_local hl b.ns (fun h' hn hs => h h' _ hs (b.store hn hs)) hp
end

/-- a call of a def of the text -/
theorem fn_call {prog : Program} {w : World} {B₀ : Heap} {A : Around} {outer : List Env} {n : Nat} {s : Shared} {f : Addr} {oc : Value} {fd : FuncData} {body : List Stmt} {args : Args} {binds : List (Str × Value)} {R : Result → Shared → Prop}
    (c : Cx B₀ A outer n s) (hn : n < 800) (lim : B₀.NoLimit) (ho : B₀.get? f = some { cls := oc, data := .func fd }) (hcd : B₀.CodeRec fd.code fd.qualname) (hbody : fd.body = .stmts body)
    (hbind : BindsTo s fd args binds) (hcell : ∀ x ∈ fd.scope.names, x.2 ≠ .cell) (hloc : ∀ x ∈ binds, fd.scope.names.lookup x.1 = some .local)
    (h : ∀ s₁ L, L = s.heap.objs.size → Bd B₀ s (A.deeper (callEnv fd L f)) (callEnv fd L f) outer (n + 4) (fun x => binds.reverse.lookup x) (hideAll s.heap (frs outer)) s₁ →
      wpAny (model prog w) (A.deeper (callEnv fd L f)) (execs body (callEnv fd L f)) (fun fl s' => R (.ok (.ret (match fl with | .ret v => v | _ => .none))) s')
        (fun e s' => wpAny (model prog w) (A.deeper (callEnv fd L f)) (leaving (callEnv fd L f) e) (fun _ s'' => R (.error e) s'') (fun e' s'' => R (.error e') s'') s') s₁)
    (hco : fd.scope.isCoroutine = false := by rfl) (hgen : fd.scope.isGenerator = false := by rfl) (hk : fd.scope.kind = .function := by rfl) :
    codeAny (model prog w) A (.call (.ref f) args) R s := by
  refine codeAny_call_def (c.depth (by omega)) (c.stays _ _ ho) rfl (lim.keeps c.stays) (hcd.keeps c.stays) hbody hbind hcell hloc (fun h₁ hns hk₁ => ?_) hco hgen hk
  have x : Ext (frs outer) s { s with heap := h₁, toks := s.toks + binds.length } := Ext.of_keeps hk₁
  refine h _ _ rfl ⟨⟨c.hd, ?_, ?_, List.cons_ne_nil _ _, fun b o e => hk₁ b o (c.stays b o e), ?_⟩, hns, rfl, x, get?_size _, fun b o e => hk₁ b o (of_hideAll _ e), ?_, c.size⟩
  · exact Around.frames_deeper c.fr
  · have := c.room; show A.depth + 1 + (A.units + 3) ≤ n + 4; omega
  · intro e he
    rcases List.mem_cons.mp he with rfl | he
    · obtain ⟨o, es, ep, e1, e2, _⟩ := hns
      exact ⟨by show fd.scope.kind ≠ .module; rw [hk]; decide, _, rfl, c.size, o, es, ep, e1, e2⟩
    · obtain ⟨h1, L, hL, hn', o, es, ep, ho', hd⟩ := c.funs e he
      exact ⟨h1, L, hL, hn', o, es, ep, hk₁ _ _ ho', hd⟩
  · intro f' hf'
    have hf'' : f' = s.heap.objs.size ∨ f' ∈ frs outer := by
      have : frs (callEnv fd s.heap.objs.size f :: outer) = s.heap.objs.size :: frs outer := rfl
      rw [this] at hf'; exact List.mem_cons.mp hf'
    rcases hf'' with rfl | hm
    · exact Heap.get?_none_of_le (by rw [hideAll_size]; exact Nat.le_refl _)
    · exact hideAll_none _ hm

/-- the same, where the body does not raise -/
theorem fn_call_ret {prog : Program} {w : World} {B₀ : Heap} {A : Around} {outer : List Env} {n : Nat} {s : Shared} {f : Addr} {oc : Value} {fd : FuncData} {body : List Stmt} {args : Args} {binds : List (Str × Value)} {R : Result → Shared → Prop}
    (c : Cx B₀ A outer n s) (hn : n < 800) (lim : B₀.NoLimit) (ho : B₀.get? f = some { cls := oc, data := .func fd }) (hcd : B₀.CodeRec fd.code fd.qualname) (hbody : fd.body = .stmts body)
    (hbind : BindsTo s fd args binds) (hcell : ∀ x ∈ fd.scope.names, x.2 ≠ .cell) (hloc : ∀ x ∈ binds, fd.scope.names.lookup x.1 = some .local)
    (h : ∀ s₁ L, L = s.heap.objs.size → Bd B₀ s (A.deeper (callEnv fd L f)) (callEnv fd L f) outer (n + 4) (fun x => binds.reverse.lookup x) (hideAll s.heap (frs outer)) s₁ →
      wpAny (model prog w) (A.deeper (callEnv fd L f)) (execs body (callEnv fd L f)) (fun fl s' => R (.ok (.ret (match fl with | .ret v => v | _ => .none))) s') (fun _ _ => False) s₁)
    (hco : fd.scope.isCoroutine = false := by rfl) (hgen : fd.scope.isGenerator = false := by rfl) (hk : fd.scope.kind = .function := by rfl) :
    codeAny (model prog w) A (.call (.ref f) args) R s :=
  fn_call c hn lim ho hcd hbody hbind hcell hloc (fun s₁ L hL b => wpAny_mono (h s₁ L hL b) (fun _ _ x => x) fun _ _ x => x.elim) hco hgen hk
end Mine
end

section
open PySem PySem.W PySem.Calls PyProof.Rows
namespace Mine

theorem wd_slot_get : Slot "wrapper_descriptor" "__get__" "wrapper_descriptor.__get__" :=
  .of (owner := "wrapper_descriptor") (n := "__get__") (by rw [typeLookup_type, builtinLookup_eq_fast]; kernel_rfl) (by decide +kernel) (by decide +kernel) (by decide +kernel)
    (by first | exact .inl (by decide +kernel) | exact .inr (by decide +kernel)) (by rw [isSubtype_type]; kernel_rfl)
theorem wd_entry_get : entryFor table "wrapper_descriptor.__get__" = some Builtin.«wrapper_descriptor.__get__» := entryFor_of_tree (by kernel_rfl)
theorem wd_args_get (a b c : Value) : argsOk "wrapper_descriptor.__get__" ⟨[a, b, c], []⟩ := by unfold argsOk; kernel_rfl
theorem wd_set : typeLookup (.type "wrapper_descriptor") "__set__" = pure none := by rw [typeLookup_type, builtinLookup_eq_fast]; kernel_rfl
theorem wd_del : typeLookup (.type "wrapper_descriptor") "__delete__" = pure none := by rw [typeLookup_type, builtinLookup_eq_fast]; kernel_rfl

/-- a bound slot wrapper -/
abbrev mw (id : String) (l : Addr) : Obj := { cls := .type "method-wrapper", data := .fields #[.builtin id, .ref l] }

theorem lc_type_list : typeOf (.builtin "list.__contains__") = pure (.type "wrapper_descriptor") := by show builtinType _ = _; rw [builtinType_eq_fast]; kernel_rfl
theorem lc_owner_list : ".".intercalate ("list.__contains__".cutAt '.').dropLast = "list" := by decide +kernel
theorem lc_sub_list : isSubtype (.type "list") (.type (".".intercalate ("list.__contains__".cutAt '.').dropLast)) = pure true := by rw [lc_owner_list, isSubtype_type]; kernel_rfl

theorem get_mw_list {prog : Program} {w : World} {A : Around} {R : Result → Shared → Prop} {h : Heap} {g : Array GenState} {d : Drawn} {t : Nat} {os : OsState} {l : Addr} {o : Obj}
    (hx : h.get? l = some o) (hc : o.cls = .type "list") (hq : R (.ok (.ret (.ref h.objs.size))) ⟨h.push (mw "list.__contains__" l), g, d, t, os⟩) :
    codeAny (model prog w) A (.call (.builtin "wrapper_descriptor.__get__") ⟨[.builtin "list.__contains__", .ref l, .type "list"], []⟩) R ⟨h, g, d, t, os⟩ := by
  have hT : (⟨h, g, d, t, os⟩ : Shared).TypeIs (.ref l) "list" := ⟨_, hx, hc⟩
  have hT5 : (⟨h, g, d, t, os⟩ : Shared).TypeIs (.builtin "list.__contains__") "wrapper_descriptor" := lc_type_list
  have f1 := lc_sub_list
  refine codeAny_call_builtin wd_slot_get.plain wd_entry_get (wd_slot_get.check _ _ _ _ _ _ _ _ hT5 (wd_args_get _ _ _) ?_)
  repeat (any_goals (first | assumption | wp_step))

theorem ga_mw_list {prog : Program} {w : World} {A : Around} {E : Value → Shared → Prop} {h : Heap} {g : Array GenState} {d : Drawn} {t : Nat} {os : OsState} {l : Addr} {vs : Array Value} {n : Nat} {tk : Tok} {Q : Fin → Shared → Prop}
    (hx : h.get? l = some { cls := .type "list", data := .seq vs n }) (hq : Q (.done (.ret (.ref h.objs.size))) ⟨h.push (mw "list.__contains__" l), g, d, t, os⟩) :
    wpAny (model prog w) A (Builtin.«object.__getattribute__» ⟨[.ref l, .str "__contains__" tk], []⟩) Q E ⟨h, g, d, t, os⟩ := by
  have hT : (⟨h, g, d, t, os⟩ : Shared).TypeIs (.ref l) "list" := ⟨_, hx, rfl⟩
  have hT5 : (⟨h, g, d, t, os⟩ : Shared).TypeIs (.builtin "list.__contains__") "wrapper_descriptor" := lc_type_list
  have f4 := F.slot_list_contains.lookup
  have f5 := lc_type_list
  have f6 := wd_slot_get.lookup
  have f7 := wd_set
  have f8 := wd_del
  repeat (any_goals (first | assumption | wp_step))
  refine get_mw_list hx rfl ?_
  repeat (any_goals (first | assumption | wp_step))

theorem attr_mw_list {prog : Program} {w : World} {A : Around} {E : Value → Shared → Prop} {s : Shared} {l : Addr} {vs : Array Value} {n : Nat} {Q : Value → Shared → Prop}
    (hx : s.heap.get? l = some { cls := .type "list", data := .seq vs n }) (hq : Q (.ref s.heap.objs.size) { s with heap := s.heap.push (mw "list.__contains__" l), toks := s.toks + 1 }) :
    wpAny (model prog w) A (getAttr (.ref l) "__contains__" true) Q E s := by
  obtain ⟨hp, g, d, tk, os⟩ := s
  have hT : ∀ tk', (⟨hp, g, d, tk', os⟩ : Shared).TypeIs (.ref l) "list" := fun _ => ⟨_, hx, rfl⟩
  have f3 := F.slot_list_getattribute.lookup
  have f4 := F.slot_list_getattribute.bind (.ref l)
  have f5 := list_getattr_none
  unfold getAttr getAttrBy
  repeat (any_goals (first | assumption | exact hT _ | ((with_reducible show wpAny _ _ (call (Value.builtin "list.__getattribute__") _ _) _ _ _); refine wpAny_call (codeAny_call_builtin F.slot_list_getattribute.plain F.entry_list_ga (F.slot_list_getattribute.check _ _ _ _ _ _ _ _ (hT _) (F.args_list_getattribute_2 _ _) (ga_mw_list hx ?_)))) | wp_step))

theorem lc_type_tuple : typeOf (.builtin "tuple.__contains__") = pure (.type "wrapper_descriptor") := by show builtinType _ = _; rw [builtinType_eq_fast]; kernel_rfl
theorem lc_owner_tuple : ".".intercalate ("tuple.__contains__".cutAt '.').dropLast = "tuple" := by decide +kernel
theorem lc_sub_tuple : isSubtype (.type "tuple") (.type (".".intercalate ("tuple.__contains__".cutAt '.').dropLast)) = pure true := by rw [lc_owner_tuple, isSubtype_type]; kernel_rfl

theorem get_mw_tuple {prog : Program} {w : World} {A : Around} {R : Result → Shared → Prop} {h : Heap} {g : Array GenState} {d : Drawn} {t : Nat} {os : OsState} {l : Addr} {o : Obj}
    (hx : h.get? l = some o) (hc : o.cls = .type "tuple") (hq : R (.ok (.ret (.ref h.objs.size))) ⟨h.push (mw "tuple.__contains__" l), g, d, t, os⟩) :
    codeAny (model prog w) A (.call (.builtin "wrapper_descriptor.__get__") ⟨[.builtin "tuple.__contains__", .ref l, .type "tuple"], []⟩) R ⟨h, g, d, t, os⟩ := by
  have hT : (⟨h, g, d, t, os⟩ : Shared).TypeIs (.ref l) "tuple" := ⟨_, hx, hc⟩
  have hT5 : (⟨h, g, d, t, os⟩ : Shared).TypeIs (.builtin "tuple.__contains__") "wrapper_descriptor" := lc_type_tuple
  have f1 := lc_sub_tuple
  refine codeAny_call_builtin wd_slot_get.plain wd_entry_get (wd_slot_get.check _ _ _ _ _ _ _ _ hT5 (wd_args_get _ _ _) ?_)
  repeat (any_goals (first | assumption | wp_step))

theorem ga_mw_tuple {prog : Program} {w : World} {A : Around} {E : Value → Shared → Prop} {h : Heap} {g : Array GenState} {d : Drawn} {t : Nat} {os : OsState} {l : Addr} {vs : Array Value} {n : Nat} {tk : Tok} {Q : Fin → Shared → Prop}
    (hx : h.get? l = some { cls := .type "tuple", data := .seq vs n }) (hq : Q (.done (.ret (.ref h.objs.size))) ⟨h.push (mw "tuple.__contains__" l), g, d, t, os⟩) :
    wpAny (model prog w) A (Builtin.«object.__getattribute__» ⟨[.ref l, .str "__contains__" tk], []⟩) Q E ⟨h, g, d, t, os⟩ := by
  have hT : (⟨h, g, d, t, os⟩ : Shared).TypeIs (.ref l) "tuple" := ⟨_, hx, rfl⟩
  have hT5 : (⟨h, g, d, t, os⟩ : Shared).TypeIs (.builtin "tuple.__contains__") "wrapper_descriptor" := lc_type_tuple
  have f4 := F.slot_tuple_contains.lookup
  have f5 := lc_type_tuple
  have f6 := wd_slot_get.lookup
  have f7 := wd_set
  have f8 := wd_del
  repeat (any_goals (first | assumption | wp_step))
  refine get_mw_tuple hx rfl ?_
  repeat (any_goals (first | assumption | wp_step))

theorem attr_mw_tuple {prog : Program} {w : World} {A : Around} {E : Value → Shared → Prop} {s : Shared} {l : Addr} {vs : Array Value} {n : Nat} {Q : Value → Shared → Prop}
    (hx : s.heap.get? l = some { cls := .type "tuple", data := .seq vs n }) (hq : Q (.ref s.heap.objs.size) { s with heap := s.heap.push (mw "tuple.__contains__" l), toks := s.toks + 1 }) :
    wpAny (model prog w) A (getAttr (.ref l) "__contains__" true) Q E s := by
  obtain ⟨hp, g, d, tk, os⟩ := s
  have hT : ∀ tk', (⟨hp, g, d, tk', os⟩ : Shared).TypeIs (.ref l) "tuple" := fun _ => ⟨_, hx, rfl⟩
  have f3 := F.slot_tuple_getattribute.lookup
  have f4 := F.slot_tuple_getattribute.bind (.ref l)
  have f5 := am_tuple_getattr_none
  unfold getAttr getAttrBy
  repeat (any_goals (first | assumption | exact hT _ | ((with_reducible show wpAny _ _ (call (Value.builtin "tuple.__getattribute__") _ _) _ _ _); refine wpAny_call (codeAny_call_builtin F.slot_tuple_getattribute.plain F.entry_tuple_ga (F.slot_tuple_getattribute.check _ _ _ _ _ _ _ _ (hT _) (F.args_tuple_getattribute_2 _ _) (ga_mw_tuple hx ?_)))) | wp_step))

end Mine
end

section
open PySem PySem.W PySem.Calls PyProof.Rows
namespace Mine

/-- a list or a tuple -/
inductive Sq | list | tup
def Sq.nm : Sq → String
  | .list => "list"
  | .tup => "tuple"
def Sq.itn : Sq → String
  | .list => "list_iterator"
  | .tup => "tuple_iterator"
/-- its iterator -/
abbrev itObj (k : Sq) (l : Addr) (i : Nat) : Obj := { cls := .type k.itn, data := .fields #[.ref l, .int i 0] }
def ItAt (h : Heap) (k : Sq) (I l : Addr) (i : Nat) : Prop := ∃ o, h.get? I = some o ∧ o.cls = .type k.itn ∧ o.data = .fields #[.ref l, .int i 0]

section
variable {prog : Program} {w : World} {A : Around} {E : Value → Shared → Prop} {s : Shared} {k : Sq} {l I : Addr} {i : Nat} {vs : List Value} {x : Value}

theorem pyIter_seq {Q : Value → Shared → Prop} (hl : SeqAt s.heap k.nm l vs) (h : Q (.ref s.heap.objs.size) { s with heap := s.heap.push (itObj k l 0) }) : wpAny (model prog w) A (pyIter (.ref l)) Q E s := by
  cases k with
  | list => exact wpAny_pyIter_list hl.isList h
  | tup => exact wpAny_pyIter_tuple hl.isTuple h
theorem pyNext_item {Q : Option Value → Shared → Prop} (hit : ItAt s.heap k I l i) (hl : SeqAt s.heap k.nm l vs) (hx : vs[i]? = some x)
    (h : ∀ h', ItAt h' k I l (i + 1) → Heap.SameBut I s.heap h' → Q (some x) { s with heap := h' }) : wpAny (model prog w) A (pyNext (.ref I)) Q E s := by
  cases k with
  | list => exact wpAny_pyNext_list_item hit hl.isList (by simpa using hx) h
  | tup => exact wpAny_pyNext_tuple_item hit hl.isTuple (by simpa using hx) h
theorem pyNext_end {Q : Option Value → Shared → Prop} (hh : A.handled = none) (hit : ItAt s.heap k I l i) (hl : SeqAt s.heap k.nm l vs) (hx : vs[i]? = none)
    (h : ∀ h', Heap.ExtBut I s.heap h' → Q none { s with heap := h' }) : wpAny (model prog w) A (pyNext (.ref I)) Q E s := by
  cases k with
  | list => exact wpAny_pyNext_list_end hh hit hl.isList (by simpa using hx) h
  | tup => exact wpAny_pyNext_tuple_end hh hit hl.isTuple (by simpa using hx) h

/-- iter(xs) -/
theorem iter_call {Q : Value → Shared → Prop} (hl : SeqAt s.heap k.nm l vs) (h : Q (.ref s.heap.objs.size) { s with heap := s.heap.push (itObj k l 0) }) :
    wpAny (model prog w) A (call (.builtin "iter") [.ref l]) Q E s := by
  refine call_function_entry (by decide +kernel) (by decide +kernel) kdk_entry_iter (kdk_args_iter _) ?_
  unfold Builtin.«iter»
  refine wpAny_bind (m := someArgs "iter" 1 2 _) (wpAny_of_eq (a := [Value.ref l]) (by first | rfl | kernel_rfl!) ?_)
  show wpAny _ _ (pyIter (.ref l) >>= _) _ _ _
  exact wpAny_bind (pyIter_seq hl (wpAny_pure ⟨_, rfl, h⟩))

theorem it_typeIs (hit : ItAt s.heap k I l i) : s.TypeIs (.ref I) k.itn := let ⟨o, ho, hc, _⟩ := hit; ⟨o, ho, hc⟩

theorem next_special_item {Q : Option Value → Shared → Prop} (hit : ItAt s.heap k I l i) (hl : SeqAt s.heap k.nm l vs) (hx : vs[i]? = some x)
    (h : ∀ h', ItAt h' k I l (i + 1) → Heap.SameBut I s.heap h' → Q (some x) { s with heap := h' }) : wpAny (model prog w) A (callSpecial? (.ref I) (Str.ofString "__next__")) Q E s := by
  have hx' : vs.toArray[i]? = some x := by simpa using hx
  have hT := it_typeIs hit
  obtain ⟨o, ho, hc, hd⟩ := id hit
  obtain ⟨nl, hol⟩ := hl
  cases k with
  | list =>
    refine wpAny_callSpecial?_slot (name := Str.ofString "__next__") hT slot_listiter_next (wpAny_call_entry slot_listiter_next hT entry_listiter_next ?_ (args_listiter_next _))
    show wpAny _ _ (field (.ref I) 0 >>= _) _ _ s
    refine wpAny_bind (wpAny_field ho hd (x := .ref l) rfl ?_)
    show wpAny _ _ (if (Value.ref l == Value.none) = true then _ else _) _ _ s
    rw [if_neg (show ¬ ((Value.ref l == Value.none) = true) from Bool.false_ne_true)]
    show wpAny _ _ (field (.ref I) 1 >>= _) _ _ s
    refine wpAny_bind (wpAny_field ho hd (x := .int i 0) rfl ?_)
    show wpAny _ _ (seqItems? (.ref l) >>= _) _ _ s
    refine wpAny_bind (wpAny_seqItems hol rfl ?_)
    simp only [Int.toNat_natCast, hx']
    refine wpAny_bind (wpAny_setField ho hd (by simp) (wpAny_pure ⟨x, rfl, h _ ?_ (Heap.SameBut.update ..)⟩))
    exact ⟨_, Heap.get?_update_self _ ho (Obj.isFreed_of_fields (Obj.data_mapFields hd _)), (Obj.cls_mapFields ..).trans hc, by rw [Obj.data_mapFields hd]; simp [rawInt]⟩
  | tup =>
    refine wpAny_callSpecial?_slot (name := Str.ofString "__next__") hT F.slot_tuple_iterator_next (wpAny_call_entry F.slot_tuple_iterator_next hT F.entry_tuple_iterator_next ?_ (F.args_tuple_iterator_next_1 _))
    show wpAny _ _ (field (.ref I) 0 >>= _) _ _ s
    refine wpAny_bind (wpAny_field ho hd (x := .ref l) rfl ?_)
    show wpAny _ _ (if (Value.ref l == Value.none) = true then _ else _) _ _ s
    rw [if_neg (show ¬ ((Value.ref l == Value.none) = true) from Bool.false_ne_true)]
    show wpAny _ _ (field (.ref I) 1 >>= _) _ _ s
    refine wpAny_bind (wpAny_field ho hd (x := .int i 0) rfl ?_)
    show wpAny _ _ (seqItems? (.ref l) >>= _) _ _ s
    refine wpAny_bind (wpAny_seqItems hol rfl ?_)
    simp only [Int.toNat_natCast, hx']
    refine wpAny_bind (wpAny_setField ho hd (by simp) (wpAny_pure ⟨x, rfl, h _ ?_ (Heap.SameBut.update ..)⟩))
    exact ⟨_, Heap.get?_update_self _ ho (Obj.isFreed_of_fields (Obj.data_mapFields hd _)), (Obj.cls_mapFields ..).trans hc, by rw [Obj.data_mapFields hd]; simp [rawInt]⟩

theorem next_special_end {Q : Option Value → Shared → Prop} (hh : A.handled = none) (hit : ItAt s.heap k I l i) (hl : SeqAt s.heap k.nm l vs) (hx : vs[i]? = none)
    (h : ∀ h₁ h' e, Heap.SameBut I s.heap h₁ → Heap.MadeExc h₁ h' e "StopIteration" [] → E (.ref e) { s with heap := h' }) :
    wpAny (model prog w) A (callSpecial? (.ref I) (Str.ofString "__next__")) Q E s := by
  have hx' : vs.toArray[i]? = none := by simpa using hx
  have hT := it_typeIs hit
  obtain ⟨o, ho, hc, hd⟩ := id hit
  obtain ⟨nl, hol⟩ := hl
  have fin : ∀ (A' : Around), A'.handled = none → ∀ (tag : String) (Q' : Fin → Shared → Prop), wpAny (model prog w) A' (do rule tag; setField (.ref I) 0 .none; Builtin.SmallTypes.stopIteration : Sem Fin) Q' E s := by
    intro A' hh' tag Q'
    refine wpAny_bind (wpAny_rule (wpAny_bind (wpAny_setField ho hd (by simp) ?_)))
    show wpAny _ _ (newExc (.type "StopIteration") [] >>= _) _ _ _
    refine wpAny_bind ?_
    simp only [newExc, newTuple]
    refine wpAny_bind (wpAny_newObj_type ?_ (by size_fits))
    refine wpAny_bind (m := firstArgMember _ _) (wpAny_of_eq (a := Value.none) (by first | rfl | (simp only [firstArgMember]; rfl)) ?_)
    refine wpAny_newObj_type ?_ (by size_fits)
    simp only [raiseNew]
    refine wpAny_bind (wpAny_handled ?_)
    rw [hh']
    refine wpAny_bind (wpAny_pure (wpAny_throw ?_))
    refine h (s.heap.update I (Obj.mapFields (·.setIfInBounds 0 .none))) _ _ (Heap.SameBut.update ..) ⟨fun b o hb => Heap.get?_push_of_some _ (Heap.get?_push_of_some _ hb), Heap.get?_none_of_le (by simp), (s.heap.update I (Obj.mapFields (·.setIfInBounds 0 .none))).objs.size, ?_, Heap.get?_none_of_le (Nat.le_refl _), ?_⟩
    · exact Heap.get?_push_size _ rfl
    · exact Heap.get?_push_of_some _ (Heap.get?_push_size _ rfl)
  cases k with
  | list =>
    refine wpAny_callSpecial?_slot (name := Str.ofString "__next__") hT slot_listiter_next (wpAny_call_entry slot_listiter_next hT entry_listiter_next ?_ (args_listiter_next _))
    show wpAny _ _ (field (.ref I) 0 >>= _) _ _ s
    refine wpAny_bind (wpAny_field ho hd (x := .ref l) rfl ?_)
    show wpAny _ _ (if (Value.ref l == Value.none) = true then _ else _) _ _ s
    rw [if_neg (show ¬ ((Value.ref l == Value.none) = true) from Bool.false_ne_true)]
    show wpAny _ _ (field (.ref I) 1 >>= _) _ _ s
    refine wpAny_bind (wpAny_field ho hd (x := .int i 0) rfl ?_)
    show wpAny _ _ (seqItems? (.ref l) >>= _) _ _ s
    refine wpAny_bind (wpAny_seqItems hol rfl ?_)
    simp only [Int.toNat_natCast, hx']
    exact fin A.in1 hh _ _
  | tup =>
    refine wpAny_callSpecial?_slot (name := Str.ofString "__next__") hT F.slot_tuple_iterator_next (wpAny_call_entry F.slot_tuple_iterator_next hT F.entry_tuple_iterator_next ?_ (F.args_tuple_iterator_next_1 _))
    show wpAny _ _ (field (.ref I) 0 >>= _) _ _ s
    refine wpAny_bind (wpAny_field ho hd (x := .ref l) rfl ?_)
    show wpAny _ _ (if (Value.ref l == Value.none) = true then _ else _) _ _ s
    rw [if_neg (show ¬ ((Value.ref l == Value.none) = true) from Bool.false_ne_true)]
    show wpAny _ _ (field (.ref I) 1 >>= _) _ _ s
    refine wpAny_bind (wpAny_field ho hd (x := .int i 0) rfl ?_)
    show wpAny _ _ (seqItems? (.ref l) >>= _) _ _ s
    refine wpAny_bind (wpAny_seqItems hol rfl ?_)
    simp only [Int.toNat_natCast, hx']
    exact fin A.in1 hh _ _

theorem it_next (hit : ItAt s.heap k I l i) {Q : Option Value → Shared → Prop} (h : ∀ r, Q (some r) s) : wpAny (model prog w) A (specialOf (.ref I) "__next__") Q E s := by
  have hT := it_typeIs hit
  cases k with
  | list => exact wpAny_specialOf hT slot_listiter_next.lookup (h _)
  | tup => exact wpAny_specialOf hT F.slot_tuple_iterator_next.lookup (h _)

/-- next(it) -/
theorem next_item {Q : Value → Shared → Prop} (hit : ItAt s.heap k I l i) (hl : SeqAt s.heap k.nm l vs) (hx : vs[i]? = some x)
    (h : ∀ h', ItAt h' k I l (i + 1) → Heap.SameBut I s.heap h' → Q x { s with heap := h' }) : wpAny (model prog w) A (call (.builtin "next") [.ref I]) Q E s := by
  refine call_function_entry (by decide +kernel) (by decide +kernel) kdk_entry_next (kdk_args_next _) ?_
  unfold Builtin.«next»
  refine wpAny_bind (m := someArgs "next" 1 2 _) (wpAny_of_eq (a := [Value.ref I]) (by first | rfl | kernel_rfl!) ?_)
  dsimp only
  refine wpAny_bind (it_next hit fun r => ?_)
  refine wpAny_ite_split (fun hab => absurd hab (by simp)) (fun _ => ?_)
  exact wpAny_bind (next_special_item hit hl hx fun h' hit' hs => wpAny_pure ⟨_, rfl, h h' hit' hs⟩)
theorem next_end {Q : Value → Shared → Prop} (hh : A.handled = none) (hit : ItAt s.heap k I l i) (hl : SeqAt s.heap k.nm l vs) (hx : vs[i]? = none)
    (h : ∀ h₁ h' e, Heap.SameBut I s.heap h₁ → Heap.MadeExc h₁ h' e "StopIteration" [] → E (.ref e) { s with heap := h' }) : wpAny (model prog w) A (call (.builtin "next") [.ref I]) Q E s := by
  refine call_function_entry (by decide +kernel) (by decide +kernel) kdk_entry_next (kdk_args_next _) ?_
  unfold Builtin.«next»
  refine wpAny_bind (m := someArgs "next" 1 2 _) (wpAny_of_eq (a := [Value.ref I]) (by first | rfl | kernel_rfl!) ?_)
  dsimp only
  refine wpAny_bind (it_next hit fun r => ?_)
  refine wpAny_ite_split (fun hab => absurd hab (by simp)) (fun _ => ?_)
  exact wpAny_bind (next_special_end (by exact hh) hit hl hx h)
end
end Mine
end

section
open PySem PySem.W PySem.Calls PyProof.Rows PySem.SeqAt
namespace Mine

def Sq.cont : Sq → String
  | .list => "list.__contains__"
  | .tup => "tuple.__contains__"

section
variable {prog : Program} {w : World} {A : Around} {E : Value → Shared → Prop} {s : Shared} {k : Sq} {l x : Addr} {vs : List Value} {ds : List PyData} {v : Value} {d : PyData}

theorem attr_mw {Q : Value → Shared → Prop} (hl : SeqAt s.heap k.nm l vs) (hq : Q (.ref s.heap.objs.size) { s with heap := s.heap.push (mw k.cont l), toks := s.toks + 1 }) :
    wpAny (model prog w) A (getAttr (.ref l) "__contains__" true) Q E s := by
  obtain ⟨n, e⟩ := hl
  cases k with
  | list => exact attr_mw_list e hq
  | tup => exact attr_mw_tuple e hq

theorem bound_list (a b : Value) : checkBoundCall "list.__contains__" ⟨[a, b], []⟩ = pure () := by kernel_rfl
theorem bound_tuple (a b : Value) : checkBoundCall "tuple.__contains__" ⟨[a, b], []⟩ = pure () := by kernel_rfl

/-- the bound slot is called: is the thing in it? -/
theorem mw_call {R : Result → Shared → Prop} (hx : s.heap.get? x = some (mw k.cont l)) (hl : SeqAt s.heap k.nm l vs) (rs : RdAll s.heap vs ds) (rv : Rd s.heap v d)
    (hxs : PyData.canLayAll0 ds = true) (hd : shaped d = true) (hu : A.units + 100 < cLine) (h : R (.ok (.ret (.bool (ds.any fun y => PyData.eqv y d)))) s) :
    codeAny (model prog w) A (.call (.ref x) ⟨[v], []⟩) R s := by
  obtain ⟨as, rs'⟩ := rs.reads
  obtain ⟨bs, rv'⟩ := rv.reads
  have rs'' : ReadsAll s.heap vs.toArray.toList ds as := rs'
  have he := items_eqAt (A := A) rs'' rv' hxs (canLay_of_shaped hd) (room_in_shaped hd (by omega))
  have ha := any_by_data (d := d) rs'' hxs
  obtain ⟨n, e⟩ := hl
  refine codeAny_of_tree ?_
  show wpAny _ A.in1 (callAny (.ref x) ⟨[v], []⟩) _ _ s
  simp only [callAny]
  refine wpAny_bind (wpAny_load hx ?_)
  cases k with
  | list =>
    show wpAny _ _ (if (Value.type "method-wrapper" == Value.type "method" || Value.type "method-wrapper" == Value.type "builtin_function_or_method" || Value.type "method-wrapper" == Value.type "method-wrapper") = true then _ else _) _ _ s
    rw [if_pos (by decide)]
    refine wpAny_ite_split (fun _ => ?_) (fun q => absurd (show (Value.type "method-wrapper" != Value.type "method") = true by decide) q)
    refine wpAny_bind (wpAny_of_eq (a := ()) (bound_list _ _) ?_)
    refine wpAny_bind (wpAny_pure (wpAny_pure ?_))
    refine ⟨Code.quiet_builtin _ (by decide +kernel), ?_⟩
    show codeAny (model prog w) A (.builtin "list.__contains__" ⟨[.ref l, v], []⟩) R s
    refine codeAny_builtin F.entry_list_contains ?_
    rw [Around.under_plainId F.slot_list_contains.plain]
    exact list_containsAt l vs.toArray n none #[] v _ prog w A R s ⟨e, he, by rw [ha]; exact h⟩
  | tup =>
    show wpAny _ _ (if (Value.type "method-wrapper" == Value.type "method" || Value.type "method-wrapper" == Value.type "builtin_function_or_method" || Value.type "method-wrapper" == Value.type "method-wrapper") = true then _ else _) _ _ s
    rw [if_pos (by decide)]
    refine wpAny_ite_split (fun _ => ?_) (fun q => absurd (show (Value.type "method-wrapper" != Value.type "method") = true by decide) q)
    refine wpAny_bind (wpAny_of_eq (a := ()) (bound_tuple _ _) ?_)
    refine wpAny_bind (wpAny_pure (wpAny_pure ?_))
    refine ⟨Code.quiet_builtin _ (by decide +kernel), ?_⟩
    show codeAny (model prog w) A (.builtin "tuple.__contains__" ⟨[.ref l, v], []⟩) R s
    refine codeAny_builtin F.entry_tuple_contains ?_
    rw [Around.under_plainId F.slot_tuple_contains.plain]
    exact tuple_containsAt l vs.toArray n none #[] v _ prog w A R s ⟨e, he, by rw [ha]; exact h⟩

/-- v in xs -/
theorem in_seq {Q : Value → Shared → Prop} (hl : SeqAt s.heap k.nm l vs) (rs : RdAll s.heap vs ds) (rv : Rd s.heap v d) (hxs : PyData.canLayAll0 ds = true) (hd : shaped d = true) (hu : A.units + 100 < cLine)
    (h : Q (.bool (ds.any fun y => PyData.eqv y d)) s) : wpAny (model prog w) A (compareOp .In v (.ref l)) Q E s := by
  obtain ⟨as, rs'⟩ := rs.reads
  obtain ⟨bs, rv'⟩ := rv.reads
  cases k with
  | list =>
    obtain ⟨n, e⟩ := hl
    exact in_list_reads (.list (h := s.heap) e rfl rfl rs') rv' hxs (canLay_of_shaped hd) (room_in_shaped hd (by omega)) h
  | tup =>
    obtain ⟨n, e⟩ := hl
    exact in_tuple_reads (.tuple (h := s.heap) e rfl rfl rs') rv' hxs (canLay_of_shaped hd) (room_in_shaped hd (by omega)) h

/-- the datum of a list or a tuple -/
def Sq.dat : Sq → List PyData → PyData
  | .list => .list
  | .tup => .tuple
theorem Rd.seq {h : Heap} (hl : SeqAt h k.nm l vs) (rs : RdAll h vs ds) : Rd h (.ref l) (k.dat ds) := by
  obtain ⟨n, e⟩ := hl
  cases k with
  | list => exact .list e rfl rfl rs
  | tup => exact .tuple e rfl rfl rs

theorem eq_data {a b : Value} {da db : PyData} {Q : Value → Shared → Prop} (ra : Rd s.heap a da) (rb : Rd s.heap b db) (ha : shaped da = true) (hb : shaped db = true) (hu : A.units + 100 < cLine)
    (h : Q (.bool (PyData.eqv da db)) s) : wpAny (model prog w) A (compareOp .Eq a b) Q E s := by
  obtain ⟨as, ra⟩ := ra.reads
  obtain ⟨bs, rb⟩ := rb.reads
  exact compareEq_shaped ra rb ha hb (by omega) h
theorem ne_data {a b : Value} {da db : PyData} {Q : Value → Shared → Prop} (ra : Rd s.heap a da) (rb : Rd s.heap b db) (ha : shaped da = true) (hb : shaped db = true) (hu : A.units + 100 < cLine)
    (h : Q (.bool (!PyData.eqv da db)) s) : wpAny (model prog w) A (compareOp .NotEq a b) Q E s := by
  obtain ⟨as, ra⟩ := ra.reads
  obtain ⟨bs, rb⟩ := rb.reads
  exact compareNe_shaped ra rb ha hb (by omega) h
end
end Mine
end

section
open PySem PySem.W PySem.Calls PyProof.Rows PySem.SeqAt
namespace Mine

/-- a statement of the text's top; of its class's block -/
def stm (i : Nat) : Stmt := PySem.Challenge.pw_in0088_01.main.body.getD i (.Pass default)
def inCls (j : Nat) : Stmt := match stm 1 with
  | .ClassDef _ _ _ body _ _ _ _ _ _ _ => body.getD j (.Pass default)
  | _ => .Pass default
def bodyOf : Stmt → List Stmt
  | .FunctionDef _ _ body _ _ _ _ _ _ _ => body
  | _ => []
def scopeOf : Stmt → Scope
  | .FunctionDef _ _ _ _ _ _ scope _ _ _ => scope
  | _ => default
def argsOf : Stmt → Arguments
  | .FunctionDef _ args _ _ _ _ _ _ _ _ => args
  | _ => default
/-- what a def of the text is on the heap -/
abbrev fdOf (st : Stmt) (name qual : Str) (pm cd : Value) : FuncData := fnOf name qual (argsOf st) (bodyOf st) (scopeOf st) .none .none .none pm none cd .none

structure Def (B : Heap) (a : Addr) (st : Stmt) (name qual : Str) (pm : Value) (c : Addr) : Prop where
  ho : B.get? a = some { cls := .type "function", data := .func (fdOf st name qual pm (.ref c)) }
  cd : B.CodeRec (.ref c) qual

/-- what is asked of the text's own class -/
structure Own (K : Frag) : Prop where
  mks : makesIn K 47 = true
  ini : findIn K (.ref 47) "__init__" = some (some (.ref 29))
  t29 : typeIn K (.ref 29) = some (.type "function")
  sa : findIn K (.ref 47) "__setattr__" = some (some (.builtin "object.__setattr__"))
  po : plainOver K 47 = true
  tk49 : takerIn K 47 "_it" = some (some (.ref 49))
  tk48 : takerIn K 47 "_func" = some (some (.ref 48))
  t49 : typeIn K (.ref 49) = some (.type "member_descriptor")
  t48 : typeIn K (.ref 48) = some (.type "member_descriptor")
  s49 : slotIn K 49 47 = some 1
  s48 : slotIn K 48 47 = some 0
  pg49 : plainGet K 47 "_it" = true
  pg48 : plainGet K 47 "_func" = true
  isC : isClsIn K 47 = true
  a49 : findIn K (.ref 47) "_it" = some (some (.ref 49))
  a48 : findIn K (.ref 47) "_func" = some (some (.ref 48))
  n49 : specialIn K (.ref 49) "__get__" = some (some (.builtin "member_descriptor.__get__"))
  n48 : specialIn K (.ref 48) "__get__" = some (some (.builtin "member_descriptor.__get__"))
  tt49 : takesIn K (.ref 49) = some true
  tt48 : takesIn K (.ref 48) = some true
  itr : findIn K (.ref 47) "__iter__" = some (some (.ref 36))
  t36 : typeIn K (.ref 36) = some (.type "function")
  nxt : findIn K (.ref 47) "__next__" = some (some (.ref 43))
  t43 : typeIn K (.ref 43) = some (.type "function")
  kp : keepIn K (.ref 47) = true
  nl : findIn K (.ref 47) "__len__" = some none
  nh : findIn K (.ref 47) "__length_hint__" = some none

/-- the text stands -/
structure Prg (K : Frag) (mg mb : Str → Option Value) (B : Heap) : Prop where
  X : K.In B
  O : Own K
  g : B.Ns mainGlobals mg
  b : B.Ns builtinsNs mb
  lim : B.NoLimit
  g_ff : mg "filterfalse" = some (.ref 47)
  g_filter : mg "_filter" = some (.ref 58)
  g_thing : mg "_law_thing" = some (.ref 65)
  g_listing : mg "_law_listing" = some (.ref 70)
  g_skip : mg "_law_skip" = some (.ref 75)
  g_without : mg "_law_without" = some (.ref 82)
  g_one : mg "_law_one_by_one" = some (.ref 89)
  g_woven : mg "_law_woven" = some (.ref 96)
  n_list : mg "list" = none
  n_tuple : mg "tuple" = none
  n_len : mg "len" = none
  n_str : mg "str" = none
  n_type : mg "type" = none
  n_next : mg "next" = none
  n_iter : mg "iter" = none
  n_bool : mg "bool" = none
  b_list : mb "list" = some (.type "list")
  b_tuple : mb "tuple" = some (.type "tuple")
  b_len : mb "len" = some (.builtin "len")
  b_str : mb "str" = some (.type "str")
  b_type : mb "type" = some (.type "type")
  b_next : mb "next" = some (.builtin "next")
  b_iter : mb "iter" = some (.builtin "iter")
  b_bool : mb "bool" = some (.type "bool")
  d_init : Def B 29 (inCls 1) "__init__" "filterfalse.__init__" (.str "itertools" 187) 28
  d_iter : Def B 36 (inCls 2) "__iter__" "filterfalse.__iter__" (.str "itertools" 187) 35
  d_next : Def B 43 (inCls 3) "__next__" "filterfalse.__next__" (.str "itertools" 187) 42
  d_filter : Def B 58 (stm 3) "_filter" "_filter" (.str "cpy313.filecmp" 239) 57
  d_thing : Def B 65 (stm 5) "_law_thing" "_law_thing" (.str "law_in0088_01" 249) 64
  d_listing : Def B 70 (stm 6) "_law_listing" "_law_listing" (.str "law_in0088_01" 249) 69
  d_skip : Def B 75 (stm 7) "_law_skip" "_law_skip" (.str "law_in0088_01" 249) 74
  d_without : Def B 82 (stm 8) "_law_without" "_law_without" (.str "law_in0088_01" 249) 81
  d_one : Def B 89 (stm 9) "_law_one_by_one" "_law_one_by_one" (.str "law_in0088_01" 249) 88
  d_woven : Def B 96 (stm 10) "_law_woven" "_law_woven" (.str "law_in0088_01" 249) 95

/-- all but the frame L and the object x -/
def rest (h : Heap) (L x : Addr) : List (Addr × Obj) := (List.range h.objs.size).filterMap fun a => if a = L ∨ a = x then none else (h.get? a).map fun o => (a, o)
theorem rest_ne {h : Heap} {L x : Addr} : ∀ p ∈ rest h L x, p.1 ≠ L ∧ p.1 ≠ x ∧ h.get? p.1 = some p.2 := by
  intro p hp
  obtain ⟨a, _, e⟩ := List.mem_filterMap.mp hp
  split at e
  · cases e
  · rename_i q
    obtain ⟨o, ho, rfl⟩ := Option.map_eq_some_iff.mp e
    exact ⟨fun z => q (.inl z), fun z => q (.inr z), ho⟩
theorem mem_rest {h : Heap} {L x b : Addr} {o : Obj} (e : h.get? b = some o) (h1 : b ≠ L) (h2 : b ≠ x) : (b, o) ∈ rest h L x :=
  List.mem_filterMap.mpr ⟨b, List.mem_range.mpr (Heap.lt_size e), by rw [if_neg (fun q => q.elim h1 h2), e]; rfl⟩
theorem fr_none {h : Heap} {L : Addr} {m : Str → Option Value} (n : h.Ns L m) : Fr {} L h m := ⟨n, (fun _ _ e => nomatch e), Nat.zero_le _⟩
theorem news_rest {h : Heap} {L x : Addr} {ox : Obj} (hx : h.get? x = some ox) (hL : x ≠ L) : News {} L h ([] ++ (x, ox) :: rest h L x) := by
  intro p hp
  rcases List.mem_cons.mp hp with rfl | hp
  · exact ⟨hx, hL, rfl⟩
  · obtain ⟨h1, _, h3⟩ := rest_ne p hp
    exact ⟨h3, h1, rfl⟩

/-- a slot of an object of the text's class is set -/
theorem set_slot_at {prog : Program} {w : World} {A : Around} {E : Value → Shared → Prop} {s : Shared} {K : Frag} {L x dx : Addr} {m : Str → Option Value} {od : Obj} {name : Str} {v : Value} {p i : Nat} {sl : Array (Option Value)} {Q : Unit → Shared → Prop}
    (X : K.In s.heap) (hn : s.heap.Ns L m) (hx : s.heap.get? x = some { cls := .ref 47, dict := some dx, data := .plain, slots := sl }) (hd : s.heap.get? dx = some od) (hL : x ≠ L)
    (hs : findIn K (.ref 47) "__setattr__" = some (some (.builtin "object.__setattr__"))) (hp : plainOver K 47 = true) (ht : takerIn K 47 name = some (some (.ref p))) (hT : typeIn K (.ref p) = some (.type "member_descriptor"))
    (hi : slotIn K p 47 = some i) (hz : i < 1000)
    (h : ∀ h' tk, h'.Ns L m → (∀ b o, b ≠ L → b ≠ x → s.heap.get? b = some o → h'.get? b = some o) →
      h'.get? x = some { cls := .ref 47, dict := some dx, data := .plain, slots := (sl ++ Array.replicate (i + 1 - sl.size) none).setIfInBounds i (some v) } → Q () { s with heap := h', toks := tk }) :
    wpAny (model prog w) A (setAttr (.ref x) name v) Q E s := by
  have I : InstAt s.heap x { cls := .ref 47, dict := some dx, data := .plain, slots := sl } 47 (some od) := ⟨hx, rfl, rfl, hd⟩
  refine set_plain X I hs (osa_descr (s := { s with toks := s.toks + 1 }) KF.slot_mset X I hp ht hT (slot_set (s := { s with toks := s.toks + 1 }) (fr_none hn) (news_rest hx hL) X I hi hz (fun _ q => nomatch q) (fun q hq => (rest_ne q hq).2.1) rfl rfl fun h' F' N' => ?_))
  exact h h' _ F'.ns (fun b o h1 h2 e => (N' (b, o) (List.mem_cons_of_mem _ (mem_rest e h1 h2))).1) (N' (x, _) (List.mem_cons_self)).1
end Mine
end

section
open PySem PySem.W PySem.Calls PyProof.Rows PySem.SeqAt
namespace Mine

section
variable {M : Model} {A : Around} {E : Value → Shared → Prop} {s : Shared} {env : Env}
/-- the callee has a keeper, and finding it changes nothing -/
def Kept (M : Model) (A : Around) (f : Value) (s : Shared) : Prop := ∃ kp, ∀ (E : Value → Shared → Prop) (Q : Keeper → Shared → Prop), Q kp s → wpAny M A (keeperOf f) Q E s
theorem kept_builtin {id : String} : Kept M A (.builtin id) s := ⟨_, fun _ _ h => wpAny_pure h⟩
theorem kept_type {T : String} : Kept M A (.type T) s := ⟨_, fun _ _ h => wpAny_pure h⟩
theorem kept_fn {f : Addr} {o : Obj} {fd : FuncData} (ho : s.heap.get? f = some o) (hd : o.data = .func fd) : Kept M A (.ref f) s :=
  ⟨.frame, fun _ _ h => by unfold keeperOf; refine wpAny_bind (wpAny_load ho ?_); rw [hd]; exact wpAny_pure h⟩
theorem kept_mw {f l : Addr} {id : String} (ho : s.heap.get? f = some (mw id l)) : Kept M A (.ref f) s :=
  ⟨.machine, fun _ _ h => by
    unfold keeperOf; refine wpAny_bind (wpAny_load ho ?_)
    show wpAny M A (if (Value.type "method-wrapper" != Value.type "method") = true then _ else _) _ _ s
    rw [if_pos (by decide)]
    show wpAny M A (pure (if (Value.type "method-wrapper" == Value.type "builtin_function_or_method" || Value.type "method-wrapper" == Value.type "method-wrapper") = true then Keeper.machine else Keeper.caller)) _ _ s
    rw [if_pos (by decide)]; exact wpAny_pure h⟩

theorem callWith_any {pos : Pos} {f : Value} {first : List Value} {args : List (Bool × Sem Value)} {Q : Value → Shared → Prop} (hplain : args.any (·.1) = false)
    (h : wpAny M A (evalArgs f true args []) (fun x s₁ => Kept M A f s₁ ∧ wpAny M A (call f (first ++ x.pos) x.kw) Q E s₁) E s) : wpAny M A (callWith pos f first args []) Q E s := by
  unfold callWith
  refine wpAny_bind (wpAny_holding (wpAny_mono h (fun x s₁ h₁ => wpAny_bind (wpAny_standAt ?_)) fun _ _ x => x))
  have tail : ∀ {t : Sem Value}, wpAny M A t Q E s₁ → wpAny M A (t >>= fun r => holding [r] point >>= fun _ => pure r) Q E s₁ :=
    fun ht => wpAny_bind (wpAny_mono ht (fun r s₂ hr => wpAny_bind (wpAny_holding (wpAny_point (wpAny_pure hr)))) fun _ _ x => x)
  have op : ∀ {vs : List Value} {t : Sem Value}, wpAny M A t Q E s₁ → wpAny M A (operate vs t) Q E s₁ := fun ht Γ p hΓ => by rw [Sem.wp_operate]; exact ht Γ p hΓ
  obtain ⟨⟨kp, hk⟩, hc⟩ := h₁
  simp only [hplain, List.any_nil, Bool.or_false]
  refine wpAny_bind (hk _ _ ?_)
  cases kp with
  | frame =>
    dsimp only
    split
    · exact tail hc
    · exact tail (by unfold callMarked; exact wpAny_keep hc)
  | boundFrame =>
    dsimp only
    split
    · exact tail hc
    · exact tail (by unfold callMarked; exact wpAny_keep hc)
  | machine => exact tail hc
  | caller => exact tail (op hc)

theorem Call1 {func e : Expr} {pos : Pos} {Q : Value → Shared → Prop}
    (h : wpAny M A (eval func env) (fun f s₁ => wpAny M A (eval e env) (fun v s₂ => Kept M A f s₂ ∧ wpAny M A (call f [v]) Q E s₂) E s₁) E s)
    (hs : starEach [e] env = [(false, eval e env)] := by rfl)
    (he : eval (.Call func [e] [] pos) env = (do callWith pos (← eval func env) [] (backTo pos (starEach [e] env)) (backToKw pos (keywordEach [] env))) := by rfl) :
    wpAny M A (eval (.Call func [e] [] pos) env) Q E s := by
  rw [he, hs]
  refine wpAny_bind (wpAny_mono h (fun f s₁ h₁ => callWith_any (by rfl) (evalArgs_plain (spliced_cons ?_))) fun _ _ x => x)
  exact wpAny_mono h₁ (fun v s₂ h₂ => spliced_nil h₂) fun _ _ x => x
theorem Call2 {func e₁ e₂ : Expr} {pos : Pos} {Q : Value → Shared → Prop}
    (h : wpAny M A (eval func env) (fun f s₁ => wpAny M A (eval e₁ env) (fun v s₂ => wpAny M A (eval e₂ env) (fun u s₃ => Kept M A f s₃ ∧ wpAny M A (call f [v, u]) Q E s₃) E s₂) E s₁) E s)
    (hs : starEach [e₁, e₂] env = [(false, eval e₁ env), (false, eval e₂ env)] := by rfl)
    (he : eval (.Call func [e₁, e₂] [] pos) env = (do callWith pos (← eval func env) [] (backTo pos (starEach [e₁, e₂] env)) (backToKw pos (keywordEach [] env))) := by rfl) :
    wpAny M A (eval (.Call func [e₁, e₂] [] pos) env) Q E s := by
  rw [he, hs]
  refine wpAny_bind (wpAny_mono h (fun f s₁ h₁ => callWith_any (by rfl) (evalArgs_plain (spliced_cons ?_))) fun _ _ x => x)
  exact wpAny_mono h₁ (fun v s₂ h₂ => spliced_cons (wpAny_mono h₂ (fun u s₃ h₃ => spliced_nil h₃) fun _ _ x => x)) fun _ _ x => x
theorem Call3 {func e₁ e₂ e₃ : Expr} {pos : Pos} {Q : Value → Shared → Prop}
    (h : wpAny M A (eval func env) (fun f s₁ => wpAny M A (eval e₁ env) (fun v s₂ => wpAny M A (eval e₂ env) (fun u s₃ => wpAny M A (eval e₃ env) (fun y s₄ => Kept M A f s₄ ∧ wpAny M A (call f [v, u, y]) Q E s₄) E s₃) E s₂) E s₁) E s)
    (hs : starEach [e₁, e₂, e₃] env = [(false, eval e₁ env), (false, eval e₂ env), (false, eval e₃ env)] := by rfl)
    (he : eval (.Call func [e₁, e₂, e₃] [] pos) env = (do callWith pos (← eval func env) [] (backTo pos (starEach [e₁, e₂, e₃] env)) (backToKw pos (keywordEach [] env))) := by rfl) :
    wpAny M A (eval (.Call func [e₁, e₂, e₃] [] pos) env) Q E s := by
  rw [he, hs]
  refine wpAny_bind (wpAny_mono h (fun f s₁ h₁ => callWith_any (by rfl) (evalArgs_plain (spliced_cons ?_))) fun _ _ x => x)
  exact wpAny_mono h₁ (fun v s₂ h₂ => spliced_cons (wpAny_mono h₂ (fun u s₃ h₃ => spliced_cons (wpAny_mono h₃ (fun y s₄ h₄ => spliced_nil h₄) fun _ _ x => x)) fun _ _ x => x)) fun _ _ x => x
end

section
variable {M : Model} {A : Around} {E : Value → Shared → Prop} {s : Shared} {env : Env} {K : Frag} {mg mb : Str → Option Value} {B₀ : Heap} {x : Str} {pos : Pos} {v : Value} {Q : Value → Shared → Prop}
theorem Prg.name (P : Prg K mg mb B₀) (st : B₀.StaysIn s.heap) (hv : mg x = some v) (h : Q v s) (hk : env.scope.kind = .function := by rfl) (hx : env.kindOf x = some .globalImplicit := by rfl)
    (hg : env.globals = mainGlobals := by rfl) (hd : (x == ("__debug__" : Str)) = false := by decide) : wpAny M A (eval (.Name x pos) env) Q E s :=
  Name_function_global hk hx (loadGlobal_global (by rw [hg]; exact P.g.keeps st) hv h) hd
theorem Prg.builtin (P : Prg K mg mb B₀) (st : B₀.StaysIn s.heap) (hm : mg x = none) (hv : mb x = some v) (h : Q v s) (hk : env.scope.kind = .function := by rfl) (hx : env.kindOf x = some .globalImplicit := by rfl)
    (hg : env.globals = mainGlobals := by rfl) (hb : env.builtins = builtinsNs := by rfl) (hd : (x == ("__debug__" : Str)) = false := by decide) : wpAny M A (eval (.Name x pos) env) Q E s :=
  Name_function_global hk hx (loadGlobal_builtin (by rw [hg]; exact P.g.keeps st) hm (by rw [hb]; exact P.b.keeps st) hv h) hd
end

section
variable {B₀ : Heap} {s₀ : Shared} {A : Around} {env : Env} {outer : List Env} {n : Nat} {m m' : Str → Option Value} {B B' : Heap} {s s' : Shared}
/-- one object that is not known is changed; the frame is as it was -/
theorem Bd.mod (b : Bd B₀ s₀ A env outer n m B s) {h' : Heap} {tk : Nat} {a : Addr} (hn : h'.Ns env.locals m) (hk : ∀ c o, c ≠ env.locals → c ≠ a → s.heap.get? c = some o → h'.get? c = some o) (hf : a ∉ Mine.frs outer)
    (hB : B.get? a = none) (h0 : s₀.heap.get? a = none) (hB0 : B₀.get? a = none) : Bd B₀ s₀ A env outer n m B { s with heap := h', toks := tk } where
  cx := { b.cx with
    stays := fun c o e => hk c o (fun q => by subst q; exact absurd (Nat.lt_of_lt_of_le (Heap.lt_size e) b.above) (Nat.lt_irrefl _)) (fun q => by subst q; rw [hB0] at e; cases e) (b.cx.stays c o e)
    funs := fun e he => by
      obtain ⟨h1, L, hL, hn', o, es, ep, ho, hd⟩ := b.cx.funs e he
      by_cases q : L = env.locals
      · subst q
        obtain ⟨o', es', ep', e', d', _⟩ := hn
        exact ⟨h1, _, hL, hn', o', es', ep', e', d'⟩
      · refine ⟨h1, L, hL, hn', o, es, ep, hk L o q (fun q' => ?_) ho, hd⟩
        rcases List.mem_cons.mp he with rfl | he
        · rw [b.efr] at hL; cases hL; exact q rfl
        · exact hf (q' ▸ List.mem_filterMap.mpr ⟨e, he, hL⟩) }
  ns := hn
  efr := b.efr
  ext := ⟨(fun c o hc e => by
      refine hk c o (fun q => ?_) (fun q => ?_) (b.ext.keep c o hc e)
      · subst q; rw [b.new] at e; cases e
      · subst q; rw [h0] at e; cases e),
    (fun c o hc e => by
      obtain ⟨sl, e1⟩ := b.ext.slot c o hc e
      refine ⟨sl, hk c _ (fun q => ?_) (fun q => ?_) e1⟩
      · subst q; rw [b.new] at e; cases e
      · subst q; rw [h0] at e; cases e),
    b.ext.os, b.ext.gens⟩
  new := b.new
  keep := fun c o e => hk c o (fun q => by subst q; rw [b.hidL] at e; cases e) (fun q => by subst q; rw [hB] at e; cases e) (b.keep c o e)
  hid := b.hid
  above := b.above
/-- the state at the call with one object hidden -/
abbrev hideS (s : Shared) (x : Addr) : Shared := { s with heap := s.heap.hide x }
theorem Ext.hide {F : List Addr} {s s' : Shared} (x : Ext F s s') (a : Addr) : Ext F (hideS s a) s' :=
  ⟨fun b o hb e => x.keep b o hb (Heap.of_hide e), fun b o hb e => x.slot b o hb (Heap.of_hide e), x.os, x.gens⟩
/-- an object that stood at the call is given up: it may be changed -/
theorem Bd.lose (b : Bd B₀ s₀ A env outer n m B s) (x : Addr) : Bd B₀ (hideS s₀ x) A env outer n m (B.hide x) s :=
  { b with
    ext := b.ext.hide x
    new := by
      cases e : (s₀.heap.hide x).get? env.locals with
      | none => rfl
      | some o => have := Heap.of_hide e; rw [b.new] at this; cases this
    keep := fun c o e => b.keep c o (Heap.of_hide e)
    hid := fun f hf => by
      cases e : (B.hide x).get? f with
      | none => rfl
      | some o => have := Heap.of_hide e; rw [b.hid f hf] at this; cases this }
end

/-- an iterator that filters: the class's object -/
abbrev ffObj (dx I : Addr) (fv : Value) : Obj := { cls := .ref 47, dict := some dx, data := .plain, slots := #[some fv, some (.ref I)] }

section
variable {prog : Program} {w : World} {A : Around} {s : Shared} {K : Frag} {mg mb : Str → Option Value} {B₀ : Heap} {outer : List Env} {n : Nat}

theorem iter_spec (P : Prg K mg mb B₀) (c : Cx B₀ A outer n s) (hn : n < 700) {v : Value} {R : Result → Shared → Prop} (h : ∀ s', Ext (frs outer) s s' → R (.ok (.ret v)) s') :
    codeAny (model prog w) A (.call (.ref 36) ⟨[v], []⟩) R s := by
  refine fn_call_ret c (by omega) P.lim P.d_iter.ho P.d_iter.cd rfl (.of_eq rfl) (by decide +kernel) (locs (by rfl)) (fun s₁ L hL b => ?_) (by rfl) (by rfl) (by rfl)
  refine wpAny_execs_cons (wpAny_Return_some (b.name (by rfl) ?_ (by rfl) (by rfl) (by decide)))
  exact h _ b.ext
end
end Mine
end

section
open PySem PySem.W PySem.Calls PyProof.Rows PySem.SeqAt
namespace Mine

section
variable {prog : Program} {w : World} {A : Around} {s : Shared} {K : Frag} {mg mb : Str → Option Value} {B₀ : Heap} {outer : List Env} {n : Nat}

theorem init_spec (P : Prg K mg mb B₀) (c : Cx B₀ A outer n s) (hn : n < 700) {x dx l : Addr} {k : Sq} {vs : List Value} {fv : Value} {R : Result → Shared → Prop}
    (hx : s.heap.get? x = some { cls := .ref 47, dict := some dx, data := .plain }) (hd : s.heap.get? dx = some emptyDict) (hx0 : B₀.get? x = none) (hxF : x ∉ frs outer) (hdF : dx ∉ frs outer)
    (hl : SeqAt s.heap k.nm l vs)
    (h : ∀ s' I, Ext (frs outer) (hideS s x) s' → s'.heap.get? x = some (ffObj dx I fv) → s'.heap.get? dx = some emptyDict → s'.heap.get? I = some (itObj k l 0) → s.heap.get? I = none → R (.ok (.ret .none)) s') :
    codeAny (model prog w) A (.call (.ref 29) ⟨[.ref x, fv, .ref l], []⟩) R s := by
  refine fn_call_ret c (by omega) P.lim P.d_init.ho P.d_init.cd rfl (.of_eq rfl) (by decide +kernel) (locs (by rfl)) (fun s₁ L hL b => ?_) (by rfl) (by rfl) (by rfl)
  have hxL : x ≠ L := by rw [hL]; exact Nat.ne_of_lt (Heap.lt_size hx)
  have hdxL : dx ≠ L := by rw [hL]; exact Nat.ne_of_lt (Heap.lt_size hd)
  have hdx : dx ≠ x := fun q => by rw [q, hx] at hd; cases hd
  have hl' : SeqAt s₁.heap k.nm l vs := (hl.up c.seqUp_hide).up b.up
  have hx' : s₁.heap.get? x = some { cls := .ref 47, dict := some dx, data := .plain } := b.keep _ _ (hideAll_get _ hx hxF)
  have hd' : s₁.heap.get? dx = some emptyDict := b.keep _ _ (hideAll_get _ hd hdF)
  have new : ∀ a, s₁.heap.get? a = none → s.heap.get? a = none := fun a q => b.ext.gone q
  have b := b.lose x
  -- self._it = iter(iterable)
  refine wpAny_execs_cons (plainObj_wpAny_Assign_Attribute (Call1 (P.builtin b.cx.stays P.n_iter P.b_iter (b.name (by rfl) ⟨kept_builtin, ?_⟩ (by rfl) (by rfl) (by decide)) (by rfl) (by rfl) (by rfl) (by rfl) (by decide)) (by rfl) (by rfl)) (by rfl))
  refine iter_call hl' ?_
  have fI := get?_size s₁.heap
  have b₂ := b.push (itObj k l 0)
  refine b₂.name (by rfl) ?_ (by rfl) (by rfl) (by decide)
  have hx₂ := Heap.get?_push_of_some (itObj k l 0) hx'
  have hd₂ := Heap.get?_push_of_some (itObj k l 0) hd'
  have hI₂ : (s₁.heap.push (itObj k l 0)).get? s₁.heap.objs.size = some (itObj k l 0) := Heap.get?_push_size _ rfl
  have hIx : s₁.heap.objs.size ≠ x := Nat.ne_of_gt (Heap.lt_size hx')
  have hIL : s₁.heap.objs.size ≠ L := Nat.ne_of_gt (Heap.Ns.lt b.ns)
  refine set_slot_at (s := { s₁ with heap := s₁.heap.push (itObj k l 0) }) (P.X.keeps b₂.cx.stays) b₂.ns hx₂ hd₂ hxL P.O.sa P.O.po P.O.tk49 P.O.t49 P.O.s49 (by decide) fun h₃ tk₃ n₃ k₃ x₃ => ?_
  have b₃ := b₂.mod (tk := tk₃) n₃ k₃ hxF (Heap.hide_self _ _) (Heap.hide_self _ _) hx0
  have hd₃ := k₃ _ _ hdxL hdx hd₂
  have hI₃ := k₃ _ _ hIL hIx hI₂
  -- self._func = function
  refine wpAny_execs_cons (plainObj_wpAny_Assign_Attribute (b₃.name (by rfl) (b₃.name (by rfl) ?_ (by rfl) (by rfl) (by decide)) (by rfl) (by rfl) (by decide)) (by rfl))
  refine set_slot_at (s := { s₁ with heap := h₃, toks := tk₃ }) (P.X.keeps b₃.cx.stays) b₃.ns x₃ hd₃ hxL P.O.sa P.O.po P.O.tk48 P.O.t48 P.O.s48 (by decide) fun h₄ tk₄ n₄ k₄ x₄ => ?_
  have b₄ := b₃.mod (tk := tk₄) n₄ k₄ hxF (Heap.hide_self _ _) (Heap.hide_self _ _) hx0
  refine wpAny_execs_nil ?_
  exact h _ s₁.heap.objs.size b₄.ext x₄ (k₄ _ _ hdxL hdx hd₃) (k₄ _ _ hIL hIx hI₃) (new _ fI)
end
end Mine
end

section
open PySem PySem.W PySem.Calls PyProof.Rows PySem.SeqAt
namespace Mine

section
variable {prog : Program} {w : World} {A : Around} {s : Shared} {K : Frag} {mg mb : Str → Option Value} {B₀ : Heap} {outer : List Env} {n : Nat}

theorem frames_under_make (A : Around) (C : Addr) (vals : List Value) : (A.under (.builtin "type.__call__" ⟨.ref C :: vals, []⟩)).frames = A.frames := rfl
theorem handled_under_make (A : Around) (C : Addr) (vals : List Value) : (A.under (.builtin "type.__call__" ⟨.ref C :: vals, []⟩)).handled = A.handled := rfl
theorem Cx.make (c : Cx B₀ A outer n s) (C : Addr) (vals : List Value) : Cx B₀ (A.under (.builtin "type.__call__" ⟨.ref C :: vals, []⟩)) outer (n + 2) s :=
  { c with
    hd := by rw [handled_under_make]; exact c.hd
    fr := by rw [frames_under_make]; exact c.fr
    room := by have := c.room; rw [depth_under_make, units_under_make]; omega }

/-- filterfalse(fv, xs) -/
theorem ff_make (P : Prg K mg mb B₀) (c : Cx B₀ A outer n s) (hn : n < 600) {l : Addr} {k : Sq} {vs : List Value} {fv : Value} {R : Result → Shared → Prop} (hl : SeqAt s.heap k.nm l vs)
    (h : ∀ s' x dx I, Ext (frs outer) s s' → s'.heap.get? x = some (ffObj dx I fv) → s'.heap.get? dx = some emptyDict → s'.heap.get? I = some (itObj k l 0) →
      s.heap.get? x = none → s.heap.get? dx = none → s.heap.get? I = none → R (.ok (.ret (.ref x))) s') :
    codeAny (model prog w) A (.call (.ref 47) ⟨[fv, .ref l], []⟩) R s := by
  obtain ⟨hh, g, d, t, os⟩ := s
  refine make_core (makes_of (P.X.keeps c.stays) P.O.mks) (looks_findIn (P.X.keeps c.stays) P.O.ini) (fun self => bind_fn (P.X.keeps c.stays) self P.O.t29) (.inl rfl) ?_
  have x1 : Ext (frs outer) ⟨hh, g, d, t, os⟩ ⟨(hh.push emptyDict).push (instObj 47 hh.objs.size), g, d, t, os⟩ :=
    Ext.of_keeps (s := ⟨hh, g, d, t, os⟩) (tk := t) fun _ _ e => Heap.get?_push_of_some _ (Heap.get?_push_of_some _ e)
  have c1 := (c.make 47 [fv, .ref l]).ext x1
  have nx : hh.get? (hh.objs.size + 1) = none := Heap.get?_none_of_le (Nat.le_succ _)
  have nd : hh.get? hh.objs.size = none := get?_size hh
  have hx : ((hh.push emptyDict).push (instObj 47 hh.objs.size)).get? (hh.objs.size + 1) = some (instObj 47 hh.objs.size) := by heap_get
  have hd : ((hh.push emptyDict).push (instObj 47 hh.objs.size)).get? hh.objs.size = some emptyDict := by heap_get
  have old : ∀ a, hh.get? a = none → B₀.get? a = none := fun a q => by
    cases e : B₀.get? a with
    | none => rfl
    | some o => have := c.stays a o e; rw [q] at this; cases this
  have notF : ∀ a, hh.get? a = none → a ∉ frs outer := fun a q m => by
    obtain ⟨env', he, hf⟩ := List.mem_filterMap.mp m
    obtain ⟨_, L, hL, _, o', _, _, ho, _⟩ := c.funs env' he
    rw [hf] at hL; cases hL; rw [q] at ho; cases ho
  refine init_spec (s := ⟨(hh.push emptyDict).push (instObj 47 hh.objs.size), g, d, t, os⟩) P c1 (by omega) hx hd (old _ nx) (notF _ nx) (notF _ nd) (hl.up (c.seqUp x1)) fun s' I x2 ex ed eI nI => ?_
  refine ⟨rfl, h s' _ _ I ⟨fun b o hb e => ?_, fun b o hb e => ?_, x2.os, x2.gens⟩ ex ed eI nx nd (x1.gone nI)⟩
  · refine x2.keep b o hb ?_
    rw [Heap.hide_ne _ (fun q => by rw [q] at e; rw [nx] at e; cases e)]
    exact x1.keep b o hb e
  · obtain ⟨sl, e1⟩ := x1.slot b o hb e
    obtain ⟨sl2, e2⟩ := x2.slot b _ hb (by rw [Heap.hide_ne _ (fun q => by rw [q] at e; rw [nx] at e; cases e)]; exact e1)
    exact ⟨sl2, e2⟩
end
end Mine
end

section
open PySem PySem.W PySem.Calls PyProof.Rows PySem.SeqAt
namespace Mine

/-- what is no namespace is no frame -/
theorem Cx.notF {B₀ : Heap} {A : Around} {outer : List Env} {n : Nat} {s : Shared} (c : Cx B₀ A outer n s) {a : Addr} {o : Obj} (e : s.heap.get? a = some o) (h : ∀ es ep, o.data ≠ .dict es ep) : a ∉ frs outer := fun m => by
  obtain ⟨env', he, hf⟩ := List.mem_filterMap.mp m
  obtain ⟨_, L, hL, _, o', es, ep, ho, hd⟩ := c.funs env' he
  rw [hf] at hL; cases hL; rw [e] at ho; cases ho; exact h _ _ hd

/-- is the thing one of the skipped? -/
abbrev hitBy (bs : List PyData) (d : PyData) : Bool := bs.any fun y => PyData.eqv y d

section
variable {prog : Program} {w : World} {A : Around} {s : Shared} {K : Frag} {mg mb : Str → Option Value} {B₀ : Heap} {outer : List Env} {n : Nat}

/-- a StopIteration made in the frame leaves it -/
theorem stop_leaves {s₀ : Shared} {env : Env} {m : Str → Option Value} {B : Heap} {h₁ : Heap} {e : Addr} {R : Result → Shared → Prop} (b : Bd B₀ s₀ A env outer n m B { s with heap := h₁ }) (hm : Heap.MadeExc h₁ s.heap e "StopIteration" [])
    (h : ∀ s', Ext (frs outer) s₀ s' → B.StaysIn s'.heap → (∃ ob, s'.heap.get? e = some ob ∧ ob.cls = .type "StopIteration") → R (.error (.ref e)) s') :
    wpAny (model prog w) A (leaving env (.ref e)) (fun _ s'' => R (.error (.ref e)) s'') (fun e' s'' => R (.error e') s'') s := by
  have hid : ∀ f ∈ frs (env :: outer), (hideAll h₁ (frs (env :: outer))).get? f = none := fun f hf => hideAll_none _ hf
  have ff : h₁.FunFrames (hideAll h₁ (frs (env :: outer))) (env :: outer) := by
    have : ∀ l : List Env, (∀ e ∈ l, e ∈ env :: outer) → h₁.FunFrames (hideAll h₁ (frs (env :: outer))) l := by
      intro l
      induction l with
      | nil => intro _; trivial
      | cons e r ih =>
        intro q
        obtain ⟨h1, L, hL, _, o, es, ep, ho, hd⟩ := b.cx.funs e (q e List.mem_cons_self)
        exact ⟨h1, ⟨L, o, hL, hid L (List.mem_filterMap.mpr ⟨e, q e List.mem_cons_self, hL⟩), ho, fun vs z => by rw [hd] at z; cases z⟩, ih fun e' he' => q e' (List.mem_cons_of_mem _ he')⟩
    exact this _ fun _ z => z
  refine wpAny_leaves_madeW b.cx.fr b.efr (fun _ _ z => of_hideAll _ z) ff (Heap.MadeExc.of hm) fun h' t hfl _ _ hup => ?_
  have keepB : ∀ c o, c ∉ frs (env :: outer) → h₁.get? c = some o → h'.get? c = some o := fun c o hc z => hfl.1 c o (hideAll_get _ z hc)
  have slotB : ∀ c o, c ∈ frs (env :: outer) → h₁.get? c = some o → ∃ sl, h'.get? c = some { o with slots := sl } := fun c o hc z => by
    obtain ⟨env', he, hf⟩ := List.mem_filterMap.mp hc
    obtain ⟨_, L, hL, _, o', es, ep, ho, hd⟩ := b.cx.funs env' he
    rw [hf] at hL; cases hL
    have z' : h₁.get? c = some o' := ho
    rw [z] at z'; cases z'
    exact hup c o (hm.keeps c o z) fun vs q => by rw [hd] at q; cases q
  refine h _ ⟨fun c o hc z => ?_, fun c o hc z => ?_, b.ext.os, b.ext.gens⟩ (fun c o z => keepB c o (fun q => by rw [b.hid c q] at z; cases z) (b.keep c o z)) hfl.there
  · have hcL : c ≠ env.locals := fun q => by subst q; rw [b.new] at z; cases z
    exact keepB c o (fun q => by rw [b.frs] at q; rcases List.mem_cons.mp q with q | q; exact hcL q; exact hc q) (b.ext.keep c o hc z)
  · obtain ⟨sl, z1⟩ := b.ext.slot c o hc z
    obtain ⟨sl2, z2⟩ := slotB c _ (by rw [b.frs]; exact List.mem_cons_of_mem _ hc) z1
    exact ⟨sl2, z2⟩
end
end Mine
end

section
open PySem PySem.W PySem.Calls PyProof.Rows PySem.SeqAt
namespace Mine

theorem rdAll_len {h : Heap} : ∀ {vs : List Value} {ds : List PyData}, RdAll h vs ds → vs.length = ds.length
  | _, _, .nil => rfl
  | _, _, .cons _ r => by rw [List.length_cons, List.length_cons, rdAll_len r]
theorem rdAll_get {h : Heap} : ∀ {vs : List Value} {ds : List PyData} {j : Nat} {v : Value}, RdAll h vs ds → vs[j]? = some v → ∃ d, ds[j]? = some d ∧ Rd h v d
  | _, _, 0, _, .cons r _, e => by cases e; exact ⟨_, rfl, r⟩
  | _, _, j + 1, _, .cons _ rs, e => rdAll_get (j := j) rs e

theorem wpAny_bool {M : Model} {A : Around} {E : Value → Shared → Prop} {s : Shared} {env : Env} {c : Bool} {k : Nat} {pos : Pos} {Q : Value → Shared → Prop} (h : Q (.bool c) s) : wpAny M A (eval (.Constant (.bool c) k pos) env) Q E s := fun _ _ _ => h
theorem wpAny_none {M : Model} {A : Around} {E : Value → Shared → Prop} {s : Shared} {env : Env} {k : Nat} {pos : Pos} {Q : Value → Shared → Prop} (h : Q .none s) : wpAny M A (eval (.Constant .none k pos) env) Q E s := fun _ _ _ => h

section
variable {prog : Program} {w : World} {A : Around} {s : Shared} {K : Frag} {mg mb : Str → Option Value} {B₀ : Heap} {outer : List Env} {n : Nat}

/-- what the iterator needs of the heap: its object, what it filters, what it asks -/
structure FF (h : Heap) (x dx I mwx l sk : Addr) (k k2 : Sq) (vs us : List Value) (ds bs : List PyData) : Prop where
  ex : h.get? x = some (ffObj dx I (.ref mwx))
  ed : h.get? dx = some emptyDict
  em : h.get? mwx = some (mw k2.cont sk)
  el : SeqAt h k.nm l vs
  es : SeqAt h k2.nm sk us
  rl : RdAll h vs ds
  rs : RdAll h us bs

theorem FF.up {h h' : Heap} {x dx I mwx l sk : Addr} {k k2 : Sq} {vs us : List Value} {ds bs : List PyData} (f : FF h x dx I mwx l sk k k2 vs us ds bs)
    (u : SeqUp h h') (ex : h'.get? x = some (ffObj dx I (.ref mwx))) (ed : h'.get? dx = some emptyDict) (em : h'.get? mwx = some (mw k2.cont sk)) : FF h' x dx I mwx l sk k k2 vs us ds bs :=
  ⟨ex, ed, em, f.el.up u, f.es.up u, f.rl.up u, f.rs.up u⟩
theorem FF.keep {h h' : Heap} {x dx I mwx l sk : Addr} {k k2 : Sq} {vs us : List Value} {ds bs : List PyData} (f : FF h x dx I mwx l sk k k2 vs us ds bs) (u : h.StaysIn h') : FF h' x dx I mwx l sk k k2 vs us ds bs :=
  f.up (.of_keep u) (u _ _ f.ex) (u _ _ f.ed) (u _ _ f.em)

/-- one turn of the iterator: the next thing that is not skipped, or the end -/
theorem next_spec (P : Prg K mg mb B₀) (c : Cx B₀ A outer n s) (hn : n < 600) {x dx I mwx l sk : Addr} {k k2 : Sq} {vs us : List Value} {ds bs : List PyData} {i : Nat} {R : Result → Shared → Prop}
    (f : FF s.heap x dx I mwx l sk k k2 vs us ds bs) (hdF : dx ∉ frs outer) (hI : ItAt s.heap k I l i) (hI0 : B₀.get? I = none)
    (okd : ∀ d ∈ ds, shaped d = true) (okb : PyData.canLayAll0 bs = true)
    (hit : ∀ s' j v d, i ≤ j → vs[j]? = some v → ds[j]? = some d → hitBy bs d = false → (∀ j' d', i ≤ j' → j' < j → ds[j']? = some d' → hitBy bs d' = true) →
      Ext (frs outer) (hideS s I) s' → ItAt s'.heap k I l (j + 1) → R (.ok (.ret v)) s')
    (stop : ∀ s' e, (∀ j' d', i ≤ j' → ds[j']? = some d' → hitBy bs d' = true) → Ext (frs outer) (hideS s I) s' → (∃ ob, s'.heap.get? e = some ob ∧ ob.cls = .type "StopIteration") → R (.error (.ref e)) s') :
    codeAny (model prog w) A (.call (.ref 43) ⟨[.ref x], []⟩) R s := by
  have hIF : I ∉ frs outer := by obtain ⟨o, e, _, d⟩ := hI; exact c.notF e fun es ep q => by rw [d] at q; cases q
  have hxF : x ∉ frs outer := c.notF f.ex fun es ep q => by cases q
  have hmF : mwx ∉ frs outer := c.notF f.em fun es ep q => by cases q
  have hxI : x ≠ I := fun q => by obtain ⟨o, e, c', _⟩ := hI; have := f.ex; rw [q, e] at this; cases this; cases k <;> simp [Sq.itn] at c'
  have hdI : dx ≠ I := fun q => by obtain ⟨o, e, c', _⟩ := hI; have := f.ed; rw [q, e] at this; cases this; cases k <;> simp [Sq.itn] at c'
  have hmI : mwx ≠ I := fun q => by obtain ⟨o, e, c', _⟩ := hI; have := f.em; rw [q, e] at this; cases this; cases k <;> simp [Sq.itn] at c'
  have upI : SeqUp s.heap ((hideAll s.heap (frs outer)).hide I) := (c.seqUp_hide).trans fun a o vs' n' e d => by
    rw [Heap.hide_ne]; exact e
    intro q; obtain ⟨o', e', _, d'⟩ := hI
    have := of_hideAll _ e; rw [q, e'] at this; cases this; rw [d] at d'; cases d'
  refine fn_call c (by omega) P.lim P.d_next.ho P.d_next.cd rfl (.of_eq rfl) (by decide +kernel) (locs (by rfl)) (fun s₁ L hL b => ?_) (by rfl) (by rfl) (by rfl)
  have hIL : I ≠ L := by obtain ⟨o, e, _⟩ := hI; rw [hL]; exact Nat.ne_of_lt (Heap.lt_size e)
  have hI₁ : ItAt s₁.heap k I l i := by obtain ⟨o, e, c', d⟩ := hI; exact ⟨o, b.keep _ _ (hideAll_get _ e hIF), c', d⟩
  have b := b.lose I
  have fB : FF ((hideAll s.heap (frs outer)).hide I) x dx I mwx l sk k k2 vs us ds bs :=
    f.up upI (by rw [Heap.hide_ne _ hxI]; exact hideAll_get _ f.ex hxF) (by rw [Heap.hide_ne _ hdI]; exact hideAll_get _ f.ed hdF) (by rw [Heap.hide_ne _ hmI]; exact hideAll_get _ f.em hmF)
  -- func = self._func
  have f₁ := fB.keep b.keep
  refine wpAny_execs_cons (wpAny_Assign_Name (Attribute_name (b.name (by rfl) ?_ (by rfl) (by rfl) (by decide))) (by rfl))
  refine get_slot b.fr P.X ⟨f₁.ex, rfl, rfl, f₁.ed⟩ P.O.pg48 P.O.isC P.O.a48 P.O.n48 P.O.tt48 P.O.s48 (by rfl) (by rfl) ?_
  have b₂ := b.toks (s₁.toks + 1)
  refine b₂.put (fun h₃ tk₃ hs₃ b₃ => ?_) (by rfl) (by rfl)
  have hI₃ : ItAt h₃ k I l i := by obtain ⟨o, e, c', d⟩ := hI₁; exact ⟨o, (hs₃.2 _ hIL).trans e, c', d⟩
  -- while True
  refine wpAny_execs_cons (wpAny_While (codeAny_whileLoop
    (fun q s' => ∃ j m, q = vs.length + 1 - j ∧ i ≤ j ∧ (∀ j' d', i ≤ j' → j' < j → ds[j']? = some d' → hitBy bs d' = true) ∧
      Bd B₀ (hideS s I) (A.deeper (callEnv (fdOf (inCls 3) "__next__" "filterfalse.__next__" (.str "itertools" 187) (.ref 42)) L 43)) (callEnv (fdOf (inCls 3) "__next__" "filterfalse.__next__" (.str "itertools" 187) (.ref 42)) L 43) outer (n + 4) m ((hideAll s.heap (frs outer)).hide I) s' ∧
      m "self" = some (.ref x) ∧ m "func" = some (.ref mwx) ∧ ItAt s'.heap k I l j) ?_ (vs.length + 1 - i)
    ⟨i, _, rfl, Nat.le_refl _, fun j' d' h1 h2 => absurd h2 (Nat.not_lt.mpr h1), b₃, by rfl, by rfl, hI₃⟩))
  rintro q s₄ ⟨j, m, rfl, hij, hbef, b₄, ms, mf, hI₄⟩
  refine wpAny_passesOwn PassesOwn.leaving (isTrue_plain (wpAny_bool ?_) (by rfl))
  refine wpAny_truthy_bool ?_
  rw [if_pos rfl]
  refine wpAny_passesOwn PassesOwn.leaving ?_
  have f₄ := fB.keep b₄.keep
  -- item = next(self._it)
  refine wpAny_execs_cons (wpAny_Assign_Name (Call1 (P.builtin b₄.cx.stays P.n_next P.b_next (Attribute_name (b₄.name ms ?_ (by rfl) (by rfl) (by decide))) (by rfl) (by rfl) (by rfl) (by rfl) (by decide)) (by rfl) (by rfl)) (by rfl))
  refine get_slot b₄.fr P.X ⟨f₄.ex, rfl, rfl, f₄.ed⟩ P.O.pg49 P.O.isC P.O.a49 P.O.n49 P.O.tt49 P.O.s49 (by rfl) (by rfl) ⟨kept_builtin, ?_⟩
  have b₅ := b₄.toks (s₄.toks + 1)
  have nB : ((hideAll s.heap (frs outer)).hide I).get? I = none := Heap.hide_self _ _
  have n0 : (s.heap.hide I).get? I = none := Heap.hide_self _ _
  cases hv : vs[j]? with
  | none =>
    refine next_end (s := { s₄ with toks := s₄.toks + 1 }) b₅.cx.hd hI₄ f₄.el hv fun h₁ h' e hs hm => ?_
    have b₆ := b₅.same (tk := s₄.toks + 1) hs hIL hIF nB n0 hI0
    refine stop_leaves (s := { s₄ with heap := h', toks := s₄.toks + 1 }) b₆ hm fun s' x' _ ob => stop s' e (fun j' d' h1 h2 => ?_) x' ob
    rcases Nat.lt_or_ge j' j with h3 | h3
    · exact hbef j' d' h1 h3 h2
    · have hlen := rdAll_len f.rl
      have : j' < ds.length := (List.getElem?_eq_some_iff.mp h2).1
      have : vs.length ≤ j := List.getElem?_eq_none_iff.mp hv
      omega
  | some v =>
    obtain ⟨d, hd, _⟩ := rdAll_get f.rl hv
    refine next_item (s := { s₄ with toks := s₄.toks + 1 }) hI₄ f₄.el hv fun h₆ hI₆ hs₆ => ?_
    have b₆ := b₅.same (tk := s₄.toks + 1) hs₆ hIL hIF nB n0 hI0
    refine b₆.put (fun h₇ tk₇ hs₇ b₇ => ?_) (by rfl) (by rfl)
    have hI₇ : ItAt h₇ k I l (j + 1) := by obtain ⟨o, e, c', d⟩ := hI₆; exact ⟨o, (hs₇.2 _ hIL).trans e, c', d⟩
    have f₇ := fB.keep b₇.keep
    have rv : Rd h₇ v d := by obtain ⟨d', hd', rd⟩ := rdAll_get f₇.rl hv; rw [hd] at hd'; cases hd'; exact rd
    have hsh : shaped d = true := okd d (List.mem_of_getElem? hd)
    -- if func is None or func is bool
    refine wpAny_execs_cons (wpAny_If (isTrue_or (wpAny_isTrue_Compare1 (b₇.name mf (wpAny_none ?_) (by rfl) (by rfl) (by decide)))))
    refine wpAny_is_other (by rfl) (fun z => by cases z) (wpAny_truthy_bool ?_)
    rw [if_neg Bool.false_ne_true]
    refine isTrue_or (wpAny_isTrue_Compare1 (b₇.name mf (P.builtin b₇.cx.stays P.n_bool P.b_bool ?_ (by rfl) (by rfl) (by rfl) (by rfl) (by decide)) (by rfl) (by rfl) (by decide)))
    refine wpAny_is_other (by rfl) (fun z => by cases z) (wpAny_truthy_bool ?_)
    rw [if_neg Bool.false_ne_true]
    refine isTrue_or_nil ?_
    rw [if_neg Bool.false_ne_true]
    -- elif not func(item)
    refine wpAny_execs_cons (wpAny_If (isTrue_not (isTrue_plain (Call1 (b₇.name mf (b₇.name (by rfl) ⟨kept_mw f₇.em, wpAny_call ?_⟩ (by rfl) (by rfl) (by decide)) (by rfl) (by rfl) (by decide)) (by rfl) (by rfl)) (by rfl))))
    refine mw_call f₇.em f₇.es f₇.rs rv okb hsh (by have := b₇.cx.room; unfold cLine; omega) ?_
    refine wpAny_truthy_bool ?_
    cases hb : bs.any fun y => PyData.eqv y d with
    | false =>
      rw [Bool.not_false, if_pos rfl]
      refine wpAny_execs_cons (wpAny_Return_some (b₇.name (by rfl) ?_ (by rfl) (by rfl) (by decide)))
      exact hit _ j v d hij hv hd hb hbef b₇.ext hI₇
    | true =>
      rw [Bool.not_true, if_neg Bool.false_ne_true]
      refine wpAny_execs_nil (wpAny_execs_nil (wpAny_execs_nil ?_))
      have hj : j < vs.length := (List.getElem?_eq_some_iff.mp hv).1
      refine ⟨vs.length + 1 - (j + 1), by omega, j + 1, _, rfl, by omega, fun j' d' h1 h2 h3 => ?_, b₇, ms, mf, hI₇⟩
      rcases Nat.lt_or_ge j' j with h4 | h4
      · exact hbef j' d' h1 h4 h3
      · obtain rfl : j' = j := by omega
        rw [hd] at h3; cases h3; exact hb
end
end Mine
end

section
open PySem PySem.W PySem.Calls PyProof.Rows PySem.SeqAt
namespace Mine

theorem flt_mid {α : Type} (P : α → Bool) (ps : List α) : ∀ (i j : Nat), i ≤ j → (∀ j' q', i ≤ j' → j' < j → ps[j']? = some q' → P q' = false) → (ps.take j).filter P = (ps.take i).filter P := by
  intro i j hij
  induction j with
  | zero => intro _; obtain rfl : i = 0 := by omega
            rfl
  | succ j ih =>
    intro h
    rcases Nat.lt_or_ge j i with h1 | h1
    · obtain rfl : i = j + 1 := by omega
      rfl
    · rw [← ih h1 (fun j' q' a b c => h j' q' a (by omega) c)]
      rw [List.take_add_one, List.filter_append]
      cases hq : ps[j]? with
      | none => simp
      | some q => simp [h j q h1 (by omega) hq]
theorem flt_step {α : Type} (P : α → Bool) (ps : List α) {i j : Nat} {q : α} (hij : i ≤ j) (hq : ps[j]? = some q) (hp : P q = true) (h : ∀ j' q', i ≤ j' → j' < j → ps[j']? = some q' → P q' = false) :
    (ps.take (j + 1)).filter P = (ps.take i).filter P ++ [q] := by
  rw [List.take_add_one, List.filter_append, flt_mid P ps i j hij h, hq]
  simp [hp]
theorem flt_end {α : Type} (P : α → Bool) (ps : List α) {i : Nat} (h : ∀ j' q', i ≤ j' → ps[j']? = some q' → P q' = false) : (ps.take i).filter P = ps.filter P := by
  rcases Nat.lt_or_ge ps.length i with h1 | h1
  · rw [List.take_of_length_le (by omega)]
  · have := flt_mid P ps i ps.length h1 fun j' q' a _ c => h j' q' a c
    rw [List.take_length] at this; exact this.symm

/-- the pairs: a value and what it bears -/
abbrev Ps := List (Value × PyData)
abbrev vals (ps : Ps) : List Value := ps.map (·.1)
abbrev dats (ps : Ps) : List PyData := ps.map (·.2)
def RdP (h : Heap) (ps : Ps) : Prop := ∀ q ∈ ps, Rd h q.1 q.2
theorem RdP.up {h h' : Heap} (u : SeqUp h h') {ps : Ps} (r : RdP h ps) : RdP h' ps := fun q hq => (r q hq).up u
theorem RdP.all {h : Heap} : ∀ {ps : Ps}, RdP h ps → RdAll h (vals ps) (dats ps)
  | [], _ => .nil
  | _ :: _, r => .cons (r _ List.mem_cons_self) (RdP.all fun q hq => r q (List.mem_cons_of_mem _ hq))
theorem pairs_of {h : Heap} : ∀ {vs : List Value} {ds : List PyData}, RdAll h vs ds → ∃ ps : Ps, vals ps = vs ∧ dats ps = ds ∧ RdP h ps
  | _, _, .nil => ⟨[], rfl, rfl, fun _ h => nomatch h⟩
  | _, _, .cons r rs => by
    obtain ⟨ps, e1, e2, hp⟩ := pairs_of rs
    refine ⟨(_, _) :: ps, by rw [vals, List.map_cons]; exact congrArg _ e1, by rw [dats, List.map_cons]; exact congrArg _ e2, fun q hq => ?_⟩
    rcases List.mem_cons.mp hq with rfl | hq
    · exact r
    · exact hp q hq
def okP (ps : Ps) : Prop := ∀ q ∈ ps, shaped q.2 = true
theorem canLay_of_all : ∀ {ds : List PyData}, (∀ d ∈ ds, shaped d = true) → PyData.canLayAll0 ds = true
  | [], _ => by simp [PyData.canLayAll0]
  | d :: ds, h => by
    simp only [PyData.canLayAll0, Bool.and_eq_true]
    exact ⟨canLay_of_shaped (h d List.mem_cons_self), canLay_of_all fun d' hd' => h d' (List.mem_cons_of_mem _ hd')⟩
theorem okP.canLay {ps : Ps} (h : okP ps) : PyData.canLayAll0 (dats ps) = true := canLay_of_all fun d hd => by
  obtain ⟨q, hq, rfl⟩ := List.mem_map.mp hd
  exact h q hq
/-- what is left of the pairs: those that no skipped thing equals -/
abbrev leftP (bs : List PyData) (ps : Ps) : Ps := ps.filter fun q => !hitBy bs q.2

section
variable {B₀ : Heap} {s₀ : Shared} {A A' : Around} {env : Env} {outer : List Env} {n n' : Nat} {m m' : Str → Option Value} {B B' : Heap} {s s' : Shared}
theorem Bd.around (b : Bd B₀ s₀ A env outer n m B s) (h1 : A'.handled = A.handled) (h2 : A'.frames = A.frames) (h3 : A'.depth + A'.units ≤ n') : Bd B₀ s₀ A' env outer n' m B s :=
  { b with cx := { b.cx with hd := h1.trans b.cx.hd, fr := h2.trans b.cx.fr, room := h3 } }
theorem Bd.in1 (b : Bd B₀ s₀ A env outer n m B s) : Bd B₀ s₀ A.in1 env outer (n + 1) m B s := b.around rfl rfl (by have := b.cx.room; simp; omega)
theorem Bd.forget (b : Bd B₀ s₀ A env outer n m B s) (h : B'.StaysIn B) : Bd B₀ s₀ A env outer n m B' s :=
  { b with
    keep := fun c o e => b.keep c o (h c o e)
    hid := fun f hf => by
      cases e : B'.get? f with
      | none => rfl
      | some o => have := h f o e; rw [b.hid f hf] at this; cases this }
theorem Bd.hideB (b : Bd B₀ s₀ A env outer n m B s) (x : Addr) : Bd B₀ s₀ A env outer n m (B.hide x) s := b.forget fun _ _ e => Heap.of_hide e
/-- a call came back that may have changed one object -/
theorem Bd.callHide (b : Bd B₀ s₀ A env outer n m B s) {a : Addr} (x : Ext (Mine.frs (env :: outer)) (hideS s a) s') (ha : a ≠ env.locals) (hf : a ∉ Mine.frs outer)
    (hB : B.get? a = none) (h0 : s₀.heap.get? a = none) (hB0 : B₀.get? a = none) : Bd B₀ s₀ A env outer n m B s' := by
  have hn : (s.heap.hide a).Ns env.locals m := by
    obtain ⟨o, es, ep, e, r⟩ := b.ns
    exact ⟨o, es, ep, by rw [Heap.hide_ne _ (Ne.symm ha)]; exact e, r⟩
  exact (b.mod (tk := s.toks) hn (fun c o _ hc e => by rw [Heap.hide_ne _ hc]; exact e) hf hB h0 hB0).call x
end
end Mine
end

section
open PySem PySem.W PySem.Calls PyProof.Rows PySem.SeqAt
namespace Mine

section
variable {prog : Program} {w : World} {K : Frag} {mg mb : Str → Option Value} {B₀ : Heap} {s₀ : Shared} {A : Around} {env : Env} {outer : List Env} {n : Nat} {m : Str → Option Value} {B : Heap}
  {x dx I mwx l sk S : Addr} {k k2 : Sq} {ps us : Ps}

/-- the loop of list(it): from place i on -/
theorem ext_loop (P : Prg K mg mb B₀) (hn : n < 550) (f : FF B x dx I mwx l sk k k2 (vals ps) (vals us) (dats ps) (dats us)) (okd : okP ps) (okb : okP us) (hdF : dx ∉ frs (env :: outer))
    (hIB : B.get? I = none) (hI0 : s₀.heap.get? I = none) (hIB0 : B₀.get? I = none) (hSB : B.get? S = none) (hS0 : s₀.heap.get? S = none) (hSB0 : B₀.get? S = none) (hz : ps.length ≤ 1000) {R : Result → Shared → Prop}
    (fin : ∀ s' c, Bd B₀ s₀ A env outer n m B s' → s'.heap.get? S = some { cls := .type "list", data := .seq (vals (leftP (dats us) ps)).toArray c } → R (.ok (.ret .none)) s') :
    ∀ (q i : Nat) (s : Shared) (c : Nat), q = ps.length + 1 - i → Bd B₀ s₀ A env outer n m B s → ItAt s.heap k I l i →
      s.heap.get? S = some { cls := .type "list", data := .seq (vals (leftP (dats us) (ps.take i))).toArray c } → codeAny (model prog w) A (.builtin "list.extend.loop" ⟨[.ref S, .ref x, .none], []⟩) R s := by
  intro q
  induction q using Nat.strongRecOn with
  | ind q ih =>
  intro i s c hq b hI hS
  refine codeAny_builtin F.entry_extend_loop ?_
  rw [Around.under_plainId F.plain_extend_loop _]
  show wpAny _ A.in1 (pyNext (.ref x) >>= _) _ _ s
  have f' := f.keep b.keep
  have b1 := b.in1
  have hSF : S ∉ frs (env :: outer) := b.cx.notF hS fun es ep q => by cases q
  have hIF : I ∉ frs (env :: outer) := by obtain ⟨o, e, _, d⟩ := hI; exact b.cx.notF e fun es ep q => by rw [d] at q; cases q
  have hIL : I ≠ env.locals := fun q => hIF (by rw [b.frs, q]; exact List.mem_cons_self)
  have hIF' : I ∉ frs outer := fun q => hIF (by rw [b.frs]; exact List.mem_cons_of_mem _ q)
  have hSL : S ≠ env.locals := fun q => hSF (by rw [b.frs, q]; exact List.mem_cons_self)
  have hSF' : S ∉ frs outer := fun q => hSF (by rw [b.frs]; exact List.mem_cons_of_mem _ q)
  have hSI : S ≠ I := fun q => by obtain ⟨o, e, _, d⟩ := hI; rw [q, e] at hS; cases hS; cases d
  have inst : InstAt s.heap x (ffObj dx I (.ref mwx)) 47 (some emptyDict) := ⟨f'.ex, rfl, rfl, f'.ed⟩
  refine wpAny_bind (owit_next b.fr P.X inst P.O.nxt (by unfold isFn; rw [P.O.t43]; rfl) (wpAny_call ?_))
  refine next_spec P b1.cx (by omega) f' hdF hI hIB0 (fun d hd => ?_) okb.canLay (fun s' j v d hij hv hd hb hbef x' hI' => ?_) (fun s' e hall x' ob => ?_)
  · obtain ⟨q, hq, rfl⟩ := List.mem_map.mp hd; exact okd q hq
  · -- one more thing
    have b2 := b.callHide x' hIL hIF' hIB hI0 hIB0
    have hS2 : s'.heap.get? S = some { cls := .type "list", data := .seq (vals (leftP (dats us) (ps.take i))).toArray c } := x'.keep S _ hSF (by rw [Heap.hide_ne _ hSI]; exact hS)
    obtain ⟨q', hq', hv'⟩ : ∃ q', ps[j]? = some q' ∧ q'.1 = v := by rw [List.getElem?_map] at hv; exact Option.map_eq_some_iff.mp hv
    have hd' : q'.2 = d := by rw [List.getElem?_map, hq'] at hd; cases hd; rfl
    have hj : j < ps.length := (List.getElem?_eq_some_iff.mp hq').1
    have hst : leftP (dats us) (ps.take (j + 1)) = leftP (dats us) (ps.take i) ++ [q'] := flt_step _ ps hij hq' (by show (!hitBy (dats us) q'.2) = true; rw [hd', hb]; rfl) fun j' q'' h1 h2 h3 => by
      have := hbef j' q''.2 h1 h2 (by rw [List.getElem?_map, h3]; rfl)
      show (!hitBy (dats us) q''.2) = false
      rw [this]; rfl
    have hlen : (leftP (dats us) (ps.take i)).length ≤ ps.length := Nat.le_trans (List.length_filter_le _ _) (by rw [List.length_take]; exact Nat.min_le_right _ _)
    show wpAny _ A.in1 (updateSeq S (·.push v) >>= _) _ _ _
    refine wpAny_bind (wpAny_updateSeq hS2 rfl ?_ (by rw [List.size_toArray, List.length_map, sizeLine_eq]; omega) (by rw [Array.size_push, List.size_toArray, List.length_map, sizeLine_eq]; omega))
    have hs3 : Heap.SameBut S s'.heap (s'.heap.update S (Obj.mapSeq (·.push v))) := Heap.SameBut.update ..
    have b3 := b2.same (tk := s'.toks) hs3 hSL hSF' hSB hS0 hSB0
    have hS3 := Heap.get?_update_self (Obj.mapSeq (·.push v)) hS2 rfl
    refine wpAny_pure ⟨plainId_quiet F.plain_extend_loop _, ih (ps.length + 1 - (j + 1)) (by omega) (j + 1) _ (c + 1) rfl b3 ?_ ?_⟩
    · obtain ⟨o, e, c', d⟩ := hI'; exact ⟨o, (hs3.2 _ (Ne.symm hSI)).trans e, c', d⟩
    · rw [hst, hS3]
      simp [Obj.mapSeq, hv']
  · -- the end
    have b2 := b.callHide x' hIL hIF' hIB hI0 hIB0
    have hS2 : s'.heap.get? S = some { cls := .type "list", data := .seq (vals (leftP (dats us) (ps.take i))).toArray c } := x'.keep S _ hSF (by rw [Heap.hide_ne _ hSI]; exact hS)
    obtain ⟨o, ho, hc⟩ := ob
    have hend : leftP (dats us) (ps.take i) = leftP (dats us) ps := flt_end _ ps fun j' q' h1 h2 => by
      have := hall j' q'.2 h1 (by rw [List.getElem?_map, h2]; rfl)
      show (!hitBy (dats us) q'.2) = false
      rw [this]; rfl
    unfold OwitStop
    refine wpAny_isInstance ⟨o, ho, hc⟩ isSubtype_stop ?_
    rw [if_pos rfl]
    refine wpAny_pure (fin s' c b2 ?_)
    rw [← hend]; exact hS2
end
end Mine
end

section
open PySem PySem.W PySem.Calls PyProof.Rows PySem.SeqAt
namespace Mine

section
variable {prog : Program} {w : World} {K : Frag} {mg mb : Str → Option Value} {B₀ : Heap} {s₀ : Shared} {A : Around} {env : Env} {outer : List Env} {n : Nat} {m : Str → Option Value} {B : Heap}
  {x dx I mwx l sk : Addr} {k k2 : Sq} {ps us : Ps} {s : Shared} {E : Value → Shared → Prop}

/-- list(filterfalse(..)) -/
theorem list_ff (P : Prg K mg mb B₀) (hn : n < 500) (b : Bd B₀ s₀ A env outer n m B s) (f : FF B x dx I mwx l sk k k2 (vals ps) (vals us) (dats ps) (dats us)) (okd : okP ps) (okb : okP us) (hdF : dx ∉ frs (env :: outer))
    (hI : ItAt s.heap k I l 0) (hIB : B.get? I = none) (hI0 : s₀.heap.get? I = none) (hIB0 : B₀.get? I = none) (hz : ps.length ≤ 1000) {Q : Value → Shared → Prop}
    (h : ∀ s' S, Bd B₀ s₀ A env outer n m B s' → SeqAt s'.heap "list" S (vals (leftP (dats us) ps)) → s.heap.get? S = none → Q (.ref S) s') :
    wpAny (model prog w) A (call (.type "list") [.ref x]) Q E s := by
  have fS := get?_size s.heap
  obtain ⟨hSL, hSF', hSB, hS0, hSB0⟩ := b.fresh fS
  have hSI : s.heap.objs.size ≠ I := fun q => by obtain ⟨o, e, _⟩ := hI; rw [← q, fS] at e; cases e
  refine callType_codes (Q₁ := fun obj s₁ => obj = .ref s.heap.objs.size ∧ s₁ = { s with heap := s.heap.push { cls := .type "list", data := .seq #[] } }) F.called_list (F.typeCall_list_1 _) F.entry_list_init
    (code_list_new _ ⟨rfl, rfl⟩) fun obj s₁ h₁ => ?_
  obtain ⟨rfl, rfl⟩ := h₁
  have hS : (s.heap.push { cls := .type "list", data := .seq #[] }).get? s.heap.objs.size = some { cls := .type "list", data := .seq #[] } := Heap.get?_push_size _ rfl
  refine ⟨⟨_, hS, rfl⟩, F.args_list_init_2 _ _, ?_⟩
  generalize hSS : s.heap.objs.size = S at *
  have b1 := b.push { cls := .type "list", data := .seq #[] }
  have hI1 : ItAt (s.heap.push { cls := .type "list", data := .seq #[] }) k I l 0 := by obtain ⟨o, e, c', d⟩ := hI; exact ⟨o, Heap.get?_push_of_some _ e, c', d⟩
  show wpAny _ A.in1.in1 (do let old ← Builtin.List.listItems (.ref S); Builtin.List.listUpdate (.ref S) (fun _ => #[]); letGo old.toList.reverse; Builtin.List.listExtendWith (.ref S) (.ref x) .none) _ _ _
  refine wpAny_bind ?_
  unfold Builtin.List.listItems
  refine wpAny_bind (wpAny_seqItems hS rfl (wpAny_pure ?_))
  show wpAny _ A.in1.in1 (updateSeq S (fun _ => #[]) >>= fun _ => letGo (#[] : Array Value).toList.reverse >>= fun _ => Builtin.List.listExtendWith (.ref S) (.ref x) .none) _ _ _
  refine wpAny_bind (wpAny_updateSeq hS rfl ?_)
  have hs2 : Heap.SameBut S (s.heap.push { cls := .type "list", data := .seq #[] }) _ := Heap.SameBut.update _ S (Obj.mapSeq (fun _ => (#[] : Array Value)))
  have hS2 := Heap.get?_update_self (Obj.mapSeq (fun _ => (#[] : Array Value))) hS rfl
  have b2 := b1.same (tk := s.toks) hs2 hSL hSF' hSB hS0 hSB0
  have hI2 : ItAt ((s.heap.push { cls := .type "list", data := .seq #[] }).update S (Obj.mapSeq (fun _ => (#[] : Array Value)))) k I l 0 := by obtain ⟨o, e, c', d⟩ := hI1; exact ⟨o, (hs2.2 _ (Ne.symm hSI)).trans e, c', d⟩
  refine wpAny_bind (wpAny_letGo ?_)
  generalize hH : ((s.heap.push { cls := .type "list", data := .seq #[] }).update S (Obj.mapSeq (fun _ => (#[] : Array Value)))) = H at *
  have f2 := f.keep b2.keep
  have inst : InstAt H x (ffObj dx I (.ref mwx)) 47 (some emptyDict) := ⟨f2.ex, rfl, rfl, f2.ed⟩
  have X2 := P.X.keeps b2.cx.stays
  unfold Builtin.List.listExtendWith
  refine wpAny_bind (inst.type.here ?_)
  have hne : (Builtin.List.listSameRef (.ref S) (.ref x) || Value.ref 47 == Value.type "list" || Value.ref 47 == Value.type "tuple") = false := by
    have : S ≠ x := fun q => by have e := f.ex; rw [← q, hSB] at e; cases e
    simp [Builtin.List.listSameRef, this]
  simp only [hne, Bool.false_eq_true, if_false]
  have b3 := b2.in1.in1
  refine wpAny_bind (owit_iter b2.fr P.X inst P.O.itr (by unfold isFn; rw [P.O.t36]; rfl) (wpAny_call (iter_spec P b3.cx (by omega) fun s' x' => ?_)))
  have b4 := b2.call x'
  have f4 := f.keep b4.keep
  have hSF : S ∉ frs (env :: outer) := fun q => by rw [b.frs] at q; rcases List.mem_cons.mp q with q | q; exact hSL q; exact hSF' q
  have hIF : I ∉ frs (env :: outer) := by obtain ⟨o, e, _, d⟩ := hI; exact b.cx.notF e fun es ep q => by rw [d] at q; cases q
  have hS4 : s'.heap.get? S = some (Obj.mapSeq (fun _ => (#[] : Array Value)) { cls := .type "list", data := .seq #[] }) := x'.keep _ _ hSF hS2
  have hI4 : ItAt s'.heap k I l 0 := by obtain ⟨o, e, c', d⟩ := hI2; exact ⟨o, x'.keep _ _ hIF e, c', d⟩
  have inst4 : InstAt s'.heap x (ffObj dx I (.ref mwx)) 47 (some emptyDict) := ⟨f4.ex, rfl, rfl, f4.ed⟩
  have X4 := P.X.keeps b4.cx.stays
  refine owit_it b4.fr P.X inst4 P.O.nxt ?_
  refine wpAny_bind (wpAny_holding ?_)
  unfold Builtin.List.listLengthHint
  refine wpAny_bind (wpAny_bind (inst4.type.here ((looks_findIn X4 P.O.nl).here ?_)))
  show wpAny _ A.in1.in1 (specialOf (.ref x) (Str.ofString "__length_hint__") >>= _) _ _ _
  refine wpAny_bind (wpAny_bind (inst4.type.here ((looks_findIn X4 P.O.nh).here ?_)))
  refine wpAny_pure ?_
  show wpAny _ A.in1.in1 (rule "list.extend.makes-room" >>= fun _ => Builtin.List.listTouch (.ref S) >>= fun _ =>
    again (.builtin "list.extend.loop" ⟨[.ref S, .ref x, .none], []⟩)) _ _ _
  refine wpAny_bind (wpAny_rule ?_)
  refine wpAny_bind ?_
  show wpAny _ A.in1.in1 (updateSeq S (·.push .none) >>= fun _ => updateSeq S (·.pop)) _ _ _
  refine wpAny_bind (wpAny_updateSeq hS4 rfl ?_)
  have hS5 := Heap.get?_update_self (Obj.mapSeq (·.push Value.none)) hS4 rfl
  refine wpAny_updateSeq (hz := by seq_fits) hS5 rfl ?_
  have hS6 := Heap.get?_update_self (Obj.mapSeq (·.pop)) hS5 rfl
  have hs6 : Heap.SameBut S s'.heap ((s'.heap.update S (Obj.mapSeq (·.push Value.none))).update S (Obj.mapSeq (·.pop))) := (Heap.SameBut.update ..).trans (Heap.SameBut.update ..)
  have b6 := b4.same (tk := s'.toks) hs6 hSL hSF' hSB hS0 hSB0
  have hI6 : ItAt ((s'.heap.update S (Obj.mapSeq (·.push Value.none))).update S (Obj.mapSeq (·.pop))) k I l 0 := by obtain ⟨o, e, c', d⟩ := hI4; exact ⟨o, (hs6.2 _ (Ne.symm hSI)).trans e, c', d⟩
  refine wpAny_pure ⟨plainId_quiet F.plain_extend_loop _, ext_loop P (by omega) f okd okb hdF hIB hI0 hIB0 hSB hS0 hSB0 hz (fun s'' c b7 e7 => ?_) _ 0 _ _ rfl b6.in1 hI6 (by simpa [Obj.mapSeq] using hS6)⟩
  exact ⟨rfl, h s'' S (b7.around rfl rfl b.cx.room) ⟨c, e7⟩ fS⟩
end
end Mine
end

section
open PySem PySem.W PySem.Calls PyProof.Rows PySem.SeqAt
namespace Mine

section
variable {prog : Program} {w : World} {K : Frag} {mg mb : Str → Option Value} {B₀ : Heap} {A : Around} {outer : List Env} {n : Nat} {s : Shared}

theorem kept_cls {M : Model} (X : K.In s.heap) (h : keepIn K (.ref 47) = true) : Kept M A (.ref 47) s := by
  unfold keepIn at h
  dsimp only at h
  split at h
  · rename_i ho
    exact kept_fn (X _ _ ho) rfl
  · rename_i ho
    have hs := beq_iff_eq.mp h
    refine ⟨.machine, fun E Q q => ?_⟩
    unfold keeperOf
    refine wpAny_bind (wpAny_load (X _ _ ho) ?_)
    refine wpAny_bind ((looks_specialIn X hs).here ?_)
    exact wpAny_pure q
  · cases h

/-- _filter(flist, skip) -/
theorem filter_spec (P : Prg K mg mb B₀) (c : Cx B₀ A outer n s) (hn : n < 450) {l sk : Addr} {k k2 : Sq} {ps us : Ps} (hl : SeqAt s.heap k.nm l (vals ps)) (hsk : SeqAt s.heap k2.nm sk (vals us))
    (rp : RdP s.heap ps) (ru : RdP s.heap us) (okd : okP ps) (okb : okP us) (hz : ps.length ≤ 1000) {R : Result → Shared → Prop}
    (h : ∀ s' S, Ext (frs outer) s s' → SeqAt s'.heap "list" S (vals (leftP (dats us) ps)) → s.heap.get? S = none → R (.ok (.ret (.ref S))) s') :
    codeAny (model prog w) A (.call (.ref 58) ⟨[.ref l, .ref sk], []⟩) R s := by
  refine fn_call_ret c (by omega) P.lim P.d_filter.ho P.d_filter.cd rfl (.of_eq rfl) (by decide +kernel) (locs (by rfl)) (fun s₁ L hL b => ?_) (by rfl) (by rfl) (by rfl)
  have hsk1 : SeqAt s₁.heap k2.nm sk (vals us) := (hsk.up c.seqUp_hide).up b.up
  refine wpAny_execs_cons (wpAny_Return_some (Call1 (P.builtin b.cx.stays P.n_list P.b_list (Call2 (P.name b.cx.stays P.g_ff (Attribute_name (b.name (by rfl) (attr_mw hsk1 ?_) (by rfl) (by rfl) (by decide))) (by rfl) (by rfl) (by rfl) (by decide)) (by rfl) (by rfl)) (by rfl) (by rfl) (by rfl) (by rfl) (by decide)) (by rfl) (by rfl)))
  have b2 := b.call (s' := { s₁ with heap := s₁.heap.push (mw k2.cont sk), toks := s₁.toks + 1 }) (Ext.push _ _ _ _)
  have fm := get?_size s₁.heap
  have em : (s₁.heap.push (mw k2.cont sk)).get? s₁.heap.objs.size = some (mw k2.cont sk) := Heap.get?_push_size _ rfl
  refine b2.name (by rfl) ⟨kept_cls (P.X.keeps b2.cx.stays) P.O.kp, wpAny_call ?_⟩ (by rfl) (by rfl) (by decide)
  have hl2 : SeqAt (s₁.heap.push (mw k2.cont sk)) k.nm l (vals ps) := (hl.up c.seqUp_hide).up b2.up
  refine ff_make P b2.cx (by omega) hl2 fun s₃ x dx I x3 ex ed eI nx nd nI => ⟨kept_type, ?_⟩
  have b3 := b2.call x3
  have b4 := b3.base.hideB I
  have frx := (b2.fresh nx).2.1
  have notF : ∀ a, ({ s₁ with heap := s₁.heap.push (mw k2.cont sk), toks := s₁.toks + 1 } : Shared).heap.get? a = none → a ∉ frs (callEnv (fdOf (stm 3) "_filter" "_filter" (.str "cpy313.filecmp" 239) (.ref 57)) L 58 :: outer) := fun a q z => by
    rw [b2.frs] at z
    rcases List.mem_cons.mp z with z | z
    · exact (b2.fresh q).1 z
    · exact (b2.fresh q).2.1 z
  have upI : SeqUp s₃.heap ((hideAll s₃.heap (frs (callEnv (fdOf (stm 3) "_filter" "_filter" (.str "cpy313.filecmp" 239) (.ref 57)) L 58 :: outer))).hide I) := (b3.cx.seqUp_hide).trans fun a o vs' n' e d => by
    rw [Heap.hide_ne]; exact e
    intro q
    have := of_hideAll _ e; rw [q, eI] at this; cases this; cases d
  have u3 : SeqUp s.heap s₃.heap := (c.seqUp_hide).trans b3.up
  have hxI : x ≠ I := fun q => by rw [q, eI] at ex; cases ex
  have hdI : dx ≠ I := fun q => by rw [q, eI] at ed; cases k <;> simp [itObj, emptyDict] at ed
  have hmI : s₁.heap.objs.size ≠ I := fun q => by rw [← q] at nI; rw [em] at nI; cases nI
  have em3 : s₃.heap.get? s₁.heap.objs.size = some (mw k2.cont sk) := x3.keep _ _ (b2.cx.notF em fun es ep q => by cases q) em
  have f : FF ((hideAll s₃.heap (frs (callEnv (fdOf (stm 3) "_filter" "_filter" (.str "cpy313.filecmp" 239) (.ref 57)) L 58 :: outer))).hide I) x dx I s₁.heap.objs.size l sk k k2 (vals ps) (vals us) (dats ps) (dats us) :=
    ⟨by rw [Heap.hide_ne _ hxI]; exact hideAll_get _ ex (notF x nx), by rw [Heap.hide_ne _ hdI]; exact hideAll_get _ ed (notF dx nd),
     by rw [Heap.hide_ne _ hmI]; exact hideAll_get _ em3 (b3.cx.notF em3 fun es ep q => by cases q), (hl.up u3).up upI, (hsk.up u3).up upI, (rp.all.up u3).up upI, (ru.all.up u3).up upI⟩
  refine list_ff P (by omega) b4 f okd okb (notF dx nd) ⟨_, eI, rfl, rfl⟩ (Heap.hide_self _ _) (b2.fresh nI).2.2.2.1 (b2.fresh nI).2.2.2.2 hz fun s₅ S b5 eS nS => ?_
  exact h s₅ S b5.ext eS (b4.fresh nS).2.2.2.1
end
end Mine
end

section
open PySem PySem.W PySem.Calls PyProof.Rows PySem.SeqAt
open AutoSeq1 (wpAny_loadPart')
namespace Mine

theorem map_erase {α β : Type} (f : α → β) : ∀ (l : List α) (i : Nat), (l.map f).eraseIdx i = (l.eraseIdx i).map f
  | [], _ => rfl
  | _ :: _, 0 => rfl
  | a :: l, i + 1 => by simp only [List.map_cons, List.eraseIdx_cons_succ]; rw [map_erase f l i]

theorem entry_remove_loop : entryFor table "list.remove.loop" = some Builtin.«list.remove.loop» := entryFor_of_tree (by kernel_rfl)
theorem plain_remove_loop : plainId "list.remove.loop" = true := by decide +kernel

section
variable {prog : Program} {w : World} {A : Around} {E : Value → Shared → Prop} {s : Shared} {l : Addr} {v : Value} {d : PyData} {ps : Ps} {c j : Nat}

/-- the pairs without the j-th -/
theorem remove_loop {R : Result → Shared → Prop} (hl : s.heap.get? l = some { cls := .type "list", data := .seq (vals ps).toArray c }) (rp : RdP s.heap ps) (rv : Rd s.heap v d) (okd : okP ps) (hd : shaped d = true) (hu : A.units + 100 < cLine)
    (hj : j < ps.length) (hz : ps.length ≤ 1000) (hit : PyData.eqv (ps[j]).2 d = true) (h : ∀ h', Heap.SameBut l s.heap h' → SeqAt h' "list" l (vals (ps.eraseIdx j)) → R (.ok (.ret .none)) { s with heap := h' }) :
    ∀ (q i : Nat), q = j - i → i ≤ j → (∀ m (hm : m < ps.length), i ≤ m → m < j → PyData.eqv (ps[m]).2 d = false) →
      codeAny (model prog w) A (.builtin "list.remove.loop" ⟨[.ref l, v, rawInt i], []⟩) R s := by
  have eqAt : ∀ m (hm : m < ps.length), EqAt A.in1 s (ps[m]).1 v (PyData.eqv (ps[m]).2 d) := fun m hm => by
    obtain ⟨as, r1⟩ := (rp _ (List.getElem_mem hm)).reads
    obtain ⟨bs, r2⟩ := rv.reads
    have h1 := okd _ (List.getElem_mem hm)
    refine eqAt_reads _ _ A.in1 s _ _ as bs r1 r2 (canLay_of_shaped h1) (canLay_of_shaped hd) (room_of_shaped h1 (by show A.units + 1 + 64 < cLine; omega))
  intro q
  induction q with
  | zero =>
    intro i hq hij hno
    obtain rfl : i = j := by omega
    refine codeAny_builtin entry_remove_loop ?_
    rw [Around.under_plainId plain_remove_loop _]
    obtain ⟨hp, g, dr, tk, os⟩ := s
    wp_walk using wpAny_loadPart' hl
    have hi : (vals ps).toArray[((i : Nat) : Int).toNat]? = some (ps[i]).1 := by simp [hj]
    rw [hi]
    refine wpAny_bind (eqAt i hj prog w _ _ ?_)
    rw [hit, if_pos rfl]
    show wpAny _ _ (updateSeq l (·.eraseIdxIfInBounds ((i : Nat) : Int).toNat) >>= _) _ _ _
    have hz1 : (vals ps).toArray.size ≤ sizeLine := by rw [List.size_toArray, List.length_map, sizeLine_eq]; omega
    refine wpAny_bind (wpAny_updateSeq hl rfl ?_ hz1 ?_)
    · refine wpAny_pure (h _ (Heap.SameBut.update ..) ⟨c + 1, ?_⟩)
      rw [Heap.get?_update_self _ hl rfl]
      have e1 : (vals ps).toArray.eraseIdxIfInBounds ((i : Nat) : Int).toNat = (vals (ps.eraseIdx i)).toArray := by
        rw [Int.toNat_natCast, List.eraseIdxIfInBounds_toArray, map_erase]
      have e2 : ((vals (ps.eraseIdx i)).toArray.size == (vals ps).toArray.size) = false := by
        rw [List.size_toArray, List.size_toArray, List.length_map, List.length_map, List.length_eraseIdx, if_pos hj]
        exact beq_false_of_ne (by omega)
      simp only [Obj.mapSeq, e1, e2, Bool.false_eq_true, if_false]
    · rw [Int.toNat_natCast, List.eraseIdxIfInBounds_toArray, List.size_toArray, sizeLine_eq]
      have := List.length_eraseIdx_le (vals ps) i
      rw [List.length_map] at this
      omega
  | succ q ih =>
    intro i hq hij hno
    have hi' : i < ps.length := by omega
    refine codeAny_builtin entry_remove_loop ?_
    rw [Around.under_plainId plain_remove_loop _]
    have step := ih (i + 1) (by omega) (by omega) (fun m hm h1 h2 => hno m hm (by omega) h2)
    obtain ⟨hp, g, dr, tk, os⟩ := s
    wp_walk using wpAny_loadPart' hl
    have hi : (vals ps).toArray[((i : Nat) : Int).toNat]? = some (ps[i]).1 := by simp [hi']
    rw [hi]
    refine wpAny_bind (eqAt i hi' prog w _ _ ?_)
    rw [hno i hi' (Nat.le_refl _) (by omega)]
    wp_walk
    exact ⟨plainId_quiet plain_remove_loop _, step⟩
end
end Mine
end

section
open PySem PySem.W PySem.Calls PyProof.Rows PySem.SeqAt
namespace Mine

theorem erase_filter {α : Type} (p : α → Bool) : ∀ (l : List α) (j : Nat) (h : j < l.length), p l[j] = false → (l.eraseIdx j).filter p = l.filter p
  | a :: l, 0, _, e => by
    have e' : p a = false := e
    simp [e']
  | a :: l, j + 1, h, e => by
    have ih := erase_filter p l j (by simpa using h) (by simpa using e)
    simp only [List.eraseIdx_cons_succ, List.filter_cons, ih]
theorem first_hit {α : Type} (p : α → Bool) (l : List α) (h : l.any p = true) : ∃ j, ∃ hj : j < l.length, p l[j] = true ∧ ∀ m (hm : m < l.length), m < j → p l[m] = false := by
  have hlt : l.findIdx p < l.length := List.findIdx_lt_length.mpr (by obtain ⟨x, hx, hp⟩ := List.any_eq_true.mp h; exact ⟨x, hx, hp⟩)
  refine ⟨l.findIdx p, hlt, List.findIdx_getElem, fun m hm hlt' => ?_⟩
  have := List.not_of_lt_findIdx hlt'
  simpa using this

/-- the pairs less those that equal d -/
abbrev lessP (d : PyData) (ps : Ps) : Ps := ps.filter fun q => !PyData.eqv q.2 d
def dropP (bs : List PyData) (ps : Ps) : Ps := bs.foldl (fun ps d => lessP d ps) ps
theorem dropP_snoc (bs : List PyData) (d : PyData) (ps : Ps) : dropP (bs ++ [d]) ps = lessP d (dropP bs ps) := by
  unfold dropP; rw [List.foldl_append]; rfl
theorem dropP_sub (bs : List PyData) : ∀ (ps : Ps), ∀ q ∈ dropP bs ps, q ∈ ps := by
  induction bs with
  | nil => intro ps q h; exact h
  | cons d bs ih => intro ps q h; exact (List.mem_filter.mp (ih _ q h)).1
theorem dropP_len (bs : List PyData) : ∀ (ps : Ps), (dropP bs ps).length ≤ ps.length := by
  induction bs with
  | nil => intro ps; exact Nat.le_refl _
  | cons d bs ih => intro ps; exact Nat.le_trans (ih _) (List.length_filter_le _ _)

section
variable {prog : Program} {w : World} {A : Around} {E : Value → Shared → Prop} {s : Shared} {l : Addr} {v : Value} {d : PyData} {ps : Ps} {c j : Nat} {env : Env}

theorem remove_call {Q : Value → Shared → Prop} (hl : SeqAt s.heap "list" l (vals ps)) (rp : RdP s.heap ps) (rv : Rd s.heap v d) (okd : okP ps) (hd : shaped d = true) (hu : A.units + 100 < cLine)
    (hj : j < ps.length) (hz : ps.length ≤ 1000) (hit : PyData.eqv (ps[j]).2 d = true) (hno : ∀ m (hm : m < ps.length), m < j → PyData.eqv (ps[m]).2 d = false)
    (h : ∀ h', Heap.SameBut l s.heap h' → SeqAt h' "list" l (vals (ps.eraseIdx j)) → Q .none { s with heap := h' }) :
    wpAny (model prog w) A (call (.builtin "list.remove") [.ref l, v]) Q E s := by
  obtain ⟨c, hl⟩ := hl
  refine wpAny_call (codeAny_call_builtin F.slot_list_remove.plain F.entry_list_remove (F.slot_list_remove.check _ _ _ _ _ _ _ _ ⟨_, hl, rfl⟩ (F.args_list_remove_2 _ _) ?_))
  show wpAny _ A.in1 (again (.builtin "list.remove.loop" ⟨[.ref l, v, rawInt (0 : Nat)], []⟩)) _ _ s
  refine wpAny_pure ⟨plainId_quiet plain_remove_loop _, ?_⟩
  exact remove_loop hl rp rv okd hd hu hj hz hit h j 0 rfl (Nat.zero_le _) fun m hm _ h2 => hno m hm h2

/-- o.remove(e) as a statement's expression -/
theorem remove_expr {o e : Expr} {apos pos : Pos} {pl : Sem Bool} {Q : Value → Shared → Prop}
    (h : wpAny (model prog w) A (eval o env) (fun ov s₁ => ∃ l vs, ov = .ref l ∧ SeqAt s₁.heap "list" l vs ∧
      wpAny (model prog w) A (eval e env) (fun y s₂ => wpAny (model prog w) A (call (.builtin "list.remove") [.ref l, y]) Q E s₂) E s₁) E s)
    (hs : starEach [e] env = [(false, eval e env)] := by rfl)
    (he : eval (.Call (.Attribute o "remove" apos) [e] [] pos) env = (do
      let ov ← eval o env
      standAt apos.atName
      let (f, first) ← holding [ov] (getMethod ov "remove" pl)
      callWith pos f first (backTo pos (starEach [e] env)) []) := by rfl) :
    wpAny (model prog w) A (eval (.Call (.Attribute o "remove" apos) [e] [] pos) env) Q E s := by
  refine MethodCall_ (pl := pl) (wpAny_mono h (fun ov s₁ h₁ => ?_) fun _ _ x => x) he
  obtain ⟨l, vs, rfl, ⟨n, hl⟩, hc⟩ := h₁
  refine getMethod_list_of F.slot_list_remove F.type_list_remove ⟨_, hl, rfl, n, rfl⟩ ⟨_, hl, rfl⟩ ?_
  rw [hs]
  exact callWith_any (by rfl) (evalArgs_plain (spliced_cons (wpAny_mono hc (fun y s₂ h₂ => spliced_nil ⟨kept_builtin, h₂⟩) fun _ _ x => x)))
end
end Mine
end

section
open PySem PySem.W PySem.Calls PyProof.Rows PySem.SeqAt
namespace Mine

section
variable {prog : Program} {w : World} {K : Frag} {mg mb : Str → Option Value} {B₀ : Heap} {A : Around} {outer : List Env} {n : Nat} {s : Shared}

/-- list(xs) -/
theorem list_seq {E : Value → Shared → Prop} {k : Sq} {l : Addr} {vs : List Value} {Q : Value → Shared → Prop} (hl : SeqAt s.heap k.nm l vs) (hz : vs.length ≤ 1000)
    (h : ∀ h', (∀ b o, s.heap.get? b = some o → h'.get? b = some o) → SeqAt h' "list" s.heap.objs.size vs → Q (.ref s.heap.objs.size) { s with heap := h' }) :
    wpAny (model prog w) A (call (.type "list") [.ref l]) Q E s := by
  obtain ⟨c, e⟩ := hl
  refine call_list_seq l (T := k.nm) (by cases k; exact .inl rfl; exact .inr rfl) e rfl rfl (fun h' c' hk hl' => h h' hk ⟨c', hl'⟩) (by rw [List.size_toArray, sizeLine_eq]; omega)

/-- _law_without(listing, skip) -/
theorem without_spec (P : Prg K mg mb B₀) (c : Cx B₀ A outer n s) (hn : n < 400) {l sk : Addr} {k k2 : Sq} {ps us : Ps} (hl : SeqAt s.heap k.nm l (vals ps)) (hsk : SeqAt s.heap k2.nm sk (vals us))
    (rp : RdP s.heap ps) (ru : RdP s.heap us) (okd : okP ps) (okb : okP us) (hz : ps.length ≤ 1000) {R : Result → Shared → Prop}
    (h : ∀ s' S, Ext (frs outer) s s' → SeqAt s'.heap "list" S (vals (dropP (dats us) ps)) → s.heap.get? S = none → R (.ok (.ret (.ref S))) s') :
    codeAny (model prog w) A (.call (.ref 82) ⟨[.ref l, .ref sk], []⟩) R s := by
  refine fn_call_ret c (by omega) P.lim P.d_without.ho P.d_without.cd rfl (.of_eq rfl) (by decide +kernel) (locs (by rfl)) (fun s₁ L hL b => ?_) (by rfl) (by rfl) (by rfl)
  have hlB := hl.up c.seqUp_hide
  have hskB := hsk.up c.seqUp_hide
  have rpB := rp.up c.seqUp_hide
  have ruB := ru.up c.seqUp_hide
  -- left = list(listing)
  refine wpAny_execs_cons (wpAny_Assign_Name (Call1 (P.builtin b.cx.stays P.n_list P.b_list (b.name (by rfl) ⟨kept_type, ?_⟩ (by rfl) (by rfl) (by decide)) (by rfl) (by rfl) (by rfl) (by rfl) (by decide)) (by rfl) (by rfl)) (by rfl))
  refine list_seq (hlB.up b.up) (by rw [List.length_map]; exact hz) fun h₂ k₂ e₂ => ?_
  have b₂ := b.grow (tk := s₁.toks) k₂
  obtain ⟨hSL, hSF, hSB, hS0, hSB0⟩ := b.fresh (get?_size s₁.heap)
  generalize s₁.heap.objs.size = S at *
  refine b₂.put (fun h₃ tk₃ hs₃ b₃ => ?_) (by rfl) (by rfl)
  have e₃ : SeqAt h₃ "list" S (vals ps) := e₂.up (.same b₂.ns hs₃)
  -- for one in skip
  refine wpAny_execs_cons (wpAny_For (b₃.name (by rfl) (pyIter_seq (hskB.up b₃.up) ?_) (by rfl) (by rfl) (by decide)))
  have b₄ := b₃.push (itObj k2 sk 0)
  obtain ⟨hJL, hJF, hJB, hJ0, hJB0⟩ := b₃.fresh (get?_size h₃)
  have hJ : (h₃.push (itObj k2 sk 0)).get? h₃.objs.size = some (itObj k2 sk 0) := Heap.get?_push_size _ rfl
  have e₄ : SeqAt (h₃.push (itObj k2 sk 0)) "list" S (vals ps) := e₃.up (.of_keep fun _ _ e => Heap.get?_push_of_some _ e)
  have hSJ : S ≠ h₃.objs.size := Nat.ne_of_lt e₃.lt
  generalize h₃.objs.size = J at *
  refine codeAny_forLoop (fun q s' => ∃ i m, q = us.length + 1 - i ∧ i ≤ us.length ∧
      Bd B₀ s (A.deeper (callEnv (fdOf (stm 8) "_law_without" "_law_without" (.str "law_in0088_01" 249) (.ref 81)) L 82)) (callEnv (fdOf (stm 8) "_law_without" "_law_without" (.str "law_in0088_01" 249) (.ref 81)) L 82) outer (n + 4) m (hideAll s.heap (frs outer)) s' ∧
      m "left" = some (.ref S) ∧ ItAt s'.heap k2 J sk i ∧ SeqAt s'.heap "list" S (vals (dropP (dats (us.take i)) ps))) ?_ (us.length + 1)
    ⟨0, _, rfl, Nat.zero_le _, b₄, by rfl, ⟨_, hJ, rfl, rfl⟩, e₄⟩
  rintro q s₅ ⟨i, m, rfl, hi, b₅, ml, hJ₅, e₅⟩
  refine wpAny_noRaise ?_
  have sk₅ := hskB.up b₅.up
  cases hv : us[i]? with
  | none =>
    refine pyNext_end b₅.cx.hd hJ₅ sk₅ (by rw [List.getElem?_map, hv]; rfl) fun h₆ hs₆ => ?_
    refine wpAny_execs_nil ?_
    have b₆ := b₅.mod (tk := s₅.toks) (b₅.ns.extBut hs₆ (Ne.symm hJL)) (fun c o _ hc e => hs₆ c o hc e) hJF hJB hJ0 hJB0
    have e₆ : SeqAt h₆ "list" S (vals (dropP (dats (us.take i)) ps)) := by obtain ⟨c', e'⟩ := e₅; exact ⟨c', hs₆ _ _ hSJ e'⟩
    refine wpAny_execs_cons (wpAny_Return_some (b₆.name ml ?_ (by rfl) (by rfl) (by decide)))
    refine h _ S b₆.ext ?_ hS0
    have hlen : us.length ≤ i := List.getElem?_eq_none_iff.mp hv
    rw [List.take_of_length_le hlen] at e₆
    exact e₆
  | some u =>
    have hlt : i < us.length := (List.getElem?_eq_some_iff.mp hv).1
    refine pyNext_item hJ₅ sk₅ (x := u.1) (by rw [List.getElem?_map, hv]; rfl) fun h₆ hJ₆ hs₆ => ?_
    have b₆ := b₅.same (tk := s₅.toks) hs₆ hJL hJF hJB hJ0 hJB0
    have e₆ : SeqAt h₆ "list" S (vals (dropP (dats (us.take i)) ps)) := by obtain ⟨c', e'⟩ := e₅; exact ⟨c', (hs₆.2 _ hSJ).trans e'⟩
    refine wpAny_noRaise (wpAny_assign_Name (b₆.put (fun h₇ tk₇ hs₇ b₇ => ?_) (by rfl) (by rfl)))
    have hJ₇ : ItAt h₇ k2 J sk (i + 1) := by obtain ⟨o, e, c', d⟩ := hJ₆; exact ⟨o, (hs₇.2 _ hJL).trans e, c', d⟩
    have e₇ : SeqAt h₇ "list" S (vals (dropP (dats (us.take i)) ps)) := e₆.up (.same b₆.ns hs₇)
    have hmem : u ∈ us := List.mem_of_getElem? hv
    have hsd : shaped u.2 = true := okb u hmem
    have htake : dats (us.take (i + 1)) = dats (us.take i) ++ [u.2] := by rw [List.take_add_one, hv]; simp [dats]
    refine wpAny_noRaise (wpAny_execs_cons (wpAny_While (codeAny_whileLoop (fun q s' => ∃ cur : Ps, q = cur.length ∧
        Bd B₀ s (A.deeper (callEnv (fdOf (stm 8) "_law_without" "_law_without" (.str "law_in0088_01" 249) (.ref 81)) L 82)) (callEnv (fdOf (stm 8) "_law_without" "_law_without" (.str "law_in0088_01" 249) (.ref 81)) L 82) outer (n + 4) (fun y => if y = (Str.ofString "one") then some u.1 else m y) (hideAll s.heap (frs outer)) s' ∧
        ItAt s'.heap k2 J sk (i + 1) ∧ SeqAt s'.heap "list" S (vals cur) ∧ (∀ q ∈ cur, q ∈ ps) ∧ cur.length ≤ ps.length ∧ lessP u.2 cur = lessP u.2 (dropP (dats (us.take i)) ps)) ?_ _
      ⟨_, rfl, b₇, hJ₇, e₇, dropP_sub _ _, dropP_len _ _, rfl⟩)))
    rintro q s₈ ⟨cur, rfl, b₈, hJ₈, e₈, hsub, hcl, hless⟩
    have rc : RdP s₈.heap cur := fun q hq => (rpB.up b₈.up) q (hsub q hq)
    have okc : okP cur := fun q hq => okd q (hsub q hq)
    have ru₈ : Rd s₈.heap u.1 u.2 := (ruB.up b₈.up) u hmem
    have hu₈ := b₈.cx.units (by omega)
    refine wpAny_noRaise (wpAny_isTrue_Compare1 (b₈.name (by rfl) (b₈.name ml ?_ (by rfl) (by rfl) (by decide)) (by rfl) (by rfl) (by decide)))
    refine in_seq (k := .list) e₈ rc.all ru₈ okc.canLay hsd hu₈ (wpAny_truthy_bool ?_)
    have hany : ((dats cur).any fun y => PyData.eqv y u.2) = cur.any fun q => PyData.eqv q.2 u.2 := by rw [List.any_map]; rfl
    rw [hany]
    cases ha : cur.any fun q => PyData.eqv q.2 u.2 with
    | false =>
      rw [if_neg Bool.false_ne_true]
      refine wpAny_execs_nil (wpAny_execs_nil ?_)
      refine ⟨us.length + 1 - (i + 1), by omega, i + 1, _, rfl, hlt, b₈, ml, hJ₈, ?_⟩
      have hcur : lessP u.2 cur = cur := List.filter_eq_self.mpr fun q hq => by
        have := List.any_eq_false.mp ha q hq
        simpa using this
      rw [htake, dropP_snoc, ← hless, hcur]
      exact e₈
    | true =>
      rw [if_pos rfl]
      obtain ⟨j, hj, hit, hno⟩ := first_hit _ cur ha
      refine wpAny_noRaise (wpAny_execs_cons (wpAny_Expr (remove_expr (b₈.name ml ⟨S, _, rfl, e₈, b₈.name (by rfl) ?_ (by rfl) (by rfl) (by decide)⟩ (by rfl) (by rfl) (by decide)) (by rfl) (by rfl)) (by rfl) (by rfl)))
      refine remove_call e₈ rc ru₈ okc hsd hu₈ hj (by omega) hit hno fun h₉ hs₉ e₉ => ?_
      refine wpAny_execs_nil ?_
      have b₉ := b₈.same (tk := s₈.toks) hs₉ hSL hSF hSB hS0 hSB0
      refine ⟨(cur.eraseIdx j).length, by rw [List.length_eraseIdx, if_pos hj]; omega, cur.eraseIdx j, rfl, b₉, ?_, e₉, fun q hq => hsub q (List.mem_of_mem_eraseIdx hq), Nat.le_trans (List.length_eraseIdx_le _ _) hcl, ?_⟩
      · obtain ⟨o, e, c', d⟩ := hJ₈; exact ⟨o, (hs₉.2 _ (Ne.symm hSJ)).trans e, c', d⟩
      · rw [← hless]; exact erase_filter _ cur j hj (by simp [hit])
end
end Mine
end

section
open PySem PySem.W PySem.Calls PyProof.Rows PySem.SeqAt
namespace Mine

section
variable {M : Model} {A : Around} {E : Value → Shared → Prop} {s : Shared} {env : Env}
/-- [] and [e] -/
theorem List0 {pos : Pos} {Q : Value → Shared → Prop} (h : Q (.ref s.heap.objs.size) { s with heap := s.heap.push { cls := .type "list", data := .seq ([] : List Value).toArray } }) :
    wpAny M A (eval (.List [] pos) env) Q E s := List_ (args_nil (wpAny_newObj_type h (by show (([] : List Value).toArray.size ≤ sizeLine); rw [sizeLine_eq]; simp)))
theorem List1 {e : Expr} {pos : Pos} {Q : Value → Shared → Prop}
    (h : wpAny M A (eval e env) (fun v s₁ => Q (.ref s₁.heap.objs.size) { s₁ with heap := s₁.heap.push { cls := .type "list", data := .seq [v].toArray } }) E s)
    (hs : starEach [e] env = [(false, eval e env)] := by rfl) : wpAny M A (eval (.List [e] pos) env) Q E s := by
  refine List_ ?_
  rw [hs]
  exact spliced_cons (wpAny_mono h (fun v s₁ h₁ => spliced_nil (wpAny_newObj_type h₁ (by show ([v].toArray.size ≤ sizeLine); rw [sizeLine_eq]; simp))) fun _ _ x => x)
end

/-- one skipped thing a call -/
def oneP (bs : List PyData) (ps : Ps) : Ps := bs.foldl (fun ps d => leftP [d] ps) ps
theorem oneP_snoc (bs : List PyData) (d : PyData) (ps : Ps) : oneP (bs ++ [d]) ps = leftP [d] (oneP bs ps) := by
  unfold oneP; rw [List.foldl_append]; rfl
theorem oneP_sub (bs : List PyData) : ∀ (ps : Ps), ∀ q ∈ oneP bs ps, q ∈ ps := by
  induction bs with
  | nil => intro ps q h; exact h
  | cons d bs ih => intro ps q h; exact (List.mem_filter.mp (ih _ q h)).1
theorem oneP_len (bs : List PyData) : ∀ (ps : Ps), (oneP bs ps).length ≤ ps.length := by
  induction bs with
  | nil => intro ps; exact Nat.le_refl _
  | cons d bs ih => intro ps; exact Nat.le_trans (ih _) (List.length_filter_le _ _)

section
variable {prog : Program} {w : World} {K : Frag} {mg mb : Str → Option Value} {B₀ : Heap} {A : Around} {outer : List Env} {n : Nat} {s : Shared}

/-- _law_one_by_one(listing, skip) -/
theorem one_spec (P : Prg K mg mb B₀) (c : Cx B₀ A outer n s) (hn : n < 440) {l sk : Addr} {k k2 : Sq} {ps us : Ps} (hl : SeqAt s.heap k.nm l (vals ps)) (hsk : SeqAt s.heap k2.nm sk (vals us))
    (rp : RdP s.heap ps) (ru : RdP s.heap us) (okd : okP ps) (okb : okP us) (hz : ps.length ≤ 1000) (hne : us ≠ []) {R : Result → Shared → Prop}
    (h : ∀ s' S, Ext (frs outer) s s' → SeqAt s'.heap "list" S (vals (oneP (dats us) ps)) → R (.ok (.ret (.ref S))) s') :
    codeAny (model prog w) A (.call (.ref 89) ⟨[.ref l, .ref sk], []⟩) R s := by
  refine fn_call_ret c (by omega) P.lim P.d_one.ho P.d_one.cd rfl (.of_eq rfl) (by decide +kernel) (locs (by rfl)) (fun s₁ L hL b => ?_) (by rfl) (by rfl) (by rfl)
  have hlB := hl.up c.seqUp_hide
  have hskB := hsk.up c.seqUp_hide
  have rpB := rp.up c.seqUp_hide
  have ruB := ru.up c.seqUp_hide
  -- left = listing
  refine wpAny_execs_cons (wpAny_Assign_Name (b.name (by rfl) (b.put (fun h₃ tk₃ hs₃ b₃ => ?_) (by rfl) (by rfl)) (by rfl) (by rfl) (by decide)) (by rfl))
  -- for one in skip
  refine wpAny_execs_cons (wpAny_For (b₃.name (by rfl) (pyIter_seq (hskB.up b₃.up) ?_) (by rfl) (by rfl) (by decide)))
  have b₄ := b₃.push (itObj k2 sk 0)
  obtain ⟨hJL, hJF, hJB, hJ0, hJB0⟩ := b₃.fresh (get?_size h₃)
  have hJ : (h₃.push (itObj k2 sk 0)).get? h₃.objs.size = some (itObj k2 sk 0) := Heap.get?_push_size _ rfl
  generalize h₃.objs.size = J at *
  refine codeAny_forLoop (fun q s' => ∃ i m k' a, q = us.length + 1 - i ∧ i ≤ us.length ∧
      Bd B₀ s (A.deeper (callEnv (fdOf (stm 9) "_law_one_by_one" "_law_one_by_one" (.str "law_in0088_01" 249) (.ref 88)) L 89)) (callEnv (fdOf (stm 9) "_law_one_by_one" "_law_one_by_one" (.str "law_in0088_01" 249) (.ref 88)) L 89) outer (n + 4) m (hideAll s.heap (frs outer)) s' ∧
      m "left" = some (.ref a) ∧ ItAt s'.heap k2 J sk i ∧ SeqAt s'.heap k'.nm a (vals (oneP (dats (us.take i)) ps)) ∧ (0 < i → k' = .list)) ?_ (us.length + 1)
    ⟨0, _, k, l, rfl, Nat.zero_le _, b₄, by rfl, ⟨_, hJ, rfl, rfl⟩, hlB.up b₄.up, fun q => absurd q (Nat.lt_irrefl 0)⟩
  rintro q s₅ ⟨i, m, k', a, rfl, hi, b₅, ml, hJ₅, e₅, hk'⟩
  refine wpAny_noRaise ?_
  have sk₅ := hskB.up b₅.up
  cases hv : us[i]? with
  | none =>
    refine pyNext_end b₅.cx.hd hJ₅ sk₅ (by rw [List.getElem?_map, hv]; rfl) fun h₆ hs₆ => ?_
    refine wpAny_execs_nil ?_
    have haJ : a ≠ J := by obtain ⟨c', e'⟩ := e₅; obtain ⟨o, e, _, d⟩ := hJ₅; intro q; rw [q, e] at e'; cases e'; cases d
    have b₆ := b₅.mod (tk := s₅.toks) (b₅.ns.extBut hs₆ (Ne.symm hJL)) (fun c o _ hc e => hs₆ c o hc e) hJF hJB hJ0 hJB0
    have e₆ : SeqAt h₆ k'.nm a (vals (oneP (dats (us.take i)) ps)) := by obtain ⟨c', e'⟩ := e₅; exact ⟨c', hs₆ _ _ haJ e'⟩
    refine wpAny_execs_cons (wpAny_Return_some (b₆.name ml ?_ (by rfl) (by rfl) (by decide)))
    have hlen : us.length ≤ i := List.getElem?_eq_none_iff.mp hv
    have h0 : 0 < us.length := List.length_pos_iff.mpr hne
    rw [List.take_of_length_le hlen, hk' (by omega)] at e₆
    exact h _ a b₆.ext e₆
  | some u =>
    have hlt : i < us.length := (List.getElem?_eq_some_iff.mp hv).1
    refine pyNext_item hJ₅ sk₅ (x := u.1) (by rw [List.getElem?_map, hv]; rfl) fun h₆ hJ₆ hs₆ => ?_
    have haJ : a ≠ J := by obtain ⟨c', e'⟩ := e₅; obtain ⟨o, e, _, d⟩ := hJ₅; intro q; rw [q, e] at e'; cases e'; cases d
    have b₆ := b₅.same (tk := s₅.toks) hs₆ hJL hJF hJB hJ0 hJB0
    have e₆ : SeqAt h₆ k'.nm a (vals (oneP (dats (us.take i)) ps)) := by obtain ⟨c', e'⟩ := e₅; exact ⟨c', (hs₆.2 _ haJ).trans e'⟩
    refine wpAny_noRaise (wpAny_assign_Name (b₆.put (fun h₇ tk₇ hs₇ b₇ => ?_) (by rfl) (by rfl)))
    have hJ₇ : ItAt h₇ k2 J sk (i + 1) := by obtain ⟨o, e, c', d⟩ := hJ₆; exact ⟨o, (hs₇.2 _ hJL).trans e, c', d⟩
    have e₇ : SeqAt h₇ k'.nm a (vals (oneP (dats (us.take i)) ps)) := e₆.up (.same b₆.ns hs₇)
    have hmem : u ∈ us := List.mem_of_getElem? hv
    have htake : dats (us.take (i + 1)) = dats (us.take i) ++ [u.2] := by rw [List.take_add_one, hv]; simp [dats]
    -- left = _filter(left, [one])
    refine wpAny_noRaise (wpAny_execs_cons (wpAny_Assign_Name (Call2 (P.name b₇.cx.stays P.g_filter (b₇.name ml (List1 (b₇.name (by rfl) ⟨kept_fn (b₇.cx.stays _ _ P.d_filter.ho |> Heap.get?_push_of_some _) rfl, wpAny_call ?_⟩ (by rfl) (by rfl) (by decide)) (by rfl)) (by rfl) (by rfl) (by decide)) (by rfl) (by rfl) (by rfl) (by decide)) (by rfl) (by rfl)) (by rfl)))
    have b₈ := b₇.push { cls := .type "list", data := .seq [u.1].toArray }
    have k8 : SeqUp h₇ (h₇.push { cls := .type "list", data := .seq [u.1].toArray }) := .of_keep fun _ _ e => Heap.get?_push_of_some _ e
    have e₈ : SeqAt (h₇.push { cls := .type "list", data := .seq [u.1].toArray }) "list" h₇.objs.size (vals [u]) := ⟨0, Heap.get?_push_size _ rfl⟩
    have rp₈ : RdP (h₇.push { cls := .type "list", data := .seq [u.1].toArray }) (oneP (dats (us.take i)) ps) := fun q hq => (rpB.up b₈.up) q (oneP_sub _ _ q hq)
    have ru₈ : RdP (h₇.push { cls := .type "list", data := .seq [u.1].toArray }) [u] := fun q hq => by rw [List.mem_singleton.mp hq]; exact (ruB.up b₈.up) u hmem
    refine filter_spec (k2 := .list) P b₈.cx (by omega) (e₇.up k8) e₈ rp₈ ru₈ (fun q hq => okd q (oneP_sub _ _ q hq)) (fun q hq => by rw [List.mem_singleton.mp hq]; exact okb u hmem) (Nat.le_trans (oneP_len _ _) hz) fun s₉ S x₉ e₉ n₉ => ?_
    have b₉ := b₈.call x₉
    have hJ₉ : ItAt s₉.heap k2 J sk (i + 1) := by
      obtain ⟨o, e, c', d⟩ := hJ₇
      refine ⟨o, x₉.keep _ _ (fun z => ?_) (Heap.get?_push_of_some _ e), c', d⟩
      rw [b₈.frs] at z
      rcases List.mem_cons.mp z with z | z
      · exact hJL z
      · exact hJF z
    refine b₉.put (fun h₁₀ tk₁₀ hs₁₀ b₁₀ => ?_) (by rfl) (by rfl)
    refine wpAny_execs_nil ⟨us.length + 1 - (i + 1), by omega, i + 1, _, .list, S, rfl, hlt, b₁₀, by rfl, ?_, ?_, fun _ => rfl⟩
    · obtain ⟨o, e, c', d⟩ := hJ₉; exact ⟨o, (hs₁₀.2 _ hJL).trans e, c', d⟩
    · rw [htake, oneP_snoc]
      exact e₉.up (.same b₉.ns hs₁₀)
end
end Mine
end

section
open PySem PySem.W PySem.Calls PyProof.Rows PySem.SeqAt
namespace Mine

/-- the great number -/
def tenP : Int := 10 ^ 30
theorem pow30 {prog : Program} {w : World} {A : Around} {E : Value → Shared → Prop} {s : Shared} {t u : Tok} {Q : Value → Shared → Prop} (h : Q (.int tenP s.toks) { s with toks := s.toks + 1 }) :
    wpAny (model prog w) A (binaryOp .Pow (.int 10 t) (.int 30 u)) Q E s := pow_int_small (by decide) (by decide) (by decide) (by
    have e : (10 : Int) ^ (30 : Int).toNat = tenP := by decide +kernel
    rw [e]; exact h)

/-- the thing of n at its place -/
def thg (n : Int) (k : Nat) : PyData :=
  match k with
  | 0 => .int n
  | 1 => .bool (n == 1)
  | 2 => .str (toString n : String)
  | 3 => .tuple [.int n, .str "a"]
  | 4 => .list [.int n]
  | 5 => .none
  | _ => .int (tenP + n)
def thing (v : Int) : PyData := thg (v.fdiv 21 - 1) ((v.fdiv 3).fmod 7).toNat

theorem push_hide_get {h : Heap} {D : Addr} {o : Obj} (hf : o.isFreed = false) (hD : h.get? D ≠ none) : ((h.push o).hide D).get? h.objs.size = some o := by
  rw [Heap.hide_ne]
  · exact Heap.get?_push_size _ hf
  · intro q; exact hD (q ▸ get?_size h)

theorem small_log {v : Int} (h0 : 0 ≤ v) (h1 : v < 63) : (v.fdiv 21 - 1).natAbs.log2 < 1920 := by
  have e1 : (v.fdiv 21 - 1).natAbs ≤ 2 := by
    have := Int.fdiv_eq_ediv_of_nonneg v (show (0:Int) ≤ 21 by decide)
    omega
  have : (v.fdiv 21 - 1).natAbs.log2 ≤ 1 := by
    rcases Nat.lt_or_ge (v.fdiv 21 - 1).natAbs 1 with q | q
    · have : (v.fdiv 21 - 1).natAbs = 0 := by omega
      rw [this]; decide
    · rcases Nat.lt_or_ge (v.fdiv 21 - 1).natAbs 2 with q2 | q2
      · have : (v.fdiv 21 - 1).natAbs = 1 := by omega
        rw [this]; decide
      · have : (v.fdiv 21 - 1).natAbs = 2 := by omega
        rw [this]; decide
  omega
theorem small_mod (v : Int) : 0 ≤ (v.fdiv 3).fmod 7 ∧ (v.fdiv 3).fmod 7 < 7 := ⟨Int.fmod_nonneg_of_pos _ (by decide), Int.fmod_lt_of_pos _ (by decide)⟩

abbrev tupO (n : Int) (t1 t2 : Tok) : Obj := { cls := .type "tuple", data := .seq [.int n t1, .str "a" t2].toArray }
abbrev lstO (n : Int) (t1 : Tok) : Obj := { cls := .type "list", data := .seq [.int n t1].toArray }
abbrev sevenL (n : Int) (t1 t3 t4 : Tok) (T U : Addr) : List Value := [.int n t1, .bool (n == 1), .str (toString n : String) t3, .ref T, .ref U, .none, .int (tenP + n) t4]
theorem seven {h : Heap} {n : Int} {t1 t2 t3 t4 : Tok} {o : Obj} {j : Nat} (hj : j < 7) : ∃ y, (sevenL n t1 t3 t4 h.objs.size (h.push (tupO n t1 t2)).objs.size)[j]? = some y ∧
    ∀ D, h.objs.size ≠ D → (h.push (tupO n t1 t2)).objs.size ≠ D → Rd ((((h.push (tupO n t1 t2)).push (lstO n t1)).push o).hide D) y (thg n j) := by
  match j, hj with
  | 0, _ => exact ⟨_, rfl, fun _ _ _ => .int _ _⟩
  | 1, _ => exact ⟨_, rfl, fun _ _ _ => .bool _⟩
  | 2, _ => exact ⟨_, rfl, fun _ _ _ => .str _ _⟩
  | 3, _ => exact ⟨_, rfl, fun D nT _ => .tuple (by rw [Heap.hide_ne _ nT]; exact Heap.get?_push_of_some _ (Heap.get?_push_of_some _ (Heap.get?_push_size _ rfl))) rfl rfl (.cons (.int _ _) (.cons (.str _ _) .nil))⟩
  | 4, _ => exact ⟨_, rfl, fun D _ nU => .list (by rw [Heap.hide_ne _ nU]; exact Heap.get?_push_of_some _ (Heap.get?_push_size _ rfl)) rfl rfl (.cons (.int _ _) .nil)⟩
  | 5, _ => exact ⟨_, rfl, fun _ _ _ => .none⟩
  | 6, _ => exact ⟨_, rfl, fun _ _ _ => .int _ _⟩

theorem ne_of_gone {h : Heap} {a D : Addr} (n : h.get? a = none) (hD : h.get? D ≠ none) : a ≠ D := fun q => hD (q ▸ n)
theorem thing_at (v : Int) : ∃ j, ((v.fdiv 3).fmod 7).toNat = j ∧ j < 7 ∧ thing v = thg (v.fdiv 21 - 1) j := by
  have h1 := (small_mod v).1
  have h2 := (small_mod v).2
  exact ⟨_, rfl, by omega, rfl⟩

theorem seven_v (v : Int) {h : Heap} {t1 t2 t3 t4 : Tok} {o : Obj} : ∃ y, (sevenL (v.fdiv 21 - 1) t1 t3 t4 h.objs.size (h.push (tupO (v.fdiv 21 - 1) t1 t2)).objs.size)[((v.fdiv 3).fmod 7).toNat]? = some y ∧
    ∀ D, h.objs.size ≠ D → (h.push (tupO (v.fdiv 21 - 1) t1 t2)).objs.size ≠ D → Rd ((((h.push (tupO (v.fdiv 21 - 1) t1 t2)).push (lstO (v.fdiv 21 - 1) t1)).push o).hide D) y (thing v) := by
  obtain ⟨j, h1, h2, h3⟩ := thing_at v
  obtain ⟨y, h4, h5⟩ := seven (h := h) (n := v.fdiv 21 - 1) (t1 := t1) (t2 := t2) (t3 := t3) (t4 := t4) (o := o) h2
  exact ⟨y, by rw [h1]; exact h4, fun D a b => by rw [h3]; exact h5 D a b⟩

section
variable {prog : Program} {w : World} {K : Frag} {mg mb : Str → Option Value} {B₀ : Heap} {A : Around} {outer : List Env} {n : Nat} {s : Shared}

theorem thing_spec (P : Prg K mg mb B₀) (c : Cx B₀ A outer n s) (hn : n < 700) {v : Int} {t : Tok} (h0 : 0 ≤ v) (h1 : v < 63) {R : Result → Shared → Prop}
    (h : ∀ s' y, Ext (frs outer) s s' → (∀ D, s.heap.get? D ≠ none → Rd (s'.heap.hide D) y (thing v)) → R (.ok (.ret y)) s') :
    codeAny (model prog w) A (.call (.ref 65) ⟨[.int v t], []⟩) R s := by
  refine fn_call_ret c (by omega) P.lim P.d_thing.ho P.d_thing.cd rfl (.of_eq rfl) (by decide +kernel) (locs (by rfl)) (fun s₁ L hL b => ?_) (by rfl) (by rfl) (by rfl)
  refine wpAny_execs_cons (wpAny_Assign_Name (wpAny_BinOp (wpAny_BinOp (b.name (by rfl) (wpAny_Constant_int ?_) (by rfl) (by rfl) (by decide)))) (by rfl))
  refine floordiv_int (by decide) (wpAny_Constant_int (sub_int ?_))
  have b₂ := (b.toks (s₁.toks + 1 + 1 + 1 + 1))
  refine b₂.put (fun h₃ tk₃ hs₃ b₃ => ?_) (by rfl) (by rfl)
  refine wpAny_execs_cons (wpAny_Return_some (Subscript_ (List_ ?_)))
  refine spliced_cons (b₃.name (by rfl) ?_ (by rfl) (by rfl) (by decide))
  refine spliced_cons (wpAny_Compare1 (b₃.name (by rfl) (wpAny_Constant_int (eq_int ?_)) (by rfl) (by rfl) (by decide)) (by rfl))
  have b₄ := b₃.toks (tk₃ + 1)
  refine spliced_cons (Call1 (P.builtin b₄.cx.stays P.n_str P.b_str (b₄.name (by rfl) ⟨kept_type, PySem.P.str_of_int ?_ ?_⟩ (by rfl) (by rfl) (by decide)) (by rfl) (by rfl) (by rfl) (by rfl) (by decide)) (by rfl) (by rfl))
  · exact small_log h0 h1
  have b₅ := b₄.toks (tk₃ + 1 + 1)
  refine spliced_cons (Tuple_ (k := 0) ?_)
  refine spliced_cons (b₅.name (by rfl) ?_ (by rfl) (by rfl) (by decide))
  refine spliced_cons ?_
  refine wpAny_Constant_str (x := "a") (k := 0) (pos := default) ?_
  refine spliced_nil (wpAny_newObj_type ?_ (by show (2 ≤ sizeLine); rw [sizeLine_eq]; decide))
  have b₆ := (b₅.toks (tk₃ + 1 + 1 + 1)).push { cls := .type "tuple", data := .seq [.int (v.fdiv 21 - 1) (s₁.toks + 1 + 1 + 1), .str "a" (tk₃ + 1 + 1)].toArray }
  refine spliced_cons (List1 (b₆.name (by rfl) ?_ (by rfl) (by rfl) (by decide)) (by rfl))
  have b₇ := b₆.push { cls := .type "list", data := .seq [.int (v.fdiv 21 - 1) (s₁.toks + 1 + 1 + 1)].toArray }
  refine spliced_cons ?_
  refine wpAny_none (k := 0) (pos := default) ?_
  refine spliced_cons (wpAny_BinOp (wpAny_BinOp (wpAny_Constant_int (wpAny_Constant_int (pow30 ?_)))))
  have b₈ := b₇.toks (tk₃ + 1 + 1 + 1 + 1 + 1 + 1)
  refine b₈.name (by rfl) (add_int ?_) (by rfl) (by rfl) (by decide)
  refine spliced_nil (wpAny_newObj_type ?_ (by show (7 ≤ sizeLine); rw [sizeLine_eq]; decide))
  have b₉ := (b₈.toks (tk₃ + 1 + 1 + 1 + 1 + 1 + 1 + 1)).push { cls := .type "list", data := .seq [.int (v.fdiv 21 - 1) (s₁.toks + 1 + 1 + 1), .bool (v.fdiv 21 - 1 == 1), .str (toString (v.fdiv 21 - 1) : String) (tk₃ + 1), .ref h₃.objs.size,
    .ref (h₃.push { cls := .type "tuple", data := .seq [.int (v.fdiv 21 - 1) (s₁.toks + 1 + 1 + 1), .str "a" (tk₃ + 1 + 1)].toArray }).objs.size, .none, .int (tenP + (v.fdiv 21 - 1)) (tk₃ + 1 + 1 + 1 + 1 + 1 + 1)].toArray }
  refine wpAny_BinOp (wpAny_BinOp (b₉.name (by rfl) (wpAny_Constant_int (floordiv_int (by decide) (wpAny_Constant_int (mod_int (by decide) ?_)))) (by rfl) (by rfl) (by decide)))
  have hk0 := (small_mod v).1
  have hk7 := (small_mod v).2
  refine Exists.elim (seven_v v (h := h₃) (t1 := s₁.toks + 1 + 1 + 1) (t2 := tk₃ + 1 + 1) (t3 := tk₃ + 1) (t4 := tk₃ + 1 + 1 + 1 + 1 + 1 + 1)
    (o := { cls := .type "list", data := .seq (sevenL (v.fdiv 21 - 1) (s₁.toks + 1 + 1 + 1) (tk₃ + 1) (tk₃ + 1 + 1 + 1 + 1 + 1 + 1) h₃.objs.size (h₃.push (tupO (v.fdiv 21 - 1) (s₁.toks + 1 + 1 + 1) (tk₃ + 1 + 1))).objs.size).toArray })) fun y hy => ?_
  have nT := (b₃.fresh (get?_size h₃)).2.2.2.1
  have nU := (b₆.fresh (get?_size _)).2.2.2.1
  have b₁₀ := b₉.toks (tk₃ + 1 + 1 + 1 + 1 + 1 + 1 + 1 + 1 + 1 + 1 + 1)
  refine kba_turn (value' := .Name (Str.ofString "_") ⟨0, 0, 0, 0⟩) (fun _ => rfl) ?_
  refine item_listL (l := sevenL (v.fdiv 21 - 1) (s₁.toks + 1 + 1 + 1) (tk₃ + 1) (tk₃ + 1 + 1 + 1 + 1 + 1 + 1) h₃.objs.size (h₃.push (tupO (v.fdiv 21 - 1) (s₁.toks + 1 + 1 + 1) (tk₃ + 1 + 1))).objs.size)
    ⟨_, Heap.get?_push_size _ rfl, rfl, 0, rfl⟩ hk0 (Int.lt_trans hk7 (by decide)) (x := y) hy.1 ?_ (by rfl) (by intro _; rfl)
  refine h _ _ b₁₀.ext fun D hD => ?_
  exact hy.2 D (ne_of_gone nT hD) (ne_of_gone nU hD)
end
end Mine
end

section
open PySem PySem.W PySem.Calls PyProof.Rows PySem.SeqAt
namespace Mine

theorem SeqUp.sameF {h h' : Heap} {I : Addr} {o : Obj} {fs : Array Value} (ho : h.get? I = some o) (hd : o.data = .fields fs) (s : Heap.SameBut I h h') : SeqUp h h' := fun a o' vs k e d => by
  have hne : a ≠ I := fun q => by subst q; rw [ho] at e; cases e; rw [hd] at d; cases d
  exact (s.2 a hne).trans e
theorem SeqUp.butF {h h' : Heap} {I : Addr} {o : Obj} {fs : Array Value} (ho : h.get? I = some o) (hd : o.data = .fields fs) (s : Heap.ExtBut I h h') : SeqUp h h' := fun a o' vs k e d => by
  have hne : a ≠ I := fun q => by subst q; rw [ho] at e; cases e; rw [hd] at d; cases d
  exact s a _ hne e
theorem SeqUp.toHide {H h : Heap} {D : Addr} (u : SeqUp H h) (n : H.get? D = none) : SeqUp H (h.hide D) := fun a o vs k e d => by
  rw [Heap.hide_ne]
  · exact u a o vs k e d
  · intro q; subst q; rw [n] at e; cases e
theorem SeqUp.ofHide {h h' : Heap} {D : Addr} (s : Heap.SameBut D h h') : SeqUp (h.hide D) h' := fun a o vs k e d => by
  have hne : a ≠ D := fun q => by subst q; rw [Heap.hide_self] at e; cases e
  rw [Heap.hide_ne _ hne] at e
  exact (s.2 a hne).trans e
theorem Cx.notIn {B₀ : Heap} {A : Around} {outer : List Env} {n : Nat} {s : Shared} (c : Cx B₀ A outer n s) {a : Addr} (e : s.heap.get? a = none) : a ∉ frs outer := fun m => by
  obtain ⟨env', he, hf⟩ := List.mem_filterMap.mp m
  obtain ⟨_, L, hL, _, o', es, ep, ho, hd⟩ := c.funs env' he
  rw [hf] at hL; cases hL; rw [e] at ho; cases ho
theorem seqAt_push {h h' : Heap} {D : Addr} {ys : List Value} {y : Value} (x : h'.PlainList D (ys.toArray.push y)) : SeqAt h' "list" D (ys ++ [y]) := by
  obtain ⟨n, e⟩ := x
  exact ⟨n, by rw [e, List.push_toArray]⟩

section
variable {prog : Program} {w : World} {B₀ : Heap} {A : Around} {fs : List Env} {n : Nat} {s : Shared} {E : Value → Shared → Prop} {env : Env}

theorem comp_block {α : Type} {elt iter : Expr} {x : Str} {px : Pos} {ifs : List Expr} {scope : Scope} {pos : Pos} (c : Cx B₀ A fs n s) {l : Addr} {xs : List α} {vf : α → Value} (hl : SeqAt s.heap "list" l (xs.map vf)) (hz : xs.length ≤ 1000)
    (hcell : ∀ y ∈ scope.names, y.2 ≠ .cell) (hkind : scope.kind = .function) (hx : scope.names.lookup x = some .local)
    (p : α → Bool) (G : Heap → α → Value → Prop) (hG : ∀ h h' a v, SeqUp h h' → G h a v → G h' a v)
    (htests : ∀ C s₃ mC a (E' : Value → Shared → Prop), Ext (frs fs) s s₃ → s₃.heap.Ns C mC → mC x = some (vf a) → a ∈ xs →
      wpAny (model prog w) A (forIn ifs true fun c r => if r = true then do let ok ← isTrue c (compEnvC scope [] C env) (eval c (compEnvC scope [] C env)); pure (ForInStep.yield ok) else pure (ForInStep.yield r))
        (fun ok s₄ => ok = p a ∧ Ext (frs fs) s₃ s₄) E' s₃)
    (helt : ∀ C s₃ mC a (E' : Value → Shared → Prop), Ext (frs fs) s s₃ → s₃.heap.Ns C mC → mC x = some (vf a) → a ∈ xs → p a = true →
      wpAny (model prog w) A (eval elt (compEnvC scope [] C env)) (fun y s₄ => Ext (frs fs) s₃ s₄ ∧ ∀ D, s₃.heap.get? D ≠ none → G (s₄.heap.hide D) a y) E' s₃)
    {RR : Value → Addr → Result → Shared → Prop}
    (hRR : ∀ s' D C ys m', Ext (frs fs) s s' → s'.heap.Ns C m' → SeqAt s'.heap "list" D ys → Paired (G s'.heap) (xs.filter p) ys → s.heap.get? D = none → s.heap.get? C = none → RR (.ref D) C (.ok .next) s') :
    wpAny (model prog w) A (newList []) (fun acc s₃ => wpAny (model prog w) A (newFunctionEnv scope env.globals [] [] env.qual none .none (some env)) (fun cenv s₄ =>
      codeAny (model prog w) A (.compStart (.ListComp elt [⟨.Name x px, iter, ifs, 0⟩] scope pos) 0 (.ref s.heap.objs.size) acc { cenv with scope := relabel scope env }) (RR acc cenv.locals) s₄) E s₃) E { s with heap := s.heap.push (itObj .list l 0) } := by
  refine wpAny_newObj_type (wpAny_newFunctionEnv hcell (by intro y hy; simp at hy) (fun h₁ hns₁ hsb₁ => ?_) hkind)
  dsimp only at hns₁ hsb₁ ⊢
  have nI : s.heap.get? s.heap.objs.size = none := get?_size _
  have nD : s.heap.get? (s.heap.push (itObj .list l 0)).objs.size = none := Heap.get?_none_of_le (by rw [Heap.size_push]; omega)
  have nC : s.heap.get? ((s.heap.push (itObj .list l 0)).push { cls := .type "list", dict := none, data := .seq ([] : List Value).toArray }).objs.size = none := Heap.get?_none_of_le (by rw [Heap.size_push, Heap.size_push]; omega)
  have hDI : (s.heap.push (itObj .list l 0)).objs.size ≠ s.heap.objs.size := by rw [Heap.size_push]; omega
  have hCI : ((s.heap.push (itObj .list l 0)).push { cls := .type "list", dict := none, data := .seq ([] : List Value).toArray }).objs.size ≠ s.heap.objs.size := by rw [Heap.size_push, Heap.size_push]; omega
  have hCD : ((s.heap.push (itObj .list l 0)).push { cls := .type "list", dict := none, data := .seq ([] : List Value).toArray }).objs.size ≠ (s.heap.push (itObj .list l 0)).objs.size := by rw [Heap.size_push]; omega
  have gI : ((s.heap.push (itObj .list l 0)).push { cls := .type "list", dict := none, data := .seq ([] : List Value).toArray }).get? s.heap.objs.size = some (itObj .list l 0) := Heap.get?_push_of_some _ (Heap.get?_push_size _ rfl)
  have gD : ((s.heap.push (itObj .list l 0)).push { cls := .type "list", dict := none, data := .seq ([] : List Value).toArray }).get? (s.heap.push (itObj .list l 0)).objs.size = some { cls := .type "list", dict := none, data := .seq ([] : List Value).toArray } := Heap.get?_push_size _ rfl
  have old : ∀ b o, s.heap.get? b = some o → ((s.heap.push (itObj .list l 0)).push { cls := .type "list", dict := none, data := .seq ([] : List Value).toArray }).get? b = some o := fun b o e => Heap.get?_push_of_some _ (Heap.get?_push_of_some _ e)
  generalize hI : s.heap.objs.size = I at *
  generalize hD : (s.heap.push (itObj .list l 0)).objs.size = D at *
  generalize hH2 : ((s.heap.push (itObj .list l 0)).push { cls := .type "list", dict := none, data := .seq ([] : List Value).toArray }) = H2 at *
  generalize hC : H2.objs.size = C at *
  have up₁ : ∀ b o, b ≠ C → H2.get? b = some o → h₁.get? b = some o := fun b o hb e => hsb₁.extBut b o hb (Heap.get?_push_of_some _ e)
  have x₁ : Ext (frs fs) s { s with heap := h₁, toks := s.toks + ([] : List (Str × Value)).length } := .of_keeps fun b o e => up₁ b o (fun q => by rw [q, nC] at e; cases e) (old b o e)
  have hI₁ : ItAt h₁ .list I l 0 := ⟨_, up₁ _ _ (Ne.symm hCI) gI, rfl, rfl⟩
  have hD₁ : SeqAt h₁ "list" D [] := ⟨0, up₁ _ _ (Ne.symm hCD) gD⟩
  have iF : I ∉ frs fs := c.notIn nI
  have dF : D ∉ frs fs := c.notIn nD
  have cF : C ∉ frs fs := c.notIn nC
  have loop : ∀ s₃ : Shared, s₃ = { s with heap := h₁, toks := s.toks + ([] : List (Str × Value)).length } →
      codeAny (model prog w) A (.compLoop (.ListComp elt [⟨.Name x px, iter, ifs, 0⟩] scope pos) 0 (.ref I) (.ref D) (compEnvC scope [] C env)) (RR (.ref D) C) s₃ := by
    rintro s₃ rfl
    refine codeAny_compLoop_tests (fun k s' => ∃ i mC ys H, k = xs.length + 1 - i ∧ i ≤ xs.length ∧ Ext (frs fs) s s' ∧ s'.heap.Ns C mC ∧ ItAt s'.heap .list I l i ∧ SeqAt s'.heap "list" D ys ∧
        Paired (G H) ((xs.take i).filter p) ys ∧ SeqUp H s'.heap ∧ H.get? D = none) ?_ (xs.length + 1)
      ⟨0, _, [], {}, rfl, Nat.zero_le _, x₁, hns₁, hI₁, hD₁, by simpa using Paired.nil, (fun a o vs k e _ => nomatch e), rfl⟩
    rintro k s' ⟨i, mC, ys, H, rfl, hi, x', hn', hI', hD', hP, hu, hHD⟩
    have hl' : SeqAt s'.heap Sq.list.nm l (xs.map vf) := hl.up (c.seqUp x')
    have hlen := hP.length
    have hlen2 : ((xs.take i).filter p).length ≤ i := Nat.le_trans (List.length_filter_le _ _) (List.length_take_le _ _)
    cases hv : xs[i]? with
    | none =>
      have hle : xs.length ≤ i := List.getElem?_eq_none_iff.mp hv
      refine pyNext_end c.hd hI' hl' (by rw [List.getElem?_map, hv]; rfl) fun h₆ hs₆ => ?_
      have u₆ : SeqUp s'.heap h₆ := by obtain ⟨o, e, _, d⟩ := hI'; exact .butF e d hs₆
      refine hRR _ D C ys mC (x'.of_extBut (tk := s'.toks) hs₆ nI) (hn'.extBut hs₆ hCI) (hD'.up u₆) ?_ nD nC
      rw [List.take_of_length_le hle] at hP
      exact hP.mono fun a v z => hG _ _ _ _ (hu.trans u₆) z
    | some a =>
      have hlt : i < xs.length := (List.getElem?_eq_some_iff.mp hv).1
      have hmem : a ∈ xs := List.mem_of_getElem? hv
      refine pyNext_item hI' hl' (x := vf a) (by rw [List.getElem?_map, hv]; rfl) fun h₁' hI₂ hs₂ => ?_
      have u₂ : SeqUp s'.heap h₁' := by obtain ⟨o, e, _, d⟩ := hI'; exact .sameF e d hs₂
      refine wpAny_assign_Name (wpAny_storeName_local (lookup_relabel_local hx) (hn'.sameBut hs₂ hCI) (fun h₂ hn₂ hs₃ => ?_) (by simp [compEnvC, relabel, hkind]))
      have x₃ : Ext (frs fs) s { s' with heap := h₂, toks := s'.toks + 1 } := (x'.of_same (tk := s'.toks) hs₂ nI).of_same hs₃ nC
      have u₃ : SeqUp s'.heap h₂ := u₂.trans (.same (hn'.sameBut hs₂ hCI) hs₃)
      have hI₃ : ItAt h₂ .list I l (i + 1) := by obtain ⟨o, e, c', d⟩ := hI₂; exact ⟨o, (hs₃.2 _ (Ne.symm hCI)).trans e, c', d⟩
      refine wpAny_mono (htests C _ _ a _ x₃ hn₂ (by simp) hmem) (fun ok s₄ h₄ => ?_) fun _ _ z => z
      obtain ⟨rfl, x₄⟩ := h₄
      have xs₄ := x₃.trans x₄
      have u₄ : SeqUp s'.heap s₄.heap := u₃.trans ((c.ext x₃).seqUp x₄)
      have hI₄ : ItAt s₄.heap .list I l (i + 1) := by obtain ⟨o, e, c', d⟩ := hI₃; exact ⟨o, x₄.keep _ _ iF e, c', d⟩
      have hn₄ := x₄.ns hn₂
      cases hpa : p a with
      | false =>
        rw [if_neg Bool.false_ne_true]
        refine ⟨xs.length + 1 - (i + 1), by omega, i + 1, _, ys, H, rfl, hlt, xs₄, hn₄, hI₄, hD'.up u₄, ?_, hu.trans u₄, hHD⟩
        rw [take_succ_filter p xs i a hv, hpa]; simpa using hP
      | true =>
        rw [if_pos rfl]
        refine wpAny_mono (helt C _ _ a _ xs₄ hn₄ (by simp) hmem hpa) (fun y s₅ h₅ => ?_) fun _ _ z => z
        obtain ⟨x₅, gy⟩ := h₅
        have u₅ : SeqUp s'.heap s₅.heap := u₄.trans ((c.ext xs₄).seqUp x₅)
        have hD₅ := hD'.up u₅
        have gy' := gy D (by obtain ⟨_, e⟩ := hD'.up u₄; rw [e]; exact fun q => nomatch q)
        refine wpAny_list_append_plain (items := ys.toArray) hD₅ (fun h₆ hl₆ hs₆ => ?_) (by rw [List.size_toArray, sizeLine_eq]; omega)
        refine ⟨xs.length + 1 - (i + 1), by omega, i + 1, _, ys ++ [y], s₅.heap.hide D, rfl, hlt, (xs₄.trans x₅).of_same (tk := s₅.toks) hs₆ nD, (x₅.ns hn₄).sameBut hs₆ hCD, ?_, seqAt_push (h := s₅.heap) hl₆, ?_, .ofHide hs₆, Heap.hide_self _ _⟩
        · obtain ⟨o, e, c', d⟩ := hI₄; exact ⟨o, (hs₆.2 _ (Ne.symm hDI)).trans (x₅.keep _ _ iF e), c', d⟩
        · rw [take_succ_filter p xs i a hv, hpa, if_pos rfl]
          exact (hP.mono fun a' v' z => hG _ _ _ _ ((hu.trans u₅).toHide hHD) z).snoc gy'
  exact codeAny_compStart_list (loop _ rfl) (wpAny_pyIter_listiter hI₁ (loop _ rfl))
end
end Mine
end

section
open PySem PySem.W PySem.Calls PyProof.Rows PySem.SeqAt
namespace Mine

section
variable {prog : Program} {w : World} {B₀ : Heap} {A : Around} {fs : List Env} {n : Nat} {s : Shared} {E : Value → Shared → Prop} {env : Env}

theorem ListComp_ {M : Model} {elt iter : Expr} {x : Str} {px : Pos} {ifs : List Expr} {scope : Scope} {pos : Pos} {Q : Value → Shared → Prop}
    (h : wpAny M A (eval iter env) (fun xv s₁ => wpAny M A (pyIter xv) (fun it s₂ => wpAny M A (newList []) (fun acc s₃ =>
      wpAny M A (newFunctionEnv scope env.globals [] [] env.qual none .none (some env)) (fun cenv s₄ =>
        codeAny M A (.compStart (.ListComp elt [⟨.Name x px, iter, ifs, 0⟩] scope pos) 0 it acc { cenv with scope := relabel scope env }) (compPost M A E none Q acc cenv.locals) s₄) E s₃) E s₂) E s₁) E s)
    (hs : ∀ x, foldedSetIterable iter env x = pure x) (hclos : closureFor scope env = pure [])
    (hkind : scope.kind = .function) (hnames : ∀ x ∈ scope.names, x.2 = .local → scope.names.lookup x.1 = some .local) :
    wpAny M A (eval (.ListComp elt [⟨.Name x px, iter, ifs, 0⟩] scope pos) env) Q E s := by
  rw [eval_ListComp]
  exact wpAny_comprehension_free (use := none) rfl hs hclos hkind hnames h

theorem comp_at {α : Type} {elt iter : Expr} {x : Str} {px : Pos} {ifs : List Expr} {scope : Scope} {pos : Pos} {Q : Value → Shared → Prop} (c : Cx B₀ A fs n s) {l : Addr} {xs : List α} {vf : α → Value} (hl : SeqAt s.heap "list" l (xs.map vf)) (hz : xs.length ≤ 1000)
    (hcell : ∀ y ∈ scope.names, y.2 ≠ .cell) (hkind : scope.kind = .function) (hx : scope.names.lookup x = some .local)
    (p : α → Bool) (G : Heap → α → Value → Prop) (hG : ∀ h h' a v, SeqUp h h' → G h a v → G h' a v)
    (htests : ∀ C s₃ mC a (E' : Value → Shared → Prop), Ext (frs fs) s s₃ → s₃.heap.Ns C mC → mC x = some (vf a) → a ∈ xs →
      wpAny (model prog w) A (forIn ifs true fun c r => if r = true then do let ok ← isTrue c (compEnvC scope [] C env) (eval c (compEnvC scope [] C env)); pure (ForInStep.yield ok) else pure (ForInStep.yield r))
        (fun ok s₄ => ok = p a ∧ Ext (frs fs) s₃ s₄) E' s₃)
    (helt : ∀ C s₃ mC a (E' : Value → Shared → Prop), Ext (frs fs) s s₃ → s₃.heap.Ns C mC → mC x = some (vf a) → a ∈ xs → p a = true →
      wpAny (model prog w) A (eval elt (compEnvC scope [] C env)) (fun y s₄ => Ext (frs fs) s₃ s₄ ∧ ∀ D, s₃.heap.get? D ≠ none → G (s₄.heap.hide D) a y) E' s₃)
    (hQ : ∀ s' D ys, Ext (frs fs) s s' → SeqAt s'.heap "list" D ys → Paired (G s'.heap) (xs.filter p) ys → s.heap.get? D = none → Q (.ref D) s') :
    wpAny (model prog w) A (pyIter (.ref l)) (fun it s₂ => wpAny (model prog w) A (newList []) (fun acc s₃ =>
      wpAny (model prog w) A (newFunctionEnv scope env.globals [] [] env.qual none .none (some env)) (fun cenv s₄ =>
        codeAny (model prog w) A (.compStart (.ListComp elt [⟨.Name x px, iter, ifs, 0⟩] scope pos) 0 it acc { cenv with scope := relabel scope env }) (compPost (model prog w) A E none Q acc cenv.locals) s₄) E s₃) E s₂) E s :=
  pyIter_seq (k := .list) hl (comp_block (RR := fun acc C => compPost (model prog w) A E none Q acc C) c hl hz hcell hkind hx p G hG htests helt fun s' D C ys m' x' hn hD hP nD nC =>
    ⟨m', hn, fun h' hs => hQ _ D ys (x'.of_same (tk := s'.toks) hs nC) (hD.up (.same hn hs)) (hP.mono fun _ _ z => hG _ _ _ _ (.same hn hs) z) nD⟩)

/-- the comprehension's variable -/
theorem comp_name {M : Model} {scope : Scope} {C : Addr} {mC : Str → Option Value} {x : Str} {pos : Pos} {v : Value} {Q : Value → Shared → Prop} (hn : s.heap.Ns C mC) (hv : mC x = some v) (h : Q v s)
    (hk : (compEnvC scope [] C env).scope.kind = .function) (hl : (compEnvC scope [] C env).kindOf x = some .local) (hd : (x == ("__debug__" : Str)) = false := by decide) :
    wpAny M A (eval (.Name x pos) (compEnvC scope [] C env)) Q E s := wpAny_Name (wpAny_loadName_local hk hl hn hv h) hd

theorem paired_ps {α : Type} {h : Heap} {f : α → PyData} : ∀ {xs : List α} {ys : List Value}, Paired (fun a y => Rd h y (f a)) xs ys → ∃ ps : Ps, vals ps = ys ∧ dats ps = xs.map f ∧ RdP h ps
  | _, _, .nil => ⟨[], rfl, rfl, fun _ h => nomatch h⟩
  | _, _, .cons (a := a) (b := y) r t => by
    obtain ⟨ps, e1, e2, hp⟩ := paired_ps t
    refine ⟨(y, f a) :: ps, by rw [vals, List.map_cons]; exact congrArg _ e1, by rw [dats, List.map_cons, List.map_cons]; exact congrArg _ e2, fun q hq => ?_⟩
    rcases List.mem_cons.mp hq with rfl | hq
    · exact r
    · exact hp q hq
end

abbrev ivs (rs : List (Int × Tok)) : List Value := rs.map fun q => .int q.1 q.2
def okR (rs : List (Int × Tok)) : Prop := ∀ q ∈ rs, 0 ≤ q.1 ∧ q.1 < 63
def listD (rs : List (Int × Tok)) : List PyData := (rs.filter fun q => q.1.fmod 3 != 1).map (fun q => thing q.1) ++ [.int 0, .str "0"]
def skipD (rs : List (Int × Tok)) : List PyData := (rs.filter fun q => q.1.fmod 3 != 0).map (fun q => thing q.1) ++ [.str "0"]
def listK (z : Int) : Sq := if (z.fmod 2 == 1) = true then .tup else .list
def skipK (z : Int) : Sq := if ((z.fdiv 2).fmod 2 == 1) = true then .tup else .list

section
variable {prog : Program} {w : World} {K : Frag} {mg mb : Str → Option Value} {B₀ : Heap} {A : Around} {outer : List Env} {n : Nat} {s : Shared}

theorem listing_spec (P : Prg K mg mb B₀) (c : Cx B₀ A outer n s) (hn : n < 600) {l : Addr} {rs : List (Int × Tok)} (hl : SeqAt s.heap "list" l (ivs rs)) (ok : okR rs) (hz : rs.length ≤ 100) {R : Result → Shared → Prop}
    (h : ∀ s' D ps, Ext (frs outer) s s' → SeqAt s'.heap (listK rs.length).nm D (vals ps) → RdP s'.heap ps → dats ps = listD rs → R (.ok (.ret (.ref D))) s') :
    codeAny (model prog w) A (.call (.ref 70) ⟨[.ref l], []⟩) R s := by
  refine fn_call_ret c (by omega) P.lim P.d_listing.ho P.d_listing.cd rfl (.of_eq rfl) (by decide +kernel) (locs (by rfl)) (fun s₁ L hL b => ?_) (by rfl) (by rfl) (by rfl)
  have hlB := hl.up c.seqUp_hide
  refine wpAny_execs_cons (wpAny_Assign_Name (wpAny_BinOp (ListComp_ (b.name (by rfl) (comp_at b.cx (xs := rs) (vf := fun q => .int q.1 q.2) (hlB.up b.up) (by omega) (by decide +kernel) (by rfl) (by rfl)
    (fun q => q.1.fmod 3 != 1) (fun h q y => Rd h y (thing q.1)) (fun _ _ _ _ u r => r.up u) ?_ ?_ ?_) (by rfl) (by rfl) (by decide)) (by intro _; rfl) (by rfl) (by rfl) (by decide +kernel))) (by rfl))
  · intro C s₃ mC a E' x₃ hn₃ hm ha
    refine wpAny_tests_one (wpAny_isTrue_Compare1 (wpAny_BinOp (comp_name (v := .int a.1 a.2) hn₃ hm (wpAny_Constant_int (mod_int (by decide) (wpAny_Constant_int (ne_int (wpAny_truthy_bool ⟨rfl, ?_⟩))))) (by rfl) (by rfl) (by decide))))
    exact .toks _
  · intro C s₃ mC a E' x₃ hn₃ hm ha _
    have c₃ := b.cx.ext x₃
    refine Call1 (P.name c₃.stays P.g_thing (comp_name (v := .int a.1 a.2) hn₃ hm ⟨kept_fn (c₃.stays _ _ P.d_thing.ho) rfl, wpAny_call ?_⟩ (by rfl) (by rfl) (by decide)) (by rfl) (by rfl) (by rfl) (by decide)) (by rfl) (by rfl)
    exact thing_spec P c₃ (by omega) (ok a ha).1 (ok a ha).2 fun s' y x' hy => ⟨x', hy⟩
  · intro s₂ D ys x₂ hD₂ hP₂ _
    obtain ⟨ps, rfl, hd, hr⟩ := paired_ps hP₂
    have b₂ := b.call x₂
    have hlen : ps.length ≤ rs.length := by
      have := hP₂.length
      rw [List.length_map] at this
      rw [← this]; exact List.length_filter_le _ _
    -- [0, '0']
    refine List_ ?_
    refine spliced_cons ?_
    refine wpAny_Constant_int (i := 0) (k := 0) (pos := default) ?_
    refine spliced_cons ?_
    refine wpAny_Constant_str (x := "0") (k := 0) (pos := default) ?_
    refine spliced_nil (wpAny_newObj_type ?_ (by show (2 ≤ sizeLine); rw [sizeLine_eq]; decide))
    obtain ⟨nD, eD⟩ := hD₂
    have b₃ := (b₂.toks (s₂.toks + 1 + 1)).push { cls := .type "list", data := .seq [.int 0 s₂.toks, .str "0" (s₂.toks + 1)].toArray }
    refine PySem.P.add_list (n := nD) (n2 := 0) (items := (vals ps).toArray) (items2 := [.int 0 s₂.toks, .str "0" (s₂.toks + 1)].toArray) (Heap.get?_push_of_some _ eD) (Heap.get?_push_size _ rfl) ?_ (by rw [List.size_toArray, List.length_map, sizeLine_eq]; simp; omega)
    have b₄ := b₃.push { cls := .type "list", data := .seq ((vals ps).toArray ++ [.int 0 s₂.toks, .str "0" (s₂.toks + 1)].toArray) }
    have e₄ : SeqAt ((s₂.heap.push { cls := .type "list", data := .seq [.int 0 s₂.toks, .str "0" (s₂.toks + 1)].toArray }).push { cls := .type "list", data := .seq ((vals ps).toArray ++ [.int 0 s₂.toks, .str "0" (s₂.toks + 1)].toArray) }) "list"
        (s₂.heap.push { cls := .type "list", data := .seq [.int 0 s₂.toks, .str "0" (s₂.toks + 1)].toArray }).objs.size (vals (ps ++ [(.int 0 s₂.toks, .int 0), (.str "0" (s₂.toks + 1), .str "0")])) :=
      ⟨0, by rw [Heap.get?_push_size _ rfl]; simp [vals]⟩
    have r₄ : RdP ((s₂.heap.push { cls := .type "list", data := .seq [.int 0 s₂.toks, .str "0" (s₂.toks + 1)].toArray }).push { cls := .type "list", data := .seq ((vals ps).toArray ++ [.int 0 s₂.toks, .str "0" (s₂.toks + 1)].toArray) })
        (ps ++ [(.int 0 s₂.toks, .int 0), (.str "0" (s₂.toks + 1), .str "0")]) := fun q hq => by
      rcases List.mem_append.mp hq with hq | hq
      · exact (hr q hq).up (.of_keep fun _ _ e => Heap.get?_push_of_some _ (Heap.get?_push_of_some _ e))
      · rcases List.mem_cons.mp hq with rfl | hq
        · exact .int _ _
        · rw [List.mem_singleton.mp hq]; exact .str _ _
    have d₄ : dats (ps ++ [(.int 0 s₂.toks, .int 0), (.str "0" (s₂.toks + 1), .str "0")]) = listD rs := by
      rw [dats, List.map_append]; exact congrArg (· ++ _) hd
    generalize (s₂.heap.push { cls := .type "list", data := .seq [.int 0 s₂.toks, .str "0" (s₂.toks + 1)].toArray }).objs.size = T at *
    generalize ((s₂.heap.push { cls := .type "list", data := .seq [.int 0 s₂.toks, .str "0" (s₂.toks + 1)].toArray }).push { cls := .type "list", data := .seq ((vals ps).toArray ++ [.int 0 s₂.toks, .str "0" (s₂.toks + 1)].toArray) }) = h₄ at *
    have hlen' : (ps ++ [(Value.int 0 s₂.toks, PyData.int 0), (.str "0" (s₂.toks + 1), .str "0")]).length ≤ 200 := by rw [List.length_append]; simp; omega
    generalize ps ++ [(Value.int 0 s₂.toks, PyData.int 0), (.str "0" (s₂.toks + 1), .str "0")] = us at *
    refine b₄.put (fun h₅ tk₅ hs₅ b₅ => ?_) (by rfl) (by rfl)
    have e₅ : SeqAt h₅ "list" T (vals us) := e₄.up (.same b₄.ns hs₅)
    have r₅ : RdP h₅ us := r₄.up (.same b₄.ns hs₅)
    have hl₅ : SeqAt h₅ "list" l (ivs rs) := hlB.up b₅.up
    -- if len(rule) % 2 == 1
    refine wpAny_execs_cons (wpAny_If (wpAny_isTrue_Compare1 (wpAny_BinOp (Call1 (P.builtin b₅.cx.stays P.n_len P.b_len (b₅.name (by rfl) ⟨kept_builtin, call_len_list hl₅.isList ?_ (wpAny_Constant_int (mod_int (by decide) (wpAny_Constant_int (eq_int (wpAny_truthy_bool ?_)))))⟩ (by rfl) (by rfl) (by decide)) (by rfl) (by rfl) (by rfl) (by rfl) (by decide)) (by rfl) (by rfl)))))
    · rw [List.size_toArray, List.length_map]; omega
    have hsz : ((ivs rs).toArray.size : Int) = rs.length := by rw [List.size_toArray, List.length_map]
    rw [hsz]
    have b₆ := b₅.toks (tk₅ + 1 + 1 + 1 + 1 + 1)
    by_cases hk : ((rs.length : Int).fmod 2 == 1) = true
    · have hK : listK rs.length = .tup := if_pos hk
      rw [if_pos hk]
      refine wpAny_execs_cons (wpAny_Return_some (Call1 (P.builtin b₆.cx.stays P.n_tuple P.b_tuple (b₆.name (by rfl) ⟨kept_type, call_tuple_list e₅.isList (fun h' hk' => ?_) (by rw [List.size_toArray, List.length_map, sizeLine_eq]; omega)⟩ (by rfl) (by rfl) (by decide)) (by rfl) (by rfl) (by rfl) (by rfl) (by decide)) (by rfl) (by rfl)))
      have kk : ∀ c o, h₅.get? c = some o → (h'.push { cls := .type "tuple", data := .seq (vals us).toArray }).get? c = some o := fun c o e => Heap.get?_push_of_some _ (hk' c o e)
      refine h _ _ us (b₆.grow (tk := tk₅ + 1 + 1 + 1 + 1 + 1) kk).ext ?_ (r₅.up (.of_keep kk)) d₄
      rw [hK]
      exact ⟨0, Heap.get?_push_size _ rfl⟩
    · have hK : listK rs.length = .list := if_neg hk
      rw [if_neg hk]
      refine wpAny_execs_nil ?_
      refine wpAny_execs_cons (wpAny_Return_some (b₆.name (by rfl) ?_ (by rfl) (by rfl) (by decide)))
      refine h _ _ us b₆.ext ?_ r₅ d₄
      rw [hK]
      exact e₅
end
end Mine
end

section
open PySem PySem.W PySem.Calls PyProof.Rows PySem.SeqAt
namespace Mine

section
variable {prog : Program} {w : World} {K : Frag} {mg mb : Str → Option Value} {B₀ : Heap} {A : Around} {outer : List Env} {n : Nat} {s : Shared}

theorem ite_yes {c a b : Prop} [Decidable c] (h : c) (x : a) : if c then a else b := by rw [if_pos h]; exact x
theorem ite_no {c a b : Prop} [Decidable c] (h : ¬c) (x : b) : if c then a else b := by rw [if_neg h]; exact x

theorem skip_spec (P : Prg K mg mb B₀) (c : Cx B₀ A outer n s) (hn : n < 600) {l : Addr} {rs : List (Int × Tok)} (hl : SeqAt s.heap "list" l (ivs rs)) (ok : okR rs) (hz : rs.length ≤ 100) {R : Result → Shared → Prop}
    (h : ∀ s' D ps, Ext (frs outer) s s' → SeqAt s'.heap (skipK rs.length).nm D (vals ps) → RdP s'.heap ps → dats ps = skipD rs → R (.ok (.ret (.ref D))) s') :
    codeAny (model prog w) A (.call (.ref 75) ⟨[.ref l], []⟩) R s := by
  refine fn_call_ret c (by omega) P.lim P.d_skip.ho P.d_skip.cd rfl (.of_eq rfl) (by decide +kernel) (locs (by rfl)) (fun s₁ L hL b => ?_) (by rfl) (by rfl) (by rfl)
  have hlB := hl.up c.seqUp_hide
  refine wpAny_execs_cons (wpAny_Assign_Name (wpAny_BinOp (ListComp_ (b.name (by rfl) (comp_at b.cx (xs := rs) (vf := fun q => .int q.1 q.2) (hlB.up b.up) (by omega) (by decide +kernel) (by rfl) (by rfl)
    (fun q => q.1.fmod 3 != 0) (fun h q y => Rd h y (thing q.1)) (fun _ _ _ _ u r => r.up u) ?_ ?_ ?_) (by rfl) (by rfl) (by decide)) (by intro _; rfl) (by rfl) (by rfl) (by decide +kernel))) (by rfl))
  · intro C s₃ mC a E' x₃ hn₃ hm ha
    refine wpAny_tests_one (wpAny_isTrue_Compare1 (wpAny_BinOp (comp_name (v := .int a.1 a.2) hn₃ hm (wpAny_Constant_int (mod_int (by decide) (wpAny_Constant_int (ne_int (wpAny_truthy_bool ⟨rfl, ?_⟩))))) (by rfl) (by rfl) (by decide))))
    exact .toks _
  · intro C s₃ mC a E' x₃ hn₃ hm ha _
    have c₃ := b.cx.ext x₃
    refine Call1 (P.name c₃.stays P.g_thing (comp_name (v := .int a.1 a.2) hn₃ hm ⟨kept_fn (c₃.stays _ _ P.d_thing.ho) rfl, wpAny_call ?_⟩ (by rfl) (by rfl) (by decide)) (by rfl) (by rfl) (by rfl) (by decide)) (by rfl) (by rfl)
    exact thing_spec P c₃ (by omega) (ok a ha).1 (ok a ha).2 fun s' y x' hy => ⟨x', hy⟩
  · intro s₂ D ys x₂ hD₂ hP₂ _
    obtain ⟨ps, rfl, hd, hr⟩ := paired_ps hP₂
    have b₂ := b.call x₂
    have hlen : ps.length ≤ rs.length := by
      have := hP₂.length
      rw [List.length_map] at this
      rw [← this]; exact List.length_filter_le _ _
    -- ['0']
    refine List_ ?_
    refine spliced_cons ?_
    refine wpAny_Constant_str (x := "0") (k := 0) (pos := default) ?_
    refine spliced_nil (wpAny_newObj_type ?_ (by show (1 ≤ sizeLine); rw [sizeLine_eq]; decide))
    obtain ⟨nD, eD⟩ := hD₂
    have b₃ := (b₂.toks (s₂.toks + 1)).push { cls := .type "list", data := .seq [.str "0" s₂.toks].toArray }
    refine PySem.P.add_list (n := nD) (n2 := 0) (items := (vals ps).toArray) (items2 := [.str "0" s₂.toks].toArray) (Heap.get?_push_of_some _ eD) (Heap.get?_push_size _ rfl) ?_ (by rw [List.size_toArray, List.length_map, sizeLine_eq]; simp; omega)
    have b₄ := b₃.push { cls := .type "list", data := .seq ((vals ps).toArray ++ [.str "0" s₂.toks].toArray) }
    have e₄ : SeqAt ((s₂.heap.push { cls := .type "list", data := .seq [.str "0" s₂.toks].toArray }).push { cls := .type "list", data := .seq ((vals ps).toArray ++ [.str "0" s₂.toks].toArray) }) "list"
        (s₂.heap.push { cls := .type "list", data := .seq [.str "0" s₂.toks].toArray }).objs.size (vals (ps ++ [(.str "0" s₂.toks, .str "0")])) :=
      ⟨0, by rw [Heap.get?_push_size _ rfl]; simp [vals]⟩
    have r₄ : RdP ((s₂.heap.push { cls := .type "list", data := .seq [.str "0" s₂.toks].toArray }).push { cls := .type "list", data := .seq ((vals ps).toArray ++ [.str "0" s₂.toks].toArray) })
        (ps ++ [(.str "0" s₂.toks, .str "0")]) := fun q hq => by
      rcases List.mem_append.mp hq with hq | hq
      · exact (hr q hq).up (.of_keep fun _ _ e => Heap.get?_push_of_some _ (Heap.get?_push_of_some _ e))
      · rw [List.mem_singleton.mp hq]; exact .str _ _
    have d₄ : dats (ps ++ [(.str "0" s₂.toks, .str "0")]) = skipD rs := by
      rw [dats, List.map_append]; exact congrArg (· ++ _) hd
    generalize (s₂.heap.push { cls := .type "list", data := .seq [.str "0" s₂.toks].toArray }).objs.size = T at *
    generalize ((s₂.heap.push { cls := .type "list", data := .seq [.str "0" s₂.toks].toArray }).push { cls := .type "list", data := .seq ((vals ps).toArray ++ [.str "0" s₂.toks].toArray) }) = h₄ at *
    have hlen' : (ps ++ [(Value.str "0" s₂.toks, PyData.str "0")]).length ≤ 200 := by rw [List.length_append]; simp; omega
    generalize ps ++ [(Value.str "0" s₂.toks, PyData.str "0")] = us at *
    refine b₄.put (fun h₅ tk₅ hs₅ b₅ => ?_) (by rfl) (by rfl)
    have e₅ : SeqAt h₅ "list" T (vals us) := e₄.up (.same b₄.ns hs₅)
    have r₅ : RdP h₅ us := r₄.up (.same b₄.ns hs₅)
    have hl₅ : SeqAt h₅ "list" l (ivs rs) := hlB.up b₅.up
    -- if len(rule) % 2 == 1
    refine wpAny_execs_cons (wpAny_If (wpAny_isTrue_Compare1 (wpAny_BinOp (wpAny_BinOp (Call1 (P.builtin b₅.cx.stays P.n_len P.b_len (b₅.name (by rfl) ⟨kept_builtin, call_len_list hl₅.isList ?_ (wpAny_Constant_int (floordiv_int (by decide) (wpAny_Constant_int (mod_int (by decide) (wpAny_Constant_int (eq_int (wpAny_truthy_bool ?_)))))))⟩ (by rfl) (by rfl) (by decide)) (by rfl) (by rfl) (by rfl) (by rfl) (by decide)) (by rfl) (by rfl))))))
    · rw [List.size_toArray, List.length_map]; omega
    have hsz : ((ivs rs).toArray.size : Int) = rs.length := by rw [List.size_toArray, List.length_map]
    have b₆ := b₅.toks (tk₅ + 1 + 1 + 1 + 1 + 1 + 1 + 1)
    by_cases hk : ((((ivs rs).toArray.size : Int).fdiv 2).fmod 2 == 1) = true
    · have hK : skipK rs.length = .tup := if_pos (by rw [← hsz]; exact hk)
      refine ite_yes hk ?_
      refine wpAny_execs_cons (wpAny_Return_some (Call1 (P.builtin b₆.cx.stays P.n_tuple P.b_tuple (b₆.name (by rfl) ⟨kept_type, call_tuple_list e₅.isList (fun h' hk' => ?_) (by rw [List.size_toArray, List.length_map, sizeLine_eq]; omega)⟩ (by rfl) (by rfl) (by decide)) (by rfl) (by rfl) (by rfl) (by rfl) (by decide)) (by rfl) (by rfl)))
      have kk : ∀ c o, h₅.get? c = some o → (h'.push { cls := .type "tuple", data := .seq (vals us).toArray }).get? c = some o := fun c o e => Heap.get?_push_of_some _ (hk' c o e)
      refine h _ _ us (b₆.grow (tk := tk₅ + 1 + 1 + 1 + 1 + 1 + 1 + 1) kk).ext ?_ (r₅.up (.of_keep kk)) d₄
      rw [hK]
      exact ⟨0, Heap.get?_push_size _ rfl⟩
    · have hK : skipK rs.length = .list := if_neg (by rw [← hsz]; exact hk)
      refine ite_no hk ?_
      refine wpAny_execs_nil ?_
      refine wpAny_execs_cons (wpAny_Return_some (b₆.name (by rfl) ?_ (by rfl) (by rfl) (by decide)))
      refine h _ _ us b₆.ext ?_ r₅ d₄
      rw [hK]
      exact e₅
end
end Mine
end

section
open PySem PySem.W PySem.Calls PyProof.Rows PySem.SeqAt
namespace Mine

/-- the type's name -/
def tyD : PyData → String
  | .none => "NoneType"
  | .bool _ => "bool"
  | .int _ => "int"
  | .str _ => "str"
  | .list _ => "list"
  | .tuple _ => "tuple"
  | _ => ""

section
variable {prog : Program} {w : World} {K : Frag} {mg mb : Str → Option Value} {B₀ : Heap} {s₀ : Shared} {A : Around} {env : Env} {outer : List Env} {n : Nat} {m : Str → Option Value} {B : Heap} {s : Shared} {E : Value → Shared → Prop}

theorem call_ty {v : Value} {d : PyData} {Q : Value → Shared → Prop} (r : Rd s.heap v d) (h : Q (.type (tyD d)) s) : wpAny (model prog w) A (call (.type "type") [v]) Q E s := by
  cases r with
  | none => exact call_type_of (Tx := "NoneType") rfl (by decide +kernel) h
  | bool b => exact call_type_of (Tx := "bool") rfl (by decide +kernel) h
  | int i t => exact call_type_of (Tx := "int") rfl (by decide +kernel) h
  | str x t => exact call_type_of (Tx := "str") rfl (by decide +kernel) h
  | list e c _ _ => exact call_type_of (Tx := "list") ⟨_, e, c⟩ (by decide +kernel) h
  | tuple e c _ _ => exact call_type_of (Tx := "tuple") ⟨_, e, c⟩ (by decide +kernel) h

theorem woven_cond (P : Prg K mg mb B₀) (hn : n < 800) (b : Bd B₀ s₀ A env outer n m B s) {kn iN : Str} {Ka : Addr} {ks : Ps} {i : Nat} {t : Tok} {v : Value} {d : PyData} {p1 p2 p3 p4 p5 p6 p7 p8 p9 p10 p11 p12 p13 p14 p15 p16 p17 p18 p19 p20 : Pos} {whole : Sem Value} {Q : Bool → Shared → Prop}
    (hk : SeqAt s.heap "list" Ka (vals ks)) (rk : RdP s.heap ks) (okk : okP ks) (rv : Rd s.heap v d) (sd : shaped d = true) (hz : ks.length ≤ 1000)
    (mk : m kn = some (.ref Ka)) (mi : m iN = some (.int i t)) (mo : m "one" = some v)
    (fk : env.scope.kind = .function) (lk : env.kindOf kn = some .local) (li : env.kindOf iN = some .local) (lo : env.kindOf "one" = some .local) (ll : env.kindOf "len" = some .globalImplicit) (lt : env.kindOf "type" = some .globalImplicit)
    (eg : env.globals = mainGlobals) (eb : env.builtins = builtinsNs) (dk : (kn == ("__debug__" : Str)) = false) (di : (iN == ("__debug__" : Str)) = false)
    (hy : ∀ tk q, ks[i]? = some q → PyData.eqv q.2 d = true → tyD q.2 = tyD d → Q true { s with toks := tk })
    (hno : ∀ tk, (∀ q, ks[i]? = some q → ¬(PyData.eqv q.2 d = true ∧ tyD q.2 = tyD d)) → Q false { s with toks := tk }) :
    wpAny (model prog w) A (isTrue (.BoolOp .And [.Compare (.Name iN p1) [.Lt] [.Call (.Name "len" p2) [.Name kn p3] [] p4] p5, .Compare (.Subscript (.Name kn p6) (.Name iN p7) p8) [.Eq] [.Name "one" p9] p10,
      .Compare (.Call (.Name "type" p11) [.Subscript (.Name kn p12) (.Name iN p13) p14] [] p15) [.Is] [.Call (.Name "type" p16) [.Name "one" p17] [] p18] p19] p20) env whole) Q E s := by
  have hsz : ((vals ks).toArray.size : Int) = ks.length := by rw [List.size_toArray, List.length_map]
  refine isTrue_and (wpAny_isTrue_Compare1 (b.name mi (Call1 (P.builtin b.cx.stays P.n_len P.b_len (b.name mk ⟨kept_builtin, call_len_list hk.isList (by rw [hsz]; omega) (lt_int (wpAny_truthy_bool ?_))⟩ fk lk dk) fk ll eg eb (by decide)) (by rfl) (by rfl)) fk li di) (by rfl))
  have b₂ := b.toks (s.toks + 1 + 1)
  rw [hsz]
  by_cases hi : i < ks.length
  · rw [if_pos (decide_eq_true (by omega))]
    obtain ⟨q, hq⟩ : ∃ q, ks[i]? = some q := ⟨_, List.getElem?_eq_getElem hi⟩
    have hmem : q ∈ ks := List.mem_of_getElem? hq
    have hx : (vals ks)[(i : Int).toNat]? = some q.1 := by rw [Int.toNat_natCast, List.getElem?_map, hq]; rfl
    refine isTrue_and (wpAny_isTrue_Compare1 (Subscript_ (b₂.name mk (b₂.name mi (item_listL hk.isList (by omega) (by omega) hx ?_ (by rfl) (by intro _; rfl)) fk li di) fk lk dk)) (by rfl))
    refine b₂.name mo (eq_data (rk q hmem) rv (okk q hmem) sd (b.cx.units (by omega)) (wpAny_truthy_bool ?_)) fk lo (by decide)
    cases he : PyData.eqv q.2 d with
    | false =>
      rw [if_neg Bool.false_ne_true]
      exact hno _ fun q' hq' z => by rw [hq] at hq'; cases hq'; rw [he] at z; cases z.1
    | true =>
      rw [if_pos rfl]
      refine isTrue_and (wpAny_isTrue_Compare1 (Call1 (P.builtin b₂.cx.stays P.n_type P.b_type (Subscript_ (b₂.name mk (b₂.name mi (item_listL hk.isList (by omega) (by omega) hx ?_ (by rfl) (by intro _; rfl)) fk li di) fk lk dk)) fk lt eg eb (by decide)) (by rfl) (by rfl)) (by rfl))
      refine ⟨kept_type, call_ty (rk q hmem) (Call1 (P.builtin b₂.cx.stays P.n_type P.b_type (b₂.name mo ⟨kept_type, call_ty rv (wpAny_is_plain (by rfl) (wpAny_truthy_bool ?_))⟩ fk lo (by decide)) fk lt eg eb (by decide)) (by rfl) (by rfl))⟩
      by_cases ht : tyD q.2 = tyD d
      · rw [ht, if_pos (beq_self_eq_true _)]
        exact isTrue_and_nil (hy _ q hq he ht)
      · rw [if_neg (by rw [beq_eq_false_iff_ne.mpr (fun z => ht (Value.type.inj z))]; exact Bool.false_ne_true)]
        exact hno _ fun q' hq' z => by rw [hq] at hq'; cases hq'; exact ht z.2
  · rw [if_neg (by rw [decide_eq_false (by omega)]; exact Bool.false_ne_true)]
    exact hno _ fun q' hq' => absurd (List.getElem?_eq_some_iff.mp hq').1 hi
end
end Mine
end

section
open PySem PySem.W PySem.Calls PyProof.Rows PySem.SeqAt
namespace Mine

theorem filter_at {α : Type} (f : α → Bool) (ps : List α) {t : Nat} {q : α} (hq : ps[t]? = some q) (hf : f q = true) : (ps.filter f)[((ps.take t).filter f).length]? = some q := by
  have hlt : t < ps.length := (List.getElem?_eq_some_iff.mp hq).1
  have e : ps = ps.take t ++ q :: ps.drop (t + 1) := by
    have h1 : ps[t] = q := (List.getElem?_eq_some_iff.mp hq).2
    rw [← h1, ← List.drop_eq_getElem_cons hlt, List.take_append_drop]
  have e2 : ps.filter f = (ps.take t).filter f ++ q :: (ps.drop (t + 1)).filter f := by
    conv => lhs; rw [e]
    rw [List.filter_append, List.filter_cons, if_pos hf]
  rw [e2, List.getElem?_append_right (Nat.le_refl _), Nat.sub_self]; rfl
theorem cnt_yes {α : Type} (f : α → Bool) (ps : List α) {t : Nat} {q : α} (hq : ps[t]? = some q) (hf : f q = true) : ((ps.take (t + 1)).filter f).length = ((ps.take t).filter f).length + 1 := by
  rw [take_succ_filter f ps t q hq, hf]; simp
theorem cnt_no {α : Type} (f : α → Bool) (ps : List α) {t : Nat} {q : α} (hq : ps[t]? = some q) (hf : f q = false) : ((ps.take (t + 1)).filter f).length = ((ps.take t).filter f).length := by
  rw [take_succ_filter f ps t q hq, hf]; simp

section
variable {prog : Program} {w : World} {K : Frag} {mg mb : Str → Option Value} {B₀ : Heap} {A : Around} {outer : List Env} {n : Nat} {s : Shared}

theorem woven_spec (P : Prg K mg mb B₀) (c : Cx B₀ A outer n s) (hn : n < 600) {l Ka Fa : Addr} {k : Sq} {ps : Ps} (f : Value × PyData → Bool) (hl : SeqAt s.heap k.nm l (vals ps)) (hK : SeqAt s.heap "list" Ka (vals (ps.filter f)))
    (hF : SeqAt s.heap "list" Fa (vals (ps.filter fun q => !f q))) (rp : RdP s.heap ps) (okd : okP ps) (hz : ps.length ≤ 1000) (rfl' : ∀ q ∈ ps, PyData.eqv q.2 q.2 = true) (sep : ∀ q ∈ ps, ∀ r ∈ ps, f r = true → f q = false → PyData.eqv r.2 q.2 = false)
    {R : Result → Shared → Prop} (h : ∀ s', Ext (frs outer) s s' → R (.ok (.ret (.bool true))) s') :
    codeAny (model prog w) A (.call (.ref 96) ⟨[.ref l, .ref Ka, .ref Fa], []⟩) R s := by
  refine fn_call_ret c (by omega) P.lim P.d_woven.ho P.d_woven.cd rfl (.of_eq rfl) (by decide +kernel) (locs (by rfl)) (fun s₁ L hL b => ?_) (by rfl) (by rfl) (by rfl)
  have hlB := hl.up c.seqUp_hide
  have hKB := hK.up c.seqUp_hide
  have hFB := hF.up c.seqUp_hide
  have rpB := rp.up c.seqUp_hide
  have hKz : (ps.filter f).length ≤ 1000 := Nat.le_trans (List.length_filter_le _ _) hz
  have hFz : (ps.filter fun q => !f q).length ≤ 1000 := Nat.le_trans (List.length_filter_le _ _) hz
  -- i = 0; j = 0
  refine wpAny_execs_cons (wpAny_Assign_Name (wpAny_Constant_int ?_) (by rfl))
  refine (b.toks (s₁.toks + 1)).put (fun h₂ tk₂ hs₂ b₂ => ?_) (by rfl) (by rfl)
  refine wpAny_execs_cons (wpAny_Assign_Name (wpAny_Constant_int ?_) (by rfl))
  refine (b₂.toks (tk₂ + 1)).put (fun h₃ tk₃ hs₃ b₃ => ?_) (by rfl) (by rfl)
  -- for one in listing
  refine wpAny_execs_cons (wpAny_For (b₃.name (by rfl) (pyIter_seq (hlB.up b₃.up) ?_) (by rfl) (by rfl) (by decide)))
  have b₄ := b₃.push (itObj k l 0)
  obtain ⟨hJL, hJF, hJB, hJ0, hJB0⟩ := b₃.fresh (get?_size h₃)
  have hJ : (h₃.push (itObj k l 0)).get? h₃.objs.size = some (itObj k l 0) := Heap.get?_push_size _ rfl
  generalize h₃.objs.size = J at *
  refine codeAny_forLoop (fun q s' => ∃ t m ti tj, q = ps.length + 1 - t ∧ t ≤ ps.length ∧
      Bd B₀ s (A.deeper (callEnv (fdOf (stm 10) "_law_woven" "_law_woven" (.str "law_in0088_01" 249) (.ref 95)) L 96)) (callEnv (fdOf (stm 10) "_law_woven" "_law_woven" (.str "law_in0088_01" 249) (.ref 95)) L 96) outer (n + 4) m (hideAll s.heap (frs outer)) s' ∧
      m "kept" = some (.ref Ka) ∧ m "fallen" = some (.ref Fa) ∧ m "i" = some (.int ((ps.take t).filter f).length ti) ∧ m "j" = some (.int ((ps.take t).filter fun q => !f q).length tj) ∧ ItAt s'.heap k J l t) ?_ (ps.length + 1)
    ⟨0, _, s₁.toks, tk₂, rfl, Nat.zero_le _, b₄, by rfl, by rfl, by rfl, by rfl, ⟨_, hJ, rfl, rfl⟩⟩
  rintro q s₅ ⟨t, m, ti, tj, rfl, hi, b₅, mk, mf, mi, mj, hJ₅⟩
  refine wpAny_noRaise ?_
  have l₅ := hlB.up b₅.up
  cases hv : ps[t]? with
  | none =>
    refine pyNext_end b₅.cx.hd hJ₅ l₅ (by rw [List.getElem?_map, hv]; rfl) fun h₆ hs₆ => ?_
    refine wpAny_execs_nil ?_
    have b₆ := b₅.mod (tk := s₅.toks) (b₅.ns.extBut hs₆ (Ne.symm hJL)) (fun c o _ hc e => hs₆ c o hc e) hJF hJB hJ0 hJB0
    have hlen : ps.length ≤ t := List.getElem?_eq_none_iff.mp hv
    have ht : ps.take t = ps := List.take_of_length_le hlen
    rw [ht] at mi mj
    have e1 : ((vals (ps.filter f)).toArray.size : Int) = (ps.filter f).length := by rw [List.size_toArray, List.length_map]
    have e2 : ((vals (ps.filter fun q => !f q)).toArray.size : Int) = (ps.filter fun q => !f q).length := by rw [List.size_toArray, List.length_map]
    have k₆ : SeqAt h₆ "list" Ka (vals (ps.filter f)) := hKB.up b₆.up
    have f₆ : SeqAt h₆ "list" Fa (vals (ps.filter fun q => !f q)) := hFB.up b₆.up
    refine wpAny_execs_cons (wpAny_Return_some (BoolOp_and (wpAny_Compare1 (b₆.name mi (Call1 (P.builtin b₆.cx.stays P.n_len P.b_len (b₆.name mk ⟨kept_builtin, call_len_list k₆.isList (by rw [e1]; omega) (eq_int (wpAny_truthy_bool ?_))⟩ (by rfl) (by rfl) (by decide)) (by rfl) (by rfl) (by rfl) (by rfl) (by decide)) (by rfl) (by rfl)) (by rfl) (by rfl) (by decide)) (by rfl))))
    refine ite_yes (by rw [e1]; exact beq_self_eq_true _) ?_
    have b₇ := b₆.toks (s₅.toks + 1 + 1)
    refine BoolOp_one (wpAny_Compare1 (b₇.name mj (Call1 (P.builtin b₇.cx.stays P.n_len P.b_len (b₇.name mf ⟨kept_builtin, call_len_list f₆.isList (by rw [e2]; omega) (eq_int ?_)⟩ (by rfl) (by rfl) (by decide)) (by rfl) (by rfl) (by rfl) (by rfl) (by decide)) (by rfl) (by rfl)) (by rfl) (by rfl) (by decide)) (by rfl))
    have e3 : (((ps.filter fun q => !f q).length : Int) == ((vals (ps.filter fun q => !f q)).toArray.size : Int)) = true := by rw [e2]; exact beq_self_eq_true _
    have b₈ := b₇.toks (s₅.toks + 1 + 1 + 1 + 1)
    have fin := h _ b₈.ext
    rw [← e3] at fin
    exact fin
  | some q =>
    have hlt : t < ps.length := (List.getElem?_eq_some_iff.mp hv).1
    have hmem : q ∈ ps := List.mem_of_getElem? hv
    refine pyNext_item hJ₅ l₅ (x := q.1) (by rw [List.getElem?_map, hv]; rfl) fun h₆ hJ₆ hs₆ => ?_
    have b₆ := b₅.same (tk := s₅.toks) hs₆ hJL hJF hJB hJ0 hJB0
    refine wpAny_noRaise (wpAny_assign_Name (b₆.put (fun h₇ tk₇ hs₇ b₇ => ?_) (by rfl) (by rfl)))
    have hJ₇ : ItAt h₇ k J l (t + 1) := by obtain ⟨o, e, c', d⟩ := hJ₆; exact ⟨o, (hs₇.2 _ hJL).trans e, c', d⟩
    have rq : Rd h₇ q.1 q.2 := (rpB.up b₇.up) q hmem
    have rk : RdP h₇ (ps.filter f) := fun r hr => (rpB.up b₇.up) r (List.mem_filter.mp hr).1
    have rf : RdP h₇ (ps.filter fun q => !f q) := fun r hr => (rpB.up b₇.up) r (List.mem_filter.mp hr).1
    refine wpAny_noRaise (wpAny_execs_cons (wpAny_If ?_))
    refine woven_cond (kn := "kept") (iN := "i") P (by omega) b₇ (hKB.up b₇.up) rk (fun r hr => okd r (List.mem_filter.mp hr).1) rq (okd q hmem) hKz mk mi (by rfl) (by rfl) (by rfl) (by rfl) (by rfl) (by rfl) (by rfl) (by rfl) (by rfl) (by decide) (by decide) (fun tk r hr he _ => ?_) (fun tk hno => ?_)
    · -- kept[i] it is
      rw [if_pos rfl]
      have hf : f q = true := by
        cases hf : f q with
        | true => rfl
        | false =>
          have hr' := List.mem_filter.mp (List.mem_of_getElem? hr)
          rw [sep q hmem r hr'.1 hr'.2 hf] at he; cases he
      have b₈ := b₇.toks tk
      refine wpAny_execs_cons (wpAny_Assign_Name (wpAny_BinOp (b₈.name mi (wpAny_Constant_int (add_int ?_)) (by rfl) (by rfl) (by decide))) (by rfl))
      refine (b₈.toks (tk + 1 + 1)).put (fun h₉ tk₉ hs₉ b₉ => ?_) (by rfl) (by rfl)
      refine wpAny_execs_nil (wpAny_execs_nil ⟨ps.length + 1 - (t + 1), by omega, t + 1, _, tk + 1, tj, rfl, hlt, b₉, mk, mf, ?_, ?_, ?_⟩)
      · rw [cnt_yes f ps hv hf]; rfl
      · rw [cnt_no (fun q => !f q) ps hv (by simp [hf])]; exact mj
      · obtain ⟨o, e, c', d⟩ := hJ₇; exact ⟨o, (hs₉.2 _ hJL).trans e, c', d⟩
    · rw [if_neg Bool.false_ne_true]
      have hf : f q = false := by
        cases hf : f q with
        | false => rfl
        | true => exact absurd ⟨rfl' q hmem, rfl⟩ (hno q (filter_at f ps hv hf))
      have b₈ := b₇.toks tk
      refine wpAny_execs_cons (wpAny_If ?_)
      refine woven_cond (kn := "fallen") (iN := "j") P (by omega) b₈ (hFB.up b₈.up) rf (fun r hr => okd r (List.mem_filter.mp hr).1) rq (okd q hmem) hFz mf mj (by rfl) (by rfl) (by rfl) (by rfl) (by rfl) (by rfl) (by rfl) (by rfl) (by rfl) (by decide) (by decide) (fun tk' r hr he _ => ?_) (fun tk' hno' => ?_)
      · rw [if_pos rfl]
        have b₉ := b₈.toks tk'
        refine wpAny_execs_cons (wpAny_Assign_Name (wpAny_BinOp (b₉.name mj (wpAny_Constant_int (add_int ?_)) (by rfl) (by rfl) (by decide))) (by rfl))
        refine (b₉.toks (tk' + 1 + 1)).put (fun h₉ tk₉ hs₉ b₉ => ?_) (by rfl) (by rfl)
        refine wpAny_execs_nil (wpAny_execs_nil (wpAny_execs_nil ⟨ps.length + 1 - (t + 1), by omega, t + 1, _, ti, tk' + 1, rfl, hlt, b₉, mk, mf, ?_, ?_, ?_⟩))
        · rw [cnt_no f ps hv hf]; exact mi
        · rw [cnt_yes (fun q => !f q) ps hv (by simp [hf])]; rfl
        · obtain ⟨o, e, c', d⟩ := hJ₇; exact ⟨o, (hs₉.2 _ hJL).trans e, c', d⟩
      · exact absurd ⟨rfl' q hmem, rfl⟩ (hno' q (filter_at (fun q => !f q) ps hv (by simp [hf])))
end
end Mine
end

section
open PySem PySem.W PySem.Calls PyProof.Rows PySem.SeqAt
namespace Mine

/-- the one and twenty things -/
def tg (p : Nat) : PyData := thg ((p / 7 : Nat) - 1) (p % 7)
/-- equal things have equal codes -/
def cd (p : Nat) : Nat := match p % 7 with
  | 0 => p / 7
  | 1 => if p / 7 = 2 then 2 else 1
  | 2 => 3 + p / 7
  | 3 => 6 + p / 7
  | 4 => 9 + p / 7
  | 5 => 12
  | _ => 13 + p / 7
theorem tg_eqv : ∀ p q : Fin 21, PyData.eqv (tg p) (tg q) = (cd p == cd q) := by decide +kernel
theorem tg_shaped : ∀ p : Fin 21, (tg p).canLay0 = true ∧ (tg p).depth ≤ 1 := by decide +kernel
def Good (d : PyData) : Prop := ∃ p : Fin 21, d = tg p
theorem thing_good {v : Int} (h0 : 0 ≤ v) (h1 : v < 63) : Good (thing v) := by
  have e1 : v.fdiv 21 - 1 = (((v.fdiv 21).toNat * 7 + ((v.fdiv 3).fmod 7).toNat) / 7 : Nat) - 1 ∧ ((v.fdiv 21).toNat * 7 + ((v.fdiv 3).fmod 7).toNat) < 21 ∧ ((v.fdiv 3).fmod 7).toNat = ((v.fdiv 21).toNat * 7 + ((v.fdiv 3).fmod 7).toNat) % 7 := by
    rw [Int.fdiv_eq_ediv_of_nonneg v (by decide), Int.fdiv_eq_ediv_of_nonneg v (by decide), Int.fmod_eq_emod_of_nonneg _ (by decide)]
    omega
  refine ⟨⟨_, e1.2.1⟩, ?_⟩
  exact congr (congrArg thg e1.1) e1.2.2
theorem zero_good : Good (.int 0) := ⟨7, rfl⟩
theorem zeroS_good : Good (.str "0") := ⟨9, congrArg PyData.str (show (Str.ofString "0") = Str.ofString (toString (0 : Int)) by decide +kernel)⟩
theorem Good.shaped {d : PyData} (g : Good d) : shaped d = true := by
  obtain ⟨p, rfl⟩ := g
  obtain ⟨h1, h2⟩ := tg_shaped p
  unfold SeqAt.shaped
  rw [h1, decide_eq_true (Nat.le_trans h2 (by decide))]; rfl
theorem Good.symm {a b : PyData} (ga : Good a) (gb : Good b) : PyData.eqv a b = PyData.eqv b a := by
  obtain ⟨p, rfl⟩ := ga
  obtain ⟨q, rfl⟩ := gb
  rw [tg_eqv, tg_eqv, Bool.eq_iff_iff, beq_iff_eq, beq_iff_eq]
  exact eq_comm
theorem Good.trans {a b c : PyData} (ga : Good a) (gb : Good b) (gc : Good c) (h1 : PyData.eqv a b = true) (h2 : PyData.eqv b c = true) : PyData.eqv a c = true := by
  obtain ⟨p, rfl⟩ := ga
  obtain ⟨q, rfl⟩ := gb
  obtain ⟨r, rfl⟩ := gc
  rw [tg_eqv, beq_iff_eq] at *
  exact h1.trans h2
theorem Good.refl {a : PyData} (g : Good a) : PyData.eqv a a = true := by
  obtain ⟨p, rfl⟩ := g
  rw [tg_eqv, beq_iff_eq]

def goods (ds : List PyData) : Prop := ∀ d ∈ ds, Good d
theorem goods_list {rs : List (Int × Tok)} (ok : okR rs) : goods (listD rs) := by
  intro d hd
  rcases List.mem_append.mp hd with h | h
  · obtain ⟨q, hq, rfl⟩ := List.mem_map.mp h
    have := ok q (List.mem_filter.mp hq).1
    exact thing_good this.1 this.2
  · rcases List.mem_cons.mp h with rfl | h
    · exact zero_good
    · rw [List.mem_singleton.mp h]; exact zeroS_good
theorem goods_skip {rs : List (Int × Tok)} (ok : okR rs) : goods (skipD rs) := by
  intro d hd
  rcases List.mem_append.mp hd with h | h
  · obtain ⟨q, hq, rfl⟩ := List.mem_map.mp h
    have := ok q (List.mem_filter.mp hq).1
    exact thing_good this.1 this.2
  · rw [List.mem_singleton.mp h]; exact zeroS_good

theorem depthAll_le {k : Nat} : ∀ {ds : List PyData}, (∀ d ∈ ds, d.depth ≤ k) → PyData.depthAll ds ≤ k
  | [], _ => by simp [PyData.depthAll]
  | d :: ds, h => by
    rw [PyData.depthAll]
    exact Nat.max_le.mpr ⟨h d List.mem_cons_self, depthAll_le fun e he => h e (List.mem_cons_of_mem _ he)⟩
theorem seq_shaped (k : Sq) {ds : List PyData} (g : goods ds) : shaped (k.dat ds) = true := by
  have h1 : PyData.canLayAll0 ds = true := canLay_of_all fun d hd => (g d hd).shaped
  have h2 : PyData.depthAll ds ≤ 1 := depthAll_le fun d hd => by
    obtain ⟨p, rfl⟩ := g d hd
    exact (tg_shaped p).2
  cases k <;> (unfold SeqAt.shaped Sq.dat; simp only [PyData.canLay0, PyData.depth, h1, Bool.true_and]; exact decide_eq_true (Nat.le_trans (Nat.succ_le_succ h2) (by decide)))
theorem seq_refl (k : Sq) {ds : List PyData} (g : goods ds) : PyData.eqv (k.dat ds) (k.dat ds) = true := eqv_refl _ (canLay_of_shaped (seq_shaped k g))

/-- one pass a thing is one pass -/
theorem fold_filter {α β : Type} (g : β → α → Bool) : ∀ (bs : List β) (ps : List α), bs.foldl (fun ps d => ps.filter fun q => !g d q) ps = ps.filter fun q => !(bs.any fun d => g d q)
  | [], ps => (List.filter_eq_self.mpr fun _ _ => rfl).symm
  | d :: bs, ps => by
    rw [List.foldl_cons, fold_filter g bs, List.filter_filter]
    congr 1
    funext q
    simp [Bool.and_comm]
theorem drop_left {bs : List PyData} {ps : Ps} (gb : goods bs) (gp : goods (dats ps)) : dropP bs ps = leftP bs ps := by
  unfold dropP
  rw [show (fun (ps : Ps) d => lessP d ps) = fun ps d => ps.filter fun q => !(fun (d : PyData) (q : Value × PyData) => PyData.eqv q.2 d) d q from rfl, fold_filter]
  refine List.filter_congr fun q hq => ?_
  have hg : Good q.2 := gp _ (List.mem_map.mpr ⟨q, hq, rfl⟩)
  congr 1
  unfold hitBy
  rw [Bool.eq_iff_iff, List.any_eq_true, List.any_eq_true]
  exact ⟨fun ⟨d, h1, h2⟩ => ⟨d, h1, by rw [Good.symm (gb d h1) hg]; exact h2⟩, fun ⟨d, h1, h2⟩ => ⟨d, h1, by rw [Good.symm hg (gb d h1)]; exact h2⟩⟩
theorem one_left {bs : List PyData} {ps : Ps} : oneP bs ps = leftP bs ps := by
  unfold oneP
  rw [show (fun (ps : Ps) d => leftP [d] ps) = fun ps d => ps.filter fun q => !(fun (d : PyData) (q : Value × PyData) => PyData.eqv d q.2) d q from by
    funext ps d; show ps.filter _ = ps.filter _; congr 1; funext q; simp [hitBy], fold_filter]
/-- what is left of the pairs by what is left of them: those that are hit -/
theorem left_left {bs : List PyData} {ps : Ps} (gb : goods bs) (gp : goods (dats ps)) : leftP (dats (leftP bs ps)) ps = ps.filter fun q => !!hitBy bs q.2 := by
  refine List.filter_congr fun q hq => ?_
  have hg : Good q.2 := gp _ (List.mem_map.mpr ⟨q, hq, rfl⟩)
  congr 1
  cases hb : hitBy bs q.2 with
  | false =>
    refine List.any_eq_true.mpr ⟨q.2, List.mem_map.mpr ⟨q, List.mem_filter.mpr ⟨hq, by simp [hb]⟩, rfl⟩, hg.refl⟩
  | true =>
    refine List.any_eq_false.mpr fun d hd => ?_
    obtain ⟨r, hr, rfl⟩ := List.mem_map.mp hd
    obtain ⟨h1, h2⟩ := List.mem_filter.mp hr
    have hrg : Good r.2 := gp _ (List.mem_map.mpr ⟨r, h1, rfl⟩)
    obtain ⟨y, hy, he⟩ := List.any_eq_true.mp hb
    intro hz
    have : hitBy bs r.2 = true := List.any_eq_true.mpr ⟨y, hy, (gb y hy).trans hg hrg he (by rw [Good.symm hg hrg]; exact hz)⟩
    rw [this] at h2; cases h2
theorem left_sep {bs : List PyData} {ps : Ps} (gb : goods bs) (gp : goods (dats ps)) : ∀ q ∈ ps, ∀ r ∈ ps, (!hitBy bs r.2) = true → (!hitBy bs q.2) = false → PyData.eqv r.2 q.2 = false := by
  intro q hq r hr h1 h2
  have hg : Good q.2 := gp _ (List.mem_map.mpr ⟨q, hq, rfl⟩)
  have hrg : Good r.2 := gp _ (List.mem_map.mpr ⟨r, hr, rfl⟩)
  cases he : PyData.eqv r.2 q.2 with
  | false => rfl
  | true =>
    have hb : hitBy bs q.2 = true := by simpa using h2
    obtain ⟨y, hy, hyq⟩ := List.any_eq_true.mp hb
    have : hitBy bs r.2 = true := List.any_eq_true.mpr ⟨y, hy, (gb y hy).trans hg hrg hyq (by rw [Good.symm hg hrg]; exact he)⟩
    rw [this] at h1; cases h1
theorem left_nil (ps : Ps) : leftP [] ps = ps := List.filter_eq_self.mpr fun _ _ => rfl
theorem okP_of {ps : Ps} (g : goods (dats ps)) : okP ps := fun q hq => (g _ (List.mem_map.mpr ⟨q, hq, rfl⟩)).shaped
theorem goods_left {bs : List PyData} {ps : Ps} (g : goods (dats ps)) : goods (dats (leftP bs ps)) := fun d hd => by
  obtain ⟨q, hq, rfl⟩ := List.mem_map.mp hd
  exact g _ (List.mem_map.mpr ⟨q, (List.mem_filter.mp hq).1, rfl⟩)
end Mine
end

section
open PySem PySem.W PySem.Calls PyProof.Rows PySem.SeqAt
namespace Mine

section
variable {prog : Program} {w : World} {B₀ : Heap} {s₀ : Shared} {A : Around} {outer : List Env} {n : Nat} {m : Str → Option Value} {B : Heap} {s : Shared} {E : Value → Shared → Prop} {env : Env}

/-- y = [.. for x in ..] -/
theorem AssignComp_ {elt iter : Expr} {x y : Str} {px py : Pos} {ifs : List Expr} {scope : Scope} {pos spos : Pos} {Q : Flow → Shared → Prop}
    (hsw : swapsWith (.ListComp elt [⟨.Name x px, iter, ifs, 0⟩] scope pos) (some (.Name y py)) spos.line env = pure true)
    (h : wpAny (model prog w) A (eval iter env) (fun xv s₁ => wpAny (model prog w) A (pyIter xv) (fun it s₂ => wpAny (model prog w) A (newList []) (fun acc s₃ =>
      wpAny (model prog w) A (newFunctionEnv scope env.globals [] [] env.qual none .none (some env)) (fun cenv s₄ =>
        codeAny (model prog w) A (.compStart (.ListComp elt [⟨.Name x px, iter, ifs, 0⟩] scope pos) 0 it acc { cenv with scope := relabel scope env }) (compPost (model prog w) A E (some (assign (.Name y py) env)) (fun _ s' => Q .next s') acc cenv.locals) s₄) E s₃) E s₂) E s₁) E s)
    (hs : ∀ x, foldedSetIterable iter env x = pure x) (hclos : closureFor scope env = pure [])
    (hkind : scope.kind = .function) (hnames : ∀ x ∈ scope.names, x.2 = .local → scope.names.lookup x.1 = some .local) :
    wpAny (model prog w) A (exec (.Assign [.Name y py] (.ListComp elt [⟨.Name x px, iter, ifs, 0⟩] scope pos) spos) env) Q E s := by
  rw [exec_Assign_Name_used _ _ _ _ hsw]
  refine wpAny_bind (wpAny_standAt (wpAny_bind ?_))
  show wpAny _ A (do let _ ← comprehension (.ListComp elt [⟨.Name x px, iter, ifs, 0⟩] scope pos) scope env _ (newList []) false (eval iter env) (some (assign (.Name y py) env))) _ _ s
  exact wpAny_bind (wpAny_mono (wpAny_comprehension_free (use := some (assign (.Name y py) env)) (Q := fun _ s' => Q .next s') rfl hs hclos hkind hnames h) (fun _ s' hq => wpAny_pure (wpAny_pure hq)) fun _ _ e => e)

theorem comp_put {α : Type} {elt iter : Expr} {x y : Str} {px py : Pos} {ifs : List Expr} {scope : Scope} {pos : Pos} {Q : Shared → Prop} (b : Bd B₀ s₀ A env outer n m B s) {l : Addr} {xs : List α} {vf : α → Value} (hl : SeqAt s.heap "list" l (xs.map vf)) (hz : xs.length ≤ 1000)
    (hcell : ∀ y ∈ scope.names, y.2 ≠ .cell) (hkind : scope.kind = .function) (hx : scope.names.lookup x = some .local)
    (hly : env.kindOf y = some .local) (hpy : (env.scope.kind == .class || (env.scope.kind == .module && env.locals != env.globals)) = false)
    (p : α → Bool) (G : Heap → α → Value → Prop) (hG : ∀ h h' a v, SeqUp h h' → G h a v → G h' a v)
    (htests : ∀ C s₃ mC a (E' : Value → Shared → Prop), Ext (frs (env :: outer)) s s₃ → s₃.heap.Ns C mC → mC x = some (vf a) → a ∈ xs →
      wpAny (model prog w) A (forIn ifs true fun c r => if r = true then do let ok ← isTrue c (compEnvC scope [] C env) (eval c (compEnvC scope [] C env)); pure (ForInStep.yield ok) else pure (ForInStep.yield r))
        (fun ok s₄ => ok = p a ∧ Ext (frs (env :: outer)) s₃ s₄) E' s₃)
    (helt : ∀ C s₃ mC a (E' : Value → Shared → Prop), Ext (frs (env :: outer)) s s₃ → s₃.heap.Ns C mC → mC x = some (vf a) → a ∈ xs → p a = true →
      wpAny (model prog w) A (eval elt (compEnvC scope [] C env)) (fun y s₄ => Ext (frs (env :: outer)) s₃ s₄ ∧ ∀ D, s₃.heap.get? D ≠ none → G (s₄.heap.hide D) a y) E' s₃)
    (hQ : ∀ s' D ys, Bd B₀ s₀ A env outer n (fun z => if z = y then some (.ref D) else m z) B s' → SeqAt s'.heap "list" D ys → Paired (G s'.heap) (xs.filter p) ys → s.heap.get? D = none → Q s') :
    wpAny (model prog w) A (pyIter (.ref l)) (fun it s₂ => wpAny (model prog w) A (newList []) (fun acc s₃ =>
      wpAny (model prog w) A (newFunctionEnv scope env.globals [] [] env.qual none .none (some env)) (fun cenv s₄ =>
        codeAny (model prog w) A (.compStart (.ListComp elt [⟨.Name x px, iter, ifs, 0⟩] scope pos) 0 it acc { cenv with scope := relabel scope env }) (compPost (model prog w) A E (some (assign (.Name y py) env)) (fun _ s' => Q s') acc cenv.locals) s₄) E s₃) E s₂) E s := by
  refine pyIter_seq (k := .list) hl (comp_block (RR := fun acc C => compPost (model prog w) A E (some (assign (.Name y py) env)) (fun _ s' => Q s') acc C) b.cx hl hz hcell hkind hx p G hG htests helt fun s' D C ys m' x' hn hD hP nD nC => ?_)
  have b' := b.call x'
  obtain ⟨c1, c2, c3, c4, c5⟩ := b.fresh nC
  show wpAny _ A (assign (.Name y py) env (.ref D)) (fun _ s'' => ∃ m, s''.heap.Ns C m ∧ ∀ h', Heap.SameBut C s''.heap h' → Q { s'' with heap := h' }) E s'
  refine wpAny_assign_Name (b'.put (fun h₂ tk₂ hs₂ b₂ => ?_) hly hpy)
  refine ⟨m', hn.sameBut hs₂ c1, fun h₃ hs₃ => ?_⟩
  have b₃ := b₂.same (tk := tk₂) hs₃ c1 c2 c3 c4 c5
  have u : SeqUp s'.heap h₃ := (SeqUp.same b'.ns hs₂).trans (.same (hn.sameBut hs₂ c1) hs₃)
  exact hQ _ D ys b₃ (hD.up u) (hP.mono fun _ _ z => hG _ _ _ _ u z) nD

/-- two lists of the same values are not unequal -/
theorem ne_same {a b : Addr} {vs : List Value} {Q : Value → Shared → Prop} (ha : SeqAt s.heap "list" a vs) (hb : SeqAt s.heap "list" b vs) (hu : A.units < cLine) (h : Q (.bool false) s) : wpAny (model prog w) A (compareOp .NotEq (.ref a) (.ref b)) Q E s := by
  have r := RcNeAt.lists (A := A) (e := fun _ => true) ha.isList hb.isList rfl hu fun j _ _ => EqAt.same _
  have e : (List.range vs.toArray.size).all (fun _ => true) = true := by simp
  rw [e] at r
  exact r prog w E Q h
end

theorem paired_fun {α β : Type} {f : α → β} {G : α → β → Prop} (hG : ∀ a b, G a b → b = f a) : ∀ {xs : List α} {ys : List β}, Paired G xs ys → ys = xs.map f
  | _, _, .nil => rfl
  | _, _, .cons h t => by rw [List.map_cons, paired_fun hG t, hG _ _ h]
theorem paired_rs {xs : List (Int × Tok)} {ys : List Value} (h : Paired (fun (q : Int × Tok) y => ∃ t : Tok, y = .int (q.1.fmod 63) t) xs ys) : ∃ rs : List (Int × Tok), ys = ivs rs ∧ okR rs ∧ rs.length = xs.length := by
  induction h with
  | nil => exact ⟨[], rfl, (fun _ h => nomatch h), rfl⟩
  | cons h _ ih =>
    obtain ⟨t, rfl⟩ := h
    obtain ⟨rs, rfl, ok, e⟩ := ih
    refine ⟨(_, t) :: rs, rfl, fun q hq => ?_, by rw [List.length_cons, List.length_cons, e]⟩
    rcases List.mem_cons.mp hq with rfl | hq
    · exact ⟨Int.fmod_nonneg_of_pos _ (by decide), Int.fmod_lt_of_pos _ (by decide)⟩
    · exact ok q hq
theorem ints_ivs {vs : List Value} {ns : List Int} (h : IntsAre vs ns) : ∃ rs : List (Int × Tok), vs = ivs rs ∧ rs.length = ns.length := by
  induction h with
  | nil => exact ⟨[], rfl, rfl⟩
  | cons n t _ ih => obtain ⟨rs, rfl, e⟩ := ih; exact ⟨(n, t) :: rs, rfl, by rw [List.length_cons, List.length_cons, e]⟩
end Mine
end

section
open PySem PySem.W PySem.Calls PyProof.Rows PySem.SeqAt
namespace Mine

abbrev lawE (L fa : Addr) (cd : Value) : Env := envOf "law" (scopeOf (stm 11)) L fa cd

section
variable {prog : Program} {w : World} {K : Frag} {mg mb : Str → Option Value} {B₀ : Heap} {s₀ : Shared} {A : Around} {L fa : Addr} {kd : Value} {outer : List Env} {n : Nat} {m : Str → Option Value} {B : Heap} {s : Shared} {E : Value → Shared → Prop}

/-- drawn = [x % 63 for x in script[:40]] -/
theorem law_drawn (b : Bd B₀ s₀ A (lawE L fa kd) outer n m B s) {a : Addr} {rs : List (Int × Tok)} (ma : m "script" = some (.ref a)) (ha : s.heap.IsList a (ivs rs).toArray) (hz : rs.length ≤ 63)
    {rest : List Stmt} {Q : Flow → Shared → Prop}
    (h : ∀ s' D ds, Bd B₀ s₀ A (lawE L fa kd) outer n (fun z => if z = "drawn" then some (.ref D) else m z) B s' → SeqAt s'.heap "list" D (ivs ds) → okR ds → ds.length ≤ 40 → wpAny (model prog w) A (execs rest (lawE L fa kd)) Q E s') :
    wpAny (model prog w) A (execs ((bodyOf (stm 11)).headD (.Pass default) :: rest) (lawE L fa kd)) Q E s := by
  refine wpAny_execs_cons ?_
  have zt : (rs.take 40).length ≤ 40 := List.length_take_le _ _
  refine AssignComp_ (by rfl) (wpAny_Subscript_list_slice (b.name ma (wpAny_evalPart_none (wpAny_evalPart_some (wpAny_Constant_int ⟨a, (ivs rs).toArray, none, some 40, rfl, ha, ?_, .none, .int _ _, ?_⟩))) (by rfl) (by rfl) (by decide)) (by intro _ _; rfl)) (by intro _; rfl) (by rfl) (by rfl) (by decide +kernel)
  · rw [List.size_toArray, List.length_map, sizeLine_eq]; omega
  have e40 : slicePick (ivs rs).toArray none (some 40) none = (ivs (rs.take 40)).toArray := by
    rw [show (40 : Int) = ((40 : Nat) : Int) from rfl, slicePick_upto', ivs, ivs, List.map_take]
  have b₂ := (b.toks (s.toks + 1)).push { cls := .type "slice", data := .fields #[.none, .int 40 s.toks, .none] }
  have b₃ := b₂.push { cls := .type "list", data := .seq (slicePick (ivs rs).toArray none (some 40) none) }
  have e₃ : SeqAt ((s.heap.push { cls := .type "slice", data := .fields #[.none, .int 40 s.toks, .none] }).push { cls := .type "list", data := .seq (slicePick (ivs rs).toArray none (some 40) none) }) "list" (s.heap.objs.size + 1) (ivs (rs.take 40)) := by
    refine ⟨0, ?_⟩
    have e := Heap.get?_push_size (s.heap.push { cls := .type "slice", data := .fields #[.none, .int 40 s.toks, .none] }) (o := { cls := .type "list", data := .seq (slicePick (ivs rs).toArray none (some 40) none) }) rfl
    rw [Heap.size_push] at e
    rw [e, e40]
  refine comp_put b₃ (xs := rs.take 40) (vf := fun q => .int q.1 q.2) e₃ (Nat.le_trans zt (by decide)) ?_ ?_ ?_ ?_ ?_ (fun _ => true) (fun _ q y => ∃ t : Tok, y = .int (q.1.fmod 63) t) (fun _ _ _ _ _ z => z) ?_ ?_ ?_
  · decide +kernel
  · rfl
  · rfl
  · rfl
  · rfl
  · intro C s₃ mC q E' x₃ hn₃ hm hq
    exact wpAny_tests_nil ⟨rfl, .refl _ _⟩
  · intro C s₃ mC q E' x₃ hn₃ hm hq _
    refine wpAny_BinOp (comp_name (v := .int q.1 q.2) hn₃ hm (wpAny_Constant_int (mod_int (by decide) ⟨.toks _, fun D hD => ⟨_, rfl⟩⟩)) (by rfl) (by rfl) (by decide))
  · intro s' D ys b' hD hP _
    obtain ⟨ds, rfl, ok, ez⟩ := paired_rs hP
    refine h s' D ds b' hD ok ?_
    rw [ez]; exact Nat.le_trans (List.length_filter_le _ _) zt
end
end Mine
end

section
open PySem PySem.W PySem.Calls PyProof.Rows PySem.SeqAt
namespace Mine

theorem listD_len (ds : List (Int × Tok)) : (listD ds).length ≤ ds.length + 2 := by
  unfold listD
  rw [List.length_append, List.length_map]
  exact Nat.add_le_add_right (List.length_filter_le _ _) 2
theorem skipD_ne (ds : List (Int × Tok)) : skipD ds ≠ [] := by unfold skipD; simp
theorem dats_len {ps : Ps} : (dats ps).length = ps.length := List.length_map _

section
variable {prog : Program} {w : World} {K : Frag} {mg mb : Str → Option Value} {B₀ : Heap} {s₀ : Shared} {A : Around} {L fa : Addr} {kd : Value} {outer : List Env} {n : Nat} {m : Str → Option Value} {B : Heap} {s : Shared} {E : Value → Shared → Prop}

theorem eq_seq {k : Sq} {a b : Addr} {ps qs : Ps} {Q : Value → Shared → Prop} (ha : SeqAt s.heap k.nm a (vals ps)) (hb : SeqAt s.heap k.nm b (vals qs)) (ra : RdP s.heap ps) (rb : RdP s.heap qs) (hd : dats ps = dats qs) (g : goods (dats ps))
    (hu : A.units + 100 < cLine) (h : Q (.bool true) s) : wpAny (model prog w) A (compareOp .Eq (.ref a) (.ref b)) Q E s := by
  have r : Rd s.heap (.ref b) (k.dat (dats ps)) := by rw [hd]; exact Rd.seq hb rb.all
  exact eq_data (Rd.seq ha ra.all) r (seq_shaped k g) (seq_shaped k g) hu (by rw [seq_refl k g]; exact h)

/-- [type(one) for one in xs] -/
theorem types_comp {elt : Expr} {px p1 p2 p3 : Pos} {scope : Scope} {pos : Pos} {Q : Value → Shared → Prop} (P : Prg K mg mb B₀) (b : Bd B₀ s₀ A (lawE L fa kd) outer n m B s) {l : Addr} {xs : Ps} (hl : SeqAt s.heap "list" l (vals xs)) (rx : RdP s.heap xs) (hz : xs.length ≤ 1000)
    (he : elt = .Call (.Name "type" p1) [.Name "one" p2] [] p3) (hs : scope = { kind := .function, names := [(".0", .local), ("one", .local), ("type", .globalImplicit)], isGenerator := false, isCoroutine := false })
    (h : ∀ s' D, Ext (frs (lawE L fa kd :: outer)) s s' → SeqAt s'.heap "list" D (xs.map fun q => .type (tyD q.2)) → Q (.ref D) s') {iter : Expr} :
    wpAny (model prog w) A (pyIter (.ref l)) (fun it s₂ => wpAny (model prog w) A (newList []) (fun acc s₃ =>
      wpAny (model prog w) A (newFunctionEnv scope (lawE L fa kd).globals [] [] (lawE L fa kd).qual none .none (some (lawE L fa kd))) (fun cenv s₄ =>
        codeAny (model prog w) A (.compStart (.ListComp elt [⟨.Name "one" px, iter, [], 0⟩] scope pos) 0 it acc { cenv with scope := relabel scope (lawE L fa kd) }) (compPost (model prog w) A E none Q acc cenv.locals) s₄) E s₃) E s₂) E s := by
  subst he hs
  refine comp_at b.cx (xs := xs) (vf := fun q => q.1) hl hz (by decide +kernel) (by rfl) (by rfl) (fun _ => true) (fun _ q y => y = .type (tyD q.2)) (fun _ _ _ _ _ z => z) ?_ ?_ ?_
  · intro C s₃ mC q E' x₃ hn₃ hm hq
    exact wpAny_tests_nil ⟨rfl, .refl _ _⟩
  · intro C s₃ mC q E' x₃ hn₃ hm hq _
    have c₃ := b.cx.ext x₃
    have rq : Rd s₃.heap q.1 q.2 := (rx q hq).up (b.cx.seqUp x₃)
    exact Call1 (P.builtin c₃.stays P.n_type P.b_type (comp_name (v := q.1) hn₃ hm ⟨kept_type, call_ty rq ⟨.refl _ _, fun _ _ => rfl⟩⟩ (by rfl) (by rfl) (by decide)) (by rfl) (by rfl) (by rfl) (by rfl) (by decide)) (by rfl) (by rfl)
  · intro s' D ys x' hD hP _
    have e := paired_fun (f := fun q : Value × PyData => Value.type (tyD q.2)) (fun _ _ z => z) hP
    rw [List.filter_eq_self.mpr fun _ _ => rfl] at e
    rw [e] at hD
    exact h s' D x' hD
end
end Mine
end

section
open PySem PySem.W PySem.Calls PyProof.Rows PySem.SeqAt
namespace Mine

section
variable {prog : Program} {w : World} {K : Frag} {mg mb : Str → Option Value} {B₀ : Heap} {s₀ : Shared} {A : Around} {L fa : Addr} {kd : Value} {outer : List Env} {n : Nat} {m : Str → Option Value} {B : Heap} {s : Shared} {E : Value → Shared → Prop}

theorem law_rest (P : Prg K mg mb B₀) (hn : n ≤ 320) (b : Bd B₀ s₀ A (lawE L fa kd) outer n m B s) {D : Addr} {ds : List (Int × Tok)} (md : m "drawn" = some (.ref D)) (eD : SeqAt s.heap "list" D (ivs ds)) (ok : okR ds) (hz : ds.length ≤ 40) {Q : Flow → Shared → Prop}
    (h : ∀ s' m', Bd B₀ s₀ A (lawE L fa kd) outer n m' B s' → Q (.ret (.bool true)) s') :
    wpAny (model prog w) A (execs ((bodyOf (stm 11)).drop 1) (lawE L fa kd)) Q E s := by
  -- given = _law_listing(drawn)
  refine wpAny_execs_cons (wpAny_Assign_Name (Call1 (P.name b.cx.stays P.g_listing (b.name md ⟨kept_fn (b.cx.stays _ _ P.d_listing.ho) rfl, wpAny_call ?_⟩ (by rfl) (by rfl) (by decide)) (by rfl) (by rfl) (by rfl) (by decide)) (by rfl) (by rfl)) (by rfl))
  refine listing_spec P b.cx (by omega) eD ok (by omega) fun s₁ G ps x₁ eG rG dG => ?_
  have b₁ := b.call x₁
  refine b₁.put (fun h₂ tk₂ hs₂ b₂ => ?_) (by rfl) (by rfl)
  have u₁ : SeqUp s₁.heap h₂ := .same b₁.ns hs₂
  have eD₂ := eD.up ((b.cx.seqUp x₁).trans u₁)
  have eG₂ := eG.up u₁
  have rG₂ := rG.up u₁
  -- banned = _law_skip(drawn)
  refine wpAny_execs_cons (wpAny_Assign_Name (Call1 (P.name b₂.cx.stays P.g_skip (b₂.name md ⟨kept_fn (b₂.cx.stays _ _ P.d_skip.ho) rfl, wpAny_call ?_⟩ (by rfl) (by rfl) (by decide)) (by rfl) (by rfl) (by rfl) (by decide)) (by rfl) (by rfl)) (by rfl))
  refine skip_spec P b₂.cx (by omega) eD₂ ok (by omega) fun s₃ U us x₃ eU rU dU => ?_
  have b₃ := b₂.call x₃
  refine b₃.put (fun h₄ tk₄ hs₄ b₄ => ?_) (by rfl) (by rfl)
  have u₃ : SeqUp s₃.heap h₄ := .same b₃.ns hs₄
  have u₂₄ : SeqUp h₂ h₄ := (b₂.cx.seqUp x₃).trans u₃
  have eD₄ := eD₂.up u₂₄
  have eG₄ := eG₂.up u₂₄
  have rG₄ := rG₂.up u₂₄
  have eU₄ := eU.up u₃
  have rU₄ := rU.up u₃
  have gG : goods (dats ps) := by rw [dG]; exact goods_list ok
  have gU : goods (dats us) := by rw [dU]; exact goods_skip ok
  have okG := okP_of gG
  have okU := okP_of gU
  have zG : ps.length ≤ 1000 := by
    have := listD_len ds
    rw [← dG, dats_len] at this
    omega
  have neU : us ≠ [] := fun q => skipD_ne ds (by rw [← dU, q]; rfl)
  have eDrop := drop_left gU gG
  have eOne : oneP (dats us) ps = leftP (dats us) ps := one_left
  have eHit := left_left gU gG
  have hSep := left_sep gU gG
  have gT : goods (dats (leftP (dats us) ps)) := goods_left gG
  have zT : (leftP (dats us) ps).length ≤ 1000 := Nat.le_trans (List.length_filter_le _ _) zG
  -- told = _filter(given, banned)
  refine wpAny_execs_cons (wpAny_Assign_Name (Call2 (P.name b₄.cx.stays P.g_filter (b₄.name (by rfl) (b₄.name (by rfl) ⟨kept_fn (b₄.cx.stays _ _ P.d_filter.ho) rfl, wpAny_call ?_⟩ (by rfl) (by rfl) (by decide)) (by rfl) (by rfl) (by decide)) (by rfl) (by rfl) (by rfl) (by decide)) (by rfl) (by rfl)) (by rfl))
  refine filter_spec P b₄.cx (by omega) eG₄ eU₄ rG₄ rU₄ okG okU zG fun s₅ T x₅ eT nT => ?_
  have b₅ := b₄.call x₅
  refine b₅.put (fun h₆ tk₆ hs₆ b₆ => ?_) (by rfl) (by rfl)
  have u₅ : SeqUp s₅.heap h₆ := .same b₅.ns hs₆
  have u₄₆ : SeqUp h₄ h₆ := (b₄.cx.seqUp x₅).trans u₅
  have eT₆ := eT.up u₅
  have rT₆ : RdP h₆ (leftP (dats us) ps) := fun q hq => (rG₄.up u₄₆) q (List.mem_filter.mp hq).1
  -- due = _law_without(given, banned)
  refine wpAny_execs_cons (wpAny_Assign_Name (Call2 (P.name b₆.cx.stays P.g_without (b₆.name (by rfl) (b₆.name (by rfl) ⟨kept_fn (b₆.cx.stays _ _ P.d_without.ho) rfl, wpAny_call ?_⟩ (by rfl) (by rfl) (by decide)) (by rfl) (by rfl) (by decide)) (by rfl) (by rfl) (by rfl) (by decide)) (by rfl) (by rfl)) (by rfl))
  refine without_spec P b₆.cx (by omega) (eG₄.up u₄₆) (eU₄.up u₄₆) (rG₄.up u₄₆) (rU₄.up u₄₆) okG okU zG fun s₇ W x₇ eW' nW => ?_
  have eW : SeqAt s₇.heap "list" W (vals (leftP (dats us) ps)) := eDrop ▸ eW'
  have b₇ := b₆.call x₇
  refine b₇.put (fun h₈ tk₈ hs₈ b₈ => ?_) (by rfl) (by rfl)
  have u₇ : SeqUp s₇.heap h₈ := .same b₇.ns hs₈
  have u₆₈ : SeqUp h₆ h₈ := (b₆.cx.seqUp x₇).trans u₇
  have u₄₈ := u₄₆.trans u₆₈
  have eD₈ := eD₄.up u₄₈
  have eG₈ := eG₄.up u₄₈
  have rG₈ := rG₄.up u₄₈
  have eU₈ := eU₄.up u₄₈
  have rU₈ := rU₄.up u₄₈
  have eT₈ := eT₆.up u₆₈
  have rT₈ := rT₆.up u₆₈
  have eW₈ := eW.up u₇
  -- if told != due or [type(one) for one in told] != [type(one) for one in due]
  refine wpAny_execs_cons (wpAny_If (isTrue_or (wpAny_isTrue_Compare1 (b₈.name (by rfl) (b₈.name (by rfl) (ne_same eT₈ eW₈ (Nat.lt_of_le_of_lt (Nat.le_add_right _ _) (b₈.cx.units (by omega))) (wpAny_truthy_bool ?_)) (by rfl) (by rfl) (by decide)) (by rfl) (by rfl) (by decide)) (by rfl))))
  refine ite_no Bool.false_ne_true ?_
  refine isTrue_or (wpAny_isTrue_Compare1 (ListComp_ (b₈.name (by rfl) (types_comp P b₈ eT₈ rT₈ zT (by rfl) (by rfl) (fun s₉ C₁ x₉ eC₁ => ?_)) (by rfl) (by rfl) (by decide)) (by intro _; rfl) (by rfl) (by rfl) (by decide +kernel)) (by rfl))
  have b₉ := b₈.call x₉
  have u₉ := b₈.cx.seqUp x₉
  refine ListComp_ (b₉.name (by rfl) (types_comp P b₉ (eW₈.up u₉) (rT₈.up u₉) zT (by rfl) (by rfl) (fun s₁₀ C₂ x₁₀ eC₂ => ?_)) (by rfl) (by rfl) (by decide)) (by intro _; rfl) (by rfl) (by rfl) (by decide +kernel)
  have b₁₀ := b₉.call x₁₀
  have u₁₀ := b₉.cx.seqUp x₁₀
  refine ne_same (eC₁.up u₁₀) eC₂ (Nat.lt_of_le_of_lt (Nat.le_add_right _ _) (b₁₀.cx.units (by omega))) (wpAny_truthy_bool ?_)
  refine ite_no Bool.false_ne_true ?_
  refine isTrue_or_nil ?_
  refine ite_no Bool.false_ne_true ?_
  refine wpAny_execs_nil ?_
  have u₈₁₀ := u₉.trans u₁₀
  -- if _law_one_by_one(given, banned) != due
  refine wpAny_execs_cons (wpAny_If (wpAny_isTrue_Compare1 (Call2 (P.name b₁₀.cx.stays P.g_one (b₁₀.name (by rfl) (b₁₀.name (by rfl) ⟨kept_fn (b₁₀.cx.stays _ _ P.d_one.ho) rfl, wpAny_call ?_⟩ (by rfl) (by rfl) (by decide)) (by rfl) (by rfl) (by decide)) (by rfl) (by rfl) (by rfl) (by decide)) (by rfl) (by rfl)) (by rfl)))
  refine one_spec P b₁₀.cx (by omega) (eG₈.up u₈₁₀) (eU₈.up u₈₁₀) (rG₈.up u₈₁₀) (rU₈.up u₈₁₀) okG okU zG neU fun s₁₁ S₁ x₁₁ eS₁' => ?_
  have eS₁ : SeqAt s₁₁.heap "list" S₁ (vals (leftP (dats us) ps)) := eOne ▸ eS₁'
  have b₁₁ := b₁₀.call x₁₁
  have u₁₁ := u₈₁₀.trans (b₁₀.cx.seqUp x₁₁)
  refine b₁₁.name (by rfl) (ne_same eS₁ (eW₈.up u₁₁) (Nat.lt_of_le_of_lt (Nat.le_add_right _ _) (b₁₁.cx.units (by omega))) (wpAny_truthy_bool ?_)) (by rfl) (by rfl) (by decide)
  refine ite_no Bool.false_ne_true ?_
  refine wpAny_execs_nil ?_
  -- if not _law_woven(given, told, _filter(given, told))
  refine wpAny_execs_cons (wpAny_If (isTrue_not (isTrue_plain (Call3 (P.name b₁₁.cx.stays P.g_woven (b₁₁.name (by rfl) (b₁₁.name (by rfl) (Call2 (P.name b₁₁.cx.stays P.g_filter (b₁₁.name (by rfl) (b₁₁.name (by rfl) ⟨kept_fn (b₁₁.cx.stays _ _ P.d_filter.ho) rfl, wpAny_call ?_⟩ (by rfl) (by rfl) (by decide)) (by rfl) (by rfl) (by decide)) (by rfl) (by rfl) (by rfl) (by decide)) (by rfl) (by rfl)) (by rfl) (by rfl) (by decide)) (by rfl) (by rfl) (by decide)) (by rfl) (by rfl) (by rfl) (by decide)) (by rfl) (by rfl)) (by rfl))))
  refine filter_spec (k2 := .list) P b₁₁.cx (by omega) (eG₈.up u₁₁) (eT₈.up u₁₁) (rG₈.up u₁₁) (rT₈.up u₁₁) okG (okP_of gT) zG fun s₁₂ F x₁₂ eF' _ => ?_
  have eF : SeqAt s₁₂.heap "list" F (vals (ps.filter fun q => !!hitBy (dats us) q.2)) := eHit ▸ eF'
  have b₁₂ := b₁₁.call x₁₂
  have u₁₂ := u₁₁.trans (b₁₁.cx.seqUp x₁₂)
  refine ⟨kept_fn (b₁₂.cx.stays _ _ P.d_woven.ho) rfl, wpAny_call ?_⟩
  refine woven_spec P b₁₂.cx (by omega) (fun q => !hitBy (dats us) q.2) (eG₈.up u₁₂) (eT₈.up u₁₂) eF (rG₈.up u₁₂) okG zG (fun q hq => (gG _ (List.mem_map.mpr ⟨q, hq, rfl⟩)).refl) hSep fun s₁₃ x₁₃ => ?_
  have b₁₃ := b₁₂.call x₁₃
  have u₁₃ := u₁₂.trans (b₁₂.cx.seqUp x₁₃)
  refine wpAny_truthy_bool ?_
  refine ite_no Bool.false_ne_true ?_
  refine wpAny_execs_nil ?_
  -- whole = _filter(given, [])
  refine wpAny_execs_cons (wpAny_Assign_Name (Call2 (P.name b₁₃.cx.stays P.g_filter (b₁₃.name (by rfl) (List0 ⟨kept_fn (Heap.get?_push_of_some _ (b₁₃.cx.stays _ _ P.d_filter.ho)) rfl, wpAny_call ?_⟩) (by rfl) (by rfl) (by decide)) (by rfl) (by rfl) (by rfl) (by decide)) (by rfl) (by rfl)) (by rfl))
  have b₁₄ := b₁₃.push { cls := .type "list", data := .seq ([] : List Value).toArray }
  have u₁₄ : SeqUp h₈ (s₁₃.heap.push { cls := .type "list", data := .seq ([] : List Value).toArray }) := u₁₃.trans (.of_keep fun _ _ e => Heap.get?_push_of_some _ e)
  refine filter_spec (k2 := .list) (us := []) P b₁₄.cx (by omega) (eG₈.up u₁₄) ⟨0, Heap.get?_push_size _ rfl⟩ (rG₈.up u₁₄) (fun _ q => nomatch q) okG (fun _ q => nomatch q) zG fun s₁₅ V x₁₅ eV' nV => ?_
  have eV : SeqAt s₁₅.heap "list" V (vals ps) := (left_nil ps) ▸ eV'
  have b₁₅ := b₁₄.call x₁₅
  refine b₁₅.put (fun h₁₆ tk₁₆ hs₁₆ b₁₆ => ?_) (by rfl) (by rfl)
  have u₁₅ : SeqUp s₁₅.heap h₁₆ := .same b₁₅.ns hs₁₆
  have u₁₆ := (u₁₄.trans (b₁₄.cx.seqUp x₁₅)).trans u₁₅
  have eV₁₆ := eV.up u₁₅
  have eG₁₆ := eG₈.up u₁₆
  have nVG : V ≠ G := fun q => by
    obtain ⟨_, e⟩ := eG₈.up u₁₄
    have := q ▸ nV
    rw [this] at e; cases e
  -- if whole != list(given) or whole is given
  refine wpAny_execs_cons (wpAny_If (isTrue_or (wpAny_isTrue_Compare1 (b₁₆.name (by rfl) (Call1 (P.builtin b₁₆.cx.stays P.n_list P.b_list (b₁₆.name (by rfl) ⟨kept_type, list_seq eG₁₆ (by rw [List.length_map]; exact zG) fun h₁₇ k₁₇ e₁₇ => ne_same (eV₁₆.up (.of_keep k₁₇)) e₁₇ (Nat.lt_of_le_of_lt (Nat.le_add_right _ _) (b₁₆.cx.units (by omega))) (wpAny_truthy_bool ?_)⟩ (by rfl) (by rfl) (by decide)) (by rfl) (by rfl) (by rfl) (by rfl) (by decide)) (by rfl) (by rfl)) (by rfl) (by rfl) (by decide)) (by rfl))))
  refine ite_no Bool.false_ne_true ?_
  have b₁₇ := b₁₆.grow (tk := tk₁₆) k₁₇
  have u₁₇ := u₁₆.trans (.of_keep k₁₇)
  have isW : ∃ o, h₁₇.get? V = some o ∧ o.cls = .type "list" := by obtain ⟨_, e⟩ := eV₁₆.up (.of_keep k₁₇); exact ⟨_, e, rfl⟩
  have isG : ∃ o, h₁₇.get? G = some o := by obtain ⟨_, e⟩ := eG₁₆.up (.of_keep k₁₇); exact ⟨_, e⟩
  refine Exists.elim isW fun oV hV => Exists.elim isG fun oG hG => ?_
  refine isTrue_or (wpAny_isTrue_Compare1 (b₁₇.name (by rfl) (b₁₇.name (by rfl) (wpAny_is_ref_other nVG hV.1 hG (by rw [hV.2]; decide) (wpAny_truthy_bool ?_)) (by rfl) (by rfl) (by decide)) (by rfl) (by rfl) (by decide)) (by rfl))
  refine ite_no Bool.false_ne_true ?_
  refine isTrue_or_nil ?_
  refine ite_no Bool.false_ne_true ?_
  refine wpAny_execs_nil ?_
  -- return given == _law_listing(drawn) and banned == _law_skip(drawn)
  refine wpAny_execs_cons (wpAny_Return_some (BoolOp_and (wpAny_Compare1 (b₁₇.name (by rfl) (Call1 (P.name b₁₇.cx.stays P.g_listing (b₁₇.name md ⟨kept_fn (b₁₇.cx.stays _ _ P.d_listing.ho) rfl, wpAny_call ?_⟩ (by rfl) (by rfl) (by decide)) (by rfl) (by rfl) (by rfl) (by decide)) (by rfl) (by rfl)) (by rfl) (by rfl) (by decide)) (by rfl))))
  refine listing_spec P b₁₇.cx (by omega) (eD₈.up u₁₇) ok (by omega) fun s₁₈ G' ps' x₁₈ eG' rG' dG' => ?_
  have b₁₈ := b₁₇.call x₁₈
  have u₁₈ := u₁₇.trans (b₁₇.cx.seqUp x₁₈)
  refine eq_seq (eG₈.up u₁₈) eG' (rG₈.up u₁₈) rG' (dG.trans dG'.symm) gG (b₁₈.cx.units (by omega)) (wpAny_truthy_bool ?_)
  refine ite_yes rfl ?_
  refine BoolOp_one (wpAny_Compare1 (b₁₈.name (by rfl) (Call1 (P.name b₁₈.cx.stays P.g_skip (b₁₈.name md ⟨kept_fn (b₁₈.cx.stays _ _ P.d_skip.ho) rfl, wpAny_call ?_⟩ (by rfl) (by rfl) (by decide)) (by rfl) (by rfl) (by rfl) (by decide)) (by rfl) (by rfl)) (by rfl) (by rfl) (by decide)) (by rfl))
  refine skip_spec P b₁₈.cx (by omega) (eD₈.up u₁₈) ok (by omega) fun s₁₉ U' us' x₁₉ eU' rU' dU' => ?_
  have b₁₉ := b₁₈.call x₁₉
  have u₁₉ := u₁₈.trans (b₁₈.cx.seqUp x₁₉)
  refine eq_seq (eU₈.up u₁₉) eU' (rU₈.up u₁₉) rU' (dU.trans dU'.symm) gU (b₁₉.cx.units (by omega)) ?_
  exact h _ _ b₁₉
end
end Mine
end

section
open PySem PySem.W PySem.Calls PyProof.Rows PySem.SeqAt
namespace Mine

/-- a def of the text in the written part -/
structure DefK (K : Frag) (a : Addr) (st : Stmt) (name qual : Str) (pm : Value) (c : Addr) : Prop where
  ho : K.lookup a = some { cls := .type "function", data := .func (fdOf st name qual pm (.ref c)) }
  cd : codeIn K (.ref c) qual = true
theorem DefK.def {K : Frag} {B : Heap} {a c : Addr} {st : Stmt} {name qual : Str} {pm : Value} (d : DefK K a st name qual pm c) (X : K.In B) : Def B a st name qual pm c := ⟨X _ _ d.ho, codeRec_of X d.cd⟩

/-- the written part -/
structure KF' (K : Frag) : Prop where
  O : Own K
  g_ff : nsIn K mainGlobals "filterfalse" = some (some (.ref 47))
  g_filter : nsIn K mainGlobals "_filter" = some (some (.ref 58))
  g_thing : nsIn K mainGlobals "_law_thing" = some (some (.ref 65))
  g_listing : nsIn K mainGlobals "_law_listing" = some (some (.ref 70))
  g_skip : nsIn K mainGlobals "_law_skip" = some (some (.ref 75))
  g_without : nsIn K mainGlobals "_law_without" = some (some (.ref 82))
  g_one : nsIn K mainGlobals "_law_one_by_one" = some (some (.ref 89))
  g_woven : nsIn K mainGlobals "_law_woven" = some (some (.ref 96))
  n_list : nsIn K mainGlobals "list" = some none
  n_tuple : nsIn K mainGlobals "tuple" = some none
  n_len : nsIn K mainGlobals "len" = some none
  n_str : nsIn K mainGlobals "str" = some none
  n_type : nsIn K mainGlobals "type" = some none
  n_next : nsIn K mainGlobals "next" = some none
  n_iter : nsIn K mainGlobals "iter" = some none
  n_bool : nsIn K mainGlobals "bool" = some none
  d_init : DefK K 29 (inCls 1) "__init__" "filterfalse.__init__" (.str "itertools" 187) 28
  d_iter : DefK K 36 (inCls 2) "__iter__" "filterfalse.__iter__" (.str "itertools" 187) 35
  d_next : DefK K 43 (inCls 3) "__next__" "filterfalse.__next__" (.str "itertools" 187) 42
  d_filter : DefK K 58 (stm 3) "_filter" "_filter" (.str "cpy313.filecmp" 239) 57
  d_thing : DefK K 65 (stm 5) "_law_thing" "_law_thing" (.str "law_in0088_01" 249) 64
  d_listing : DefK K 70 (stm 6) "_law_listing" "_law_listing" (.str "law_in0088_01" 249) 69
  d_skip : DefK K 75 (stm 7) "_law_skip" "_law_skip" (.str "law_in0088_01" 249) 74
  d_without : DefK K 82 (stm 8) "_law_without" "_law_without" (.str "law_in0088_01" 249) 81
  d_one : DefK K 89 (stm 9) "_law_one_by_one" "_law_one_by_one" (.str "law_in0088_01" 249) 88
  d_woven : DefK K 96 (stm 10) "_law_woven" "_law_woven" (.str "law_in0088_01" 249) 95

theorem bb_list : bootBuiltins "list" = some (.type "list") := by kernel_rfl
theorem bb_tuple : bootBuiltins "tuple" = some (.type "tuple") := by kernel_rfl
theorem bb_len : bootBuiltins "len" = some (.builtin "len") := by kernel_rfl
theorem bb_str : bootBuiltins "str" = some (.type "str") := by kernel_rfl
theorem bb_type : bootBuiltins "type" = some (.type "type") := by kernel_rfl
theorem bb_next : bootBuiltins "next" = some (.builtin "next") := by kernel_rfl
theorem bb_iter : bootBuiltins "iter" = some (.builtin "iter") := by kernel_rfl
theorem bb_bool : bootBuiltins "bool" = some (.type "bool") := by kernel_rfl

theorem prg_of {K : Frag} {mg mb : Str → Option Value} {B : Heap} (F : KF' K) (X : K.In B) (g : B.Ns mainGlobals mg) (b : B.Ns builtinsNs mb) (lim : B.NoLimit) (bb : ∀ x : Str, x ≠ "__name__" → mb x = bootBuiltins x) : Prg K mg mb B where
  X := X
  O := F.O
  g := g
  b := b
  lim := lim
  g_ff := mg_of X g F.g_ff
  g_filter := mg_of X g F.g_filter
  g_thing := mg_of X g F.g_thing
  g_listing := mg_of X g F.g_listing
  g_skip := mg_of X g F.g_skip
  g_without := mg_of X g F.g_without
  g_one := mg_of X g F.g_one
  g_woven := mg_of X g F.g_woven
  n_list := mg_none_of X g F.n_list
  n_tuple := mg_none_of X g F.n_tuple
  n_len := mg_none_of X g F.n_len
  n_str := mg_none_of X g F.n_str
  n_type := mg_none_of X g F.n_type
  n_next := mg_none_of X g F.n_next
  n_iter := mg_none_of X g F.n_iter
  n_bool := mg_none_of X g F.n_bool
  b_list := (bb _ (by decide)).trans bb_list
  b_tuple := (bb _ (by decide)).trans bb_tuple
  b_len := (bb _ (by decide)).trans bb_len
  b_str := (bb _ (by decide)).trans bb_str
  b_type := (bb _ (by decide)).trans bb_type
  b_next := (bb _ (by decide)).trans bb_next
  b_iter := (bb _ (by decide)).trans bb_iter
  b_bool := (bb _ (by decide)).trans bb_bool
  d_init := F.d_init.def X
  d_iter := F.d_iter.def X
  d_next := F.d_next.def X
  d_filter := F.d_filter.def X
  d_thing := F.d_thing.def X
  d_listing := F.d_listing.def X
  d_skip := F.d_skip.def X
  d_without := F.d_without.def X
  d_one := F.d_one.def X
  d_woven := F.d_woven.def X

theorem law_whole {prog : Program} {w : World} {K : Frag} {mg mb : Str → Option Value} {s₁ : Shared} {h₁ : Heap} {tk : Nat} {m : Str → Option Value} {fa a : Addr} {kd : Value} {vs : List Value} {ns : List Int} {Q : Flow → Shared → Prop} {E : Value → Shared → Prop}
    (KX : K.In s₁.heap) (KK : KF' K) (g : s₁.heap.Ns mainGlobals mg) (b : s₁.heap.Ns builtinsNs mb) (lim : s₁.heap.NoLimit) (bb : ∀ x : Str, x ≠ "__name__" → mb x = bootBuiltins x)
    (hl : s₁.heap.IsList a vs.toArray) (hI : IntsAre vs ns) (hz : ¬ (63 : Int) < ns.length) (F : Fr s₁.heap s₁.heap.objs.size h₁ m) (hm : m "script" = some (.ref a))
    (h : ∀ s' m', Fr s₁.heap s₁.heap.objs.size s'.heap m' → s'.gens = s₁.gens → s'.os = s₁.os → Q (.ret (.bool true)) s') :
    wpAny (model prog w) (callerA.deeper (lawE s₁.heap.objs.size fa kd)) (execs (bodyOf (stm 11)) (lawE s₁.heap.objs.size fa kd)) Q E { s₁ with heap := h₁, toks := tk } := by
  have P := prg_of KK KX g b lim bb
  obtain ⟨rs, rfl, ez⟩ := ints_ivs hI
  have nL : s₁.heap.get? s₁.heap.objs.size = none := get?_size _
  have x : Ext (frs []) s₁ { s₁ with heap := h₁, toks := tk } := .of_keeps F.keep
  have bd : Bd s₁.heap s₁ (callerA.deeper (lawE s₁.heap.objs.size fa kd)) (lawE s₁.heap.objs.size fa kd) [] 320 m s₁.heap { s₁ with heap := h₁, toks := tk } := by
    refine ⟨⟨rfl, rfl, by show callerA.depth + 1 + (callerA.units + 3) ≤ 320; decide +kernel, List.cons_ne_nil _ _, F.keep, fun e he => ?_⟩, F.ns, rfl, x, nL, F.keep, fun f hf => ?_, Nat.le_refl _⟩
    · rw [List.mem_singleton.mp he]
      obtain ⟨o, es, ep, e1, e2, _⟩ := F.ns
      exact ⟨by show (scopeOf (stm 11)).kind ≠ .module; decide +kernel, _, rfl, Nat.le_refl _, o, es, ep, e1, e2⟩
    · have : f ∈ [s₁.heap.objs.size] := hf
      rw [List.mem_singleton.mp this]; exact nL
  have hl₁ : h₁.IsList a (ivs rs).toArray := hl.at fun o e => F.keep _ o e
  exact law_drawn (rest := (bodyOf (stm 11)).drop 1) bd hm hl₁ (by omega) fun s' D ds b' eD ok zd => law_rest P (Nat.le_refl _) b' (by rfl) eD ok zd fun s'' m'' b'' => h s'' m'' b''.fr b''.ext.gens b''.ext.os
end Mine
end

section
open PySem PySem.W PySem.Calls PyProof.Rows
set_option maxHeartbeats 8000000 in
theorem PySem.Challenge.cw_in0088_01_holds : PySem.Challenge.rw_in0088_01.Holds := by
  w_on
  o_law
  k_head
  (case hw => w_witness2)
  w_strict (
    k_go0
    (all_goals try k_fold)
    rename_i G Y fa o pm doc kV ho hg KX X V GL T B TE TW w9 w8 M w7 w6 hcd w5 hs hlay hL1 hr1 hl2 w4 w3 w2 w1 w0 hL ra wl r0 hI hr hcond1 hcond K0 hD h1 F N0
    refine Mine.law_whole KX ?_ T.g T.b T.nolimit T.builtins hL hI hcond1 F (by rfl) fun s' m' F' eg eo => ?_
    · constructor
      case O => constructor <;> kernel_rfl
      case d_init => exact ⟨by rfl, by kernel_rfl⟩
      case d_iter => exact ⟨by rfl, by kernel_rfl⟩
      case d_next => exact ⟨by rfl, by kernel_rfl⟩
      case d_filter => exact ⟨by rfl, by kernel_rfl⟩
      case d_thing => exact ⟨by rfl, by kernel_rfl⟩
      case d_listing => exact ⟨by rfl, by kernel_rfl⟩
      case d_skip => exact ⟨by rfl, by kernel_rfl⟩
      case d_without => exact ⟨by rfl, by kernel_rfl⟩
      case d_one => exact ⟨by rfl, by kernel_rfl⟩
      case d_woven => exact ⟨by rfl, by kernel_rfl⟩
      all_goals kernel_rfl
    refine goodW_bool F' (eg.trans hg) (raisesW_false ?_) ?_ eo
    · wrow_none_raised
    · wrow_post)
end
