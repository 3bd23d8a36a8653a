import PyProof.Rows.All
import Wide.All
import OpenK.AllK
import Wide.FinOn
import PySem.Challenge.RW_oy0244_01
set_option Elab.async false
namespace Mine
section
open PySem PySem.W PySem.W.X PyProof.Rows
set_option maxRecDepth 100000
set_option maxHeartbeats 8000000
/-- the text as the claim looks at it: the law's def alone; all other names are loose -/
def lawView : Program := view PySem.Challenge.rw_oy0244_01.row.prog [22]
def looseNames : List Str := ["_wall", "NL", "EMPTYSTRING", "_ValueFormatter", "_Accumulator", "heappush", "heappop", "heapify", "_siftdown", "_siftup", "sorted_list_difference", "unorderable_list_difference", "_law_off", "_law_written", "_law_rows", "_law_bags", "_law_alone", "_law_agree"]
theorem lawSaid : PySem.Challenge.rw_oy0244_01.wellSaid = true := by
  rw [PySem.W.Fast.te9446332074065402090]
  kernel_rfl
local macro_rules | `(tactic| o_law) => `(tactic| refine holds_law lawSaid fun said => ?_)
local macro_rules | `(tactic| o_head $H:term) => `(tactic|
  (refine holds_open (q := lawView) (loose := looseNames) (Xt := fun s => xlAt lawView [] s && recOk (RowW.records PySem.Challenge.rw_oy0244_01.row.toRowW) s) (XP := XL lawView []) (Yf := Hook.obs $H) (Ya := Hook.val $H) (YP := Hook.says $H) (N := 3202)
    ?hl (Hook.of $H) (Hook.keeps $H) (fun s e => xl_of s (Bool.and_eq_true_iff.mp e).1) XL.keeps (by rfl) (by rfl) (by rfl) (fun s e => recFacts_of (Bool.and_eq_true_iff.mp e).2) (by rfl) (by assumption) (by decide +kernel) ⟨rfl, rfl, rfl, rfl, rfl, by decide +kernel⟩ ?hw ?hc
   (case hl =>
     intro w
     unfold openEnds fencedOpening topFrom
     rw [PySem.W.Fast.te14082659384304107361, PySem.W.Fast.te10274390034422433532, PySem.W.Fast.te14289696077712309145, PySem.W.Fast.te14364793385576792824, PySem.W.Fast.te4187177175401517315, PySem.W.Fast.te8920871248978507458, PySem.W.Fast.te5923862056798008813]
     kernel_rfl)))
local macro_rules | `(tactic| k_head) => `(tactic| x_head)
open_top hd for PySem.Challenge.rw_oy0244_01
end
open PySem PySem.W PySem.Calls PyProof.Rows
set_option maxRecDepth 100000
set_option Elab.async false
set_option linter.unusedVariables false
set_option linter.unusedSectionVars false
set_option pp.deepTerms false
set_option pp.maxSteps 3000
set_option maxHeartbeats 1000000
section TF0
theorem runs_size {M : Model} {Γ : Ctx} {p : Pos} {t : Sem Fin} {fs : List Frame} {s s' : Shared} {e : End} (h : Runs M Γ p t fs s e s') : s.heap.objs.size ≤ s'.heap.objs.size := by
  induction h
  all_goals (try simp only [Heap.size_push, Heap.size_after_update, Shared.setGen] at *)
  all_goals omega
theorem wakes_size {M : Model} {Γ : Ctx} {p : Pos} {g : Nat} {r : Resume} {s s' : Shared} {res : GenResult} (h : Wakes M Γ p g r s res s') : s.heap.objs.size ≤ s'.heap.objs.size := by
  unfold Wakes at h
  split at h
  · cases h
  · split at h
    · obtain ⟨e, s₁, h1, _, _, rfl⟩ := h; have z := runs_size h1; exact z
    · obtain ⟨_, rfl⟩ := h; exact Nat.le_refl _
    · obtain ⟨_, rfl⟩ := h; exact Nat.le_refl _
  · obtain ⟨e, s₁, h1, _, _, rfl⟩ := h; have z := runs_size h1; exact z
  all_goals (obtain ⟨_, rfl⟩ := h; exact Nat.le_refl _)
theorem wp_size {α : Type} {M : Model} {Γ : Ctx} (n : Nat) (t : Sem α) : ∀ {Q : α → Pos → Shared → Prop} {E : Value → Pos → Shared → Prop} {p : Pos} {s : Shared}, n ≤ s.heap.objs.size → Sem.wp M Γ t Q E p s →
    Sem.wp M Γ t (fun a p' s' => Q a p' s' ∧ n ≤ s'.heap.objs.size) (fun e p' s' => E e p' s' ∧ n ≤ s'.heap.objs.size) p s := by
  induction t with
  | pure a => intro Q E p s hn h; exact ⟨h, hn⟩
  | raise e => intro Q E p s hn h; exact ⟨h, hn⟩
  | unsupported => intro Q E p s hn h; exact h
  | finish => intro Q E p s hn h; exact h
  | rule _ k ih => intro Q E p s hn h; exact ih _ hn h
  | «at» _ k ih => intro Q E p s hn h; exact ih _ hn h
  | load a _ k ih => intro Q E p s hn h; obtain ⟨o, ho, h⟩ := h; exact ⟨o, ho, ih _ hn h⟩
  | update a _ f k ih => intro Q E p s hn h; exact ⟨h.1, ih _ (by show n ≤ (s.heap.update a f).objs.size; rw [Heap.size_after_update]; exact hn) h.2⟩
  | alloc o k ih => intro Q E p s hn h; exact ih _ (by show n ≤ (s.heap.push o).objs.size; rw [Heap.size_push]; omega) h
  | loadIfAlive a k ih => intro Q E p s hn h; exact ih _ hn h
  | point _ k ih => intro Q E p s hn h; exact ih _ hn h
  | register => intro Q E p s hn h; exact h
  | fresh k ih => intro Q E p s hn h; exact ih _ (s := { s with toks := s.toks + 1 }) hn h
  | ask k ih => intro Q E p s hn h; exact ih _ hn h
  | choose src m k ih => intro Q E p s hn h; exact ⟨h.1, ih _ (s := { s with drawn := s.drawn.bump src }) hn h.2⟩
  | os q _ k ih => intro Q E p s hn h; exact ih _ (s := { s with os := (Os.step s.os q).1 }) hn h
  | call c hh _ _ k ih => intro Q E p s hn h; obtain ⟨r, s₁, h1, h2⟩ := h; exact ⟨r, s₁, h1, ih _ (Nat.le_trans hn (runs_size h1)) h2⟩
  | handled _ k ih => intro Q E p s hn h; exact ih _ hn h
  | genState g k ih => intro Q E p s hn h; obtain ⟨o, ho, h⟩ := h; exact ⟨o, ho, ih _ hn h⟩
  | newGen c k ih => intro Q E p s hn h; exact ih _ (s := { s with gens := s.gens.push (.fresh c) }) hn h
  | resume g r _ k ih => intro Q E p s hn h; obtain ⟨r, s₁, h1, h2⟩ := h; exact ⟨r, s₁, h1, ih _ (Nat.le_trans hn (wakes_size h1)) h2⟩
  | yield => intro Q E p s hn h; exact h
  | stack k ih => intro Q E p s hn h; exact ih _ hn h
  | fork => intro Q E p s hn h; exact h
  | thread k ih => intro Q E p s hn h; exact ih _ hn h
  | await => intro Q E p s hn h; exact h
/-- the heap never shrinks -/
theorem wpAny_size {α : Type} {M : Model} {A : Around} {t : Sem α} {Q : α → Shared → Prop} {E : Value → Shared → Prop} {s : Shared} (h : wpAny M A t (fun a s' => s.heap.objs.size ≤ s'.heap.objs.size → Q a s') (fun e s' => s.heap.objs.size ≤ s'.heap.objs.size → E e s') s) : wpAny M A t Q E s :=
  fun Γ p hΓ => Sem.wp_mono M Γ t (fun a _ s' x => x.1 x.2) (fun e _ s' x => x.1 x.2) p s (wp_size s.heap.objs.size t (Nat.le_refl _) (h Γ p hΓ))
end TF0
section TF1
abbrev PR : Program := PySem.Challenge.rw_oy0244_01.row.prog
noncomputable abbrev KF (w : World) : Frag := hd.heap_1 w.params
def tabs : List Addr := [140, 147]

/-- the fixed things of one run: the world, the heap at the law's call, the os -/
structure Gx where
  w : World
  h1 : Heap
  os : OsState
  mg : Str → Option Value
  mb : Str → Option Value
def Gx.B (g : Gx) : Heap := hideAll g.h1 tabs
abbrev Gx.M (g : Gx) : Model := model PR g.w
def Gx.n (g : Gx) : Nat := g.h1.objs.size
structure Gx.Ok (g : Gx) : Prop where
  kx : (KF g.w).In g.h1
  gl : g.h1.Ns mainGlobals g.mg
  bl : g.h1.Ns builtinsNs g.mb
  bb : ∀ x, x ≠ ("__name__" : Str) → g.mb x = bootBuiltins x
  lim : g.h1.NoLimit

def TabOk (h : Heap) : Prop := ∃ p q, h.IsCode 144 140 p ∧ h.TableAt 144 140 p ∧ h.IsCode 151 147 q ∧ h.TableAt 151 147 q

structure Inv (g : Gx) (s : Shared) : Prop where
  base : g.B.StaysIn s.heap
  size : g.n ≤ s.heap.objs.size
  tab : TabOk s.heap
  os : s.os = g.os
  gens : AllBare s.gens

/-- all objects but those of X (and the two code tables) stand as they stood -/
def Ext (X : List Addr) (h h' : Heap) : Prop :=
  h.objs.size ≤ h'.objs.size ∧ ∀ b o, h.get? b = some o → b ∉ X → b ∉ tabs → h'.get? b = some o

theorem Ext.refl (X : List Addr) (h : Heap) : Ext X h h := ⟨Nat.le_refl _, fun _ _ e _ _ => e⟩
theorem Ext.trans {X : List Addr} {a b c : Heap} (x : Ext X a b) (y : Ext X b c) : Ext X a c :=
  ⟨Nat.le_trans x.1 y.1, fun d o e h1 h2 => y.2 d _ (x.2 d o e h1 h2) h1 h2⟩
theorem Ext.mono {X Y : List Addr} {h h' : Heap} (x : Ext X h h') (s : ∀ a ∈ X, a ∈ Y) : Ext Y h h' := ⟨x.1, fun b o e h1 h2 => x.2 b o e (fun q => h1 (s b q)) h2⟩
/-- what the second step changes is new since the first -/
theorem Ext.trans' {X Y : List Addr} {a b c : Heap} (x : Ext X a b) (y : Ext Y b c) (hy : ∀ d ∈ Y, d ∈ X ∨ a.objs.size ≤ d) : Ext X a c :=
  ⟨Nat.le_trans x.1 y.1, fun d o e h1 h2 => by
    have : d ∉ Y := fun q => (hy d q).elim h1 fun z => absurd (Heap.lt_size e) (Nat.not_lt.mpr z)
    exact y.2 d _ (x.2 d o e h1 h2) this h2⟩
theorem Ext.keeps {h h' : Heap} (k : ∀ b o, h.get? b = some o → h'.get? b = some o) (z : h.objs.size ≤ h'.objs.size) (X : List Addr) : Ext X h h' := ⟨z, fun b o e _ _ => k b o e⟩
theorem Ext.push (h : Heap) (o : Obj) (X : List Addr) : Ext X h (h.push o) := Ext.keeps (fun _ _ e => Heap.get?_push_of_some _ e) (by rw [Heap.size_push]; exact Nat.le_succ _) X
theorem Ext.same {a : Addr} {h h' : Heap} (s : Heap.SameBut a h h') : Ext [a] h h' :=
  ⟨Nat.le_of_eq s.1.symm, fun b o e h1 _ => (s.2 b fun q => h1 (by rw [q]; exact List.mem_singleton.mpr rfl)).trans e⟩
theorem Ext.upd (h : Heap) (a : Addr) (f : Obj → Obj) : Ext [a] h (h.update a f) := Ext.same (Heap.SameBut.update ..)

/-- a list of strs; an object -/
inductive Kd where
  | sl (ws : List Str)
  | obj (o : Obj)
  | is (P : Obj → Prop)
def Kd.At (h : Heap) (a : Addr) : Kd → Prop
  | .sl ws => ∃ vs n, IsL h a vs n ∧ StrsAre vs.toList ws
  | .obj o => h.get? a = some o
  | .is P => ∃ o, h.get? a = some o ∧ P o
theorem Kd.At.ext {X : List Addr} {h h' : Heap} {a : Addr} {k : Kd} (x : k.At h a) (e : Ext X h h') (n : a ∉ X) (t : a ∉ tabs) : k.At h' a := by
  cases k with
  | sl ws => obtain ⟨vs, m, q, r⟩ := x; exact ⟨vs, m, e.2 _ _ q n t, r⟩
  | obj o => exact e.2 _ _ x n t
  | is P => obtain ⟨o, q, r⟩ := x; exact ⟨o, e.2 _ _ q n t, r⟩
theorem Kd.At.lt {h : Heap} {a : Addr} {k : Kd} (x : k.At h a) : a < h.objs.size := by
  cases k with
  | sl ws => obtain ⟨vs, m, q, r⟩ := x; exact Heap.lt_size q
  | obj o => exact Heap.lt_size x
  | is P => obtain ⟨o, q, r⟩ := x; exact Heap.lt_size q
theorem ns_ext {X : List Addr} {h h' : Heap} {a : Addr} {m : Str → Option Value} (x : h.Ns a m) (e : Ext X h h') (n : a ∉ X) (t : a ∉ tabs) : h'.Ns a m := by
  obtain ⟨o, es, ep, ho, r⟩ := x
  exact ⟨o, es, ep, e.2 _ _ ho n t, r⟩

section
variable {g : Gx} (G : g.Ok)
include G
theorem tabs_in : ∀ a ∈ tabs, a < g.n := by
  have h1 : (KF g.w).lookup 140 = some ⟨.none, none, .fields #[], #[]⟩ := rfl
  have h2 : (KF g.w).lookup 147 = some ⟨.none, none, .fields #[], #[]⟩ := rfl
  intro a ha
  simp only [tabs, List.mem_cons, List.not_mem_nil, or_false] at ha
  rcases ha with rfl | rfl
  · exact Heap.lt_size (G.kx _ _ h1)
  · exact Heap.lt_size (G.kx _ _ h2)
theorem not_tab {a : Addr} (h : g.n ≤ a) : a ∉ tabs := fun q => absurd (tabs_in G a q) (Nat.not_lt.mpr h)
end
theorem B_get {g : Gx} {a : Addr} {o : Obj} (e : g.h1.get? a = some o) (n : a ∉ tabs) : g.B.get? a = some o := hideAll_get _ e n
theorem of_B {g : Gx} {a : Addr} {o : Obj} (e : g.B.get? a = some o) : g.h1.get? a = some o := of_hideAll _ e
theorem B_none {g : Gx} {a : Addr} (h : g.n ≤ a) : g.B.get? a = none := by
  cases q : g.B.get? a with
  | none => rfl
  | some o => exact absurd (Heap.lt_size (of_B q)) (Nat.not_lt.mpr h)

/-- the written object at a literal address -/
theorem Inv.at {g : Gx} {s : Shared} (I : Inv g s) (G : g.Ok) {a : Addr} {o : Obj} (e : (KF g.w).lookup a = some o) (n : a ∉ tabs) : s.heap.get? a = some o := I.base _ _ (B_get (G.kx _ _ e) n)
theorem Inv.lim {g : Gx} {s : Shared} (I : Inv g s) (G : g.Ok) : s.heap.NoLimit := by
  obtain ⟨mc, ⟨o, es, ep, ho, r⟩, z⟩ := G.lim
  exact ⟨mc, ⟨o, es, ep, I.base _ _ (B_get ho (by decide)), r⟩, z⟩
theorem Inv.gl {g : Gx} {s : Shared} (I : Inv g s) (G : g.Ok) : s.heap.Ns mainGlobals g.mg := by
  obtain ⟨o, es, ep, ho, r⟩ := G.gl
  exact ⟨o, es, ep, I.base _ _ (B_get ho (by decide)), r⟩
theorem Inv.bl {g : Gx} {s : Shared} (I : Inv g s) (G : g.Ok) : s.heap.Ns builtinsNs g.mb := by
  obtain ⟨o, es, ep, ho, r⟩ := G.bl
  exact ⟨o, es, ep, I.base _ _ (B_get ho (by decide)), r⟩

theorem isCode_ext {h h' : Heap} {c P : Addr} {ps : Array Value} (x : h.IsCode c P ps) (k : ∀ b, b = c ∨ b = P → ∀ o, h.get? b = some o → h'.get? b = some o) : h'.IsCode c P ps :=
  let ⟨o, vs, file, tf, flags, tg, inF, text, tt, op, a, r1, r2, r3, r4, r5, r6, b, r⟩ := x
  ⟨o, vs, file, tf, flags, tg, inF, text, tt, op, k _ (.inl rfl) _ a, r1, r2, r3, r4, r5, r6, k _ (.inr rfl) _ b, r⟩
theorem tableAt_ext {h h' : Heap} {c P : Addr} {ps : Array Value} (x : h.TableAt c P ps) (k : ∀ b, b = c ∨ b = P → ∀ o, h.get? b = some o → h'.get? b = some o) : h'.TableAt c P ps :=
  let ⟨⟨o, vs, a, r⟩, t⟩ := x; ⟨⟨o, vs, k _ (.inl rfl) _ a, r⟩, k _ (.inr rfl) _ t⟩

/-- a step that changes only what is new since the law's call keeps the invariant -/
theorem Inv.step {g : Gx} (G : g.Ok) {s s' : Shared} (I : Inv g s) (k : ∀ b o, b < g.n → s.heap.get? b = some o → s'.heap.get? b = some o) (z : s.heap.objs.size ≤ s'.heap.objs.size) (ho : s'.os = s.os) (hg : AllBare s'.gens) : Inv g s' := by
  have lt : ∀ b o, (KF g.w).lookup b = some o → b < g.n := fun b o e => Heap.lt_size (G.kx _ _ e)
  refine ⟨fun b o e => k b o (Heap.lt_size (of_B e)) (I.base b o e), Nat.le_trans I.size z, ?_, ho.trans I.os, hg⟩
  obtain ⟨p, q, a1, a2, a3, a4⟩ := I.tab
  have l1 : 144 < g.n := lt 144 _ rfl
  have l2 : 151 < g.n := lt 151 _ rfl
  have l3 : 140 < g.n := tabs_in G _ (by decide)
  have l4 : 147 < g.n := tabs_in G _ (by decide)
  refine ⟨p, q, isCode_ext a1 ?_, tableAt_ext a2 ?_, isCode_ext a3 ?_, tableAt_ext a4 ?_⟩ <;> (rintro b (rfl | rfl) o e <;> exact k _ _ (by assumption) e)
end TF1
section TF2
/-- one call's frame: the run, the heap at the call's start, the elder objects it may change, its own frame -/
structure Fx where
  g : Gx
  h0 : Heap
  X : List Addr
  L : Addr

structure St (f : Fx) (ls : List (Str × Value)) (hs : List (Addr × Kd)) (s : Shared) : Prop where
  ok : f.g.Ok
  inv : Inv f.g s
  ext : Ext f.X f.h0 s.heap
  loc : ∃ m, s.heap.Ns f.L m ∧ ∀ x v, ls.lookup x = some v → m x = some v
  lo : f.g.n ≤ f.L
  new : f.h0.objs.size ≤ f.L
  has : ∀ p ∈ hs, p.2.At s.heap p.1 ∧ f.g.n ≤ p.1 ∧ p.1 ≠ f.L
  nd : (hs.map (·.1)).Nodup

def Fx.may (f : Fx) (a : Addr) : Prop := a ∈ f.X ∨ f.h0.objs.size ≤ a

theorem St.get {f : Fx} {ls hs s} (S : St f ls hs s) {a : Addr} {o : Kd} (h : (a, o) ∈ hs) : o.At s.heap a := (S.has _ h).1
theorem St.low {f : Fx} {ls hs s} (S : St f ls hs s) {a : Addr} {o : Kd} (h : (a, o) ∈ hs) : f.g.n ≤ a := (S.has _ h).2.1
theorem St.ne {f : Fx} {ls hs s} (S : St f ls hs s) {a : Addr} {o : Kd} (h : (a, o) ∈ hs) : a ≠ f.L := (S.has _ h).2.2
theorem St.ltL {f : Fx} {ls hs s} (S : St f ls hs s) : f.L < s.heap.objs.size := let ⟨_, n, _⟩ := S.loc; n.lt

/-- forget some bindings, some objects -/
theorem St.weak {f : Fx} {ls ls' hs hs' s} (S : St f ls hs s) (h1 : ∀ x v, ls'.lookup x = some v → ls.lookup x = some v) (h2 : ∀ p ∈ hs', p ∈ hs) (nd : (hs'.map (·.1)).Nodup) : St f ls' hs' s :=
  ⟨S.ok, S.inv, S.ext, let ⟨m, n, k⟩ := S.loc; ⟨m, n, fun x v e => k x v (h1 x v e)⟩, S.lo, S.new, fun p hp => S.has p (h2 p hp), nd⟩
theorem St.wloc {f : Fx} {ls ls' hs s} (S : St f ls hs s) (h1 : ∀ x v, ls'.lookup x = some v → ls.lookup x = some v) : St f ls' hs s := S.weak h1 (fun _ h => h) S.nd
theorem lookup_mem {ls : List (Str × Value)} {x : Str} {v : Value} (h : ls.lookup x = some v) : (x, v) ∈ ls := by
  induction ls with
  | nil => cases h
  | cons p r ih =>
    rw [List.lookup_cons] at h
    by_cases q : x = p.1
    · subst q; simp at h; subst h; exact .head _
    · have : (x == p.1) = false := by simpa using q
      rw [this] at h
      exact .tail _ (ih h)
theorem all_of_map {ls ls' : List (Str × Value)} (h : ls'.map (fun p => ls.lookup p.1) = ls'.map (fun p => some p.2)) : ∀ p ∈ ls', ls.lookup p.1 = some p.2 := by
  induction ls' with
  | nil => intro p hp; cases hp
  | cons q r ih =>
    rw [List.map_cons, List.map_cons] at h
    injection h with h1 h2
    intro p hp
    rcases List.mem_cons.mp hp with rfl | hp
    · exact h1
    · exact ih h2 p hp
theorem St.wl {f : Fx} {ls ls' hs s} (S : St f ls hs s) (h1 : ls'.map (fun p => ls.lookup p.1) = ls'.map (fun p => some p.2)) : St f ls' hs s := S.wloc fun x v e => all_of_map h1 _ (lookup_mem e)
theorem St.perm {f : Fx} {ls hs hs' s} (S : St f ls hs s) (h : hs.Perm hs') : St f ls hs' s := S.weak (fun _ _ e => e) (fun p hp => h.symm.subset hp) ((h.map _).nodup_iff.mp S.nd)
theorem St.drop {f : Fx} {ls p hs s} (S : St f ls (p :: hs) s) : St f ls hs s := S.weak (fun _ _ e => e) (fun _ h => .tail _ h) (List.nodup_cons.mp S.nd).2
theorem St.swap {f : Fx} {ls p q hs s} (S : St f ls (p :: q :: hs) s) : St f ls (q :: p :: hs) s := S.perm (List.Perm.swap ..)
theorem St.none {f : Fx} {ls hs s} (S : St f ls hs s) : St f ls [] s := S.weak (fun _ _ e => e) (fun _ h => nomatch h) List.nodup_nil

/-- the general step -/
theorem St.next {f : Fx} {ls hs hs' : _} {s s' : Shared} {Y : List Addr} (S : St f ls hs s) (I : Inv f.g s') (e : Ext Y s.heap s'.heap) (hL : f.L ∉ Y) (hY : ∀ d ∈ Y, f.may d)
    (hh : ∀ p ∈ hs', (p ∈ hs ∧ p.1 ∉ Y) ∨ (p.2.At s'.heap p.1 ∧ f.g.n ≤ p.1 ∧ p.1 ≠ f.L)) (nd : (hs'.map (·.1)).Nodup) : St f ls hs' s' := by
  obtain ⟨m, hn, hm⟩ := S.loc
  refine ⟨S.ok, I, S.ext.trans' e hY, ⟨m, ns_ext hn e hL (not_tab S.ok S.lo), hm⟩, S.lo, S.new, fun p hp => ?_, nd⟩
  rcases hh p hp with ⟨h1, h2⟩ | h
  · have := S.has p h1
    exact ⟨this.1.ext e h2 (not_tab S.ok this.2.1), this.2⟩
  · exact h
/-- nothing that is told changes -/
theorem St.stay {f : Fx} {ls hs : _} {s s' : Shared} (S : St f ls hs s) (I : Inv f.g s') (e : Ext [] s.heap s'.heap) : St f ls hs s' :=
  S.next I e (by simp) (by simp) (fun p hp => .inl ⟨hp, by simp⟩) S.nd
/-- the first object changes -/
theorem St.upd {f : Fx} {ls hs : _} {s s' : Shared} {a : Addr} {o o' : Kd} (S : St f ls ((a, o) :: hs) s) (I : Inv f.g s') (e : Ext [a] s.heap s'.heap) (m : f.may a) (h : o'.At s'.heap a) : St f ls ((a, o') :: hs) s' := by
  have nd := S.nd
  rw [List.map_cons, List.nodup_cons] at nd
  refine S.next I e (by simp; exact fun q => S.ne (.head _) q.symm) (by simpa using m) (fun p hp => ?_) (by simpa using nd)
  rcases List.mem_cons.mp hp with rfl | hp
  · exact .inr ⟨h, S.low (.head _), S.ne (.head _)⟩
  · exact .inl ⟨.tail _ hp, by simp; exact fun q => nd.1 (by have z := List.mem_map_of_mem (f := fun p : Addr × Kd => p.1) hp; rwa [q] at z)⟩
/-- a new object -/
theorem St.more {f : Fx} {ls hs : _} {s s' : Shared} {a : Addr} {o : Kd} (S : St f ls hs s) (I : Inv f.g s') (e : Ext [] s.heap s'.heap) (ha : s.heap.objs.size ≤ a) (h : o.At s'.heap a) : St f ls ((a, o) :: hs) s' := by
  refine S.next I e (by simp) (by simp) (fun p hp => ?_) ?_
  · rcases List.mem_cons.mp hp with rfl | hp
    · exact .inr ⟨h, Nat.le_trans S.inv.size ha, Nat.ne_of_gt (Nat.lt_of_lt_of_le S.ltL ha)⟩
    · exact .inl ⟨hp, by simp⟩
  · rw [List.map_cons, List.nodup_cons]
    refine ⟨fun q => ?_, S.nd⟩
    obtain ⟨p, hp, rfl⟩ := List.mem_map.mp q
    exact absurd (S.has p hp).1.lt (Nat.not_lt.mpr ha)

section
variable {prog : Program} {w : World} {f : Fx} {A : Around} {E : Value → Shared → Prop} {s : Shared} {ls : List (Str × Value)} {hs : List (Addr × Kd)} {env : Env}

theorem inv_tok {g : Gx} {s : Shared} (I : Inv g s) (t : Nat) : Inv g { s with toks := t } := ⟨I.base, I.size, I.tab, I.os, I.gens⟩
theorem St.tok (S : St f ls hs s) (t : Nat) : St f ls hs { s with toks := t } := ⟨S.ok, inv_tok S.inv t, S.ext, S.loc, S.lo, S.new, S.has, S.nd⟩

theorem r_int {i k pos} {Q : Value → Shared → Prop} (S : St f ls hs s) (h : ∀ t s', St f ls hs s' → Q (.int i t) s') : wpAny (model prog w) A (eval (.Constant (.int i) k pos) env) Q E s :=
  wpAny_Constant_int (h _ _ (S.tok _))
theorem r_str {x : Str} {k pos} {Q : Value → Shared → Prop} (S : St f ls hs s) (h : ∀ t s', St f ls hs s' → Q (.str x t) s') : wpAny (model prog w) A (eval (.Constant (.str x) k pos) env) Q E s :=
  wpAny_Constant_str (h _ _ (S.tok _))
theorem r_local {x : Str} {pos : Pos} {v : Value} {Q : Value → Shared → Prop} (S : St f ls hs s) (hv : ls.lookup x = some v) (h : Q v s)
    (hL : env.locals = f.L := by rfl) (hk : env.scope.kind = .function := by rfl) (hx : env.kindOf x = some .local := by rfl) (hd : (x == ("__debug__" : Str)) = false := by decide) :
    wpAny (model prog w) A (eval (.Name x pos) env) Q E s := by
  obtain ⟨m, hn, hm⟩ := S.loc
  exact wpAny_Name (wpAny_loadName_local hk hx (hL ▸ hn) (hm _ _ hv) h) hd
theorem r_loadName {x : Str} {v : Value} {Q : Value → Shared → Prop} (S : St f ls hs s) (hv : ls.lookup x = some v) (h : Q v s)
    (hL : env.locals = f.L := by rfl) (hk : env.scope.kind = .function := by rfl) (hx : env.kindOf x = some .local := by rfl) :
    wpAny (model prog w) A (loadName env x) Q E s := by
  obtain ⟨m, hn, hm⟩ := S.loc
  exact wpAny_loadName_local hk hx (hL ▸ hn) (hm _ _ hv) h
theorem r_glob {x : Str} {pos : Pos} {v : Value} {Q : Value → Shared → Prop} (S : St f ls hs s) (e : nsIn (KF f.g.w) mainGlobals x = some (some v)) (h : Q v s)
    (hg : env.globals = mainGlobals := by rfl) (hk : env.scope.kind = .function := by rfl) (hx : env.kindOf x = some .globalImplicit := by rfl) (hd : (x == ("__debug__" : Str)) = false := by decide) :
    wpAny (model prog w) A (eval (.Name x pos) env) Q E s :=
  Name_function_global hk hx (loadGlobal_global (by rw [hg]; exact S.inv.gl S.ok) (mg_of S.ok.kx S.ok.gl e) h) hd
theorem r_boot {x : Str} {pos : Pos} {v : Value} {Q : Value → Shared → Prop} (S : St f ls hs s) (e : nsIn (KF f.g.w) mainGlobals x = some none) (hv : bootBuiltins x = some v) (h : Q v s)
    (hn : x ≠ "__name__" := by decide) (hg : env.globals = mainGlobals := by rfl) (hb : env.builtins = builtinsNs := by rfl) (hk : env.scope.kind = .function := by rfl) (hx : env.kindOf x = some .globalImplicit := by rfl) (hd : (x == ("__debug__" : Str)) = false := by decide) :
    wpAny (model prog w) A (eval (.Name x pos) env) Q E s :=
  Name_function_global hk hx (loadGlobal_builtin (by rw [hg]; exact S.inv.gl S.ok) (mg_none_of S.ok.kx S.ok.gl e) (by rw [hb]; exact S.inv.bl S.ok) ((S.ok.bb x hn).trans hv) h) hd

theorem St.set {x : Str} {v : Value} {h' : Heap} (S : St f ls hs s) (t : Nat) (hn : ∃ m, h'.Ns f.L m ∧ ∀ y u, ((x, v) :: ls).lookup y = some u → m y = some u) (hs' : Heap.SameBut f.L s.heap h') : St f ((x, v) :: ls) hs { s with heap := h', toks := t } := by
  have I : Inv f.g { s with heap := h', toks := t } := S.inv.step S.ok (fun b o hb e => (hs'.2 b (Nat.ne_of_lt (Nat.lt_of_lt_of_le hb S.lo))).trans e) (Nat.le_of_eq hs'.1.symm) rfl S.inv.gens
  refine ⟨S.ok, I, S.ext.trans' (Ext.same hs') (by simp; exact .inr S.new), hn, S.lo, S.new, fun p hp => ?_, S.nd⟩
  have := S.has p hp
  exact ⟨this.1.ext (Ext.same hs') (by simp; exact this.2.2) (not_tab S.ok this.2.1), this.2⟩
theorem r_storeName {x : Str} {v : Value} {Q : Unit → Shared → Prop} (S : St f ls hs s) (h : ∀ s', St f ((x, v) :: ls) hs s' → Q () s')
    (hL : env.locals = f.L := by rfl) (hk : env.scope.kind = .function := by rfl) (hx : env.kindOf x = some .local := by rfl) : wpAny (model prog w) A (storeName env x v) Q E s := by
  obtain ⟨m, hn, hm⟩ := S.loc
  refine wpAny_storeName_local hx (hL ▸ hn) (fun h' hn' hsb => h _ (S.set _ ⟨_, hL ▸ hn', fun y u e => ?_⟩ (hL ▸ hsb))) (by rw [hk]; rfl)
  rw [List.lookup_cons] at e
  by_cases q : y = x
  · subst q; simp at e; simp [e]
  · have : (y == x) = false := by simpa using q
    rw [this] at e
    simp only [q, if_false]
    exact hm _ _ e
end

/-- what a call may lean on: no exception in flight, room -/
structure Ar (A : Around) (k : Nat) : Prop where
  hand : A.handled = none
  dep : A.depth + k ≤ 400
  uni : A.units + 50 * k ≤ 5000
theorem Ar.room {A : Around} {k : Nat} (a : Ar A k) : A.depth < recursionLimit := by have := a.dep; unfold recursionLimit; omega
theorem Ar.deeper {A : Around} {k : Nat} (a : Ar A (k + 1)) (env : Env) : Ar (A.deeper env) k :=
  ⟨a.hand, by have := a.dep; show A.depth + 1 + k ≤ 400; omega, by have := a.uni; show A.units + 3 + 50 * k ≤ 5000; omega⟩
theorem Ar.less {A : Around} {k : Nat} (a : Ar A (k + 1)) : Ar A k := ⟨a.hand, by have := a.dep; omega, by have := a.uni; omega⟩
theorem Ar.le {A : Around} {k j : Nat} (a : Ar A k) (h : j ≤ k) : Ar A j := ⟨a.hand, by have := a.dep; omega, by have := a.uni; omega⟩
theorem Ar.u64 {A : Around} {k : Nat} (a : Ar A k) : A.units + 64 < cLine := by have := a.uni; unfold cLine; omega

theorem codeRec_at {g : Gx} (G : g.Ok) {s : Shared} (I : Inv g s) {cd : Value} {q : Str} (e : codeIn (KF g.w) cd q = true) (n : cd ≠ .ref 140 ∧ cd ≠ .ref 147) : s.heap.CodeRec cd q := by
  obtain ⟨c, o, vs, t, rfl, ho, r⟩ := codeRec_of G.kx e
  refine ⟨c, o, vs, t, rfl, I.base _ _ (B_get ho ?_), r⟩
  intro z
  simp only [tabs, List.mem_cons, List.not_mem_nil, or_false] at z
  rcases z with rfl | rfl
  · exact n.1 rfl
  · exact n.2 rfl

/-- a call of a def of the text -/
theorem r_call {prog : Program} {w : World} {g : Gx} (G : g.Ok) {A : Around} {k : Nat} {s : Shared} (X : List Addr) (hs : List (Addr × Kd)) {fa : Addr} {args : List Value} (binds : List (Str × Value)) {oc : Value} {od : Option Addr} {osl : Array (Option Value)}
    {name qual : Str} {params : Arguments} {body : List Stmt} {scope : Scope} {cl : List (Str × Addr)} {dV kV doc pm cdv ct : Value} {an : Option Addr}
    {Q : Value → Shared → Prop} {E : Value → Shared → Prop} (I : Inv g s) (a : Ar A (k + 1))
    (ho : (KF g.w).lookup fa = some ⟨oc, od, .func (fnX name qual params body scope cl dV kV doc pm an cdv ct), osl⟩) (hnt : fa ∉ tabs) (hcd : codeIn (KF g.w) cdv qual = true) (hct : cdv ≠ .ref 140 ∧ cdv ≠ .ref 147)
    (hbind : BindsTo s (fnX name qual params body scope cl dV kV doc pm an cdv ct) ⟨args, []⟩ binds) (hcell : ∀ x ∈ scope.names, x.2 ≠ .cell) (hloc : ∀ x ∈ binds, scope.names.lookup x.1 = some .local)
    (hhs : ∀ p ∈ hs, p.2.At s.heap p.1 ∧ g.n ≤ p.1) (nd : (hs.map (·.1)).Nodup)
    (h : ∀ s₁, St ⟨g, s.heap, X, s.heap.objs.size⟩ binds.reverse hs s₁ → Ar (A.deeper (envX qual scope s.heap.objs.size fa cdv cl)) k → s₁.gens = s.gens →
      wpAny (model prog w) (A.deeper (envX qual scope s.heap.objs.size fa cdv cl)) (execs body (envX qual scope s.heap.objs.size fa cdv cl)) (fun f s' => Q (match f with | .ret v => v | _ => .none) s')
        (fun e s' => wpAny (model prog w) (A.deeper (envX qual scope s.heap.objs.size fa cdv cl)) (leaving (envX qual scope s.heap.objs.size fa cdv cl) e) (fun _ s'' => E e s'') (fun e' s'' => E e' s'') s') s₁)
    (hco : scope.isCoroutine = false := by rfl) (hgen : scope.isGenerator = false := by rfl) (hk : scope.kind = .function := by rfl) :
    wpAny (model prog w) A (call (.ref fa) args) Q E s := by
  refine wpAny_call (codeAny_call_def (fd := fnX name qual params body scope cl dV kV doc pm an cdv ct) a.room (I.at G ho hnt) rfl (I.lim G) (codeRec_at G I hcd hct) rfl hbind hcell hloc (fun h₀ hns hk₀ => ?_) hco hgen hk)
  have z : s.heap.objs.size ≤ h₀.objs.size := Nat.le_of_lt hns.lt
  have hI : Inv g { s with heap := h₀, toks := s.toks + binds.length } := I.step G (fun b o _ e => hk₀ b o e) z rfl I.gens
  refine h _ ⟨G, hI, Ext.keeps hk₀ z X, ⟨_, hns, fun x v e => e⟩, I.size, Nat.le_refl _, fun p hp => ?_, nd⟩ (a.deeper _) rfl
  have := hhs p hp
  exact ⟨this.1.ext (Ext.keeps hk₀ z []) (by simp) (not_tab G this.2), this.2, Nat.ne_of_lt this.1.lt⟩


/-- the i-th of a list, for proofs by rfl -/
def nth {α : Type} : List α → Nat → Option α
  | [], _ => none
  | a :: _, 0 => some a
  | _ :: l, n + 1 => nth l n
theorem mA {α : Type} {p : α} : ∀ {l : List α} (i : Nat), nth l i = some p → p ∈ l
  | [], _, h => nomatch h
  | a :: l, 0, h => by injection h with h; subst h; exact .head _
  | a :: l, n + 1, h => .tail _ (mA n h)
theorem mD {α : Type} {p : α} {l : List α} (n : Nat) (h : p ∈ l.drop n) : p ∈ l := List.mem_of_mem_drop h
theorem nth_drop {α : Type} {p : α} : ∀ {l : List α} (n : Nat), p ∈ l.drop n → ∃ i, n ≤ i ∧ nth l i = some p
  | [], n, h => by simp at h
  | a :: l, 0, h => by
    rcases List.mem_cons.mp (by simpa using h) with rfl | h
    · exact ⟨0, Nat.le_refl _, rfl⟩
    · obtain ⟨i, _, hi⟩ := nth_drop (l := l) 0 (by simpa using h)
      exact ⟨i + 1, Nat.zero_le _, hi⟩
  | a :: l, n + 1, h => by
    obtain ⟨i, hn, hi⟩ := nth_drop (l := l) n (by simpa using h)
    exact ⟨i + 1, by omega, hi⟩
theorem nth_inj : ∀ {l : List (Addr × Kd)} {i j : Nat} {p q : Addr × Kd}, (l.map (·.1)).Nodup → nth l i = some p → nth l j = some q → p.1 = q.1 → i = j
  | [], _, _, _, _, _, h, _, _ => nomatch h
  | a :: l, 0, 0, _, _, _, _, _, _ => rfl
  | a :: l, 0, j + 1, p, q, nd, h, h', e => by
    injection h with h; subst h
    rw [List.map_cons, List.nodup_cons] at nd
    exact absurd (List.mem_map.mpr ⟨q, mA j h', e.symm⟩) nd.1
  | a :: l, i + 1, 0, p, q, nd, h, h', e => by
    injection h' with h'; subst h'
    rw [List.map_cons, List.nodup_cons] at nd
    exact absurd (List.mem_map.mpr ⟨p, mA i h, e⟩) nd.1
  | a :: l, i + 1, j + 1, p, q, nd, h, h', e => by
    rw [List.map_cons, List.nodup_cons] at nd
    rw [nth_inj (l := l) nd.2 h h' e]
/-- some of the objects, by their places, and all from the n-th on -/
def pickT (hs : List (Addr × Kd)) (n : Nat) : List Nat → List (Addr × Kd)
  | [] => hs.drop n
  | j :: js => match nth hs j with
    | some p => p :: pickT hs n js
    | none => pickT hs n js
def okT (n : Nat) : List Nat → Bool
  | [] => true
  | j :: js => Nat.blt j n && !js.contains j && okT n js
theorem pickT_mem {hs : List (Addr × Kd)} {n : Nat} {p : Addr × Kd} : ∀ {js : List Nat}, p ∈ pickT hs n js → ∃ i, nth hs i = some p ∧ (i ∈ js ∨ n ≤ i)
  | [], h => by obtain ⟨i, a, b⟩ := nth_drop n h; exact ⟨i, b, .inr a⟩
  | j :: js, h => by
    unfold pickT at h
    split at h
    · rename_i q hq
      rcases List.mem_cons.mp h with rfl | h
      · exact ⟨j, hq, .inl (.head _)⟩
      · obtain ⟨i, a, b⟩ := pickT_mem h; exact ⟨i, a, b.imp (fun z => .tail _ z) id⟩
    · obtain ⟨i, a, b⟩ := pickT_mem h; exact ⟨i, a, b.imp (fun z => .tail _ z) id⟩
theorem pickT_nd {hs : List (Addr × Kd)} {n : Nat} (nd : (hs.map (·.1)).Nodup) : ∀ {js : List Nat}, okT n js = true → ((pickT hs n js).map (·.1)).Nodup
  | [], _ => by
    unfold pickT
    exact List.Sublist.nodup ((List.drop_sublist n hs).map _) nd
  | j :: js, h => by
    unfold okT at h
    simp only [Bool.and_eq_true, Bool.not_eq_true', Nat.blt_eq] at h
    obtain ⟨⟨h1, h2⟩, h3⟩ := h
    unfold pickT
    split
    · rename_i q hq
      rw [List.map_cons, List.nodup_cons]
      refine ⟨fun z => ?_, pickT_nd nd h3⟩
      obtain ⟨r, hr, e⟩ := List.mem_map.mp z
      obtain ⟨i, a, b⟩ := pickT_mem hr
      have := nth_inj nd a hq e
      subst this
      rcases b with b | b
      · have : js.contains i = true := List.contains_iff_mem.mpr b
        rw [h2] at this; cases this
      · omega
    · exact pickT_nd nd h3
theorem St.pick {f : Fx} {ls ls' hs hs' s} (S : St f ls hs s) (n : Nat) (js : List Nat) (h2 : pickT hs n js = hs' := by rfl) (h1 : ls'.map (fun p => ls.lookup p.1) = ls'.map (fun p => some p.2) := by rfl) (ok : okT n js = true := by rfl) : St f ls' hs' s := by
  subst h2
  exact (S.wl h1).weak (fun _ _ e => e) (fun p hp => let ⟨i, a, _⟩ := pickT_mem hp; mA i a) (pickT_nd S.nd ok)
/-- some of the objects, by their places -/
def pk0 (hs : List (Addr × Kd)) : List Nat → List (Addr × Kd)
  | [] => []
  | j :: js => match nth hs j with
    | some p => p :: pk0 hs js
    | none => pk0 hs js
theorem pk0_sub {hs : List (Addr × Kd)} {n : Nat} : ∀ js : List Nat, (pk0 hs js).Sublist (pickT hs n js)
  | [] => List.nil_sublist _
  | j :: js => by
    unfold pk0 pickT
    split
    · exact (pk0_sub js).cons_cons _
    · exact pk0_sub js
theorem St.ph0 {f : Fx} {ls hs s} (S : St f ls hs s) (js : List Nat) (ok : okT 1000 js = true := by rfl) : St f ls (pk0 hs js) s :=
  S.weak (fun _ _ e => e) (fun p hp => let ⟨i, a, _⟩ := pickT_mem ((pk0_sub (n := 1000) js).subset hp); mA i a) (((pk0_sub js).map _).nodup (pickT_nd S.nd ok))
theorem St.pick0 {f : Fx} {ls ls' hs hs' s} (S : St f ls hs s) (js : List Nat) (h2 : pk0 hs js = hs' := by rfl) (h1 : ls'.map (fun p => ls.lookup p.1) = ls'.map (fun p => some p.2) := by rfl) (ok : okT 1000 js = true := by rfl) : St f ls' hs' s := by
  subst h2
  exact (S.ph0 js ok).wl h1
theorem St.dis {f : Fx} {ls hs s} (S : St f ls hs s) {a b : Addr} {o o' : Kd} (i j : Nat) (hi : nth hs i = some (a, o) := by rfl) (hj : nth hs j = some (b, o') := by rfl) (h : (i == j) = false := by rfl) : a ≠ b := fun e => by
  have := nth_inj S.nd hi hj e
  subst this
  simp at h
theorem St.ph {f : Fx} {ls hs s} (S : St f ls hs s) (n : Nat) (js : List Nat) (ok : okT n js = true := by rfl) : St f ls (pickT hs n js) s :=
  S.weak (fun _ _ e => e) (fun p hp => let ⟨i, a, _⟩ := pickT_mem hp; mA i a) (pickT_nd S.nd ok)
theorem subT {hs hs' : List (Addr × Kd)} (n : Nat) (js : List Nat) (h : pickT hs n js = hs') : ∀ p ∈ hs', p ∈ hs := fun p hp => by
  subst h
  obtain ⟨i, a, _⟩ := pickT_mem hp
  exact mA i a
theorem sub0 {hs hs' : List (Addr × Kd)} (js : List Nat) (h : pk0 hs js = hs') : ∀ p ∈ hs', p ∈ hs := fun p hp => by
  subst h
  exact subT 1000 js rfl p ((pk0_sub js).subset hp)
/-- the room of a call, its name forgotten -/
theorem gA {α : Type} {M : Model} {A : Around} {k : Nat} {c : Sem α} {Q : α → Shared → Prop} {E : Value → Shared → Prop} {s : Shared} (ar : Ar A k) (h : ∀ A', Ar A' k → wpAny M A' c Q E s) : wpAny M A c Q E s := h A ar
theorem gAf {α : Type} {M : Model} {A : Around} {k : Nat} {env : Env} {outer : List Env} {c : Sem α} {Q : α → Shared → Prop} {E : Value → Shared → Prop} {s : Shared} (hfr : A.frames = some outer) (ar : Ar (A.deeper env) k) (h : ∀ A', Ar A' k → A'.frames = some (env :: outer) → wpAny M A' c Q E s) : wpAny M (A.deeper env) c Q E s := h _ ar (Around.frames_deeper hfr)
theorem idE {M : Model} {A : Around} {b : List Stmt} {Q : Flow → Shared → Prop} {E : Value → Shared → Prop} {s : Shared} (env : Env) (h : wpAny M A (execs b env) Q E s) : wpAny M A (execs b env) Q E s := h

/-- an opaque way on: the terms stay small -/
theorem opq {α : Type} {M : Model} {A : Around} {c : Sem α} {Q : α → Shared → Prop} {E : Value → Shared → Prop} {s : Shared} (h : ∀ Q' : α → Shared → Prop, (∀ a s', Q a s' → Q' a s') → wpAny M A c Q' E s) : wpAny M A c Q E s := h Q fun _ _ x => x
/-- nothing is raised -/
theorem noE {α : Type} {M : Model} {A : Around} {c : Sem α} {Q : α → Shared → Prop} {E : Value → Shared → Prop} {s : Shared} (h : wpAny M A c Q (fun _ _ => False) s) : wpAny M A c Q E s := wpAny_mono h (fun _ _ x => x) fun _ _ x => x.elim
theorem opqE {α : Type} {M : Model} {A : Around} {c : Sem α} {Q : α → Shared → Prop} {E : Value → Shared → Prop} {s : Shared} (h : ∀ E' : Value → Shared → Prop, (∀ a s', E a s' → E' a s') → wpAny M A c Q E' s) : wpAny M A c Q E s := h E fun _ _ x => x
end TF2
section TF3
-- lists of strs
theorem sa_append : ∀ {vs us : List Value} {xs ys : List Str}, StrsAre vs xs → StrsAre us ys → StrsAre (vs ++ us) (xs ++ ys)
  | _, _, _, _, .nil, h => h
  | _, _, _, _, .cons y t r, h => .cons y t (sa_append r h)
theorem sa_set : ∀ {vs : List Value} {xs : List Str} (i : Nat) (y : Str) (t : Tok), StrsAre vs xs → StrsAre (vs.set i (.str y t)) (xs.set i y)
  | _, _, _, _, _, .nil => .nil
  | _, _, 0, y, t, .cons _ _ r => .cons y t r
  | _, _, i + 1, y, t, .cons z u r => .cons z u (sa_set i y t r)
theorem sa_erase : ∀ {vs : List Value} {xs : List Str} (i : Nat), StrsAre vs xs → StrsAre (vs.eraseIdx i) (xs.eraseIdx i)
  | _, _, _, .nil => .nil
  | _, _, 0, .cons _ _ r => r
  | _, _, i + 1, .cons z u r => .cons z u (sa_erase i r)
theorem sa_take : ∀ {vs : List Value} {xs : List Str} (i : Nat), StrsAre vs xs → StrsAre (vs.take i) (xs.take i)
  | _, _, _, .nil => by simp; exact .nil
  | _, _, 0, .cons _ _ r => .nil
  | _, _, i + 1, .cons z u r => .cons z u (sa_take i r)
theorem sa_drop : ∀ {vs : List Value} {xs : List Str} (i : Nat), StrsAre vs xs → StrsAre (vs.drop i) (xs.drop i)
  | _, _, _, .nil => by simp; exact .nil
  | _, _, 0, .cons y t r => .cons y t r
  | _, _, i + 1, .cons z u r => sa_drop i r
theorem sa_one (y : Str) (t : Tok) : StrsAre [.str y t] [y] := .cons y t .nil
theorem sa_size {vs : Array Value} {xs : List Str} (h : StrsAre vs.toList xs) : vs.size = xs.length := by rw [← h.length]; simp
theorem sa_get {vs : Array Value} {xs : List Str} (h : StrsAre vs.toList xs) {i : Nat} {x : Str} (e : xs[i]? = some x) : ∃ t, vs[i]? = some (.str x t) := by
  obtain ⟨t, q⟩ := h.get i x e
  exact ⟨t, by rw [← Array.getElem?_toList]; exact q⟩

section
variable {g : Gx} (G : g.Ok)
include G
theorem Inv.upd {s : Shared} (I : Inv g s) {a : Addr} (ha : g.n ≤ a) (f : Obj → Obj) (t : Nat) : Inv g { s with heap := s.heap.update a f, toks := t } :=
  I.step G (fun b o hb e => ((Heap.SameBut.update ..).2 b (Nat.ne_of_lt (Nat.lt_of_lt_of_le hb ha))).trans e) (Nat.le_of_eq (Heap.SameBut.update ..).1.symm) rfl I.gens
theorem Inv.push {s : Shared} (I : Inv g s) (o : Obj) (t : Nat) : Inv g { s with heap := s.heap.push o, toks := t } :=
  I.step G (fun b o' hb e => Heap.get?_push_of_some _ e) (by show _ ≤ (s.heap.push o).objs.size; rw [Heap.size_push]; exact Nat.le_succ _) rfl I.gens
end

section
variable {prog : Program} {w : World} {f : Fx} {A : Around} {E : Value → Shared → Prop} {s : Shared} {ls : List (Str × Value)} {hs : List (Addr × Kd)} {env : Env}

/-- a new object on top -/
theorem St.push (S : St f ls hs s) (o : Obj) (t : Nat) (k : Kd) (hk : k.At (s.heap.push o) s.heap.objs.size) : St f ls ((s.heap.objs.size, k) :: hs) { s with heap := s.heap.push o, toks := t } :=
  S.more (S.inv.push S.ok o t) (Ext.push ..) (Nat.le_refl _) hk
theorem St.pushObj (S : St f ls hs s) (o : Obj) (t : Nat) (hf : o.isFreed = false) : St f ls ((s.heap.objs.size, .obj o) :: hs) { s with heap := s.heap.push o, toks := t } :=
  S.push o t _ (Heap.get?_push_size _ hf)
theorem St.pushSl (S : St f ls hs s) (t : Nat) {vs : Array Value} {ws : List Str} (h : StrsAre vs.toList ws) : St f ls ((s.heap.objs.size, .sl ws) :: hs) { s with heap := s.heap.push { cls := .type "list", data := .seq vs }, toks := t } :=
  S.push _ t _ ⟨vs, 0, IsL.new _ _, h⟩
/-- the first list turned -/
theorem St.turn (S : St f ls ((a, .sl ws) :: hs) s) (m : f.may a) {vs : Array Value} {n : Nat} (hl : IsL s.heap a vs n) (fn : Array Value → Array Value) {ws' : List Str} (h : StrsAre (fn vs).toList ws') (t : Nat) :
    St f ls ((a, .sl ws') :: hs) { s with heap := s.heap.update a (Obj.mapSeq fn), toks := t } :=
  S.upd (S.inv.upd S.ok (S.low (.head _)) _ t) (Ext.upd ..) m ⟨_, _, hl.update fn, h⟩

theorem r_getItem {a : Addr} {ws : List Str} {y : Str} {k : Int} {u : Tok} {Q : Value → Shared → Prop} (S : St f ls hs s) (hm : (a, .sl ws) ∈ hs) (h0 : 0 ≤ k) (hx : ws[k.toNat]? = some y) (hz : k < 2 ^ 63)
    (h : ∀ t, Q (.str y t) s) : wpAny (model prog w) A (getItem (.ref a) (.int k u)) Q E s := by
  obtain ⟨vs, n, hl, hv⟩ := S.get hm
  obtain ⟨t, e⟩ := sa_get hv hx
  exact wpAny_getItem_list hl.isList h0 hz e (h t)
theorem r_item {value slice : Expr} {a : Addr} {ws : List Str} {y : Str} {k : Int} {u : Tok} {Q : Value → Shared → Prop} (S : St f ls hs s) (hm : (a, .sl ws) ∈ hs) (h0 : 0 ≤ k) (hx : ws[k.toNat]? = some y) (hz : k < 2 ^ 63)
    (h : ∀ t, Q (.str y t) s) (hsl : subscripted slice false (.ref a) (.int k u) = operate [.ref a, .int k u] (getItem (.ref a) (.int k u)) := by with_unfolding_all rfl) :
    wpAny (model prog w) A (subscriptTail value slice (.ref a) (.int k u)) Q E s := by
  obtain ⟨vs, n, hl, hv⟩ := S.get hm
  exact tail_any hl.isList.typeIs slot_list_getitem.lookup (r_getItem S hm h0 hx hz h) hsl
theorem r_setItem {a : Addr} {ws : List Str} {k : Int} {u t : Tok} {y : Str} {Q : Unit → Shared → Prop} (S : St f ls ((a, .sl ws) :: hs) s) (m : f.may a) (h0 : 0 ≤ k) (hz : k < ws.length) (hb : k < 2 ^ 63)
    (h : ∀ s', St f ls ((a, .sl (ws.set k.toNat y)) :: hs) s' → Q () s') : wpAny (model prog w) A (setItem (.ref a) (.int k u) (.str y t)) Q E s := by
  obtain ⟨vs, n, hl, hv⟩ := S.get (.head _)
  refine ki_setAt hl h0 hb (by rw [sa_size hv]; omega) (h _ ?_)
  refine S.turn m hl _ ?_ s.toks
  have := sa_set k.toNat y t hv
  simpa using this

theorem r_itemN {value slice : Expr} {a : Addr} {ws : List Str} {y : Str} {i : Nat} {u : Tok} {Q : Value → Shared → Prop} (S : St f ls hs s) (hm : (a, .sl ws) ∈ hs) (hx : ws[i]? = some y) (hz : ws.length < 2 ^ 60)
    (h : ∀ t, Q (.str y t) s) (hsl : subscripted slice false (.ref a) (.int (i : Int) u) = operate [.ref a, .int (i : Int) u] (getItem (.ref a) (.int (i : Int) u)) := by with_unfolding_all rfl) :
    wpAny (model prog w) A (subscriptTail value slice (.ref a) (.int (i : Int) u)) Q E s := by
  have := (List.getElem?_eq_some_iff.mp hx).1
  exact r_item S hm (by omega) (by simpa using hx) (by omega) h hsl
theorem r_setN {a : Addr} {ws : List Str} {i : Nat} {u t : Tok} {y : Str} {Q : Unit → Shared → Prop} (S : St f ls ((a, .sl ws) :: hs) s) (m : f.may a) (hi : i < ws.length) (hz : ws.length < 2 ^ 60)
    (h : ∀ s', St f ls ((a, .sl (ws.set i y)) :: hs) s' → Q () s') : wpAny (model prog w) A (setItem (.ref a) (.int (i : Int) u) (.str y t)) Q E s :=
  r_setItem S m (by omega) (by omega) (by omega) (by simpa using h)
theorem r_add {a b : Int} {t u : Tok} {Q : Value → Shared → Prop} (S : St f ls hs s) (h : ∀ t s', St f ls hs s' → Q (.int (a + b) t) s') : wpAny (model prog w) A (binaryOp .Add (.int a t) (.int b u)) Q E s :=
  P.add_int (h _ _ (S.tok _))
theorem r_sub {a b : Int} {t u : Tok} {Q : Value → Shared → Prop} (S : St f ls hs s) (h : ∀ t s', St f ls hs s' → Q (.int (a - b) t) s') : wpAny (model prog w) A (binaryOp .Sub (.int a t) (.int b u)) Q E s :=
  P.sub_int (h _ _ (S.tok _))
theorem r_iadd {a b : Int} {t u : Tok} {Q : Value → Shared → Prop} (S : St f ls hs s) (h : ∀ t s', St f ls hs s' → Q (.int (a + b) t) s') : wpAny (model prog w) A (inplaceOp .Add (.int a t) (.int b u)) Q E s :=
  P.iadd_int (h _ _ (S.tok _))
theorem r_mul {a b : Int} {t u : Tok} {Q : Value → Shared → Prop} (S : St f ls hs s) (h : ∀ t s', St f ls hs s' → Q (.int (a * b) t) s') (hm : IntMulOk a b := by mul_fits) : wpAny (model prog w) A (binaryOp .Mult (.int a t) (.int b u)) Q E s :=
  P.mul_int (h _ _ (S.tok _)) hm
theorem r_neg {a : Int} {t : Tok} {Q : Value → Shared → Prop} (S : St f ls hs s) (h : ∀ t s', St f ls hs s' → Q (.int (-a) t) s') : wpAny (model prog w) A (unaryOp .USub (.int a t)) Q E s :=
  P.neg_int (h _ _ (S.tok _))
theorem r_shr {a n : Int} {t u : Tok} {Q : Value → Shared → Prop} (S : St f ls hs s) (hn : 0 ≤ n) (h : ∀ t s', St f ls hs s' → Q (.int (a.fdiv (2 ^ n.toNat)) t) s') : wpAny (model prog w) A (binaryOp .RShift (.int a t) (.int n u)) Q E s :=
  rshift_int hn (h _ _ (S.tok _))

end
def slt (x y : Str) : Bool := decide (x.cps.toList < y.cps.toList)
theorem str_eq {x y : Str} : (x.cps.toList == y.cps.toList) = decide (x = y) := by
  by_cases h : x = y
  · subst h; simp
  · simp only [h, decide_false]
    cases q : x.cps.toList == y.cps.toList with
    | false => rfl
    | true => exact absurd (by cases x; cases y; simp at q; rw [Str.mk.injEq]; exact q) h
section
variable {M : Model} {prog : Program} {w : World} {A : Around} {E : Value → Shared → Prop} {s : Shared} {x y : Str} {t u : Tok} {Q : Value → Shared → Prop}
theorem r_slt (h : Q (.bool (slt x y)) s) : wpAny (model prog w) A (compareOp .Lt (.str x t) (.str y u)) Q E s := P.lt_str h
theorem r_sgt (h : Q (.bool (slt y x)) s) : wpAny (model prog w) A (compareOp .Gt (.str x t) (.str y u)) Q E s := P.gt_str h
theorem r_seq (h : Q (.bool (decide (x = y))) s) : wpAny (model prog w) A (compareOp .Eq (.str x t) (.str y u)) Q E s := P.eq_str (by rw [str_eq]; exact h)
end
end TF3
section TF4
def FnAt (s : Shared) (a : Addr) : Prop := ∃ o fd, s.heap.get? a = some o ∧ o.data = .func fd
section
variable {M : Model} {A : Around} {E : Value → Shared → Prop} {s : Shared} {env : Env} {Q : Value → Shared → Prop}
theorem r_Call {x : Str} {p pos : Pos} {args : List Expr} (h : wpAny M A (eval (.Name x p) env) (fun f s₁ => wpAny M A (callWith pos f [] (backTo pos (starEach args env)) []) Q E s₁) E s) :
    wpAny M A (eval (.Call (.Name x p) args [] pos) env) Q E s := wpAny_Call_Name_kw h
theorem r_cwF {pos : Pos} {a : Addr} {first : List Value} {e : Expr} {rest : List Expr}
    (h : wpAny M A (spliced (backTo pos (starEach (e :: rest) env))) (fun vs s₁ => FnAt s₁ a ∧ wpAny M A (call (.ref a) (first ++ vs)) Q E s₁) E s)
    (he : starEach (e :: rest) env = (false, eval e env) :: starEach rest env := by rfl) :
    wpAny M A (callWith pos (.ref a) first (backTo pos (starEach (e :: rest) env)) []) Q E s := by
  have key : wpAny M A (evalArgs (.ref a) true (backTo pos (starEach (e :: rest) env)) []) (fun x s₁ => FnAt s₁ a ∧ wpAny M A (call (.ref a) (first ++ x.pos) x.kw) Q E s₁) E s := by
    rw [he] at h ⊢
    exact evalArgs_plain h
  unfold callWith
  refine wpAny_bind (wpAny_holding (wpAny_mono key (fun x s₁ h₁ => wpAny_bind (wpAny_standAt ?_)) fun _ _ x => x))
  obtain ⟨⟨o, fd, ho, hd⟩, h₁⟩ := h₁
  have tail : ∀ {t : Sem Value}, wpAny M A t Q E s₁ → wpAny M A (t >>= fun r => holding [r] point >>= fun _ => pure r) Q E s₁ :=
    fun ht => wpAny_bind (wpAny_mono ht (fun r s₂ hr => wpAny_bind (wpAny_holding (wpAny_point (wpAny_pure hr)))) fun _ _ x => x)
  cases hs : ((backTo pos (starEach (e :: rest) env)).any (·.1) || ([] : List (Option Str × Sem Value)).any (·.1.isNone)) <;>
    refine wpAny_bind (m := keeperOf (.ref a)) ?_ <;> unfold keeperOf <;>
    refine wpAny_bind (wpAny_load ho ?_) <;> rw [hd] <;> refine wpAny_pure ?_
  · first
      | refine wpAny_ite ?_
      | skip
    split <;> first
      | exact tail h₁
      | exact tail (by unfold callMarked; exact Calls.wpAny_keep h₁)
  · first
      | exact tail (by unfold callMarked; exact Calls.wpAny_keep h₁)
      | exact tail h₁
end
theorem fn_at {f : Fx} {ls hs} {s : Shared} (S : St f ls hs s) {a : Addr} {oc : Value} {od : Option Addr} {fd : FuncData} {osl : Array (Option Value)} (e : (KF f.g.w).lookup a = some ⟨oc, od, .func fd, osl⟩) (n : a ∉ tabs) :
    FnAt s a := ⟨_, fd, S.inv.at S.ok e n, rfl⟩

section
variable {prog : Program} {w : World} {f : Fx} {A : Around} {E : Value → Shared → Prop} {s : Shared} {ls : List (Str × Value)} {hs : List (Addr × Kd)} {env : Env} {Q : Value → Shared → Prop}
/-- a method of a list -/
theorem r_gm {a : Addr} {ws : List Str} {name : Str} {id : String} {pl : Sem Bool} {Q : Value × List Value → Shared → Prop} (S : St f ls hs s) (hm : (a, .sl ws) ∈ hs) (slot : Slot "list" name id) (hty : typeOf (.builtin id) = pure (.type "method_descriptor")) (h : Q (.builtin id, [.ref a]) s) :
    wpAny (model prog w) A (getMethod (.ref a) name pl) Q E s := by
  obtain ⟨vs, n, hl, hv⟩ := S.get hm
  exact getMethod_builtin hl.isList.typeIs F.plainAttrs_list slot hty (fun b e => ⟨_, (Value.ref.inj e) ▸ hl, rfl⟩) h
theorem r_len {a : Addr} {ws : List Str} (S : St f ls hs s) (hm : (a, .sl ws) ∈ hs) (hz : ws.length < 2 ^ 60) (h : ∀ t s', St f ls hs s' → Q (.int ws.length t) s') : wpAny (model prog w) A (call (.builtin "len") [.ref a]) Q E s := by
  obtain ⟨vs, n, hl, hv⟩ := S.get hm
  have e := sa_size hv
  refine call_len_list hl.isList (by omega) ?_
  rw [e]
  exact h _ _ (S.tok _)
theorem r_append {a : Addr} {ws : List Str} {y : Str} {t : Tok} (S : St f ls ((a, .sl ws) :: hs) s) (m : f.may a) (hz : ws.length ≤ sizeLine) (h : ∀ s', St f ls ((a, .sl (ws ++ [y])) :: hs) s' → Q .none s') :
    wpAny (model prog w) A (call (.builtin "list.append") [.ref a, .str y t]) Q E s := by
  obtain ⟨vs, n, hl, hv⟩ := S.get (.head _)
  refine call_meets F.slot_list_append hl.isList.typeIs F.entry_list_append (F.args_list_append_2 _ _) (list_append a vs n _ (by rw [sa_size hv]; exact hz)) ⟨hl, h _ ?_⟩
  exact S.turn m hl _ (by simpa using sa_append hv (sa_one y t)) s.toks
theorem r_pop {a : Addr} {ws : List Str} {y : Str} (S : St f ls ((a, .sl (ws ++ [y])) :: hs) s) (m : f.may a) (hz : ws.length < sizeLine) (h : ∀ t s', St f ls ((a, .sl ws) :: hs) s' → Q (.str y t) s') :
    wpAny (model prog w) A (call (.builtin "list.pop") [.ref a]) Q E s := by
  obtain ⟨vs, n, hl, hv⟩ := S.get (.head _)
  have e := sa_size hv
  rw [List.length_append, List.length_singleton] at e
  obtain ⟨t, q⟩ := sa_get hv (i := vs.size - 1) (x := y) (by rw [e]; simp)
  refine call_meets F.slot_list_pop hl.isList.typeIs F.entry_list_pop (F.args_list_pop_1 _) (MeetsSeq.list_pop_last a vs n _ q (by omega)) ⟨hl, h t _ ?_⟩
  refine S.turn m hl _ ?_ s.toks
  have z := sa_erase (vs.size - 1) hv
  rw [e] at z
  have e2 : (ws ++ [y]).eraseIdx (ws.length + 1 - 1) = ws := by rw [Nat.add_sub_cancel, List.eraseIdx_append_of_length_le (Nat.le_refl _)]; simp
  rw [e2] at z
  have e3 : (vs.eraseIdxIfInBounds (vs.size - 1)).toList = vs.toList.eraseIdx (ws.length + 1 - 1) := by
    rw [e]; simp [Array.eraseIdxIfInBounds, e]
  rw [e3]; exact z
end
end TF4
section TF5
-- slices
def slObj (l u : Value) : Obj := { cls := .type "slice", data := .fields #[l, u, .none] }
def pk (ws : List Str) (lo hi : Option Int) : List Str := (ws.drop (lo.elim 0 (clipAt ws.length))).take (hi.elim ws.length (clipAt ws.length) - lo.elim 0 (clipAt ws.length))
theorem pk_all (ws : List Str) : pk ws none none = ws := by simp [pk]
theorem clip_nat (n k : Nat) : clipAt n (k : Int) = min k n := by
  unfold clipAt; rw [if_neg (by omega)]; omega
theorem pk_upto (ws : List Str) (k : Nat) : pk ws none (some (k : Int)) = ws.take k := by
  simp [pk, clip_nat, List.take_eq_take_iff]
theorem pk_from (ws : List Str) (k : Nat) : pk ws (some (k : Int)) none = ws.drop k := by
  simp only [pk, clip_nat, Option.elim]
  rw [List.take_of_length_le (by simp)]
  by_cases h : k ≤ ws.length
  · rw [Nat.min_eq_left h]
  · rw [Nat.min_eq_right (by omega), List.drop_length, List.drop_of_length_le (by omega)]
theorem pk_butlast (ws : List Str) : pk ws none (some (-1)) = ws.dropLast := by
  simp only [pk, Option.elim, List.drop_zero, Nat.sub_zero, List.dropLast_eq_take]
  congr 1
  unfold clipAt
  rw [if_pos (by decide)]; omega

def SlNext (Q : Value → Shared → Prop) (l u : Value) (s : Shared) : Prop := Q (.ref s.heap.objs.size) { s with heap := s.heap.push (slObj l u) }
section
variable {M : Model} {A : Around} {E : Value → Shared → Prop} {s : Shared} {env : Env} {Q : Value → Shared → Prop}
theorem r_Slice {lower upper : Option Expr} {p : Pos} (h : wpAny M A (valueOrNone (evalOpt lower env)) (fun l s₁ => wpAny M A (valueOrNone (evalOpt upper env)) (fun u s₂ => SlNext Q l u s₂) E s₁) E s) :
    wpAny M A (eval (.Slice lower upper none p) env) Q E s := by
  show wpAny M A (do
    let l ← valueOrNone (evalOpt lower env)
    let u ← holding [l] (valueOrNone (evalOpt upper env))
    let s ← holding [l, u] (valueOrNone (evalOpt none env))
    newFields "slice" [l, u, s]) Q E s
  refine wpAny_bind (wpAny_mono h (fun l s₁ h₁ => wpAny_bind (wpAny_holding (wpAny_mono h₁ (fun u s₂ h₂ => wpAny_bind (wpAny_holding (wpAny_pure ?_))) fun _ _ x => x))) fun _ _ x => x)
  exact wpAny_newObj_type h₂ (by size_fits)
theorem r_partN (h : Q .none s) : wpAny M A (valueOrNone (evalOpt none env)) Q E s := wpAny_pure h
theorem r_partS {e : Expr} (h : wpAny M A (eval e env) Q E s) : wpAny M A (valueOrNone (evalOpt (some e) env)) Q E s := h
end

section
variable {prog : Program} {w : World} {f : Fx} {A : Around} {E : Value → Shared → Prop} {s : Shared} {ls : List (Str × Value)} {hs : List (Addr × Kd)} {env : Env} {Q : Value → Shared → Prop}
theorem r_slnext {l u : Value} (S : St f ls hs s) (h : ∀ b s', St f ls ((b, .obj (slObj l u)) :: hs) s' → Q (.ref b) s') : SlNext Q l u s := h _ _ (S.pushObj (slObj l u) s.toks rfl)
theorem r_sliceTail {value slice : Expr} {a b : Addr} {ws : List Str} {vl vu : Value} {lo hi : Option Int} {ops : List Value} (S : St f ls ((b, .obj (slObj vl vu)) :: hs) s) (hm : (a, .sl ws) ∈ hs) (pl : IsPart vl lo) (pu : IsPart vu hi) (hz : ws.length ≤ sizeLine)
    (h : ∀ c s', s.heap.objs.size ≤ c → St f ls ((c, .sl (pk ws lo hi)) :: hs) s' → Q (.ref c) s')
    (hsl : subscripted slice false (.ref a) (.ref b) = operate ops (getItem (.ref a) (.ref b)) := by with_unfolding_all rfl) :
    wpAny (model prog w) A (subscriptTail value slice (.ref a) (.ref b)) Q E s := by
  obtain ⟨vs, n, hl, hv⟩ := S.get (.tail _ hm)
  have hb : s.heap.get? b = some (slObj vl vu) := S.get (.head _)
  have e := sa_size hv
  refine tail_any hl.isList.typeIs slot_list_getitem.lookup (wpAny_getItem_list_slice hl.isList ⟨_, hb, rfl, rfl⟩ pl pu .none (by simp) ?_ (by omega)) hsl
  refine h _ _ (Nat.le_refl _) (S.drop.pushSl s.toks ?_)
  rw [slicePick_plain, e]
  simpa [pk] using sa_take _ (sa_drop _ hv)
theorem r_addL {a b : Addr} {ws us : List Str} (S : St f ls hs s) (ha : (a, .sl ws) ∈ hs) (hb : (b, .sl us) ∈ hs) (hz : ws.length + us.length ≤ sizeLine)
    (h : ∀ c s', s.heap.objs.size ≤ c → St f ls ((c, .sl (ws ++ us)) :: hs) s' → Q (.ref c) s') : wpAny (model prog w) A (binaryOp .Add (.ref a) (.ref b)) Q E s := by
  obtain ⟨vs, n, hl, hv⟩ := S.get ha
  obtain ⟨vs', n', hl', hv'⟩ := S.get hb
  refine P.add_list hl hl' (h _ _ (Nat.le_refl _) (S.pushSl s.toks ?_)) (by rw [sa_size hv, sa_size hv']; exact hz)
  simpa using sa_append hv hv'
theorem r_truthL {a : Addr} {ws : List Str} {Q : Bool → Shared → Prop} (S : St f ls hs s) (hm : (a, .sl ws) ∈ hs) (hz : ws.length < 2 ^ 60) (h : ∀ s', St f ls hs s' → Q (!ws.isEmpty) s') : wpAny (model prog w) A (truthy (.ref a)) Q E s := by
  obtain ⟨vs, n, hl, hv⟩ := S.get hm
  have e := sa_size hv
  refine wpAny_truthy_list hl.isList (by omega) ?_
  have : vs.isEmpty = ws.isEmpty := by
    rw [Bool.eq_iff_iff]
    simp only [Array.isEmpty_iff_size_eq_zero, List.isEmpty_iff_length_eq_zero, e]
  rw [this]
  exact h _ (S.tok _)

-- ranges
def riObj (x left step : Int) : Obj := { cls := .type "range_iterator", data := .fields #[rawInt x, rawInt left, rawInt step] }
def rgObj (a b c : Int) (t u v : Tok) : Obj := { cls := .type "range", data := .fields #[.int a t, .int b u, .int c v] }
theorem r_range1 {n : Int} {t : Tok} (S : St f ls hs s) (h : ∀ r s' t₁ t₂ t₃, St f ls ((r, .obj (rgObj 0 n 1 t₁ t₂ t₃)) :: hs) s' → Q (.ref r) s') : wpAny (model prog w) A (call (.type "range") [.int n t]) Q E s :=
  call_range_1 (h _ _ _ _ _ (S.pushObj (rgObj 0 n 1 s.toks t (s.toks + 1)) _ rfl))
theorem r_iterR {r : Addr} {a b c : Int} {t u v : Tok} (S : St f ls ((r, .obj (rgObj a b c t u v)) :: hs) s) (hsm : Builtin.Range.small a b c = true) (h : ∀ it s', f.may it → St f ls ((it, .obj (riObj a (Builtin.Range.rangeSize a b c) c)) :: hs) s' → Q (.ref it) s') :
    wpAny (model prog w) A (pyIter (.ref r)) Q E s :=
  wpAny_pyIter_range (S.get (.head _)) hsm (h _ _ (.inr S.ext.1) (S.drop.pushObj (riObj a (Builtin.Range.rangeSize a b c) c) s.toks rfl))
theorem r_nextR {it : Addr} {x left step : Int} {Q : Option Value → Shared → Prop} (S : St f ls ((it, .obj (riObj x left step)) :: hs) s) (m : f.may it) (hl : 0 < left) (h : ∀ t s', St f ls ((it, .obj (riObj (x + step) (left - 1) step)) :: hs) s' → Q (some (.int x t)) s') :
    wpAny (model prog w) A (pyNext (.ref it)) Q E s :=
  wpAny_pyNext_range_item (S.get (.head _)) hl fun h' hi hs => h _ _ (S.upd (S.inv.step S.ok (fun b o hb e => (hs.2 b (Nat.ne_of_lt (Nat.lt_of_lt_of_le hb (S.low (.head _))))).trans e) (Nat.le_of_eq hs.1.symm) rfl S.inv.gens) (Ext.same hs) m hi)
theorem ext_of {a : Addr} {h h' : Heap} (e : Heap.ExtBut a h h') (z : h.objs.size ≤ h'.objs.size) : Ext [a] h h' := ⟨z, fun b o eb hb _ => e b o (by simpa using hb) eb⟩
theorem St.gone (S : St f ls ((a, k) :: hs) s) {h' : Heap} (e : Heap.ExtBut a s.heap h') (z : s.heap.objs.size ≤ h'.objs.size) (m : f.may a) (t : Nat) : St f ls hs { s with heap := h', toks := t } := by
  have nd := S.nd
  rw [List.map_cons, List.nodup_cons] at nd
  refine S.next (S.inv.step S.ok (fun b o hb q => e b o (Nat.ne_of_lt (Nat.lt_of_lt_of_le hb (S.low (.head _)))) q) z rfl S.inv.gens) (ext_of e z) (by simp; exact fun q => S.ne (.head _) q.symm) (by simpa using m) (fun p hp => .inl ⟨.tail _ hp, ?_⟩) nd.2
  simp; exact fun q => nd.1 (by have z := List.mem_map_of_mem (f := fun p : Addr × Kd => p.1) hp; rwa [q] at z)
theorem r_endR {it : Addr} {x left step : Int} {Q : Option Value → Shared → Prop} (S : St f ls ((it, .obj (riObj x left step)) :: hs) s) (m : f.may it) (hh : A.handled = none) (hl : left ≤ 0) (h : ∀ s', St f ls hs s' → Q none s') :
    wpAny (model prog w) A (pyNext (.ref it)) Q E s := by
  refine wpAny_size (wpAny_pyNext_range_end hh (S.get (.head _)) hl fun h' e z => h _ (S.gone e z m s.toks))

-- lists walked
def liP (l : Addr) (i : Nat) (o : Obj) : Prop := o.cls = .type "list_iterator" ∧ o.data = .fields #[.ref l, .int i 0]
theorem r_iterL {a : Addr} {ws : List Str} (S : St f ls hs s) (hm : (a, .sl ws) ∈ hs) (h : ∀ it s', f.may it → St f ls ((it, .is (liP a 0)) :: hs) s' → Q (.ref it) s') : wpAny (model prog w) A (pyIter (.ref a)) Q E s := by
  obtain ⟨vs, n, hl, hv⟩ := S.get hm
  refine wpAny_pyIter_list hl.isList (h _ _ (.inr S.ext.1) (S.push { cls := .type "list_iterator", data := .fields #[.ref a, .int 0 0] } s.toks _ ⟨_, Heap.get?_push_size _ rfl, rfl, rfl⟩))
theorem r_nextL {it a : Addr} {i : Nat} {ws : List Str} {y : Str} {Q : Option Value → Shared → Prop} (S : St f ls ((it, .is (liP a i)) :: hs) s) (hm : (a, .sl ws) ∈ hs) (m : f.may it) (hx : ws[i]? = some y)
    (h : ∀ t s', St f ls ((it, .is (liP a (i + 1))) :: hs) s' → Q (some (.str y t)) s') : wpAny (model prog w) A (pyNext (.ref it)) Q E s := by
  obtain ⟨vs, n, hl, hv⟩ := S.get (.tail _ hm)
  obtain ⟨t, e⟩ := sa_get hv hx
  obtain ⟨o, ho, hp⟩ := S.get (.head _)
  exact wpAny_pyNext_list_item ⟨o, ho, hp⟩ hl.isList e fun h' hi hs => h t _ (S.upd (S.inv.step S.ok (fun b o hb e => (hs.2 b (Nat.ne_of_lt (Nat.lt_of_lt_of_le hb (S.low (.head _))))).trans e) (Nat.le_of_eq hs.1.symm) rfl S.inv.gens) (Ext.same hs) m hi)
theorem r_endL {it a : Addr} {i : Nat} {ws : List Str} {Q : Option Value → Shared → Prop} (S : St f ls ((it, .is (liP a i)) :: hs) s) (hm : (a, .sl ws) ∈ hs) (m : f.may it) (hh : A.handled = none) (hx : ws[i]? = none) (h : ∀ s', St f ls hs s' → Q none s') :
    wpAny (model prog w) A (pyNext (.ref it)) Q E s := by
  obtain ⟨vs, n, hl, hv⟩ := S.get (.tail _ hm)
  obtain ⟨o, ho, hp⟩ := S.get (.head _)
  have hx' : vs[i]? = none := by
    rw [Array.getElem?_eq_none_iff, sa_size hv]; simpa using hx
  exact wpAny_size (wpAny_pyNext_list_end hh ⟨o, ho, hp⟩ hl.isList hx' fun h' e z => h _ (S.gone e z m s.toks))
end
end TF5
section TF6
section
variable {prog : Program} {w : World} {A : Around} {E : Value → Shared → Prop} {s : Shared}
theorem sub_ri_rev : isSubtype (.type "range_iterator") (.type "reversed") = pure false := by rw [isSubtype_type]; kernel_rfl
theorem call_range_rev {r : Addr} {n : Int} {t u v : Tok} {Q : Value → Shared → Prop} (hr : s.heap.get? r = some (rgObj 0 n 1 t u v)) (h0 : 0 ≤ n) (h1 : n < 2 ^ 60)
    (h : Q (.ref s.heap.objs.size) { s with heap := s.heap.push (riObj (n - 1) n (-1)) }) : wpAny (model prog w) A (call (.builtin "range.__reversed__") [.ref r]) Q E s := by
  have hT : s.TypeIs (.ref r) "range" := ⟨_, hr, rfl⟩
  refine wpAny_call_entry F.slot_range_reversed hT F.entry_range_reversed ?_ (F.args_range_reversed_1 _)
  unfold Builtin.«range.__reversed__»
  refine wpAny_bind (wpAny_of_eq (a := Value.ref r) rfl ?_)
  have hf : wpAny (model prog w) A.in1 (Builtin.Range.rangeFields (.ref r)) (fun x s' => x = (0, n, 1) ∧ s' = s) E s := by
    unfold Builtin.Range.rangeFields
    refine wpAny_bind (wpAny_field hr rfl (x := .int 0 t) rfl ?_)
    refine wpAny_bind (wpAny_of_eq (a := some (0 : Int)) rfl ?_)
    refine wpAny_bind (wpAny_field hr rfl (x := .int n u) rfl ?_)
    refine wpAny_bind (wpAny_of_eq (a := some n) rfl ?_)
    refine wpAny_bind (wpAny_field hr rfl (x := .int 1 v) rfl ?_)
    refine wpAny_bind (wpAny_of_eq (a := some (1 : Int)) rfl ?_)
    exact wpAny_pure ⟨rfl, rfl⟩
  refine wpAny_bind (wpAny_mono hf ?_ fun _ _ e => e)
  rintro x s' ⟨rfl, rfl⟩
  have hsz : Builtin.Range.rangeSize 0 n 1 = n := by rw [rangeSize_one]; split <;> omega
  have hsm : (Builtin.Range.rangeFitsLong 0 && Builtin.Range.rangeFitsLong n && Builtin.Range.rangeFitsLong 1 && Builtin.Range.rangeFitsLong (-1) && Builtin.Range.rangeFitsLong (0 - 1) && Builtin.Range.rangeFitsLong (Builtin.Range.rangeSize 0 n 1)) = true := by
    rw [hsz]
    simp only [Builtin.Range.rangeFitsLong, Bool.and_eq_true, decide_eq_true_eq]
    omega
  try dsimp only
  rw [hsm]
  simp only [Bool.not_true, Bool.false_eq_true, if_false, if_true]
  rw [hsz]
  unfold newFields
  refine wpAny_bind (wpAny_newObj_type (wpAny_pure ⟨_, rfl, ?_⟩) (by size_fits))
  have e : (0 : Int) + (n - 1) * 1 = n - 1 := by omega
  rw [e]
  exact h
theorem code_rev_new {r : Addr} {n : Int} {t u v : Tok} {Q₁ : Value → Shared → Prop} (hr : s.heap.get? r = some (rgObj 0 n 1 t u v)) (h0 : 0 ≤ n) (h1 : n < 2 ^ 60)
    (h : Q₁ (.ref s.heap.objs.size) { s with heap := s.heap.push (riObj (n - 1) n (-1)) }) :
    codeAny (model prog w) A (.call (.builtin "reversed.__new__") ⟨[.type "reversed", .ref r], []⟩) (wants Q₁ E) s := by
  have hT : s.TypeIs (.ref r) "range" := ⟨_, hr, rfl⟩
  refine codeAny_of_tree ?_
  show wpAny _ A.in1 (do checkBuiltinCall "reversed.__new__" ⟨[.type "reversed", .ref r], []⟩; again (.builtin "reversed.__new__" ⟨[.type "reversed", .ref r], []⟩)) _ _ s
  refine wpAny_bind (wpAny_of_eq (F.newCall_reversed_1 _) (wpAny_pure ⟨plainId_quiet F.plain_reversed_new _, codeAny_builtin F.entry_reversed_new ?_⟩))
  rw [Around.under_plainId F.plain_reversed_new _]
  unfold Builtin.«reversed.__new__»
  refine wpAny_bind (wpAny_of_eq (newClass_reversed _) ?_)
  try dsimp only
  refine wpAny_bind (wpAny_of_eq (a := ()) (by first | rfl | kernel_rfl) ?_)
  refine wpAny_bind (wpAny_of_eq (a := ()) (by first | rfl | kernel_rfl) ?_)
  try dsimp only
  refine wpAny_bind (wpAny_specialOf hT F.slot_range_reversed.lookup ?_)
  try dsimp only
  refine wpAny_bind (wpAny_of_eq (F.slot_range_reversed.bind _) ?_)
  try dsimp only
  first | rw [if_neg (show ¬ ((Value.builtin "range.__reversed__" == Value.none) = true) from Bool.false_ne_true)] | (show wpAny _ _ (if (Value.builtin "range.__reversed__" == Value.none) = true then _ else _) _ _ _; rw [if_neg (show ¬ ((Value.builtin "range.__reversed__" == Value.none) = true) from Bool.false_ne_true)])
  refine wpAny_bind (wpAny_rule ?_)
  refine wpAny_bind (m := runValue (.call (.builtin "range.__reversed__") ⟨[.ref r], []⟩)) (show wpAny _ _ (call (.builtin "range.__reversed__") [.ref r]) _ _ _ from call_range_rev hr h0 h1 ?_)
  first
  | exact wpAny_pure h
  | exact wpAny_bind (wpAny_pure (wpAny_pure h))
theorem call_rev_range {r : Addr} {n : Int} {t u v : Tok} {Q : Value → Shared → Prop} (hr : s.heap.get? r = some (rgObj 0 n 1 t u v)) (h0 : 0 ≤ n) (h1 : n < 2 ^ 60)
    (h : Q (.ref s.heap.objs.size) { s with heap := s.heap.push (riObj (n - 1) n (-1)) }) : wpAny (model prog w) A (call (.type "reversed") [.ref r]) Q E s := by
  refine callType_other (U := "range_iterator") (Q₁ := fun obj s₁ => obj = .ref s.heap.objs.size ∧ s₁ = { s with heap := s.heap.push (riObj (n - 1) n (-1)) }) (by decide +kernel) F.create_reversed ⟨_, _, F.mro_reversed⟩ F.made_reversed sub_ri_rev (F.typeCall_reversed_1 _) (code_rev_new hr h0 h1 ⟨rfl, rfl⟩) ?_
  rintro obj s₁ ⟨rfl, rfl⟩
  exact ⟨⟨_, Heap.get?_push_size _ rfl, rfl⟩, h⟩
theorem pyIter_ri {it : Addr} {x left step : Int} {Q : Value → Shared → Prop} (hit : s.heap.get? it = some (riObj x left step)) (h : Q (.ref it) s) : wpAny (model prog w) A (pyIter (.ref it)) Q E s := by
  have hT : s.TypeIs (.ref it) "range_iterator" := ⟨_, hit, rfl⟩
  refine wpAny_pyIter_slot hT F.slot_range_iterator_iter (wpAny_call_entry F.slot_range_iterator_iter hT F.entry_range_iterator_iter ?_ (F.args_range_iterator_iter_1 _))
  show wpAny _ _ (ret (.ref it)) _ _ s
  exact wpAny_pure ⟨_, rfl, "range_iterator", _, hT, F.slot_range_iterator_next.lookup, h⟩
end
section
variable {prog : Program} {w : World} {f : Fx} {A : Around} {E : Value → Shared → Prop} {s : Shared} {ls : List (Str × Value)} {hs : List (Addr × Kd)} {env : Env} {Q : Value → Shared → Prop}
theorem r_rev {r : Addr} {n : Int} {t u v : Tok} (S : St f ls ((r, .obj (rgObj 0 n 1 t u v)) :: hs) s) (h0 : 0 ≤ n) (h1 : n < 2 ^ 60) (h : ∀ it s', f.may it → St f ls ((it, .obj (riObj (n - 1) n (-1))) :: hs) s' → Q (.ref it) s') :
    wpAny (model prog w) A (call (.type "reversed") [.ref r]) Q E s :=
  call_rev_range (S.get (.head _)) h0 h1 (h _ _ (.inr S.ext.1) (S.drop.pushObj (riObj (n - 1) n (-1)) s.toks rfl))
theorem r_fdiv {a b : Int} {t u : Tok} (S : St f ls hs s) (hb : b ≠ 0) (hp : Builtin.divisionGoesByPylong a b = false) (h : ∀ t s', St f ls hs s' → Q (.int (a.fdiv b) t) s') : wpAny (model prog w) A (binaryOp .FloorDiv (.int a t) (.int b u)) Q E s :=
  floordiv_int hb (h _ _ (S.tok _)) (.inl hp)
theorem r_mod {a b : Int} {t u : Tok} (S : St f ls hs s) (hb : b ≠ 0) (h : ∀ t s', St f ls hs s' → Q (.int (a.fmod b) t) s') : wpAny (model prog w) A (binaryOp .Mod (.int a t) (.int b u)) Q E s :=
  mod_int' hb (h _ _ (S.tok _))
end
end TF6
section TF7
def tupObj (vs : List Value) : Obj := { cls := .type "tuple", data := .seq vs.toArray }
-- data
def okw (ws : List Str) : Prop := ∀ x ∈ ws, PyData.strOk x = true
theorem reads_sl {h : Heap} {a : Addr} {ws : List Str} (x : (Kd.sl ws).At h a) : Reads h (.ref a) (.list (ws.map .str)) [a] := by
  obtain ⟨vs, n, hl, hv⟩ := x
  exact .list hl rfl rfl (strs_readAll h hv)
theorem canLay_strs : ∀ {ws : List Str}, okw ws → PyData.canLayAll0 (ws.map .str) = true
  | [], _ => rfl
  | x :: r, h => by
    rw [List.map_cons, PyData.canLayAll0, PyData.canLay0, h x (.head _), canLay_strs fun y hy => h y (.tail _ hy)]; rfl
theorem depth_strs : ∀ (ws : List Str), PyData.depthAll (ws.map .str) = 0
  | [] => rfl
  | x :: r => by rw [List.map_cons, PyData.depthAll, depth_strs r]; rfl
theorem shaped_strs {ws : List Str} (h : okw ws) : SeqAt.shaped (.list (ws.map .str)) = true := by
  unfold SeqAt.shaped
  rw [PyData.canLay0, canLay_strs h, PyData.depth, depth_strs]; rfl
theorem eqv_strs : ∀ (ws us : List Str), PyData.eqvAll (ws.map .str) (us.map .str) = decide (ws = us)
  | [], [] => by simp [PyData.eqvAll]
  | [], _ :: _ => by simp [PyData.eqvAll]
  | _ :: _, [] => by simp [PyData.eqvAll]
  | x :: r, y :: q => by
    rw [List.map_cons, List.map_cons, PyData.eqvAll, eqv_strs r q, PyData.eqv]
    by_cases h : x = y
    · subst h; simp
    · have : (x == y) = false := by simpa using h
      rw [this]; simp [h]
def LsNext (Q : Value → Shared → Prop) (vs : List Value) (s : Shared) : Prop := vs.length ≤ sizeLine ∧ Q (.ref s.heap.objs.size) { s with heap := s.heap.push { cls := .type "list", data := .seq vs.toArray } }
def TpNext (Q : Value → Shared → Prop) (vs : List Value) (s : Shared) : Prop := vs.length ≤ sizeLine ∧ Q (.ref s.heap.objs.size) { s with heap := s.heap.push { cls := .type "tuple", data := .seq vs.toArray } }
section
variable {M : Model} {A : Around} {E : Value → Shared → Prop} {s : Shared} {env : Env} {Q : Value → Shared → Prop}
theorem r_List {elts : List Expr} {pos : Pos} (h : wpAny M A (spliced (backTo pos (starEach elts env))) (fun vs s₁ => LsNext Q vs s₁) E s) : wpAny M A (eval (.List elts pos) env) Q E s := wpAny_List h
theorem r_Tuple {elts : List Expr} {k : Nat} {pos : Pos} (h : wpAny M A (spliced (backTo pos (starEach elts env))) (fun vs s₁ => TpNext Q vs s₁) E s) : wpAny M A (eval (.Tuple elts k pos) env) Q E s := wpAny_Tuple h
end
section
variable {prog : Program} {w : World} {f : Fx} {A : Around} {E : Value → Shared → Prop} {s : Shared} {ls : List (Str × Value)} {hs : List (Addr × Kd)} {env : Env} {Q : Value → Shared → Prop}
theorem r_neL {a b : Addr} {ws us : List Str} (S : St f ls hs s) (ha : (a, .sl ws) ∈ hs) (hb : (b, .sl us) ∈ hs) (hw : okw ws) (hu : okw us) (hA : A.units + 64 < cLine) (h : Q (.bool (!decide (ws = us))) s) : wpAny (model prog w) A (compareOp .NotEq (.ref a) (.ref b)) Q E s :=
  SeqAt.compareNe_shaped (reads_sl (S.get ha)) (reads_sl (S.get hb)) (shaped_strs hw) (shaped_strs hu) hA (by rw [PyData.eqv, eqv_strs]; exact h)
theorem r_eqL {a b : Addr} {ws us : List Str} (S : St f ls hs s) (ha : (a, .sl ws) ∈ hs) (hb : (b, .sl us) ∈ hs) (hw : okw ws) (hu : okw us) (hA : A.units + 64 < cLine) (h : Q (.bool (decide (ws = us))) s) : wpAny (model prog w) A (compareOp .Eq (.ref a) (.ref b)) Q E s :=
  SeqAt.compareEq_shaped (reads_sl (S.get ha)) (reads_sl (S.get hb)) (shaped_strs hw) (shaped_strs hu) hA (by rw [PyData.eqv, eqv_strs]; exact h)
theorem r_dispT {vs : List Value} (S : St f ls hs s) (hz : vs.length ≤ 1000) (h : ∀ t s', s.heap.objs.size ≤ t → St f ls ((t, .obj (tupObj vs)) :: hs) s' → Q (.ref t) s') : TpNext Q vs s :=
  ⟨by rw [sizeLine_eq]; omega, h _ _ (Nat.le_refl _) (S.pushObj (tupObj vs) s.toks rfl)⟩
theorem r_dispL {vs : List Value} (S : St f ls hs s) (hz : vs.length ≤ 1000) (h : ∀ t s', s.heap.objs.size ≤ t → St f ls ((t, .obj (listOf vs.toArray 0)) :: hs) s' → Q (.ref t) s') : LsNext Q vs s :=
  ⟨by rw [sizeLine_eq]; omega, h _ _ (Nat.le_refl _) (S.pushObj (listOf vs.toArray 0) s.toks rfl)⟩
theorem r_dispS {vs : List Value} {ws : List Str} (S : St f ls hs s) (hv : StrsAre vs ws) (hz : vs.length ≤ 1000) (h : ∀ t s', s.heap.objs.size ≤ t → St f ls ((t, .sl ws) :: hs) s' → Q (.ref t) s') : LsNext Q vs s :=
  ⟨by rw [sizeLine_eq]; omega, h _ _ (Nat.le_refl _) (S.pushSl s.toks (by simpa using hv))⟩
theorem r_unpack0 {t : Addr} {vs : List Value} {Q : List Value → Shared → Prop} (S : St f ls hs s) (ht : (t, .obj (tupObj vs)) ∈ hs) (hh : A.handled = none) (h : ∀ s', St f ls hs s' → Q vs s') : wpAny (model prog w) A (unpackItems (.ref t) vs.length none) Q E s := by
  have e : s.heap.get? t = some (tupObj vs) := S.get ht
  have z : wpAny (model prog w) A (unpackItems (.ref t) vs.toArray.size none) Q E s :=
    wpAny_size (wpAny_unpackItems_tuple hh ⟨_, e, rfl, 0, rfl⟩ fun h' x z => h _ (S.stay (S.inv.step S.ok (fun b o hb q => x b o (Nat.ne_of_lt (Nat.lt_of_lt_of_le hb S.inv.size)) q) z rfl S.inv.gens) ⟨z, fun b o q _ _ => x b o (Nat.ne_of_lt (Heap.lt_size q)) q⟩))
  simpa using z
theorem r_unpack {t : Addr} {vs : List Value} {n : Nat} {Q : List Value → Shared → Prop} (S : St f ls hs s) (ht : (t, .obj (tupObj vs)) ∈ hs) (hn : vs.length = n) (hh : A.handled = none) (h : ∀ s', St f ls hs s' → Q vs s') : wpAny (model prog w) A (unpackItems (.ref t) n none) Q E s := by
  subst hn; exact r_unpack0 S ht hh h
end
section
variable {M : Model} {A : Around} {E : Value → Shared → Prop} {s : Shared}
theorem r_aio_cons {t : Value → Sem Unit} {ts : List (Value → Sem Unit)} {x : Value} {xs : List Value} {Q : Unit → Shared → Prop} (h : wpAny M A (t x) (fun _ s₁ => wpAny M A (assignInOrder ts xs) Q E s₁) E s) : wpAny M A (assignInOrder (t :: ts) (x :: xs)) Q E s := by
  rw [assignInOrder]
  exact wpAny_bind (wpAny_holding h)
theorem r_aio_nil {Q : Unit → Shared → Prop} (h : Q () s) : wpAny M A (assignInOrder [] []) Q E s := wpAny_pure h
end
end TF7
section TF8
/-- an object up to its slots -/
def slotP (o₀ : Obj) : Obj → Prop := fun o => ∃ sl, o = { o₀ with slots := sl }
def frK (fr : List (Addr × Obj)) : List (Addr × Kd) := fr.map fun p => (p.1, .is (slotP p.2))
def Frs : List Env → List (Addr × Obj) → Prop
  | [], [] => True
  | env :: es, p :: r => env.scope.kind ≠ .module ∧ env.frame = some p.1 ∧ (∀ vs, p.2.data ≠ .fields vs) ∧ Frs es r
  | _, _ => False
theorem Frs.fm {l : List Env} {fr : List (Addr × Obj)} (h : Frs l fr) : l.filterMap (·.frame) = fr.map (·.1) := by
  induction l generalizing fr with
  | nil => cases fr with
    | nil => rfl
    | cons p r => exact h.elim
  | cons env es ih => cases fr with
    | nil => exact h.elim
    | cons p r =>
      obtain ⟨_, h, _, q⟩ := h
      rw [List.filterMap_cons, h, List.map_cons, ih q]
theorem mem_frK {fr : List (Addr × Obj)} {p : Addr × Obj} (h : p ∈ fr) : (p.1, Kd.is (slotP p.2)) ∈ frK fr := List.mem_map.mpr ⟨p, h, rfl⟩

section
variable {f : Fx} {ls : List (Str × Value)} {hs : List (Addr × Kd)} {s : Shared}

theorem St.one {f : Fx} {ls hs s} (S : St f ls hs s) {a : Addr} {k k' : Kd} (h : (a, k) ∈ hs) (h' : (a, k') ∈ hs) : k = k' := by
  have nd := S.nd
  clear S
  induction hs with
  | nil => cases h
  | cons p r ih =>
    rw [List.map_cons, List.nodup_cons] at nd
    rcases List.mem_cons.mp h with e | e <;> rcases List.mem_cons.mp h' with e' | e'
    · rw [← e] at e'; injection e' with _ z; exact z.symm
    · exact absurd (List.mem_map_of_mem (f := fun p : Addr × Kd => p.1) e') (by rw [← e] at nd; exact nd.1)
    · exact absurd (List.mem_map_of_mem (f := fun p : Addr × Kd => p.1) e) (by rw [← e'] at nd; exact nd.1)
    · exact ih e e' nd.2

theorem St.frames (S : St f ls hs s) {l : List Env} {fr : List (Addr × Obj)} (h : Frs l fr) (hin : ∀ p ∈ frK fr, p ∈ hs) : s.heap.FunFrames f.g.B l := by
  induction l generalizing fr with
  | nil => trivial
  | cons env es ih =>
    cases fr with
    | nil => exact h.elim
    | cons p r =>
      obtain ⟨h1, h2, h3, h4⟩ := h
      have hp := hin _ (mem_frK (.head r))
      obtain ⟨o, ho, sl, rfl⟩ := S.get hp
      exact ⟨h1, ⟨p.1, _, h2, B_none (S.low hp), ho, h3⟩, ih h4 fun q hq => hin q (.tail _ hq)⟩

theorem ns_slots {h h' : Heap} {L : Addr} {m : Str → Option Value} (n : h.Ns L m) (x : ∀ o, h.get? L = some o → ∃ sl, h'.get? L = some { o with slots := sl }) : h'.Ns L m := by
  obtain ⟨o, es, ep, ho, r⟩ := n
  obtain ⟨sl, q⟩ := x o ho
  exact ⟨_, es, ep, q, r⟩

/-- only slots of frames changed -/
theorem St.slots (S : St f ls hs s) {fr : List (Addr × Obj)} (hin : ∀ p ∈ frK fr, p ∈ hs) (hm : ∀ p ∈ fr, f.may p.1) {s' : Shared}
    (hk : ∀ b o, s.heap.get? b = some o → b ≠ f.L → b ∉ fr.map (·.1) → s'.heap.get? b = some o) (hz : s.heap.objs.size ≤ s'.heap.objs.size)
    (hsl : ∀ b o, (b = f.L ∨ b ∈ fr.map (·.1)) → s.heap.get? b = some o → ∃ sl, s'.heap.get? b = some { o with slots := sl }) (ho : s'.os = s.os) (hg : s'.gens = s.gens) : St f ls hs s' := by
  have low : ∀ b ∈ fr.map (·.1), f.g.n ≤ b := fun b hb => by
    obtain ⟨p, hp, rfl⟩ := List.mem_map.mp hb
    exact S.low (hin _ (mem_frK hp))
  have I : Inv f.g s' := S.inv.step S.ok (fun b o hb e => hk b o e (Nat.ne_of_lt (Nat.lt_of_lt_of_le hb S.lo)) fun q => absurd hb (Nat.not_lt.mpr (low b q))) hz ho (hg ▸ S.inv.gens)
  have E : Ext (f.L :: fr.map (·.1)) s.heap s'.heap := ⟨hz, fun b o e n _ => hk b o e (fun q => n (by rw [q]; exact .head _)) fun q => n (.tail _ q)⟩
  obtain ⟨m, hn, hmm⟩ := S.loc
  refine ⟨S.ok, I, S.ext.trans' E ?_, ⟨m, ns_slots hn fun o e => hsl _ o (.inl rfl) e, hmm⟩, S.lo, S.new, fun p hp => ?_, S.nd⟩
  · intro d hd
    rcases List.mem_cons.mp hd with rfl | hd
    · exact .inr S.new
    · obtain ⟨p, hp, rfl⟩ := List.mem_map.mp hd
      exact hm p hp
  · have := S.has p hp
    refine ⟨?_, this.2⟩
    by_cases hq : p.1 ∈ fr.map (·.1)
    · obtain ⟨q, hqf, e⟩ := List.mem_map.mp hq
      have h1 := hin _ (mem_frK hqf)
      obtain ⟨a, k⟩ := p
      have e' : q.1 = a := e
      rw [e'] at h1
      have := S.one h1 hp
      subst this; subst e'
      obtain ⟨o, ho, sl, rfl⟩ := S.get h1
      obtain ⟨sl', h2⟩ := hsl _ _ (.inr hq) ho
      exact ⟨_, h2, sl', rfl⟩
    · exact this.1.ext E (fun z => (List.mem_cons.mp z).elim this.2.2 hq) (not_tab S.ok this.2.1)
end

/-- an exception: new (no traceback), noted (a traceback at T) -/
def excN (cls : String) (c : Value) : Kd := .is fun o => o.cls = .type cls ∧ ∃ vs, o.data = .fields vs ∧ vs[1]? = some .none ∧ vs[2]? = some c
def excT (cls : String) (c : Value) (T : Addr) : Kd := .is fun o => o.cls = .type cls ∧ ∃ vs, o.data = .fields vs ∧ vs[1]? = some (.ref T) ∧ vs[2]? = some c
def tbK (x : Value) : Kd := .is fun o => ∃ ts, o.data = .fields ts ∧ ts[3]? = some x

section
variable {prog : Program} {w : World} {f : Fx} {A : Around} {E : Value → Shared → Prop} {s : Shared} {ls : List (Str × Value)} {hs : List (Addr × Kd)} {env : Env}

theorem St.updI {a : Addr} {P P' : Obj → Prop} (S : St f ls ((a, .is P) :: hs) s) (m : f.may a) (fn : Obj → Obj) (hP : ∀ o, P o → P' (fn o) ∧ (fn o).isFreed = false) (t : Nat) :
    St f ls ((a, .is P') :: hs) { s with heap := s.heap.update a fn, toks := t } := by
  obtain ⟨o, ho, p⟩ := S.get (.head _)
  have := hP o p
  refine S.upd (S.inv.step S.ok (fun b o' hb e => ?_) (by show _ ≤ (s.heap.update a fn).objs.size; rw [Heap.size_after_update]; exact Nat.le_refl _) rfl S.inv.gens) (Ext.upd ..) m ⟨fn o, Heap.get?_update_self _ ho this.2, this.1⟩
  show (s.heap.update a fn).get? b = _
  rw [Heap.get?_update_other _ _ (Nat.ne_of_gt (Nat.lt_of_lt_of_le hb (S.low (.head _))))]
  exact e

theorem x_flight {e T : Addr} {cls : String} {c x : Value} {fl : Option Addr} {Q : Unit → Shared → Prop} (S : St f ls ((T, tbK x) :: (e, excT cls c T) :: hs) s) (m : f.may T)
    (h : ∀ s', St f ls ((T, tbK (fl.elim .none fun f => rawInt f)) :: (e, excT cls c T) :: hs) s' → Q () s') : wpAny (model prog w) A (setFlight (.ref e) fl) Q E s := by
  obtain ⟨oe, he, hc, vs, hd, h1, h2⟩ := S.get (.tail _ (.head _))
  obtain ⟨oT, hT, ts, hdT, h3⟩ := S.get (.head _)
  unfold setFlight
  refine wpAny_bind (wpAny_field he hd h1 ?_)
  rw [if_pos (show (Value.ref T != Value.none) = true from by simp)]
  refine wpAny_setField hT hdT (Array.getElem?_eq_some_iff.mp h3).1 (h _ ?_)
  refine S.updI m _ (fun o ⟨ts, q1, q2⟩ => ?_) s.toks
  have hsz := (Array.getElem?_eq_some_iff.mp q2).1
  have q3 := Obj.data_mapFields q1 (·.setIfInBounds 3 (fl.elim Value.none fun f => rawInt f))
  exact ⟨⟨_, q3, by simp [hsz]⟩, Obj.isFreed_of_fields q3⟩

/-- the frame is noted: a new traceback -/
theorem x_note {e : Addr} {cls : String} {c : Value} {outer : List Env} {fr : List (Addr × Obj)} {Q : Unit → Shared → Prop} (S : St f ls ((e, excN cls c) :: hs) s) (m : f.may e)
    (hfr : A.frames = some (env :: outer)) (hF : Frs outer fr) (hin : ∀ p ∈ frK fr, p ∈ hs) (hm : ∀ p ∈ fr, f.may p.1)
    (h : ∀ T s', s.heap.objs.size ≤ T → St f ls ((T, tbK (rawInt f.L)) :: (e, excT cls c T) :: hs) s' → Q () s')
    (hL : env.frame = some f.L := by rfl) (hk : env.scope.kind = .function := by rfl) : wpAny (model prog w) A (noteFrame (.ref e) env) Q E s := by
  obtain ⟨oe, he, hc, vs, hd, h1, h2⟩ := S.get (.head _)
  obtain ⟨mm, hn, hmm⟩ := S.loc
  have hff : s.heap.FunFrames f.g.B (env :: outer) := .cons (by rw [hk]; decide) hL hn (B_none S.lo) (S.drop.frames hF hin)
  unfold noteFrame
  simp only [hL]
  refine wpAny_bind (wpAny_field he hd h1 ?_)
  rw [if_neg (by decide)]
  refine wpAny_bind (wpAny_frameOf_fun hfr hff hL fun h₁ hs₁ => ?_)
  rw [List.filterMap_cons, hL, hF.fm] at hs₁
  have S₁ : St f ls ((e, excN cls c) :: hs) { s with heap := h₁ } := S.slots (fr := fr) (fun p hp => .tail _ (hin p hp)) hm
    (fun b o q n1 n2 => (hs₁.2.1 b fun z => (List.mem_cons.mp z).elim n1 n2).trans q) (Nat.le_of_eq hs₁.1.symm) (fun b o _ q => hs₁.2.2 b o q) rfl rfl
  refine wpAny_bind (wpAny_entryPlaceOf fun pl hpl => ?_)
  unfold EntryCells.newEntry newFields
  refine wpAny_bind (wpAny_newObj_type ?_ (hpl.sizeOk5 _ _ _ _ _))
  have hT : ∀ (o : Obj), o = { cls := .type "traceback", dict := none, data := .fields ([Value.none, .ref f.L, .none, rawInt f.L, .none] ++ (if pl.isEmpty then List.replicate 6 Value.none else pl)).toArray } → (tbK (rawInt f.L)).At (h₁.push o) h₁.objs.size := by
    rintro o rfl
    exact ⟨_, Heap.get?_push_size _ rfl, _, rfl, by first | (simp; done) | (rcases hpl with rfl | ⟨_, _, _, _, _, _, _, rfl⟩ <;> simp)⟩
  have S₂ := S₁.more (o := tbK (rawInt f.L)) (s' := { s with heap := h₁.push { cls := .type "traceback", dict := none, data := .fields ([Value.none, .ref f.L, .none, rawInt f.L, .none] ++ (if pl.isEmpty then List.replicate 6 Value.none else pl)).toArray } })
    (S₁.inv.step S.ok (fun b o _ q => Heap.get?_push_of_some _ q) (by show _ ≤ (h₁.push _).objs.size; rw [Heap.size_push]; exact Nat.le_succ _) rfl S₁.inv.gens) (Ext.push ..) (Nat.le_refl _) (hT _ rfl)
  obtain ⟨oe', he', hc', vs', hd', h1', h2'⟩ := S₂.get (.tail _ (.head _))
  refine wpAny_setField he' hd' (Array.getElem?_eq_some_iff.mp h1').1 ?_
  refine h _ _ (Nat.le_of_eq hs₁.1.symm) (St.swap (St.updI S₂.swap m _ (fun o ⟨q1, vs, q2, q3, q4⟩ => ?_) s.toks))
  have hsz := (Array.getElem?_eq_some_iff.mp q3).1
  have q5 := Obj.data_mapFields q2 (·.setIfInBounds 1 (Value.ref h₁.objs.size))
  refine ⟨⟨(Obj.cls_mapFields _ _).trans q1, _, q5, by simp [hsz], ?_⟩, Obj.isFreed_of_fields q5⟩
  rw [Array.getElem?_setIfInBounds_ne (by decide)]; exact q4
/-- … it is noted already -/
theorem x_note2 {e T : Addr} {cls : String} {c : Value} {Q : Unit → Shared → Prop} (S : St f ls ((T, tbK (rawInt f.L)) :: (e, excT cls c T) :: hs) s) (h : Q () s)
    (hL : env.frame = some f.L := by rfl) : wpAny (model prog w) A (noteFrame (.ref e) env) Q E s := by
  obtain ⟨oe, he, hc, vs, hd, h1, h2⟩ := S.get (.tail _ (.head _))
  obtain ⟨oT, hT, ts, hdT, h3⟩ := S.get (.head _)
  exact wpAny_noteFrame_inFlight hL he hd h1 hT hdT h3 h
end
end TF8
section TF9
theorem plain_unchain : plainId "proto.unchain" = true := by decide +kernel
theorem entry_unchain : entryFor table "proto.unchain" = some Builtin.«proto.unchain» := entryFor_of_fast (by kernel_rfl)

/-- what is being handled: nothing, or an exception without a context -/
inductive Hd (A : Around) (hs : List (Addr × Kd)) : Value → Prop
  | no : A.handled = none → Hd A hs .none
  | some {h T : Addr} {cls : String} : A.handled = some (.ref h) → (h, excT cls .none T) ∈ hs → Hd A hs (.ref h)

section
variable {prog : Program} {w : World} {f : Fx} {A : Around} {E : Value → Shared → Prop} {s : Shared} {ls : List (Str × Value)} {hs : List (Addr × Kd)} {env : Env}

theorem x_unchain {α : Type} {e h T : Addr} {cls : String} {k : Value → Sem α} {Q : α → Shared → Prop} (S : St f ls hs s) (hm : (h, excT cls .none T) ∈ hs) (hk : wpAny (model prog w) A (k .none) Q E s) :
    wpAny (model prog w) A (holding [.ref e] (runValue (.builtin "proto.unchain" ⟨[.ref e, .ref h, .ref h, .bool false], []⟩)) >>= k) Q E s := by
  obtain ⟨oe, he, hc, vs, hd, h1, h2⟩ := S.get hm
  refine wpAny_bind (wpAny_holding (wpAny_runValue (codeAny_builtin entry_unchain ?_)))
  unfold Builtin.«proto.unchain»
  refine wpAny_bind (wpAny_field he hd h2 ?_)
  rw [if_pos (by decide)]
  exact wpAny_of_eq (a := .done (.ret .none)) rfl hk

theorem x_raiseNew {α : Type} {e : Addr} {c : Value} {cls : String} {Q : α → Shared → Prop} (S : St f ls ((e, excN cls .none) :: hs) s) (m : f.may e) (hh : Hd A hs c)
    (h : ∀ s', St f ls ((e, excN cls c) :: hs) s' → E (.ref e) s') : wpAny (model prog w) A (raiseNew (.ref e) : Sem α) Q E s := by
  unfold raiseNew
  refine wpAny_bind (wpAny_handled ?_)
  cases hh with
  | no q => rw [q]; exact wpAny_bind (wpAny_pure (wpAny_throw (h _ S)))
  | @some b T cls' q hm =>
    rw [q]
    dsimp only
    have hne : b ≠ e := fun z => by
      have nd := S.nd
      rw [List.map_cons, List.nodup_cons] at nd
      exact nd.1 (List.mem_map.mpr ⟨_, hm, z⟩)
    rw [if_pos (show (Value.ref b != Value.ref e) = true from by simp [hne])]
    refine x_unchain S (.tail _ hm) ?_
    obtain ⟨oe, he, hc, vs, hd, h1, h2⟩ := S.get (.head _)
    refine wpAny_bind (m := setField (.ref e) 2 (.ref b)) ?_
    refine wpAny_mono (wpAny_setField he hd (Array.getElem?_eq_some_iff.mp h2).1 (Q := fun _ s' => St f ls ((e, excN cls (.ref b)) :: hs) s') ?_) (fun _ s' S' => wpAny_throw (h _ S')) (fun _ _ x => x)
    refine S.updI m _ (fun o ⟨q1, vs, q2, q3, q4⟩ => ?_) s.toks
    have hsz := (Array.getElem?_eq_some_iff.mp q4).1
    have q5 := Obj.data_mapFields q2 (·.setIfInBounds 2 (Value.ref b))
    refine ⟨⟨(Obj.cls_mapFields _ _).trans q1, _, q5, ?_, by simp [hsz]⟩, Obj.isFreed_of_fields q5⟩
    rw [Array.getElem?_setIfInBounds_ne (by decide)]; exact q3

theorem x_raiseW {α : Type} {c : Value} {cls msg : String} {Q : α → Shared → Prop} (hp : PlainExc cls) (S : St f ls hs s) (hh : Hd A hs c)
    (h : ∀ e s', s.heap.objs.size ≤ e → St f ls ((e, excN cls c) :: hs) s' → E (.ref e) s') : wpAny (model prog w) A (raiseErrorWords cls msg : Sem α) Q E s := by
  unfold raiseErrorWords
  refine wpAny_bind (wpAny_mkText (wpAny_bind ?_))
  unfold newExc newTuple
  refine wpAny_bind (wpAny_newObj_type ?_)
  refine wpAny_bind (m := firstArgMember _ _) (wpAny_of_eq (a := Value.none) (by simp only [firstArgMember, hp.first]; rfl) ?_)
  rw [hp.own]
  refine wpAny_newObj_type ?_
  have I0 : ∀ (o : Obj) (t : Nat) (s : Shared), Inv f.g s → Inv f.g { s with heap := s.heap.push o, toks := t } := fun o t s I => I.step S.ok (fun b o _ q => Heap.get?_push_of_some _ q) (by show _ ≤ (s.heap.push _).objs.size; rw [Heap.size_push]; exact Nat.le_succ _) rfl I.gens
  have S₁ := (S.tok (s.toks + 1)).stay (I0 { cls := .type "tuple", dict := none, data := .seq #[Value.str msg s.toks] 0 } (s.toks + 1) _ (S.tok (s.toks + 1)).inv) (Ext.push ..)
  have S₂ := S₁.more (o := excN cls .none) (I0 { cls := .type cls, dict := none, data := .fields (#[Value.ref s.heap.objs.size, .none, .none, .none, .bool false, .none] ++ #[]) } (s.toks + 1) _ S₁.inv) (Ext.push ..) (Nat.le_refl _) ⟨_, Heap.get?_push_size _ rfl, rfl, _, rfl, rfl, rfl⟩
  exact x_raiseNew S₂ (.inr (Nat.le_trans S₁.ext.1 (Nat.le_refl _))) hh fun s' S' => h _ _ (by show _ ≤ (s.heap.push _).objs.size; rw [Heap.size_push]; exact Nat.le_succ _) S'

/-- ws[k] past the end -/
theorem x_getItemK {a : Addr} {ws : List Str} {k : Int} {t : Tok} {c : Value} {Q : Value → Shared → Prop} (S : St f ls hs s) (hm : (a, .sl ws) ∈ hs) (hh : Hd A hs c) (hout : (ws.length : Int) ≤ k) (hlo : -(2 ^ 63) ≤ k) (hhi : k < 2 ^ 63)
    (h : ∀ e s', s.heap.objs.size ≤ e → St f ls ((e, excN "IndexError" c) :: hs) s' → E (.ref e) s') : wpAny (model prog w) A (getItem (.ref a) (.int k t)) Q E s := by
  obtain ⟨vs, n, hl0, hv⟩ := S.get hm
  have e := sa_size hv
  have hl := hl0.isList
  obtain ⟨o, ho, hc, ne, hd⟩ := id hl
  have hh' : ∀ A', A'.handled = A.handled → Hd A' hs c := fun A' q => by
    cases hh with
    | no z => exact .no (q.trans z)
    | some z m => exact .some (q.trans z) m
  unfold getItem
  try with_reducible refine wpAny_holding ?_
  first | refine wpAny_bind (wpAny_pure ?_) | skip
  refine wpAny_bind (wpAny_sequenceKey hl.typeIs (by decide) ?_)
  refine wpAny_bind (wpAny_callSpecial?_slot (name := Str.ofString "__getitem__") hl.typeIs slot_list_getitem
    (wpAny_call_entry slot_list_getitem hl.typeIs entry_list_getitem ?_ (args_list_getitem _ _)))
  show wpAny _ _ (Builtin.List.listSubscript? (.int k t) >>= _) _ _ s
  refine wpAny_bind (wpAny_listSubscript_int (fitsIndex_both hlo hhi) ?_)
  clear hlo hhi
  cases k with
  | ofNat j =>
    have hx : vs[j]? = none := Array.getElem?_eq_none (by have : (ws.length : Int) ≤ (j : Int) := hout; omega)
    show wpAny _ _ ((seqItemAt a j >>= fun r => pure (r.map (j, ·))) >>= _) _ _ s
    refine wpAny_bind (wpAny_bind (wpAny_seqItemAt ho hd (wpAny_pure ?_)))
    rw [hx]
    first
      | exact wpAny_bind (wpAny_rule (x_raiseW plainExc_IndexError S (hh' _ rfl) h))
      | exact wpAny_bind (wpAny_rule (wpAny_bind (x_raiseW plainExc_IndexError S (hh' _ rfl) h)))
      | exact wpAny_bind (wpAny_bind (wpAny_rule (x_raiseW plainExc_IndexError S (hh' _ rfl) h)))
      | exact wpAny_rule (x_raiseW plainExc_IndexError S (hh' _ rfl) h)
  | negSucc j => exact absurd hout (by have := Int.negSucc_lt_zero j; omega)
theorem x_getItem {a : Addr} {ws : List Str} {j : Nat} {t : Tok} {c : Value} {Q : Value → Shared → Prop} (S : St f ls hs s) (hm : (a, .sl ws) ∈ hs) (hh : Hd A hs c) (hj : ws.length ≤ j) (hz : j < 2 ^ 60)
    (h : ∀ e s', s.heap.objs.size ≤ e → St f ls ((e, excN "IndexError" c) :: hs) s' → E (.ref e) s') : wpAny (model prog w) A (getItem (.ref a) (.int j t)) Q E s :=
  x_getItemK S hm hh (by omega) (by omega) (by omega) h
end
end TF9
section TF10
section
variable {prog : Program} {w : World} {f : Fx} {A A₂ : Around} {E : Value → Shared → Prop} {s : Shared} {ls : List (Str × Value)} {hs : List (Addr × Kd)} {env : Env}

/-- an exception on its way: new, or noted here -/
inductive XS (f : Fx) (ls : List (Str × Value)) (hs : List (Addr × Kd)) (X : String) (c : Value) (e : Addr) (s : Shared) : Prop
  | new : f.may e → St f ls ((e, excN X c) :: hs) s → XS f ls hs X c e s
  | held {T : Addr} : f.may T → f.may e → St f ls ((T, tbK (rawInt f.L)) :: (e, excT X c T) :: hs) s → XS f ls hs X c e s

/-- the frames below -/
structure Below' (f : Fx) (A : Around) (env : Env) (hs : List (Addr × Kd)) : Prop where
  ex : ∃ outer fr, A.frames = some (env :: outer) ∧ Frs outer fr ∧ (∀ p ∈ frK fr, p ∈ hs) ∧ (∀ p ∈ fr, f.may p.1)
  fl : env.frame = some f.L
  fk : env.scope.kind = .function
theorem Below'.weak {hs' : List (Addr × Kd)} (B : Below' f A env hs) (h : ∀ p ∈ hs, p ∈ hs') : Below' f A env hs' :=
  let ⟨o, fr, a, b, c, d⟩ := B.ex; ⟨⟨o, fr, a, b, fun p hp => h p (c p hp), d⟩, B.fl, B.fk⟩
theorem Below'.mark (B : Below' f A env hs) (e : Option Value) : Below' f (A.mark e) env hs := ⟨B.ex, B.fl, B.fk⟩

theorem xs_note {X : String} {c : Value} {e : Addr} {Q : Unit → Shared → Prop} (x : XS f ls hs X c e s) (B : Below' f A env hs)
    (h : ∀ T s', f.may T → f.may e → St f ls ((T, tbK (rawInt f.L)) :: (e, excT X c T) :: hs) s' → Q () s') : wpAny (model prog w) A (noteFrame (.ref e) env) Q E s := by
  obtain ⟨o, fr, a, b, c, d⟩ := B.ex
  cases x with
  | new m S => exact x_note S m a b c d (fun T s' z S' => h T s' (.inr (Nat.le_trans S.ext.1 z)) m S') B.fl B.fk
  | held mT m S => exact x_note2 S (h _ _ mT m S) B.fl

theorem x_back {X : String} {c x : Value} {e T : Addr} (S : St f ls ((T, tbK x) :: (e, excT X c T) :: hs) s) (mT : f.may T) (me : f.may e) (hL : env.frame = some f.L)
    (h : ∀ s', XS f ls hs X c e s' → E (.ref e) s') : cameBackBy (model prog w) A env E (.ref e) s := by
  obtain ⟨oe, he, hc, vs, hd, h1, h2⟩ := S.get (.tail _ (.head _))
  unfold cameBackBy
  refine wpAny_bind (wpAny_field he hd h1 ?_)
  rw [if_neg (show ¬ (Value.ref T == Value.none) = true from by simp)]
  rw [hL]
  refine x_flight S mT fun s' S' => h _ (.held mT me S')

/-- out of a loop -/
theorem x_loop {X : String} {c : Value} {e : Addr} (x : XS f ls hs X c e s) (B : Below' f A env hs) (h : ∀ s', XS f ls hs X c e s' → E (.ref e) s') :
    notedBy (model prog w) A env (fun e s' => cameBackBy (model prog w) A₂ env E e s') (.ref e) s :=
  xs_note x B fun T s' mT me S' => x_back S' mT me B.fl h

theorem x_passOn {α : Type} {X what : String} {c x : Value} {e T : Addr} {Q : α → Shared → Prop} (S : St f ls ((T, tbK x) :: (e, excT X c T) :: hs) s) (mT : f.may T) (me : f.may e) (hL : env.frame = some f.L)
    (h : ∀ s', XS f ls hs X c e s' → E (.ref e) s') : wpAny (model prog w) A (PySem.passOn what (.ref e) env : Sem α) Q E s := by
  obtain ⟨oe, he, hc, vs, hd, h1, h2⟩ := S.get (.tail _ (.head _))
  unfold PySem.passOn
  refine wpAny_bind (wpAny_field he hd h1 ?_)
  rw [if_neg (show ¬ (Value.ref T == Value.none) = true from by simp)]
  rw [hL]
  exact wpAny_bind (x_flight S mT fun s' S' => wpAny_throw (h _ (.held mT me S')))

/-- try .. except X: .. -/
theorem x_caught {n : Str} {X : String} {c : Value} {e : Addr} {np pos : Pos} {b₀ : Stmt} {suite : List Stmt} {rest : List ExceptHandler} {Q : Flow → Shared → Prop} (x : XS f ls hs X c e s) (B : Below' f A env hs)
    (hexc : isSubtype (.type X) (.type "BaseException") = pure true) (hnt : isSubtype (.type ((Manifest.find? X).elim "type" fun x => x.metatype)) (.type "tuple") = pure false) (hsub : isSubtype (.type X) (.type X) = pure true)
    (hg : nsIn (KF f.g.w) mainGlobals n = some none) (hv : bootBuiltins n = some (.type X))
    (h : ∀ T s', St f ls ((T, tbK .none) :: (e, excT X c T) :: hs) s' → wpAny (model prog w) (A.mark (some (.ref e))) (execs (b₀ :: suite) env) Q (notedBy (model prog w) (A.mark (some (.ref e))) env (cameBackBy (model prog w) A env E)) s')
    (hn : n ≠ "__name__" := by decide) (h1 : env.globals = mainGlobals := by rfl) (h2 : env.builtins = builtinsNs := by rfl) (hx : env.kindOf n = some .globalImplicit := by rfl) (hd : (n == ("__debug__" : Str)) = false := by decide) :
    wpAny (model prog w) A (noteFrame (.ref e) env) (fun _ s₂ => wpAny (model prog w) A (setFlight (.ref e) none) (fun _ s₃ =>
      wpAny (model prog w) A (handleBy (.ref e) env (.ExceptHandler (some (.Name n np)) none (b₀ :: suite) pos :: rest)) Q E s₃) E s₂) E s := by
  refine xs_note x B fun T s₁ mT me S₁ => ?_
  refine x_flight S₁ mT fun s₂ S₂ => ?_
  obtain ⟨oe, he, hc, _⟩ := S₂.get (.tail _ (.head _))
  refine wpAny_handleBy_builtin (X := X) (T := X) (b := true) hexc hnt hsub ?_
  refine r_boot S₂ hg hv ⟨rfl, ⟨oe, he, hc⟩, ?_⟩ hn h1 h2 B.fk hx hd
  exact x_flight S₂ mT fun s₃ S₃ => h T s₃ S₃

theorem x_finally {X : String} {c : Value} {e : Addr} {final : List Stmt} {Q : Flow → Shared → Prop} (x : XS f ls hs X c e s) (B : Below' f A env hs)
    (h : ∀ T s', f.may T → f.may e → St f ls ((T, tbK .none) :: (e, excT X c T) :: hs) s' → wpAny (model prog w) (A.mark (some (.ref e))) (execs final env)
      (fun g s₂ => match g with | .next => wpAny (model prog w) A (PySem.passOn "try.finally" (.ref e) env) Q E s₂ | g => wpAny (model prog w) A (setFlight (.ref e) none) (fun _ s₃ => Q g s₃) E s₂) (notedBy (model prog w) (A.mark (some (.ref e))) env (cameBackBy (model prog w) A env E)) s') :
    wpAny (model prog w) A (noteFrame (.ref e) env) (fun _ s₂ => FinallyRaised prog w A E env final Q (.ref e) s₂) (FinallyRaised prog w A E env final Q) s := by
  refine xs_note x B fun T s₁ mT me S₁ => ⟨ref_ne_byPass _, ?_⟩
  refine x_note2 S₁ ?_ B.fl
  exact x_flight S₁ mT fun s₂ S₂ => h T s₂ mT me S₂

/-- list methods on strs -/
theorem countP_isStr (k : Str) : ∀ {vs : List Value} {ys : List Str}, StrsAre vs ys → vs.countP (isStrOf k) = ys.count k
  | _, _, .nil => rfl
  | _, _, .cons n u h => by rw [List.countP_cons, List.count_cons, countP_isStr k h]; rfl
theorem sa_isStr (k : Str) {vs : List Value} {ys : List Str} (h : StrsAre vs ys) (j : Nat) (hj : j < vs.length) : isStrOf k vs[j] = (ys[j]'(by rw [← h.length]; exact hj) == k) := by
  induction h generalizing j with
  | nil => exact absurd hj (Nat.not_lt_zero _)
  | cons y t h ih => cases j with
    | zero => rfl
    | succ j => exact ih j (by simpa using hj)
theorem r_count {a : Addr} {ws : List Str} {k : Str} {t : Tok} {Q : Value → Shared → Prop} (S : St f ls hs s) (hm : (a, .sl ws) ∈ hs) (h : ∀ t s', St f ls hs s' → Q (.int (ws.count k) t) s') :
    wpAny (model prog w) A (call (.builtin "list.count") [.ref a, .str k t]) Q E s := by
  obtain ⟨vs, n, hl, hv⟩ := S.get hm
  refine call_meets F.slot_list_count hl.isList.typeIs F.entry_list_count (F.args_list_count_2 _ _) (MeetsSeq.list_count a vs n _ (isStrOf k) (fun y hy => eq_isStrOf k t hv y (by simpa using hy))) ⟨hl, ?_⟩
  rw [countP_isStr k hv]
  exact h _ _ (S.tok _)
theorem r_index {a : Addr} {ws : List Str} {k : Str} {t : Tok} {Q : Value → Shared → Prop} (S : St f ls hs s) (hm : (a, .sl ws) ∈ hs) (hk : k ∈ ws) (hz : ws.length < 2 ^ 60) (h : ∀ t s', St f ls hs s' → Q (.int (ws.idxOf k : Nat) t) s') :
    wpAny (model prog w) A (call (.builtin "list.index") [.ref a, .str k t]) Q E s := by
  obtain ⟨vs, n, hl, hv⟩ := S.get hm
  have e := sa_size hv
  have hi := List.idxOf_lt_length_of_mem hk
  refine call_meets F.slot_list_index hl.isList.typeIs F.entry_list_index (F.args_list_index_2 _ _) (MeetsSeq.list_index a vs n _ (isStrOf k) (fun y hy => eq_isStrOf k t hv y (by simpa using hy)) (ws.idxOf k) (by omega) (by omega) ?_ ?_) ⟨hl, h _ _ (S.tok _)⟩
  · have := sa_isStr k hv (ws.idxOf k) (by simp; omega)
    simp at this
    rw [this]
  · intro m hm' hlt
    have := sa_isStr k hv m (by simpa using hm')
    rw [show vs[m] = vs.toList[m]'(by simpa using hm') from by simp, this]
    have := List.not_of_lt_findIdx (xs := ws) (p := (· == k)) (i := m) hlt
    simpa using this
theorem r_remove {a : Addr} {ws : List Str} {k : Str} {t : Tok} {Q : Value → Shared → Prop} (S : St f ls ((a, .sl ws) :: hs) s) (m : f.may a) (hk : k ∈ ws) (hz : ws.length ≤ sizeLine) (h : ∀ s', St f ls ((a, .sl (ws.erase k)) :: hs) s' → Q .none s') :
    wpAny (model prog w) A (call (.builtin "list.remove") [.ref a, .str k t]) Q E s := by
  obtain ⟨vs, n, hl, hv⟩ := S.get (.head _)
  have e := sa_size hv
  have hi := List.idxOf_lt_length_of_mem hk
  refine call_meets F.slot_list_remove hl.isList.typeIs F.entry_list_remove (F.args_list_remove_2 _ _) (MeetsSeq.list_remove a vs n _ (isStrOf k) (fun y hy => eq_isStrOf k t hv y (by simpa using hy)) (ws.idxOf k) (by omega) ?_ ?_ (by omega)) ⟨hl, h _ ?_⟩
  · have := sa_isStr k hv (ws.idxOf k) (by simp; omega)
    simp at this
    rw [this]
  · intro m hm' hlt
    have := sa_isStr k hv m (by simpa using hm')
    rw [show vs[m] = vs.toList[m]'(by simpa using hm') from by simp, this]
    have := List.not_of_lt_findIdx (xs := ws) (p := (· == k)) (i := m) hlt
    simpa using this
  · refine S.turn m hl _ ?_ s.toks
    have z := sa_erase (ws.idxOf k) hv
    have e3 : (vs.eraseIdxIfInBounds (ws.idxOf k)).toList = vs.toList.eraseIdx (ws.idxOf k) := by
      have : ws.idxOf k < vs.size := by omega
      simp [Array.eraseIdxIfInBounds, this]
    rw [e3, List.erase_eq_eraseIdx_of_idxOf (i := ws.idxOf k) rfl]; exact z
theorem remove_loop_none' {l : Addr} {items : Array Value} {n : Nat} {x : Value} {e : Value → Bool} {R : Result → Shared → Prop} (he : ∀ y, y ∈ items → MeetsSeq.EqGives y x (e y)) (hno : ∀ m (hm : m < items.size), e items[m] = false)
    (hl : s.heap.get? l = some { cls := .type "list", dict := none, data := .seq items n, slots := #[] }) (S : St f ls hs s) (hh : A.handled = none)
    (h : ∀ e s', s.heap.objs.size ≤ e → St f ls ((e, excN "ValueError" .none) :: hs) s' → R (.error (.ref e)) s') (k : Nat) :
    ∀ i : Nat, items.size - i = k → wpAny (model prog w) A.in1 (Builtin.«list.remove.loop» ⟨[.ref l, x, rawInt i], []⟩) (fun fin s' => match fin with | .done f => R (.ok f) s' | .again c' => c'.quiet = true ∧ codeAny (model prog w) A c' R s') (fun e s' => R (.error e) s') s := by
  induction k with
  | zero =>
    intro i hk
    obtain ⟨hp, g, d, tk, os⟩ := s
    wp_walk using wpAny_loadPart' hl
    have hi : items[((i : Nat) : Int).toNat]? = none := by simp; omega
    rw [hi]
    wp_walk
    exact x_raiseW plainExc_ValueError S (.no hh) h
  | succ k ih =>
    intro i hk
    obtain ⟨hp, g, d, tk, os⟩ := s
    have hlt : i < items.size := by omega
    wp_walk using wpAny_loadPart' hl
    have hi : items[((i : Nat) : Int).toNat]? = some items[i] := by simp [hlt]
    have hc : ((i : Int) + 1) = ((i + 1 : Nat) : Int) := by push_cast; rfl
    rw [hi]
    refine wpAny_bind (he _ (Array.getElem_mem hlt) prog w _ _ _ _ ?_)
    rw [hno i hlt]
    wp_walk
    rw [hc]
    exact ⟨plainId_quiet MeetsSeq.plain_remove_loop _, codeAny_builtin MeetsSeq.entry_remove_loop (by
      rw [Around.under_plainId MeetsSeq.plain_remove_loop _]
      exact ih (i + 1) (by omega))⟩
theorem x_remove {a : Addr} {ws : List Str} {k : Str} {t : Tok} {Q : Value → Shared → Prop} (S : St f ls hs s) (hm : (a, .sl ws) ∈ hs) (hh : A.handled = none) (hk : k ∉ ws) (h : ∀ e s', XS f ls hs "ValueError" .none e s' → E (.ref e) s') :
    wpAny (model prog w) A (call (.builtin "list.remove") [.ref a, .str k t]) Q E s := by
  obtain ⟨vs, n, hl, hv⟩ := S.get hm
  have e := sa_size hv
  refine wpAny_call (codeAny_call_builtin F.slot_list_remove.plain F.entry_list_remove (F.slot_list_remove.check _ _ _ _ _ _ _ _ hl.isList.typeIs (F.args_list_remove_2 _ _) ?_))
  have hno : ∀ m (hm : m < vs.size), isStrOf k vs[m] = false := by
    intro m hm'
    have := sa_isStr k hv m (by simpa using hm')
    rw [show vs[m] = vs.toList[m]'(by simpa using hm') from by simp, this]
    simp
    rintro rfl
    exact hk (List.getElem_mem _)
  have L := remove_loop_none' (prog := prog) (w := w) (A := A) (x := .str k t) (R := wants Q E) (fun y hy => eq_isStrOf k t hv y (by simpa using hy)) hno hl S hh (fun e s' z S' => h e s' (.new (.inr (Nat.le_trans S.ext.1 z)) S')) _ 0 rfl
  obtain ⟨hp, g, d, tk, os⟩ := s
  wp_walk using wpAny_loadPart' hl
  exact ⟨plainId_quiet MeetsSeq.plain_remove_loop _, codeAny_builtin MeetsSeq.entry_remove_loop (by
    rw [Around.under_plainId MeetsSeq.plain_remove_loop _]
    exact L)⟩
theorem r_extend {a b : Addr} {ws us : List Str} {Q : Value → Shared → Prop} (S : St f ls ((a, .sl ws) :: hs) s) (m : f.may a) (hb : (b, .sl us) ∈ hs) (hz : ws.length + us.length < 1000) (h : ∀ s', St f ls ((a, .sl (ws ++ us)) :: hs) s' → Q .none s') :
    wpAny (model prog w) A (call (.builtin "list.extend") [.ref a, .ref b]) Q E s := by
  obtain ⟨vs, n, hl, hv⟩ := S.get (.head _)
  obtain ⟨vs', n', hl', hv'⟩ := S.get (.tail _ hb)
  have e := sa_size hv
  have e' := sa_size hv'
  refine call_meets F.slot_list_extend hl.isList.typeIs F.entry_list_extend (F.args_list_extend_2 _ _) (AutoSeq1.list_extend_list_list_0 a vs n b vs' n' ?_ (by rw [sizeLine_eq]; omega) (by rw [sizeLine_eq]; omega)) ⟨hl, hl', h _ ?_⟩
  · have : Builtin.List.listTooLong (vs.size + vs'.size) = false := by unfold Builtin.List.listTooLong; rw [sizeLine_eq]; simp; omega
    simp [this]
  · exact S.turn m hl _ (by simpa using sa_append hv hv') s.toks
theorem r_in {a : Addr} {ws : List Str} {k : Str} {t : Tok} {Q : Value → Shared → Prop} (S : St f ls hs s) (hm : (a, .sl ws) ∈ hs) (h : Q (.bool (decide (k ∈ ws))) s) : wpAny (model prog w) A (compareOp .In (.str k t) (.ref a)) Q E s := by
  obtain ⟨vs, n, hl, hv⟩ := S.get hm
  refine in_list_strs (vs := vs.toList) hl.isList hv ?_
  have : ws.any (· == k) = decide (k ∈ ws) := by rw [Bool.eq_iff_iff]; simp
  rw [this]; exact h
theorem r_notin {a : Addr} {ws : List Str} {k : Str} {t : Tok} {Q : Value → Shared → Prop} (S : St f ls hs s) (hm : (a, .sl ws) ∈ hs) (h : Q (.bool (!decide (k ∈ ws))) s) : wpAny (model prog w) A (compareOp .NotIn (.str k t) (.ref a)) Q E s := by
  obtain ⟨vs, n, hl, hv⟩ := S.get hm
  refine notin_list_strs (vs := vs.toList) hl.isList hv ?_
  have : ws.any (· == k) = decide (k ∈ ws) := by rw [Bool.eq_iff_iff]; simp
  rw [this]; exact h
theorem r_sorted {a : Addr} {ws : List Str} {Q : Value → Shared → Prop} (S : St f ls hs s) (hm : (a, .sl ws) ∈ hs) (hz : ws.length < 64) (h : ∀ c us s', s.heap.objs.size ≤ c → us.Perm ws → sortedS us = true → St f ls ((c, .sl us) :: hs) s' → Q (.ref c) s') :
    wpAny (model prog w) A (call (.builtin "sorted") [.ref a]) Q E s := by
  obtain ⟨vs, n, hl, hv⟩ := S.get hm
  refine wpAny_size (sorted_strs (vs := vs.toList) hl.isList hv (by simp; rw [sa_size hv]; exact hz) fun out us h1 h2 h3 z => ?_)
  obtain ⟨e, he⟩ := sortedAll_at s.heap vs.toList out
  refine h _ us _ (Nat.le_succ _) h2 h3 (S.more (S.inv.step S.ok (fun b o _ q => sortedAll_old q) z rfl S.inv.gens) (Ext.keeps (fun b o q => sortedAll_old q) z _) (Nat.le_succ _) ⟨out, e, he, h1⟩)
end
end TF10
section TF11
section
variable {prog : Program} {w : World} {f : Fx} {A : Around} {E : Value → Shared → Prop} {s : Shared} {ls : List (Str × Value)} {hs : List (Addr × Kd)}
theorem r_lenS {x : Str} {t : Tok} {Q : Value → Shared → Prop} (S : St f ls hs s) (hz : x.length < 2 ^ 60) (h : ∀ t s', St f ls hs s' → Q (.int x.length t) s') : wpAny (model prog w) A (call (.builtin "len") [.str x t]) Q E s :=
  len_str (by omega) (h _ _ (S.tok _))
theorem r_addS {x y : Str} {t u : Tok} {Q : Value → Shared → Prop} (S : St f ls hs s) (hz : x.length + y.length < 10000) (h : ∀ t s', St f ls hs s' → Q (.str (x ++ y) t) s') : wpAny (model prog w) A (binaryOp .Add (.str x t) (.str y u)) Q E s :=
  SB.add (fun t' k => h t' _ (S.tok k)) (by rw [sizeLine_eq]; omega)
theorem r_iaddS {x y : Str} {t u : Tok} {Q : Value → Shared → Prop} (S : St f ls hs s) (hz : x.length + y.length < 10000) (h : ∀ t s', St f ls hs s' → Q (.str (x ++ y) t) s') : wpAny (model prog w) A (inplaceOp .Add (.str x t) (.str y u)) Q E s :=
  SB.iadd (fun t' k => h t' _ (S.tok k)) (by rw [sizeLine_eq]; omega)
theorem sum_le {l : List Str} {B : Nat} (h : ∀ x ∈ l, x.length ≤ B) : (l.map (·.length)).sum ≤ l.length * B := by
  induction l with
  | nil => simp
  | cons x r ih =>
    have h1 := h x (.head _)
    have h2 := ih fun y hy => h y (.tail _ hy)
    simp only [List.map_cons, List.sum_cons, List.length_cons, Nat.succ_mul]
    omega
theorem r_join {x : Str} {t : Tok} {a : Addr} {ws : List Str} {Q : Value → Shared → Prop} (S : St f ls hs s) (hm : (a, .sl ws) ∈ hs) (hx : x.length ≤ 16) (hn : ws.length ≤ 200) (hB : ∀ y ∈ ws, y.length ≤ 1000) (h : ∀ t s', St f ls hs s' → Q (.str (Txt.join x ws) t) s') :
    wpAny (model prog w) A (call (.builtin "str.join") [.str x t, .ref a]) Q E s := by
  obtain ⟨vs, n, hl, hv⟩ := S.get hm
  have := sum_le hB
  refine join_listW hl.isList hv hx (by omega) fun t' k => h t' _ (S.tok k)
/-- ws[-1] -/
theorem r_last {value slice : Expr} {a : Addr} {ws : List Str} {y : Str} {k : Int} {u : Tok} {Q : Value → Shared → Prop} (S : St f ls hs s) (hm : (a, .sl ws) ∈ hs) (hk : k = -1) (hx : ws.getLast? = some y) (hz : ws.length < 2 ^ 60)
    (h : ∀ t, Q (.str y t) s) (hsl : subscripted slice false (.ref a) (.int k u) = operate [.ref a, .int k u] (getItem (.ref a) (.int k u)) := by with_unfolding_all rfl) :
    wpAny (model prog w) A (subscriptTail value slice (.ref a) (.int k u)) Q E s := by
  obtain ⟨vs, n, hl, hv⟩ := S.get hm
  have e := sa_size hv
  have hne : 0 < ws.length := by cases ws with | nil => simp at hx | cons => simp
  rw [List.getLast?_eq_getElem?] at hx
  obtain ⟨t, q⟩ := sa_get hv hx
  refine tail_any hl.isList.typeIs slot_list_getitem.lookup ?_ hsl
  refine wpAny_getItem_list_neg hl.isList (by omega) (by omega) (by omega) (x := .str y t) ?_ (h t)
  rw [show (k + (vs.size : Int)).toNat = ws.length - 1 by omega]; exact q
end
theorem str_len_append (x y : Str) : (x ++ y).length = x.length + y.length := by
  show (x.cps ++ y.cps).size = _
  rw [Array.size_append]; rfl
theorem strOk_append {x y : Str} (hx : PyData.strOk x = true) (hy : PyData.strOk y = true) : PyData.strOk (x ++ y) = true := by
  show (x.cps ++ y.cps).all _ = true
  unfold PyData.strOk at hx hy
  rw [Array.all_append, hx, hy]; rfl
theorem St.fresh {f : Fx} {ls : List (Str × Value)} {hs : List (Addr × Kd)} {s : Shared} {c : Addr} (S : St f ls hs s) (z : s.heap.objs.size ≤ c) : f.h0.objs.size ≤ c := Nat.le_trans S.ext.1 z
end TF11
section TF12
def cellK (v : Option Value) : Kd := .is fun o => o.data = .cell v
def nsK : Kd := .is fun o => ∃ m, ∀ (h : Heap) (a : Addr), h.get? a = some o → h.Ns a m

section
variable {prog : Program} {w : World} {f : Fx} {A : Around} {E : Value → Shared → Prop} {s : Shared} {ls : List (Str × Value)} {hs : List (Addr × Kd)} {env : Env}
theorem r_cell {x : Str} {pos : Pos} {c : Addr} {v : Value} {Q : Value → Shared → Prop} (S : St f ls hs s) (hx : env.kindOf x = some .cell) (hc : env.cells.lookup x = some c) (hm : (c, cellK (some v)) ∈ hs) (h : Q v s)
    (hk : env.scope.kind = .function := by rfl) (hd : (x == ("__debug__" : Str)) = false := by decide) : wpAny (model prog w) A (eval (.Name x pos) env) Q E s := by
  obtain ⟨o, ho, hq⟩ := S.get hm
  exact wpAny_Name (wpAny_loadName_cell hk hx hc ⟨o, ho, hq⟩ h) hd
theorem r_range3 {a b c : Int} {t u v : Tok} {Q : Value → Shared → Prop} (S : St f ls hs s) (hc : c ≠ 0) (hd : Builtin.divisionGoesByPylong (b - a) c = false) (h : ∀ r s' t₁ t₂ t₃, St f ls ((r, .obj (rgObj a b c t₁ t₂ t₃)) :: hs) s' → Q (.ref r) s') : wpAny (model prog w) A (call (.type "range") [.int a t, .int b u, .int c v]) Q E s :=
  call_range_3 hc (h _ _ _ _ _ (S.pushObj (rgObj a b c t u v) _ rfl)) (.inl hd)
theorem ns_of {h : Heap} {a : Addr} {m : Str → Option Value} (n : h.Ns a m) : nsK.At h a := by
  obtain ⟨o, es, ep, ho, r⟩ := n
  exact ⟨o, ho, m, fun h' a' e => ⟨o, es, ep, e, r⟩⟩
theorem St.letgo {C : Addr} {h' : Heap} {k : Kd} (S : St f ls ((C, k) :: hs) s) (m : f.may C) (hb : Heap.SameBut C s.heap h') : St f ls hs { s with heap := h' } :=
  S.gone (fun b o n e => (hb.2 b n).trans e) (Nat.le_of_eq hb.1.symm) m s.toks

/-- into a comprehension: the new list D, the new names C -/
theorem comp_enter {elt target iter : Expr} {ifs : List Expr} {scope : Scope} {pos : Pos} {it : Addr} {ki : Kd} {cl : List (Str × Addr)} {RR : Value → Addr → Result → Shared → Prop} (S : St f ls ((it, ki) :: hs) s)
    (hself : ∀ s' (Q : Value → Shared → Prop) E', ki.At s'.heap it → Q (.ref it) s' → wpAny (model prog w) A (pyIter (.ref it)) Q E' s')
    (hcell : ∀ y ∈ scope.names, y.2 ≠ .cell) (hkind : scope.kind = .function)
    (h : ∀ C D s₄, s.heap.objs.size ≤ D → s.heap.objs.size ≤ C → D ≠ C → St ⟨f.g, s.heap, [it], C⟩ [] ((D, .sl []) :: (it, ki) :: hs) s₄ →
      codeAny (model prog w) A (.compLoop (.ListComp elt [⟨target, iter, ifs, 0⟩] scope pos) 0 (.ref it) (.ref D) (compEnvC scope cl C env)) (RR (.ref D) C) s₄) :
    wpAny (model prog w) A (newList []) (fun acc s₃ => wpAny (model prog w) A (newFunctionEnv scope env.globals cl [] env.qual none .none (some env)) (fun cenv s₄ =>
      codeAny (model prog w) A (.compStart (.ListComp elt [⟨target, iter, ifs, 0⟩] scope pos) 0 (.ref it) acc { cenv with scope := relabel scope env }) (RR acc cenv.locals) s₄) E s₃) E s := by
  refine wpAny_newObj_type (wpAny_newFunctionEnv hcell (by intro y hy; simp at hy) (fun h₁ hns₁ hsb₁ => ?_) hkind)
  dsimp only at hns₁ hsb₁ ⊢
  generalize hH2 : s.heap.push { cls := .type "list", dict := none, data := .seq ([] : List Value).toArray } = H2 at hns₁ hsb₁ ⊢
  have hC : H2.objs.size = s.heap.objs.size + 1 := by rw [← hH2, Heap.size_push]
  have z1 : h₁.objs.size = s.heap.objs.size + 2 := by rw [hsb₁.1, Heap.size_push, hC]
  have old : ∀ b o, s.heap.get? b = some o → h₁.get? b = some o := fun b o e =>
    (hsb₁.2 b (Nat.ne_of_lt (Nat.lt_of_lt_of_le (Heap.lt_size e) (by omega)))).trans (Heap.get?_push_of_some _ (by rw [← hH2]; exact Heap.get?_push_of_some _ e))
  have hD : h₁.get? s.heap.objs.size = some { cls := .type "list", dict := none, data := .seq ([] : List Value).toArray } :=
    (hsb₁.2 _ (Nat.ne_of_lt (by omega))).trans (Heap.get?_push_of_some _ (by rw [← hH2]; exact Heap.get?_push_size _ rfl))
  have hsz : s.heap.objs.size ≤ h₁.objs.size := by omega
  have I : Inv f.g { s with heap := h₁, toks := s.toks + ([] : List (Str × Value)).length } := S.inv.step S.ok (fun b o _ e => old b o e) hsz rfl S.inv.gens
  have S₄ : St ⟨f.g, s.heap, [it], H2.objs.size⟩ [] ((s.heap.objs.size, .sl []) :: (it, ki) :: hs) { s with heap := h₁, toks := s.toks + ([] : List (Str × Value)).length } := by
    refine ⟨S.ok, I, Ext.keeps old hsz _, ⟨_, hns₁, fun x v e => by simp at e⟩, ?_, ?_, fun p hp => ?_, ?_⟩
    · have := S.inv.size; show f.g.n ≤ H2.objs.size; omega
    · show s.heap.objs.size ≤ H2.objs.size; omega
    · rcases List.mem_cons.mp hp with rfl | hp
      · exact ⟨⟨_, _, hD, .nil⟩, S.inv.size, Nat.ne_of_lt (by show s.heap.objs.size < H2.objs.size; omega)⟩
      · have := S.has p hp
        have lt := this.1.lt
        exact ⟨this.1.ext (Ext.keeps old hsz []) (by simp) (not_tab S.ok this.2.1), this.2.1, Nat.ne_of_lt (Nat.lt_of_lt_of_le lt (by show s.heap.objs.size ≤ H2.objs.size; omega))⟩
    · rw [List.map_cons, List.nodup_cons]
      refine ⟨fun q => ?_, S.nd⟩
      obtain ⟨p, hp, e⟩ := List.mem_map.mp q
      have := (S.has p hp).1.lt
      rw [e] at this
      exact absurd this (Nat.lt_irrefl _)
  have L := h H2.objs.size s.heap.objs.size _ (Nat.le_refl _) (by omega) (Nat.ne_of_lt (by omega)) S₄
  exact codeAny_compStart_list L (hself _ _ _ (S₄.get (.tail _ (.head _))) L)

/-- … and out of it -/
theorem comp_leave {it C D : Addr} {ki : Kd} {ls' : List (Str × Value)} {res : List Str} {s' : Shared} (S : St f ls ((it, ki) :: hs) s) (mit : f.may it) (hD : s.heap.objs.size ≤ D) (S' : St ⟨f.g, s.heap, [it], C⟩ ls' ((D, .sl res) :: hs) s') :
    St f ls ((C, nsK) :: (D, .sl res) :: hs) s' := by
  obtain ⟨m, hn, _⟩ := S'.loc
  have nd := S'.nd
  have nd0 := S.nd
  simp only [List.map_cons, List.nodup_cons, List.mem_cons, not_or] at nd nd0
  have hC : s.heap.objs.size ≤ C := S'.new
  have ltL := S.ltL
  refine S.next S'.inv S'.ext (by simp; exact fun q => S.ne (.head _) q.symm) (by simpa using mit) (fun p hp => ?_) ?_
  · rcases List.mem_cons.mp hp with rfl | hp
    · exact .inr ⟨ns_of hn, S'.lo, Nat.ne_of_gt (Nat.lt_of_lt_of_le ltL hC)⟩
    · rcases List.mem_cons.mp hp with rfl | hp
      · exact .inr ⟨S'.get (.head _), S'.low (.head _), Nat.ne_of_gt (Nat.lt_of_lt_of_le ltL hD)⟩
      · refine .inl ⟨.tail _ hp, fun q => ?_⟩
        simp at q
        exact nd0.1 (by rw [← q]; exact List.mem_map_of_mem hp)
  · simp only [List.map_cons, List.nodup_cons, List.mem_cons, not_or]
    refine ⟨⟨fun q => S'.ne (.head _) q.symm, fun q => ?_⟩, nd.1, nd.2⟩
    obtain ⟨p, hp, e⟩ := List.mem_map.mp q
    exact S'.ne (.tail _ hp) (by show p.1 = C; exact e)
/-- the comprehension's value is stored, its names are let go -/
theorem comp_store {C D : Addr} {y : Str} {py : Pos} {k : Kd} {Q : Value → Shared → Prop} (S : St f ls ((C, nsK) :: (D, k) :: hs) s) (mC : f.may C) (hy : env.kindOf y = some .local) (h : ∀ s', St f ((y, .ref D) :: ls) ((D, k) :: hs) s' → Q .none s')
    (hL : env.locals = f.L := by rfl) (hk : env.scope.kind = .function := by rfl) : compPost (model prog w) A E (some (assign (.Name y py) env)) Q (.ref D) C (.ok .next) s := by
  show wpAny _ A (assign (.Name y py) env (.ref D)) _ _ s
  refine wpAny_assign_Name (r_storeName S (fun s₁ S₁ => ?_) hL hk hy)
  obtain ⟨o, ho, m, hm⟩ := S₁.get (.head _)
  exact ⟨m, hm _ _ ho, fun h' hb => h _ (S₁.letgo mC hb)⟩
theorem comp_value {C D : Addr} {k : Kd} {Q : Value → Shared → Prop} (S : St f ls ((C, nsK) :: (D, k) :: hs) s) (mC : f.may C) (h : ∀ s', St f ls ((D, k) :: hs) s' → Q (.ref D) s') : compPost (model prog w) A E none Q (.ref D) C (.ok .next) s := by
  obtain ⟨o, ho, m, hm⟩ := S.get (.head _)
  exact ⟨m, hm _ _ ho, fun h' hb => h _ (S.letgo mC hb)⟩
end
/-- a call of a def whose parameters are cells -/
theorem r_callC {prog : Program} {w : World} {g : Gx} (G : g.Ok) {A : Around} {k : Nat} {s : Shared} (X : List Addr) (hs : List (Addr × Kd)) {fa : Addr} {args : List Value} (binds : List (Str × Value)) (cs : List (Str × Addr)) {oc : Value} {od : Option Addr} {osl : Array (Option Value)}
    {name qual : Str} {params : Arguments} {body : List Stmt} {scope : Scope} {dV kV doc pm cdv ct : Value} {an : Option Addr}
    {Q : Value → Shared → Prop} {E : Value → Shared → Prop} (I : Inv g s) (a : Ar A (k + 1))
    (ho : (KF g.w).lookup fa = some ⟨oc, od, .func (fnX name qual params body scope [] dV kV doc pm an cdv ct), osl⟩) (hnt : fa ∉ tabs) (hcd : codeIn (KF g.w) cdv qual = true) (hct : cdv ≠ .ref 140 ∧ cdv ≠ .ref 147)
    (hbind : BindsTo s (fnX name qual params body scope [] dV kV doc pm an cdv ct) ⟨args, []⟩ binds)
    (hcs : cellsFrom (s.heap.objs.size + 1) scope.names [] = cs) (hlk : ∀ p ∈ cs, cs.lookup p.1 = some p.2)
    (hkind : ∀ x ∈ binds, scope.names.lookup x.1 = some .local ∨ (scope.names.lookup x.1 = some .cell ∧ (cs.lookup x.1).isSome = true))
    (hhs : ∀ p ∈ hs, p.2.At s.heap p.1 ∧ g.n ≤ p.1) (nd : (hs.map (·.1)).Nodup)
    (h : ∀ s₁, St ⟨g, s.heap, X, s.heap.objs.size⟩ [] ((cs.map fun p => (p.2, cellK (bindC (envX qual scope s.heap.objs.size fa cdv cs).kindOf binds (fun _ => none) p.1))) ++ hs) s₁ → Ar (A.deeper (envX qual scope s.heap.objs.size fa cdv cs)) k →
      wpAny (model prog w) (A.deeper (envX qual scope s.heap.objs.size fa cdv cs)) (execs body (envX qual scope s.heap.objs.size fa cdv cs)) (fun f s' => Q (match f with | .ret v => v | _ => .none) s')
        (fun e s' => wpAny (model prog w) (A.deeper (envX qual scope s.heap.objs.size fa cdv cs)) (leaving (envX qual scope s.heap.objs.size fa cdv cs) e) (fun _ s'' => E e s'') (fun e' s'' => E e' s'') s') s₁)
    (hco : scope.isCoroutine = false := by rfl) (hgen : scope.isGenerator = false := by rfl) (hk : scope.kind = .function := by rfl) :
    wpAny (model prog w) A (call (.ref fa) args) Q E s := by
  refine wpAny_call (codeAny_call_function (fd := fnX name qual params body scope [] dV kV doc pm an cdv ct) a.room (I.at G ho hnt) rfl hco hgen rfl (codeRec_at G I hcd hct) (hbind _ _ _ _ ?_))
  refine wpAny_newFunctionEnv_cells hk (by rw [hcs]; exact hkind) fun env' he s' x => ?_
  rw [hcs] at he
  subst he
  refine ⟨(I.lim G).keeps x.toInCall.keep, codeAny_func ?_⟩
  obtain ⟨h₁, tk, rfl, _⟩ := x.done
  have hk₁ := x.toInCall.keep
  have z : s.heap.objs.size ≤ h₁.objs.size := Nat.le_of_lt x.toInCall.ns.lt
  have hI : Inv g { s with heap := h₁, toks := tk } := I.step G (fun b o _ e => hk₁ b o e) z rfl I.gens
  have ab : ∀ p ∈ cs, s.heap.objs.size < p.2 := fun p hp => x.above p.1 p.2 hp
  refine h _ ⟨G, hI, Ext.keeps hk₁ z X, ⟨_, x.toInCall.ns, fun y v e => by simp at e⟩, I.size, Nat.le_refl _, fun p hp => ?_, ?_⟩ (a.deeper _)
  · rcases List.mem_append.mp hp with hp | hp
    · obtain ⟨q, hq, rfl⟩ := List.mem_map.mp hp
      obtain ⟨o, ho, hd⟩ := x.cell q.1 q.2 (hlk q hq)
      exact ⟨⟨o, ho, hd⟩, Nat.le_trans I.size (Nat.le_of_lt (ab q hq)), Nat.ne_of_gt (ab q hq)⟩
    · have := hhs p hp
      exact ⟨this.1.ext (Ext.keeps hk₁ z []) (by simp) (not_tab G this.2), this.2, Nat.ne_of_lt this.1.lt⟩
  · rw [List.map_append, List.nodup_append]
    refine ⟨?_, nd, ?_⟩
    · rw [List.map_map]
      exact List.pairwise_map.mpr x.apart
    · intro u hu v hv e
      rw [List.map_map] at hu
      obtain ⟨q, hq, rfl⟩ := List.mem_map.mp hu
      obtain ⟨p, hp, rfl⟩ := List.mem_map.mp hv
      have l1 := ab q hq
      have l2 := (hhs p hp).1.lt
      have e' : q.2 = p.1 := e
      rw [e'] at l1
      exact absurd l1 (Nat.lt_asymm l2)
section
variable {prog : Program} {w : World} {f : Fx} {A : Around} {E : Value → Shared → Prop} {s : Shared} {env : Env}
theorem r_AssignComp {elt iter : Expr} {x y : Str} {px py : Pos} {ifs : List Expr} {scope : Scope} {cl : List (Str × Addr)} {pos spos : Pos} {Q : Flow → Shared → Prop}
    (hsw : swapsWith (.ListComp elt [⟨.Name x px, iter, ifs, 0⟩] scope pos) (some (.Name y py)) spos.line env = pure true)
    (hclos : closureFor scope env = pure cl) (hkind : scope.kind = .function)
    (hnames : ∀ z ∈ scope.names, z.2 = .local → scope.names.lookup z.1 = some .local)
    (h : wpAny (model prog w) A (eval iter env) (fun xv s₁ => wpAny (model prog w) A (pyIter xv) (fun it s₂ =>
      wpAny (model prog w) A (newList []) (fun acc s₃ => wpAny (model prog w) A (newFunctionEnv scope env.globals cl [] env.qual none .none (some env)) (fun cenv s₄ =>
        codeAny (model prog w) A (.compStart (.ListComp elt [⟨.Name x px, iter, ifs, 0⟩] scope pos) 0 it acc { cenv with scope := relabel scope env }) (compPost (model prog w) A E (some (assign (.Name y py) env)) (fun _ s' => Q .next s') acc cenv.locals) s₄) E s₃) E s₂) E s₁) E s)
    (hs : ∀ x, foldedSetIterable iter env x = pure x := by intro _; rfl) :
    wpAny (model prog w) A (exec (.Assign [.Name y py] (.ListComp elt [⟨.Name x px, iter, ifs, 0⟩] scope pos) spos) env) Q E s := by
  rw [exec_Assign_Name_used _ _ _ _ hsw]
  refine wpAny_bind (wpAny_standAt (wpAny_bind ?_))
  show wpAny _ A (do let _ ← comprehension (.ListComp elt [⟨.Name x px, iter, ifs, 0⟩] scope pos) scope env _ (newList []) false (eval iter env) (some (assign (.Name y py) env))) _ _ s
  exact wpAny_bind (wpAny_mono (wpAny_comprehension_free (use := some (assign (.Name y py) env)) (Q := fun _ s' => Q .next s') rfl hs hclos hkind hnames h) (fun _ s' hq => wpAny_pure (wpAny_pure hq)) fun _ _ e => e)
theorem r_ListComp {elt iter : Expr} {x : Str} {px : Pos} {ifs : List Expr} {scope : Scope} {cl : List (Str × Addr)} {pos : Pos} {Q : Value → Shared → Prop}
    (hclos : closureFor scope env = pure cl) (hkind : scope.kind = .function)
    (hnames : ∀ z ∈ scope.names, z.2 = .local → scope.names.lookup z.1 = some .local)
    (h : wpAny (model prog w) A (eval iter env) (fun xv s₁ => wpAny (model prog w) A (pyIter xv) (fun it s₂ =>
      wpAny (model prog w) A (newList []) (fun acc s₃ => wpAny (model prog w) A (newFunctionEnv scope env.globals cl [] env.qual none .none (some env)) (fun cenv s₄ =>
        codeAny (model prog w) A (.compStart (.ListComp elt [⟨.Name x px, iter, ifs, 0⟩] scope pos) 0 it acc { cenv with scope := relabel scope env }) (compPost (model prog w) A E none Q acc cenv.locals) s₄) E s₃) E s₂) E s₁) E s)
    (hs : ∀ x, foldedSetIterable iter env x = pure x := by intro _; rfl) :
    wpAny (model prog w) A (eval (.ListComp elt [⟨.Name x px, iter, ifs, 0⟩] scope pos) env) Q E s := by
  rw [eval_ListComp]
  exact wpAny_comprehension_free (use := none) rfl hs hclos hkind hnames h
theorem forIn1 {c : Expr} {Q : Bool → Shared → Prop} (h : wpAny (model prog w) A (isTrue c env (eval c env)) Q E s) :
    wpAny (model prog w) A (forIn [c] true fun c r => if r = true then do let ok ← isTrue c env (eval c env); pure (ForInStep.yield ok) else pure (ForInStep.yield r)) Q E s := by
  rw [List.forIn_cons]
  refine wpAny_bind ?_
  rw [if_pos rfl]
  exact wpAny_bind (wpAny_mono h (fun b s₁ h₁ => wpAny_pure (by dsimp only; rw [List.forIn_nil]; exact wpAny_pure h₁)) fun _ _ e => e)
end
end TF12
section TF13
open Builtin Builtin.ObjectAttr
noncomputable def K2 (w : World) : Frag := (KF w).filter fun p => !(tabs.contains p.1)
theorem lookup_filter {α : Type} {p : Addr × α → Bool} : ∀ {l : List (Addr × α)} {a : Addr} {o : α}, (∀ (a : Addr) (x y : α), p (a, x) = p (a, y)) → (l.filter p).lookup a = some o → l.lookup a = some o ∧ p (a, o) = true
  | [], a, o, _, h => by simp at h
  | (b, x) :: r, a, o, hp, h => by
    rw [List.filter_cons] at h
    cases q : p (b, x) with
    | true =>
      rw [q, if_pos rfl, List.lookup_cons] at h
      rw [List.lookup_cons]
      cases e : a == b with
      | true => rw [e] at h; cases h; rw [beq_iff_eq.mp e]; exact ⟨rfl, q⟩
      | false => rw [e] at h; exact lookup_filter hp h
    | false =>
      rw [q, if_neg (by decide)] at h
      rw [List.lookup_cons]
      cases e : a == b with
      | true =>
        have := (lookup_filter hp h).2
        rw [beq_iff_eq.mp e, hp b o x, q] at this
        cases this
      | false => exact lookup_filter hp h
theorem Inv.k2 {g : Gx} {s : Shared} (I : Inv g s) (G : g.Ok) : (K2 g.w).In s.heap := fun a o e => by
  obtain ⟨h1, h2⟩ := lookup_filter (fun _ _ _ => rfl) e
  exact I.at G h1 (by simpa using h2)

namespace LF
theorem slot_ga : Slot "list" "__getattribute__" "list.__getattribute__" :=
  .of (owner := "list") (n := "__getattribute__") (by rw [typeLookup_type, builtinLookup_eq_fast]; kernel_rfl) (by decide +kernel) (by decide +kernel) (by decide +kernel)
    (by first | exact .inl (by decide +kernel) | exact .inr (by decide +kernel)) (by rw [isSubtype_type]; kernel_rfl)
theorem entry_ga : entryFor table "list.__getattribute__" = some Builtin.«object.__getattribute__» := am_entry_list_getattribute
theorem args_ga (a b : Value) : argsOk "list.__getattribute__" ⟨[a, b], []⟩ := by unfold argsOk; kernel_rfl
theorem canon_ga : (Manifest.canonical "list.__getattribute__" != "object.__getattribute__") = false := by decide +kernel
end LF

section
variable {prog : Program} {w : World} {A : Around} {E : Value → Shared → Prop} {s : Shared} {K : Frag} {x C : Addr} {ox : Obj} {od : Option Obj} {name : Str} {expr : Bool} {Q : Value → Shared → Prop}
theorem getL_value {v : Value} (X : K.In s.heap) (I : InstAt s.heap x ox C od) (hga : findIn K (.ref C) "__getattribute__" = some (some (.builtin "list.__getattribute__"))) (hk : findIn K (.ref C) "__getattr__" = some none) (hi : subIn K (.ref C) (.type "list") = some true)
    (hf : findObj K C od name = some (.value v)) (hh : handedIn v = true) (h : Q v { s with toks := s.toks + 1 }) : wpAny (model prog w) A (getAttr (.ref x) name expr) Q E s := by
  obtain ⟨hp, g, d, t, os⟩ := s
  have L0 := I.type (M := model prog w)
  have L1 := looks_findIn (M := model prog w) X hga
  have Lf := looks_find (M := model prog w) X I hf
  unfold getAttr getAttrBy
  refine wpAny_bind (wpAny_mkText (wpAny_holding (wpAny_bind (L0.at (wpAny_bind (L1.at ?_))))))
  dsimp only
  rw [show (onTheHeap (.ref C) && Value.builtin "list.__getattribute__" == Value.builtin "object.__getattribute__") = false from by rw [show (Value.builtin "list.__getattribute__" == Value.builtin "object.__getattribute__") = false from by decide +kernel, Bool.and_false], if_neg (by decide)]
  unfold getAttrByItsOwn
  refine wpAny_bind ((looks_hook (mc := .ref C) X (r := none) (by rw [if_pos (show onTheHeap (Value.ref C) = true from rfl)]; exact hk)).at (wpAny_bind (wpAny_attempt (wpAny_holding ?_))))
  unfold callGetattribute
  rw [show (expr && onTheHeap (Value.builtin "list.__getattribute__")) = false from Bool.and_false _, if_neg (by decide)]
  unfold boundAndCalled
  rw [LF.slot_ga.bind]
  refine wpAny_bind (wpAny_pure ?_)
  show wpAny _ _ (call (.builtin "list.__getattribute__") [.ref x, .str name t]) _ _ _
  refine wpAny_call (codeAny_call_builtin LF.slot_ga.plain LF.entry_ga ?_)
  refine @check_slot (model prog w) _ _ _ "list.__getattribute__" "list" "__getattribute__" (.ref x) [.str name t] [] _ (by decide +kernel) (by decide +kernel) (L0.andThen (looks_subIn X hi)) (LF.args_ga _ _) ?_
  unfold Builtin.«object.__getattribute__»
  refine wpAny_bind (wpAny_pure ?_)
  show wpAny _ _ (attrName (.str name t) >>= _) _ _ _
  refine wpAny_bind (wpAny_of_eq (a := name) rfl ?_)
  refine wpAny_bind (L0.at (wpAny_bind (Lf.at ?_)))
  dsimp only
  refine wpAny_of_eq (a := .done (.ret v)) rfl ?_
  dsimp only
  rw [handedOut_of hh]
  exact wpAny_pure h
theorem method_any {ga : String} {v tv : Value} {pl : Sem Bool} {Q : Value × List Value → Shared → Prop} (X : K.In s.heap) (I : InstAt s.heap x ox C od) (hga : findIn K (.ref C) "__getattribute__" = some (some (.builtin ga))) (hcan : (Manifest.canonical ga != "object.__getattribute__") = false)
    (hk : findIn K (.ref C) "__getattr__" = some none) (hf : findIn K (.ref C) name = some (some v)) (ht : typeIn K v = some tv) (htv : (tv != .type "function" && tv != .type "method_descriptor" && tv != .type "wrapper_descriptor") = false)
    (hs : shadowIn od name = some false) (h : Q (v, [.ref x]) s) : wpAny (model prog w) A (getMethod (.ref x) name pl) Q E s := by
  unfold getMethod specialOf
  refine wpAny_bind (wpAny_bind (I.type.here ((looks_findIn X hga).here ?_)))
  dsimp only
  rw [hcan, if_neg (by decide)]
  refine wpAny_bind (wpAny_bind (I.type.here ((looks_findIn X hk).here ?_)))
  refine wpAny_bind (wpAny_bind (I.type.here ((looks_findIn X hf).here (wpAny_bind ((looks_typeIn X ht).here ?_)))))
  rw [htv, if_neg (by decide)]
  refine wpAny_bind (wpAny_loadPart I.at_ ?_)
  have hd := I.dict
  cases e : ox.dict with
  | none => exact wpAny_bind (wpAny_rule (wpAny_pure h))
  | some dx =>
    cases od with
    | none => rw [e] at hd; exact hd.elim
    | some o =>
      rw [e] at hd
      obtain ⟨r, a, b⟩ := Option.map_eq_some_iff.mp hs
      refine wpAny_bind (wpAny_bind (wpAny_loadPart hd ?_))
      rw [nsLook_of a]
      refine wpAny_pure ?_
      rw [b]
      exact wpAny_bind (wpAny_rule (wpAny_pure h))
end

/-- an _Accumulator, its names -/
def accO (d : Addr) (vs : Array Value) (n : Nat) (sl : Array (Option Value)) : Obj := ⟨.ref 178, some d, .seq vs n, sl⟩
def accK (d : Addr) (vs : Array Value) : Kd := .is fun o => ∃ n sl, o = accO d vs n sl
def acdO (hsh : Int) (k : Tok) (v : Value) (n : Nat) : Obj := ⟨.type "dict", none, .dict #[⟨hsh, .str "_initial_size" k, v⟩] n, #[]⟩
section
variable {prog : Program} {w : World} {f : Fx} {A : Around} {E : Value → Shared → Prop} {s : Shared} {ls : List (Str × Value)} {hs : List (Addr × Kd)}
def acdK (i : Int) : Kd := .is fun o => ∃ hsh k t n, o = acdO hsh k (.int i t) n

theorem acc_inst {c d : Addr} {vs : Array Value} {i : Int} (S : St f ls hs s) (hc : (c, accK d vs) ∈ hs) (hd : (d, acdK i) ∈ hs) :
    ∃ n sl hsh k t n', InstAt s.heap c (accO d vs n sl) 178 (some (acdO hsh k (.int i t) n')) := by
  obtain ⟨_, ho, n, sl, rfl⟩ := S.get hc
  obtain ⟨_, ho', hsh, k, t, n', rfl⟩ := S.get hd
  exact ⟨n, sl, hsh, k, t, n', ho, rfl, rfl, ho'⟩
theorem r_initial {c d : Addr} {vs : Array Value} {i : Int} {expr : Bool} {Q : Value → Shared → Prop} (S : St f ls hs s) (hc : (c, accK d vs) ∈ hs) (hd : (d, acdK i) ∈ hs) (h : ∀ t s', St f ls hs s' → Q (.int i t) s') :
    wpAny (model prog w) A (getAttr (.ref c) "_initial_size" expr) Q E s := by
  obtain ⟨n, sl, hsh, k, t, n', I⟩ := acc_inst S hc hd
  exact getL_value (S.inv.k2 S.ok) I (by rfl) (by rfl) (by rfl) (by rfl) rfl (h t _ (S.tok _))
theorem r_accM {c d : Addr} {vs : Array Value} {i : Int} {name : Str} {fa : Value} {tv : Value} {pl : Sem Bool} {Q : Value × List Value → Shared → Prop} (S : St f ls hs s) (hc : (c, accK d vs) ∈ hs) (hd : (d, acdK i) ∈ hs)
    (hf : findIn (K2 f.g.w) (.ref 178) name = some (some fa)) (ht : typeIn (K2 f.g.w) fa = some tv) (htv : (tv != .type "function" && tv != .type "method_descriptor" && tv != .type "wrapper_descriptor") = false) (hn : ∀ hsh k v n, shadowIn (some (acdO hsh k v n)) name = some false)
    (h : Q (fa, [.ref c]) s) : wpAny (model prog w) A (getMethod (.ref c) name pl) Q E s := by
  obtain ⟨n, sl, hsh, k, t, n', I⟩ := acc_inst S hc hd
  exact method_any (S.inv.k2 S.ok) I (by rfl) LF.canon_ga (by rfl) hf ht htv (hn _ _ _ _) h
theorem acc_isList {M : Model} {c d : Addr} {vs : Array Value} (S : St f ls hs s) (hc : (c, accK d vs) ∈ hs) : Looks M s.heap (isInstance (.ref c) (.type "list")) true := by
  obtain ⟨_, ho, n, sl, rfl⟩ := S.get hc
  have L0 : Looks M s.heap (typeOf (.ref c)) (.ref 178) := (Looks.ld ho).andThen .now
  exact L0.andThen (looks_subIn (S.inv.k2 S.ok) (by rfl))
theorem acc_call {i n : String} {b : Builtin} {rest : List Value} {c d : Addr} {vs : Array Value} {Q : Value → Shared → Prop} (S : St f ls hs s) (hc : (c, accK d vs) ∈ hs) (hk : builtinKind i = some .slot ∨ builtinKind i = some .method) (hs : splitId i = some ("list", n))
    (ha : argsOk i ⟨.ref c :: rest, []⟩) (hp : plainId i = true) (hb : entryFor table i = some b)
    (h : wpAny (model prog w) A.in1 (b ⟨.ref c :: rest, []⟩) (fun fin s' => match fin with | .done f => wants Q E (.ok f) s' | .again c' => c'.quiet = true ∧ codeAny (model prog w) A c' (wants Q E) s') (fun e s' => wants Q E (.error e) s') s) :
    wpAny (model prog w) A (call (.builtin i) (.ref c :: rest)) Q E s := by
  refine wpAny_call (codeAny_call_builtin hp hb ?_)
  have L := acc_isList (M := model prog w) S hc
  have fin : ∀ Q' : Unit → Shared → Prop, Q' () s → wpAny (model prog w) A.in1 (do let sig := Manifest.signature? i; if let some sig := sig then Bind.checkArgs i sig ⟨.ref c :: rest, []⟩) Q' (fun e s' => wants Q E (.error e) s') s := fun Q' q => by
    dsimp only
    cases hsig : Manifest.signature? i with
    | none => exact wpAny_pure q
    | some sig =>
      simp only [argsOk, hsig] at ha
      have h2 : Bind.checkArgs i sig ⟨.ref c :: rest, []⟩ = pure () := ha
      show wpAny _ _ (Bind.checkArgs i sig ⟨.ref c :: rest, []⟩) _ _ _
      rw [h2]; exact wpAny_pure q
  rcases hk with hk | hk
  · exact check_slot hk hs L ha h
  · simp only [checkBuiltinCall, hk, hs]
    refine wpAny_bind (L.here ?_)
    simp only [Bool.not_true, Bool.false_eq_true, if_false]
    exact fin _ h
theorem St.accSet {c d : Addr} {vs : Array Value} (S : St f ls ((c, accK d vs) :: hs) s) (m : f.may c) (fn : Array Value → Array Value) (t : Nat) : St f ls ((c, accK d (fn vs)) :: hs) { s with heap := s.heap.update c (Obj.mapSeq fn), toks := t } :=
  S.updI m _ (fun o ⟨n, sl, e⟩ => by subst e; exact ⟨⟨_, sl, rfl⟩, rfl⟩) t
theorem r_accAppend {c d : Addr} {vs : Array Value} {x : Value} {Q : Value → Shared → Prop} (S : St f ls ((c, accK d vs) :: hs) s) (m : f.may c) (hz : vs.size < 1000) (h : ∀ s', St f ls ((c, accK d (vs.push x)) :: hs) s' → Q .none s') :
    wpAny (model prog w) A (call (.builtin "list.append") [.ref c, x]) Q E s := by
  refine acc_call S (.head _) (.inr (by decide +kernel)) (n := "append") (by decide +kernel) (F.args_list_append_2 _ _) (by decide +kernel) F.entry_list_append ?_
  obtain ⟨_, ho, n, sl, rfl⟩ := S.get (.head _)
  show wpAny _ _ (updateSeq c (·.push x) >>= fun _ => ret .none) _ _ s
  exact wpAny_bind (wpAny_updateSeq ho rfl (wpAny_pure (h _ (S.accSet m (·.push x) s.toks))) (by rw [sizeLine_eq]; omega) (by rw [sizeLine_eq]; simp; omega))
end
end TF13
section TF14
open Builtin Builtin.ObjectAttr
theorem wd_slot : Slot "wrapper_descriptor" "__get__" "wrapper_descriptor.__get__" := .of (owner := "wrapper_descriptor") (n := "__get__") (by rw [typeLookup_type, builtinLookup_eq_fast]; kernel_rfl) (by decide +kernel) (by decide +kernel) (by decide +kernel)
    (by first | exact .inl (by decide +kernel) | exact .inr (by decide +kernel)) (by rw [isSubtype_type]; kernel_rfl)
theorem md_slot : Slot "method_descriptor" "__get__" "method_descriptor.__get__" := .of (owner := "method_descriptor") (n := "__get__") (by rw [typeLookup_type, builtinLookup_eq_fast]; kernel_rfl) (by decide +kernel) (by decide +kernel) (by decide +kernel)
    (by first | exact .inl (by decide +kernel) | exact .inr (by decide +kernel)) (by rw [isSubtype_type]; kernel_rfl)
theorem wd_entry : entryFor table "wrapper_descriptor.__get__" = some Builtin.«wrapper_descriptor.__get__» := entryFor_of_tree (by kernel_rfl)
theorem md_entry : entryFor table "method_descriptor.__get__" = some Builtin.«method_descriptor.__get__» := entryFor_of_tree (by kernel_rfl)
theorem wd_args (a b c : Value) : argsOk "wrapper_descriptor.__get__" ⟨[a, b, c], []⟩ := by unfold argsOk; kernel_rfl
theorem md_args (a b c : Value) : argsOk "method_descriptor.__get__" ⟨[a, b, c], []⟩ := by unfold argsOk; kernel_rfl

section
variable {prog : Program} {w : World} {A : Around} {E : Value → Shared → Prop} {h : Heap} {g : Array GenState} {d : Drawn} {t : Nat} {os : OsState}
theorem own_len : ".".intercalate ("list.__len__".cutAt '.').dropLast = "list" := by decide +kernel
theorem own_init : ".".intercalate ("list.__init__".cutAt '.').dropLast = "list" := by decide +kernel
theorem own_pop : ".".intercalate ("list.pop".cutAt '.').dropLast = "list" := by decide +kernel
theorem wd_get {id : String} {x : Addr} {ox : Obj} {Q : Fin → Shared → Prop} (ho : ".".intercalate (id.cutAt '.').dropLast = "list") (hx : h.get? x = some ox) (hc : ox.cls = .ref 178) (hi : Looks (model prog w) h (isSubtype (.ref 178) (.type "list")) true)
    (hq : Q (.done (.ret (.ref h.objs.size))) ⟨h.push { cls := .type "method-wrapper", data := .fields #[.builtin id, .ref x] }, g, d, t, os⟩) :
    wpAny (model prog w) A (Builtin.«wrapper_descriptor.__get__» ⟨[.builtin id, .ref x, .ref 178], []⟩) Q E ⟨h, g, d, t, os⟩ := by
  unfold Builtin.«wrapper_descriptor.__get__»
  repeat (first | (with_reducible refine wpAny_loadPart_at hx ?_; rw [hc]) | (rw [ho]; with_reducible refine Looks.at hi ?_) | wp_step)
  exact hq
theorem md_get {id : String} {x : Addr} {ox : Obj} {Q : Fin → Shared → Prop} (ho : ".".intercalate (id.cutAt '.').dropLast = "list") (ht : Manifest.toldItsClass.contains id = false) (hx : h.get? x = some ox) (hc : ox.cls = .ref 178) (hi : Looks (model prog w) h (isSubtype (.ref 178) (.type "list")) true)
    (hq : Q (.done (.ret (.ref h.objs.size))) ⟨h.push { cls := .type "builtin_function_or_method", data := .fields #[.builtin id, .ref x] }, g, d, t, os⟩) :
    wpAny (model prog w) A (Builtin.«method_descriptor.__get__» ⟨[.builtin id, .ref x, .ref 178], []⟩) Q E ⟨h, g, d, t, os⟩ := by
  unfold Builtin.«method_descriptor.__get__»
  repeat (first | (with_reducible refine wpAny_loadPart_at hx ?_; rw [hc]) | (rw [ho]; with_reducible refine Looks.at hi ?_) | (rw [ht]) | wp_step)
  exact hq
theorem super_ga {so x : Addr} {id T gid bt : String} {bT : Builtin} {K : Frag} {name : Str} {tk : Tok} {Q : Fin → Shared → Prop}
    (hso : h.get? so = some { cls := .type "super", dict := none, data := .fields #[.ref 178, .ref x, .ref 178], slots := #[] }) (hno : Looks (model prog w) h (opaqueClassAbove (.ref 178)) none)
    (hC : Looks (model prog w) h (mroOf (.ref 178)) [.ref 178, .type "list", .type "object"]) (X : K.In h)
    (hf : alongIn K name [.type "list", .type "object"] = some (some (.builtin id))) (hxC : x ≠ 178) (hn : (name == ("__class__" : Str)) = false)
    (slotT : Slot T "__get__" gid) (entryT : entryFor table gid = some bT) (argsT : ∀ a b c : Value, argsOk gid ⟨[a, b, c], []⟩) (hT : typeOf (.builtin id) = pure (.type T)) (hTs : ∀ s : Shared, s.TypeIs (.builtin id) T)
    (hget : ∀ (A : Around) (Q : Fin → Shared → Prop) (E : Value → Shared → Prop), Q (.done (.ret (.ref h.objs.size))) ⟨h.push { cls := .type bt, data := .fields #[.builtin id, .ref x] }, g, d, t, os⟩ → wpAny (model prog w) A (bT ⟨[.builtin id, .ref x, .ref 178], []⟩) Q E ⟨h, g, d, t, os⟩)
    (hq : Q (.done (.ret (.ref h.objs.size))) ⟨h.push { cls := .type bt, data := .fields #[.builtin id, .ref x] }, g, d, t, os⟩) :
    wpAny (model prog w) A (Builtin.«super.__getattribute__» ⟨[.ref so, .str name tk], []⟩) Q E ⟨h, g, d, t, os⟩ := by
  have hlk := slotT.lookup
  have hne : (Value.ref x == Value.ref 178) = false := by simp [hxC]
  have hdt : ({ cls := .type "super", dict := none, data := .fields #[.ref 178, .ref x, .ref 178], slots := #[] } : Obj).data = .fields #[.ref 178, .ref x, .ref 178] := rfl
  have f0 : (#[.ref 178, .ref x, .ref 178] : Array Value)[0]? = some (.ref 178) := rfl
  have f1 : (#[.ref 178, .ref x, .ref 178] : Array Value)[1]? = some (.ref x) := rfl
  have f2 : (#[.ref 178, .ref x, .ref 178] : Array Value)[2]? = some (.ref 178) := rfl
  have hl : ([.ref 178, .type "list", .type "object"] : List Value).dropWhile (· != .ref 178) = [.ref 178, .type "list", .type "object"] := by rfl
  unfold Builtin.«super.__getattribute__»
  repeat (first
    | (with_reducible refine wpAny_field hso hdt f0 ?_) | (with_reducible refine wpAny_field hso hdt f1 ?_) | (with_reducible refine wpAny_field hso hdt f2 ?_)
    | (with_reducible refine ks_wpAny_notOpaque hno ?_)
    | (with_reducible refine Looks.at hC ?_; rw [hl])
    | (refine ks_forIn_along X (fun _ _ => rfl) rfl ?_ hf)
    | (with_reducible refine wpAny_typeOf (hTs _) ?_)
    | (with_reducible refine wpAny_call_entry slotT (hTs _) entryT ?_ (argsT _ _ _))
    | (with_reducible refine hget _ _ _ ?_)
    | (with_reducible refine ⟨_, rfl, ?_⟩)
    | (simp only [hn, hne, Bool.or_false, Bool.false_eq_true, if_false])
    | wp_step
    | dsimp only)
  all_goals exact hq
theorem getMethod_super {so x : Addr} {id T gid bt : String} {bT : Builtin} {K : Frag} {name : Str} {pl : Sem Bool} {Q : Value × List Value → Shared → Prop}
    (hso : h.get? so = some { cls := .type "super", dict := none, data := .fields #[.ref 178, .ref x, .ref 178], slots := #[] }) (hno : Looks (model prog w) h (opaqueClassAbove (.ref 178)) none)
    (hC : Looks (model prog w) h (mroOf (.ref 178)) [.ref 178, .type "list", .type "object"]) (X : K.In h)
    (hf : alongIn K name [.type "list", .type "object"] = some (some (.builtin id))) (hxC : x ≠ 178) (hn : (name == ("__class__" : Str)) = false)
    (slotT : Slot T "__get__" gid) (entryT : entryFor table gid = some bT) (argsT : ∀ a b c : Value, argsOk gid ⟨[a, b, c], []⟩) (hT : typeOf (.builtin id) = pure (.type T))
    (hget : ∀ (A : Around) (Q : Fin → Shared → Prop) (E : Value → Shared → Prop), Q (.done (.ret (.ref h.objs.size))) ⟨h.push { cls := .type bt, data := .fields #[.builtin id, .ref x] }, g, d, t + 1, os⟩ → wpAny (model prog w) A (bT ⟨[.builtin id, .ref x, .ref 178], []⟩) Q E ⟨h, g, d, t + 1, os⟩)
    (hq : Q (.ref h.objs.size, []) ⟨h.push { cls := .type bt, data := .fields #[.builtin id, .ref x] }, g, d, t + 1, os⟩) :
    wpAny (model prog w) A (getMethod (.ref so) name pl) Q E ⟨h, g, d, t, os⟩ := by
  have hlk := PySem.F.ks_slot_super_ga.lookup
  have hcan := PySem.F.ks_canon_super_ga
  have hT' : ∀ t', (⟨h, g, d, t', os⟩ : Shared).TypeIs (.ref so) "super" := fun _ => ⟨_, hso, rfl⟩
  unfold getMethod
  refine wpAny_bind (wpAny_specialOf (hT' _) hlk ?_)
  show wpAny _ _ (if (Manifest.canonical "super.__getattribute__" != "object.__getattribute__") = true then _ else _) _ _ _
  rw [if_pos hcan]
  unfold getAttr getAttrBy
  refine wpAny_bind (wpAny_bind (wpAny_mkText (wpAny_holding (wpAny_bind (wpAny_typeOf (hT' _) (wpAny_bind (wpAny_of_eq hlk ?_)))))))
  show wpAny _ _ (getAttrByItsOwn (.ref so) (.str name t) (.type "super") (.builtin "super.__getattribute__") true false) _ _ _
  unfold getAttrByItsOwn hookBefore callGetattribute boundAndCalled
  refine wpAny_bind (wpAny_of_eq (show (if onTheHeap (.type "super") then typeLookup (.type "super") "__getattr__" else pure none) = pure none from rfl) ?_)
  refine wpAny_bind (wpAny_attempt (wpAny_holding ?_))
  show wpAny _ _ (bindSpecial (.builtin "super.__getattribute__") (.ref so) >>= _) _ _ _
  refine wpAny_bind (wpAny_of_eq (PySem.F.ks_slot_super_ga.bind _) ?_)
  refine wpAny_mono (Q := fun v s' => v = .ref h.objs.size ∧ s' = ⟨h.push { cls := .type bt, data := .fields #[.builtin id, .ref x] }, g, d, t + 1, os⟩) (E := fun _ _ => False)
    (wpAny_call_entry PySem.F.ks_slot_super_ga (hT' _) PySem.F.ks_entry_super_ga (super_ga hso hno hC X hf hxC hn slotT entryT argsT hT (fun _ => hT) hget ⟨_, rfl, rfl, rfl⟩) (PySem.F.ks_gaArgs_super _ _)) (fun v s' hv => ?_) fun _ _ z => z.elim
  obtain ⟨rfl, rfl⟩ := hv
  exact wpAny_pure (wpAny_pure hq)
end
section
variable {prog : Program} {w : World} {A : Around} {E : Value → Shared → Prop} {s : Shared}
theorem call_boundB {b : Addr} {bt id : String} {x : Value} {a : List Value} {Q : Value → Shared → Prop} (hb : s.heap.get? b = some { cls := .type bt, dict := none, data := .fields #[.builtin id, x], slots := #[] }) (hbt : bt = "method-wrapper" ∨ bt = "builtin_function_or_method")
    (hchk : ∀ Q' : Unit → Shared → Prop, Q' () s → wpAny (model prog w) A.in1 (checkBoundCall id ⟨x :: a, []⟩) Q' E s) (hpl : plainId id = true)
    (hq : codeAny (model prog w) A (.builtin id ⟨x :: a, []⟩) (wants Q E) s) : wpAny (model prog w) A (call (.ref b) a) Q E s := by
  refine wpAny_call (codeAny_of_tree ?_)
  show wpAny _ A.in1 (callAny (.ref b) ⟨a, []⟩) _ _ _
  unfold callAny
  refine wpAny_bind (wpAny_load hb ?_)
  rcases hbt with rfl | rfl
  all_goals
    show wpAny _ _ (checkBoundCall id ⟨x :: a, []⟩ >>= fun _ => again (.builtin id ⟨x :: a, []⟩)) _ _ _
    exact wpAny_bind (hchk _ (wpAny_pure ⟨plainId_quiet hpl _, hq⟩))
end
end TF14
section TF15
open Builtin Builtin.ObjectAttr
def supO (x : Addr) : Obj := { cls := .type "super", dict := none, data := .fields #[.ref 178, .ref x, .ref 178], slots := #[] }

theorem r_callAt {prog : Program} {w : World} {g : Gx} (G : g.Ok) {A : Around} {k : Nat} {s : Shared} (X : List Addr) (hs : List (Addr × Kd)) {fa : Addr} {args : List Value} (binds : List (Str × Value)) {oc : Value} {od : Option Addr} {osl : Array (Option Value)}
    {name qual : Str} {params : Arguments} {body : List Stmt} {scope : Scope} {cl : List (Str × Addr)} {dV kV doc pm cdv ct : Value} {an : Option Addr}
    {Q : Value → Shared → Prop} {E : Value → Shared → Prop} (I : Inv g s) (a : Ar A (k + 1))
    (ho : (KF g.w).lookup fa = some ⟨oc, od, .func (fnX name qual params body scope cl dV kV doc pm an cdv ct), osl⟩) (hnt : fa ∉ tabs) (hcd : codeIn (KF g.w) cdv qual = true) (hct : cdv ≠ .ref 140 ∧ cdv ≠ .ref 147)
    (hbind : BindsTo s (fnX name qual params body scope cl dV kV doc pm an cdv ct) ⟨args, []⟩ binds) (hcell : ∀ x ∈ scope.names, x.2 ≠ .cell) (hloc : ∀ x ∈ binds, scope.names.lookup x.1 = some .local)
    (hhs : ∀ p ∈ hs, p.2.At s.heap p.1 ∧ g.n ≤ p.1) (nd : (hs.map (·.1)).Nodup)
    (h : ∀ s₁, St ⟨g, s.heap, X, s.heap.objs.size⟩ binds.reverse hs s₁ → Ar (A.deeper (envX qual scope s.heap.objs.size fa cdv cl)) k → s₁.gens = s.gens →
      PySem.wpAt (model prog w) (A.deeper (envX qual scope s.heap.objs.size fa cdv cl)) (.func body (envX qual scope s.heap.objs.size fa cdv cl)) (execs body (envX qual scope s.heap.objs.size fa cdv cl)) (fun f s' => Q (match f with | .ret v => v | _ => .none) s')
        (fun e s' => wpAny (model prog w) (A.deeper (envX qual scope s.heap.objs.size fa cdv cl)) (leaving (envX qual scope s.heap.objs.size fa cdv cl) e) (fun _ s'' => E e s'') (fun e' s'' => E e' s'') s') s₁)
    (hco : scope.isCoroutine = false := by rfl) (hgen : scope.isGenerator = false := by rfl) (hk : scope.kind = .function := by rfl) :
    wpAny (model prog w) A (call (.ref fa) args) Q E s := by
  refine wpAny_call (ks_codeAny_call_defAt (fd := fnX name qual params body scope cl dV kV doc pm an cdv ct) a.room (I.at G ho hnt) rfl (I.lim G) (codeRec_at G I hcd hct) rfl hbind hcell hloc (fun h₀ hns hk₀ => ?_) hco hgen hk)
  have z : s.heap.objs.size ≤ h₀.objs.size := Nat.le_of_lt hns.lt
  have hI : Inv g { s with heap := h₀, toks := s.toks + binds.length } := I.step G (fun b o _ e => hk₀ b o e) z rfl I.gens
  refine h _ ⟨G, hI, Ext.keeps hk₀ z X, ⟨_, hns, fun x v e => e⟩, I.size, Nat.le_refl _, fun p hp => ?_, nd⟩ (a.deeper _) rfl
  have := hhs p hp
  exact ⟨this.1.ext (Ext.keeps hk₀ z []) (by simp) (not_tab G this.2), this.2, Nat.ne_of_lt this.1.lt⟩

section
variable {w : World} {f : Fx} {A : Around} {E : Value → Shared → Prop} {s : Shared} {ls : List (Str × Value)} {hs : List (Addr × Kd)} {env : Env}
theorem r_super {body : List Stmt} {p0 p1 : Pos} {attr : Str} {whole : Sem Value} {fa cc c d : Addr} {vs : Array Value} {of oc : Obj} {fd : FuncData} {ar : Arg} {cv : Array Value} {file : Str} {tf : Tok} {Q : Value → Shared → Prop}
    (S : St f ls hs s) (hc : (c, accK d vs) ∈ hs) (hself : ls.lookup ar.arg = some (.ref c))
    (hf : (KF f.g.w).lookup fa = some of) (hft : fa ∉ tabs) (hfd : of.data = .func fd) (hp : (fd.params.posonlyargs ++ fd.params.args).head? = some ar) (hco : env.code = .ref cc) (hcc : (KF f.g.w).lookup cc = some oc) (hct : cc ∉ tabs) (hoc : oc.data = .fields cv) (hvs : cv[2]? = some (.str file tf))
    (hfile : ((PR.main.file : Str) == file) = true)
    (h : ∀ so s', s.heap.objs.size ≤ so → St f ls ((so, .obj (supO c)) :: hs) s' → Q (.ref so) s')
    (hcl : env.cells.lookup ("__class__" : Str) = some 102 := by rfl) (hL : env.locals = f.L := by rfl) (hk : env.scope.kind = .function := by rfl) (hx : env.kindOf ar.arg = some .local := by rfl) (hg : env.globals = mainGlobals := by rfl) (hb : env.builtins = builtinsNs := by rfl)
    (hks : env.kindOf "super" = some .globalImplicit := by rfl) (hkc : env.kindOf "__class__" = some .free := by rfl) (hat : (attr == ("__class__" : Str)) = false := by decide) (hfu : env.func = some fa := by rfl) :
    PySem.wpAt (model PR w) A (.func body env) (attributeBase (.Call (.Name "super" p0) [] [] p1) attr env whole) Q E s := by
  refine ks_wpAt_super_base hks hkc hat hfu (S.inv.at S.ok hf hft) hfd hp hco (S.inv.at S.ok hcc hct) hoc hvs hfile (by rfl) ?_
  have hsup : f.g.mb ("super" : Str) = some (.type "super") := by
    have h1 : bootBuiltins ("super" : Str) = some (.type "super") := by boot_by_name
    exact (S.ok.bb _ (by decide)).trans h1
  refine ks_loadName_global hk hks (loadGlobal_builtin (by rw [hg]; exact S.inv.gl S.ok) (mg_none_of S.ok.kx S.ok.gl (by rfl)) (by rw [hb]; exact S.inv.bl S.ok) hsup ⟨rfl, ?_⟩)
  refine wpAny_loadName_free hk hkc hcl ⟨_, S.inv.at S.ok (by rfl) (by decide), rfl⟩ ?_
  refine r_loadName S hself ?_ hL hk hx
  have h178 : s.heap.get? 178 = _ := S.inv.at S.ok (by rfl) (by decide)
  obtain ⟨_, hco, n, sl, rfl⟩ := S.get hc
  obtain ⟨hh, g, dd, t, os⟩ := s
  refine ks_wpAny_isType_cls h178 rfl ⟨rfl, ?_⟩
  refine wpAny_size (ks_wpAny_call_super h178 rfl hco rfl (by intro c q; cases q) (looks_subIn (S.inv.k2 S.ok) (by rfl)) fun h' e k z => ?_)
  exact h _ _ (Nat.le_refl _) (S.more (S.inv.step S.ok (fun b o _ q => k b o q) z rfl S.inv.gens) (Ext.keeps k z _) (Nat.le_refl _) e)
end
end TF15
section TF16
open Builtin Builtin.ObjectAttr
def bndO (bt id : String) (c : Addr) : Obj := { cls := .type bt, dict := none, data := .fields #[.builtin id, .ref c], slots := #[] }
section
variable {prog : Program} {w : World} {f : Fx} {A : Around} {E : Value → Shared → Prop} {s : Shared} {ls : List (Str × Value)} {hs : List (Addr × Kd)} {env : Env}
theorem acc_ne {c d : Addr} {vs : Array Value} (S : St f ls hs s) (hc : (c, accK d vs) ∈ hs) : c ≠ 178 := fun q => by
  have h1 := S.low hc
  have h2 : 178 < f.g.n := Heap.lt_size (S.ok.kx 178 _ (by rfl))
  rw [q] at h1
  exact absurd h2 (Nat.not_lt.mpr h1)
theorem r_superM {so c d : Addr} {vs : Array Value} {id T gid bt : String} {bT : Builtin} {name : Str} {pl : Sem Bool} {Q : Value × List Value → Shared → Prop} (S : St f ls hs s) (hso : (so, .obj (supO c)) ∈ hs) (hc : (c, accK d vs) ∈ hs)
    (hf : alongIn (K2 f.g.w) name [.type "list", .type "object"] = some (some (.builtin id))) (hn : (name == ("__class__" : Str)) = false)
    (slotT : Slot T "__get__" gid) (entryT : entryFor table gid = some bT) (argsT : ∀ a b c : Value, argsOk gid ⟨[a, b, c], []⟩) (hT : typeOf (.builtin id) = pure (.type T))
    (hget : ∀ (ox : Obj) (h : Heap) g d t os (A : Around) (Q : Fin → Shared → Prop) (E : Value → Shared → Prop), h.get? c = some ox → ox.cls = .ref 178 → Looks (model prog w) h (isSubtype (.ref 178) (.type "list")) true → Q (.done (.ret (.ref h.objs.size))) ⟨h.push (bndO bt id c), g, d, t, os⟩ → wpAny (model prog w) A (bT ⟨[.builtin id, .ref c, .ref 178], []⟩) Q E ⟨h, g, d, t, os⟩)
    (h : ∀ b s', s.heap.objs.size ≤ b → St f ls ((b, .obj (bndO bt id c)) :: hs) s' → Q (.ref b, []) s') : wpAny (model prog w) A (getMethod (.ref so) name pl) Q E s := by
  obtain ⟨_, hco, n, sl, rfl⟩ := S.get hc
  have hso' := S.get hso
  have X := S.inv.k2 S.ok
  obtain ⟨hh, g, dd, t, os⟩ := s
  refine getMethod_super (bt := bt) hso' (looks_opaque X (by rfl)) (Looks.of_peek X (by rfl)) X hf (acc_ne S hc) hn slotT entryT argsT hT (fun A Q E hq => hget _ _ _ _ _ _ A Q E hco rfl (looks_subIn X (by rfl)) hq) ?_
  exact h _ _ (Nat.le_refl _) (S.pushObj (bndO bt id c) _ rfl)
theorem r_cwB0 {pos : Pos} {b c : Addr} {bt id : String} {Q : Value → Shared → Prop} (S : St f ls hs s) (hb : (b, .obj (bndO bt id c)) ∈ hs) (hbt : bt = "method-wrapper" ∨ bt = "builtin_function_or_method")
    (h : wpAny (model prog w) A (call (.ref b) []) Q E s) : wpAny (model prog w) A (callWith pos (.ref b) [] (backTo pos (starEach [] env)) []) Q E s := by
  unfold callWith
  refine wpAny_bind (wpAny_holding (PyProof.Rows.evalArgs_none (wpAny_bind (wpAny_standAt ?_))))
  have hk : ∀ {Q' : Keeper → Shared → Prop}, Q' .machine s → wpAny (model prog w) A (keeperOf (.ref b)) Q' E s := fun q => by
    unfold keeperOf
    refine wpAny_bind (wpAny_load (S.get hb) ?_)
    rcases hbt with rfl | rfl <;> exact wpAny_pure q
  refine wpAny_bind (hk ?_)
  exact wpAny_bind (wpAny_mono h (fun r s₂ hr => wpAny_bind (wpAny_holding (wpAny_point (wpAny_pure hr)))) fun _ _ x => x)
theorem r_cwF0 {pos : Pos} {a : Addr} {first : List Value} {Q : Value → Shared → Prop} (hf : FnAt s a) (h : wpAny (model prog w) A (call (.ref a) first) Q E s) : wpAny (model prog w) A (callWith pos (.ref a) first (backTo pos (starEach [] env)) []) Q E s := by
  obtain ⟨o, fd, ho, hd⟩ := hf
  exact callWith_function (PyProof.Rows.evalArgs_none ⟨⟨ho, hd⟩, by simpa using h⟩)
end
end TF16
section TF17
open Builtin Builtin.ObjectAttr
section
variable {prog : Program} {w : World} {f : Fx} {A : Around} {E : Value → Shared → Prop} {s : Shared} {ls : List (Str × Value)} {hs : List (Addr × Kd)} {env : Env}
theorem acc_type {M : Model} {c d : Addr} {vs : Array Value} (S : St f ls hs s) (hc : (c, accK d vs) ∈ hs) : Looks M s.heap (typeOf (.ref c)) (.ref 178) := by
  obtain ⟨_, ho, n, sl, rfl⟩ := S.get hc
  exact (Looks.ld ho).andThen .now
theorem acc_special {c d : Addr} {vs : Array Value} {name : Str} {id T : String} {args : List Value} {Q : Option Value → Shared → Prop} (S : St f ls hs s) (hc : (c, accK d vs) ∈ hs) (sl : Slot T name id) (hf : findIn (K2 f.g.w) (.ref 178) name = some (some (.builtin id)))
    (h : wpAny (model prog w) A (call (.builtin id) (.ref c :: args)) (fun v => Q (some v)) E s) : wpAny (model prog w) A (callSpecial? (.ref c) name args) Q E s := by
  unfold callSpecial? specialOf
  refine wpAny_bind (wpAny_bind ((acc_type S hc).here ((looks_findIn (S.inv.k2 S.ok) hf).here ?_)))
  dsimp only
  rw [sl.bind]
  exact wpAny_holding (wpAny_bind (wpAny_pure (wpAny_bind (wpAny_mono h (fun v s' h' => wpAny_pure h') fun _ _ h' => h'))))
theorem acc_seqKey {c d : Addr} {vs : Array Value} {k : Value} {name : Str} {Q : Value → Shared → Prop} (S : St f ls hs s) (hc : (c, accK d vs) ∈ hs) (h : Q k s) : wpAny (model prog w) A (sequenceKey (.ref c) k name) Q E s := by
  unfold sequenceKey
  refine wpAny_bind ((acc_type S hc).here ?_)
  refine wpAny_bind ((anyM_none (S.inv.k2 S.ok) (by rfl)).here ?_)
  exact wpAny_pure h
theorem acc_getItem {c d : Addr} {vs : Array Value} {i : Value} {Q : Value → Shared → Prop} (S : St f ls hs s) (hc : (c, accK d vs) ∈ hs) (h : wpAny (model prog w) A (call (.builtin "list.__getitem__") [.ref c, i]) Q E s) : wpAny (model prog w) A (getItem (.ref c) i) Q E s := by
  unfold getItem
  refine wpAny_holding (wpAny_bind (acc_seqKey S hc (wpAny_bind (acc_special S hc slot_list_getitem (by rfl) ?_))))
  exact wpAny_mono h (fun v s' q => wpAny_pure q) fun _ _ x => x
theorem acc_itemK {c d : Addr} {vs : Array Value} {v : Value} {k : Int} {u : Tok} {Q : Value → Shared → Prop} (S : St f ls hs s) (hc : (c, accK d vs) ∈ hs) (h0 : 0 ≤ k) (hx : vs[k.toNat]? = some v) (hlo : -(2 ^ 63) ≤ k) (hhi : k < 2 ^ 63) (h : Q v s) :
    wpAny (model prog w) A (getItem (.ref c) (.int k u)) Q E s := by
  refine acc_getItem S hc ?_
  refine acc_call S hc (.inr (by decide +kernel)) (n := "__getitem__") (by decide +kernel) (args_list_getitem _ _) (by decide +kernel) entry_list_getitem ?_
  obtain ⟨_, ho, n, sl, rfl⟩ := S.get hc
  show wpAny _ _ (Builtin.List.listSubscript? (.int k u) >>= _) _ _ s
  refine wpAny_bind (wpAny_listSubscript_int (fitsIndex_both hlo hhi) ?_)
  clear hlo hhi
  cases k with
  | ofNat j =>
    have hx' : vs[j]? = some v := hx
    show wpAny _ _ ((seqItemAt c j >>= fun r => pure (r.map (j, ·))) >>= _) _ _ s
    refine wpAny_bind (wpAny_bind (wpAny_seqItemAt ho rfl (wpAny_pure ?_)))
    rw [hx']
    exact wpAny_pure h
  | negSucc j => exact absurd h0 (by have := Int.negSucc_lt_zero j; omega)
theorem acc_sliceG {c d b : Addr} {vs : Array Value} {vl vu : Value} {lo hi : Option Int} {Q : Value → Shared → Prop} (S : St f ls hs s) (hc : (c, accK d vs) ∈ hs) (hb : (b, .obj (slObj vl vu)) ∈ hs) (pl : IsPart vl lo) (pu : IsPart vu hi) (hz : vs.size ≤ sizeLine)
    (h : ∀ l s', s.heap.objs.size ≤ l → St f ls ((l, .obj (listOf (slicePick vs lo hi none) 0)) :: hs) s' → Q (.ref l) s') : wpAny (model prog w) A (getItem (.ref c) (.ref b)) Q E s := by
  refine acc_getItem S hc ?_
  refine acc_call S hc (.inr (by decide +kernel)) (n := "__getitem__") (by decide +kernel) (args_list_getitem _ _) (by decide +kernel) entry_list_getitem ?_
  obtain ⟨_, ho, n, sl, rfl⟩ := S.get hc
  have hos : s.heap.get? b = some (slObj vl vu) := S.get hb
  have hTs : s.TypeIs (.ref b) "slice" := ⟨_, hos, rfl⟩
  show wpAny _ _ (Builtin.List.listSubscript? (.ref b) >>= _) _ _ s
  refine wpAny_bind ?_
  unfold Builtin.List.listSubscript?
  refine wpAny_bind (wpAny_specialOf hTs slice_no_index ?_)
  simp only [Option.isNone_none, if_true]
  refine wpAny_pure ?_
  show wpAny _ _ (typeOf (.ref b) >>= _) _ _ s
  refine wpAny_bind (wpAny_typeOf hTs ?_)
  rw [if_neg (by decide)]
  rw [listSliceParts_eq]
  refine wpAny_bind (wpAny_bind (wpAny_field hos rfl (x := .none) rfl (wpAny_bind (wpAny_listPart .none ?_))))
  rw [if_neg (by decide)]
  refine wpAny_bind (wpAny_field hos rfl (x := vl) rfl (wpAny_bind (wpAny_listPart pl ?_)))
  refine wpAny_bind (wpAny_field hos rfl (x := vu) rfl (wpAny_bind (wpAny_listPart pu (wpAny_pure ?_))))
  refine wpAny_bind (m := Builtin.List.listItems (.ref c)) ?_
  unfold Builtin.List.listItems
  refine wpAny_bind (wpAny_seqItems ho rfl (wpAny_pure ?_))
  refine wpAny_bind (wpAny_of_eq (sliceIndices_raw lo hi none vs.size (by simp)) ?_)
  exact wpAny_bind (wpAny_newObj_type (wpAny_pure (h _ _ (Nat.le_refl _) (S.pushObj (listOf (slicePick vs lo hi none) 0) s.toks rfl))) (Nat.le_trans (slicePick_size_le vs lo hi none) hz))
theorem acc_setItem {c d : Addr} {vs : Array Value} {i v : Value} {Q : Unit → Shared → Prop} (S : St f ls hs s) (hc : (c, accK d vs) ∈ hs) (h : wpAny (model prog w) A (call (.builtin "list.__setitem__") [.ref c, i, v]) (fun _ => Q ()) E s) : wpAny (model prog w) A (setItem (.ref c) i v) Q E s := by
  unfold setItem
  refine wpAny_holding (wpAny_bind (acc_seqKey S hc (wpAny_bind (acc_special S hc slot_list_setitem (by rfl) ?_))))
  exact wpAny_mono h (fun v s' q => wpAny_pure q) fun _ _ x => x
theorem acc_sliceS {c d b l : Addr} {vs us : Array Value} {k i : Nat} {vl : Value} {lo : Option Int} {Q : Unit → Shared → Prop} (S : St f ls ((c, accK d vs) :: hs) s) (m : f.may c) (hb : (b, .obj (slObj vl .none)) ∈ hs) {kd : Kd} (hl : (l, kd) ∈ hs) (hol : s.heap.get? l = some (listOf us k)) (pl : IsPart vl lo)
    (hbd : sliceBounds lo none none vs.size = ((i : Int), (vs.size : Int), 1)) (hi : i ≤ vs.size) (hz : vs.size + us.size < 1000)
    (h : ∀ s', St f ls ((c, accK d (vs.extract 0 i ++ us)) :: hs) s' → Q () s') : wpAny (model prog w) A (setItem (.ref c) (.ref b) (.ref l)) Q E s := by
  have hcl : c ≠ l := fun q => by
    have nd := S.nd
    rw [List.map_cons, List.nodup_cons] at nd
    exact nd.1 (List.mem_map.mpr ⟨_, hl, q.symm⟩)
  refine acc_setItem S (.head _) ?_
  refine acc_call S (.head _) (.inl (by decide +kernel)) (n := "__setitem__") (by decide +kernel) (args_list_setitem _ _ _) (by decide +kernel) entry_list_setitem ?_
  obtain ⟨_, ho, n, sl, rfl⟩ := S.get (.head _)
  have hos : s.heap.get? b = some (slObj vl .none) := S.get (.tail _ hb)
  have hTs : s.TypeIs (.ref b) "slice" := ⟨_, hos, rfl⟩
  have hTl : s.TypeIs (.ref l) "list" := ⟨_, hol, rfl⟩
  unfold Builtin.«list.__setitem__»
  refine wpAny_bind (wpAny_pure ?_)
  show wpAny _ _ (Builtin.List.listSubscript? (.ref b) >>= _) _ _ s
  refine wpAny_bind ?_
  unfold Builtin.List.listSubscript?
  refine wpAny_bind (wpAny_specialOf hTs slice_no_index ?_)
  simp only [Option.isNone_none, if_true]
  refine wpAny_pure ?_
  show wpAny _ _ (typeOf (.ref b) >>= _) _ _ s
  refine wpAny_bind (wpAny_typeOf hTs ?_)
  rw [if_neg (by decide)]
  rw [listSliceParts_eq]
  refine wpAny_bind (wpAny_bind (wpAny_field hos rfl (x := .none) rfl (wpAny_bind (wpAny_listPart .none ?_))))
  rw [if_neg (by decide)]
  refine wpAny_bind (wpAny_field hos rfl (x := vl) rfl (wpAny_bind (wpAny_listPart pl ?_)))
  refine wpAny_bind (wpAny_field hos rfl (x := .none) rfl (wpAny_bind (wpAny_listPart .none (wpAny_pure ?_))))
  have hsr : Builtin.List.listSameRef (.ref c) (.ref l) = false := by simp [Builtin.List.listSameRef, hcl]
  dsimp only
  rw [hsr, if_neg (by decide)]
  have hli : ∀ {Q' : Array Value → Shared → Prop}, Q' us s → wpAny (model prog w) A.in1 (Builtin.List.listAllItems (.ref l) "must assign iterable to extended slice") Q' (fun e s' => wants (fun x => Q ()) E (.error e) s') s := fun q => by
    unfold Builtin.List.listAllItems
    refine wpAny_bind (wpAny_typeOf hTl ?_)
    rw [if_pos (by decide)]
    unfold Builtin.List.listItems
    exact wpAny_bind (wpAny_seqItems hol rfl (wpAny_pure q))
  refine wpAny_bind (hli ?_)
  refine wpAny_bind (m := Builtin.List.listItems (.ref c)) ?_
  unfold Builtin.List.listItems
  refine wpAny_bind (wpAny_seqItems ho rfl (wpAny_pure ?_))
  refine wpAny_bind (wpAny_of_eq (sliceIndices_raw lo none none vs.size (by simp)) ?_)
  rw [hbd]
  dsimp only
  rw [if_pos (by decide)]
  refine wpAny_bind (wpAny_rule ?_)
  have htl : Builtin.List.listTooLong (vs.size + us.size) = false := by unfold Builtin.List.listTooLong; rw [sizeLine_eq]; simp; omega
  rw [htl, if_neg (by decide)]
  have e1 : (max (i : Int) (vs.size : Int)).toNat = vs.size := by omega
  have e2 : (i : Int).toNat = i := by omega
  rw [e1, e2]
  unfold Builtin.List.listUpdate
  have S' := S.accSet m (fun xs => xs.extract 0 i ++ us ++ xs.extract vs.size xs.size) s.toks
  have e3 : vs.extract 0 i ++ us ++ vs.extract vs.size vs.size = vs.extract 0 i ++ us := by simp
  rw [e3] at S'
  refine wpAny_bind (wpAny_updateSeq ho rfl ?_ (by rw [sizeLine_eq]; omega) (by rw [sizeLine_eq]; simp; omega))
  exact wpAny_bind (wpAny_letGo (wpAny_pure (h _ S')))
theorem acc_tail {value slice : Expr} {c d : Addr} {vs : Array Value} {i : Value} {ops : List Value} {Q : Value → Shared → Prop} (S : St f ls hs s) (hc : (c, accK d vs) ∈ hs) (hg : wpAny (model prog w) A (getItem (.ref c) i) Q E s)
    (hsl : subscripted slice false (.ref c) i = operate ops (getItem (.ref c) i) := by with_unfolding_all rfl) : wpAny (model prog w) A (subscriptTail value slice (.ref c) i) Q E s := by
  unfold subscriptTail getitemInPython specialOf
  refine wpAny_bind (wpAny_bind (wpAny_bind ((acc_type S hc).here ((looks_findIn (S.inv.k2 S.ok) (r := some (.builtin "list.__getitem__")) (by rfl)).here ?_))))
  have fin : wpAny (model prog w) A (subscripted slice false (.ref c) i) (fun r s₃ => wpAny (model prog w) A (letTemporaryGo value (.ref c) r >>= fun _ => pure r) Q E s₃) E s := by
    rw [hsl]
    exact wpAny_operating (wpAny_mono hg (fun r s₃ h₃ => wpAny_bind (wpAny_letTemporaryGo (wpAny_pure h₃))) fun _ _ x => x)
  first
    | exact wpAny_pure (wpAny_bind fin)
    | exact wpAny_bind (wpAny_pure (wpAny_bind fin))
    | exact wpAny_bind fin
end
end TF17
section TF18
open Builtin Builtin.ObjectAttr
theorem store_list : StoreFacts "list" [.type "list", .type "object"] "object.__setattr__" "object" where
  mro := by rw [mroOf_type]; kernel_rfl
  slot := .of (owner := "object") (n := "__setattr__") (by rw [typeLookup_type, builtinLookup_eq_fast]; kernel_rfl) (by decide +kernel) (by decide +kernel) (by decide +kernel)
    (by first | exact .inl (by decide +kernel) | exact .inr (by decide +kernel)) (by rw [isSubtype_type]; kernel_rfl)
  entry := entryFor_of_tree (by kernel_rfl)
  kind := by decide +kernel
  split := by decide +kernel
  hasOwner := by decide
  args := fun a b c => by unfold argsOk; kernel_rfl
  passes := fun self => by kernel_rfl

section
variable {prog : Program} {w : World} {A : Around} {E : Value → Shared → Prop} {s : Shared} {K : Frag} {x C dx : Addr} {ox od : Obj} {name : Str} {v : Value} {l : List Value} {es : List DictEntry} {n : Nat} {Q : Unit → Shared → Prop}
theorem setattr_core (X : K.In s.heap) (I : InstAt s.heap x ox C (some od)) (hd : ox.dict = some dx) (hs : findIn K (.ref C) "__setattr__" = some (some (.builtin "object.__setattr__")))
    (hm : Looks (model prog w) s.heap (mroOf (.ref C)) l) (hsub : subIn K (.ref C) (.type "object") = some true) (href : refuseLoop (.ref x) "__setattr__" l = pure ()) (ht : takerIn K C name = some none) (hh : (clsIn K C).any (·.hasDict) = true)
    (hl : (lookIn name od).isSome = true) (e' : (Obj.putName name (PyData.keyHash w.params name) (.str name (s.toks + 1)) v od).data = .dict es.toArray n) (hz : es.length ≤ 1000) (hfr : (Obj.putName name (PyData.keyHash w.params name) (.str name (s.toks + 1)) v od).isFreed = false)
    (h : Q () { s with heap := s.heap.update dx (Obj.putName name (PyData.keyHash w.params name) (.str name (s.toks + 1)) v), toks := s.toks + 1 + 1 }) : wpAny (model prog w) A (setAttr (.ref x) name v) Q E s := by
  refine set_plain X I hs ?_
  have SF := PySem.F.store_object
  have D : s.heap.get? dx = some od := by
    have := I.dict
    rw [hd] at this
    exact this
  refine codeAny_call_builtin SF.slot.plain SF.entry (@check_slot (model prog w) _ _ { s with toks := s.toks + 1 } "object.__setattr__" "object" "__setattr__" (.ref x) [.str name s.toks, v] [] _ SF.kind SF.split (I.type.andThen (looks_subIn X hsub)) (SF.args (.ref x) (.str name s.toks) v) ?_)
  obtain ⟨attr, ha, hr⟩ := Option.bind_eq_some_iff.mp ht
  have L3 : Looks (model prog w) s.heap (storeTaker? attr) none := by
    cases attr with
    | none => cases hr; exact .now
    | some a =>
      obtain ⟨b, hb, q⟩ := Option.map_eq_some_iff.mp hr
      refine (looks_takesIn X hb).andThen ?_
      cases b <;> first | exact .now | cases q
  obtain ⟨cd, hc, hd'⟩ := any_some hh
  have Lc := looks_clsIn (M := model prog w) X hc
  obtain ⟨hp, g, dd, t, os⟩ := s
  rw [osa_eq, refuse_eq]
  refine wpAny_bind (wpAny_bind ((I.type (M := model prog w)).at (wpAny_bind (hm.at ?_))))
  rw [href]
  refine wpAny_pure (wpAny_bind ((I.type (M := model prog w)).at (wpAny_bind ((looks_findIn X ha).at (wpAny_bind (L3.at ?_))))))
  have hx := I.at_
  obtain ⟨oc, odi, oda, osl⟩ := ox
  have hcl := I.cls
  dsimp only at hcl hd
  subst hcl hd
  refine wpAny_bind (wpAny_pure (wpAny_bind (wpAny_bind (wpAny_loadPart hx (wpAny_bind (Lc.at ?_))))))
  rw [hd']
  refine wpAny_pure (a := some dx) (wpAny_bind (wpAny_pure (wpAny_bind ?_)))
  unfold nsSet
  refine wpAny_bind (wpAny_bind (wpAny_askSetting (wpAny_pure (wpAny_bind (wpAny_mkText (wpAny_bind (wpAny_loadPart D ?_)))))))
  unfold lookIn at hl
  split at hl
  · rename_i es₀ n₀ q
    rw [q]
    dsimp only
    have c : (!es₀.any (·.key.isStr name) && es₀.any (·.refKey)) = false := by
      rw [← Array.any_toList, ← Array.any_toList]
      split at hl
      · rename_i en he
        rw [List.any_eq_true.mpr ⟨en, List.mem_of_find?_eq_some he, List.find?_some he⟩]; rfl
      · split at hl
        · cases hl
        · rename_i z; rw [Bool.not_eq_true] at z; rw [z, Bool.and_false]
    rw [aRefKeyMayBeTheName_at, c]
    refine wpAny_updatePart D ?_
    refine wpAny_bind (wpAny_lookBehind (Heap.get?_update_self _ D hfr) (by show (Obj.putName name (PyData.keyHash w.params name) (Value.str name (t + 1)) v od).data.pastItsLine = none; rw [show (Obj.putName name (PyData.keyHash w.params name) (Value.str name (t + 1)) v od).data = _ from e']; exact pastItsLine_dict (by rw [List.size_toArray, sizeLine_eq]; omega)) ?_)
    exact wpAny_pure h
  · cases hl
end
section
variable {prog : Program} {w : World} {f : Fx} {A : Around} {E : Value → Shared → Prop} {s : Shared} {ls : List (Str × Value)} {hs : List (Addr × Kd)}
theorem r_initialS {c d : Addr} {vs : Array Value} {i j : Int} {t : Tok} {Q : Unit → Shared → Prop} (S : St f ls ((d, acdK i) :: hs) s) (hc : (c, accK d vs) ∈ hs) (m : f.may d) (h : ∀ s', St f ls ((d, acdK j) :: hs) s' → Q () s') :
    wpAny (model prog w) A (setAttr (.ref c) "_initial_size" (.int j t)) Q E s := by
  obtain ⟨n, sl, hsh, k, t', n', I⟩ := acc_inst S (.tail _ hc) (.head _)
  have X := S.inv.k2 S.ok
  refine setattr_core X I rfl (by rfl) (Looks.of_peek X (by rfl)) (by rfl) (by rw [refuseLoop_ref]; exact store_list.passes _) (by rfl) (by rfl) (by rfl) (es := [⟨hsh, .str "_initial_size" k, .int j t⟩]) (n := n') (by rfl) (Nat.le_of_ble_eq_true rfl) (by rfl) (h _ ?_)
  exact S.updI m _ (fun o ⟨hsh, k, t', n', e⟩ => by subst e; exact ⟨⟨_, _, _, _, rfl⟩, rfl⟩) _
end
end TF18
section TF19
open Builtin Builtin.ObjectAttr
section
variable {prog : Program} {w : World} {A : Around} {E : Value → Shared → Prop} {s : Shared}
/-- a list, of whatever class, as it is walked -/
def IsSeq (h : Heap) (a : Addr) (vs : Array Value) : Prop := ∃ o n, h.get? a = some o ∧ o.data = .seq vs n
theorem next_item {it l : Addr} {i : Nat} {items} {x : Value} {Q : Option Value → Shared → Prop} (hit : s.heap.IsListIter it l i) (hl : IsSeq s.heap l items) (hx : items[i]? = some x)
    (hQ : ∀ h', h'.IsListIter it l (i + 1) → Heap.SameBut it s.heap h' → Q (some x) { s with heap := h' }) : wpAny (model prog w) A (pyNext (.ref it)) Q E s := by
  obtain ⟨o, ho, hc, hd⟩ := id hit
  obtain ⟨ol, nl, hol, hdl⟩ := hl
  unfold pyNext
  refine wpAny_bind (wpAny_attempt (wpAny_callSpecial?_slot (name := Str.ofString "__next__") hit.typeIs slot_listiter_next
    (wpAny_call_entry slot_listiter_next hit.typeIs entry_listiter_next ?_ (args_listiter_next _))))
  show wpAny _ _ (field (.ref it) 0 >>= _) _ _ s
  refine wpAny_bind (wpAny_field ho hd (x := .ref l) rfl ?_)
  show wpAny _ _ (if (Value.ref l == Value.none) = true then _ else _) _ _ s
  rw [if_neg (show ¬ ((Value.ref l == Value.none) = true) from Bool.false_ne_true)]
  show wpAny _ _ (field (.ref it) 1 >>= _) _ _ s
  refine wpAny_bind (wpAny_field ho hd (x := .int i 0) rfl ?_)
  show wpAny _ _ (seqItems? (.ref l) >>= _) _ _ s
  refine wpAny_bind (wpAny_seqItems hol hdl ?_)
  simp only [Int.toNat_natCast, hx]
  refine wpAny_bind (wpAny_setField ho hd (by simp) (wpAny_pure ⟨x, rfl, wpAny_pure (hQ _ ?_ (Heap.SameBut.update ..))⟩))
  exact ⟨_, Heap.get?_update_self _ ho (Obj.isFreed_of_fields (Obj.data_mapFields hd _)), (Obj.cls_mapFields ..).trans hc, by
    rw [Obj.data_mapFields hd]; simp [rawInt]⟩
theorem next_end {it l : Addr} {i : Nat} {items} {Q : Option Value → Shared → Prop} (hh : A.handled = none) (hit : s.heap.IsListIter it l i) (hl : IsSeq s.heap l items) (hx : items[i]? = none)
    (hQ : ∀ h', Heap.ExtBut it s.heap h' → Q none { s with heap := h' }) : wpAny (model prog w) A (pyNext (.ref it)) Q E s := by
  obtain ⟨o, ho, hc, hd⟩ := id hit
  obtain ⟨ol, nl, hol, hdl⟩ := hl
  unfold pyNext
  refine wpAny_bind (wpAny_attempt (wpAny_callSpecial?_slot (name := Str.ofString "__next__") hit.typeIs slot_listiter_next
    (wpAny_call_entry slot_listiter_next hit.typeIs entry_listiter_next ?_ (args_listiter_next _))))
  show wpAny _ _ (field (.ref it) 0 >>= _) _ _ s
  refine wpAny_bind (wpAny_field ho hd (x := .ref l) rfl ?_)
  show wpAny _ _ (if (Value.ref l == Value.none) = true then _ else _) _ _ s
  rw [if_neg (show ¬ ((Value.ref l == Value.none) = true) from Bool.false_ne_true)]
  show wpAny _ _ (field (.ref it) 1 >>= _) _ _ s
  refine wpAny_bind (wpAny_field ho hd (x := .int i 0) rfl ?_)
  show wpAny _ _ (seqItems? (.ref l) >>= _) _ _ s
  refine wpAny_bind (wpAny_seqItems hol hdl ?_)
  simp only [Int.toNat_natCast, hx]
  refine wpAny_bind (wpAny_rule (wpAny_bind (wpAny_setField ho hd (by simp) ?_)))
  show wpAny _ _ (newExc (.type "StopIteration") [] >>= _) _ _ _
  refine wpAny_bind ?_
  simp only [newExc, newTuple]
  refine wpAny_bind (wpAny_newObj_type ?_ (by size_fits))
  refine wpAny_bind (m := firstArgMember _ _) (wpAny_of_eq (a := Value.none) (by first | rfl | (simp only [firstArgMember]; rfl)) ?_)
  refine wpAny_newObj_type ?_ (by size_fits)
  simp only [raiseNew]
  refine wpAny_bind (wpAny_handled ?_)
  rw [show A.in1.handled = none from hh]
  refine wpAny_bind (wpAny_pure (wpAny_throw ?_))
  refine wpAny_bind (wpAny_isInstance (T := "StopIteration") (b := true) ⟨_, Heap.get?_push_size _ rfl, rfl⟩ isSubtype_stop ?_)
  exact wpAny_pure (hQ _ (((Heap.SameBut.update ..).extBut.push _).push _))
end
theorem walkU {prog : Program} {w : World} {A : Around} (hh : A.handled = none) (I ax : Addr) (hne : ax ≠ I) (items : Array Value) (Ts : Nat → Addr) (vals : Nat → Array Value)
    (hit : ∀ j, j < items.size → items[j]? = some (.ref (Ts j))) (hTI : ∀ j, j < items.size → Ts j ≠ I) :
    WalksU prog w A I (I :: ax :: (List.range items.size).map Ts) [I] items.size (fun j v => v = vals j)
      (fun j h => h.IsListIter I ax j ∧ IsSeq h ax items ∧ ∀ k, k < items.size → h.IsTuple (Ts k) (vals k))
      (fun j T h => (j < items.size ∧ T = Ts j) ∧ h.IsListIter I ax (j + 1) ∧ IsSeq h ax items ∧ ∀ k, k < items.size → h.IsTuple (Ts k) (vals k)) where
  sub := fun b hb => by simp at hb; simp [hb]
  frame := fun _ _ _ st hk => ⟨st.1.at fun o e => hk I (by simp) o e, (let ⟨o, n, e, d⟩ := st.2.1; ⟨o, n, hk ax (by simp) o e, d⟩),
    fun k hk' => (st.2.2 k hk').at fun o e => hk (Ts k) (List.mem_cons_of_mem _ (List.mem_cons_of_mem _ (List.mem_map.mpr ⟨k, List.mem_range.mpr hk', rfl⟩))) o e⟩
  item := fun i s Q E hi st hQ => by
    refine next_item st.1 st.2.1 (x := .ref (Ts i)) (hit i hi) fun h' hit' hs' => ?_
    have tup : ∀ k, k < items.size → h'.IsTuple (Ts k) (vals k) := fun k hk' => (st.2.2 k hk').extBut hs'.extBut (hTI k hk')
    exact hQ (Ts i) (vals i) h' s.toks rfl (tup i hi) ⟨⟨hi, rfl⟩, hit', (let ⟨o, n, e, d⟩ := st.2.1; ⟨o, n, hs'.extBut ax o hne e, d⟩), tup⟩ fun b o hb e => hs'.extBut b o (fun h => hb (by simp [h])) e
  go := fun _ _ _ _ _ s Q _ hm hQ => wpAny_letOwnedTupleGo_listiter hm.2.1 (hQ s.heap hm.2 fun _ _ _ e => e)
  apart := fun j T _ hm hmem => by
    rcases List.mem_cons.mp hmem with e | e
    · exact hTI j hm.1.1 (hm.1.2 ▸ e)
    · cases e
  done := fun s Q E st hQ => next_end hh st.1 st.2.1 (by simp) fun h' he' => hQ h' s.toks fun b o hb e => he' b o (fun h => hb (by simp [h])) e
  self := fun _ _ _ _ st hQ => wpAny_pyIter_listiter st.1 hQ
section
variable {prog : Program} {w : World} {f : Fx} {A : Around} {E : Value → Shared → Prop} {s : Shared} {ls : List (Str × Value)} {hs : List (Addr × Kd)}
def litO (l : Addr) : Obj := { cls := .type "list_iterator", data := .fields #[.ref l, .int 0 0] }
theorem acc_iter {c d : Addr} {vs : Array Value} {Q : Value → Shared → Prop} (S : St f ls hs s) (hc : (c, accK d vs) ∈ hs) (h : Q (.ref s.heap.objs.size) { s with heap := s.heap.push (litO c) }) :
    wpAny (model prog w) A (pyIter (.ref c)) Q E s := by
  have L0 := acc_type (M := model prog w) S hc
  have L1 := looks_findIn (M := model prog w) (S.inv.k2 S.ok) (show findIn (K2 f.g.w) (.ref 178) "__iter__" = some (some (.builtin "list.__iter__")) from by rfl)
  have key : wpAny (model prog w) A (call (.builtin "list.__iter__") [.ref c]) (fun it s' => it = .ref s.heap.objs.size ∧ s' = { s with heap := s.heap.push (litO c) }) E s := by
    refine acc_call S hc (.inl (by decide +kernel)) (n := "__iter__") (by decide +kernel) (args_list_iter _) (by decide +kernel) entry_list_iter ?_
    show wpAny _ _ (do ret (← newFields "list_iterator" [.ref c, rawInt 0])) _ _ s
    exact wpAny_bind (wpAny_newObj_type (wpAny_pure ⟨rfl, rfl⟩))
  have fin : ∀ {Q' : Option Value → Shared → Prop}, Q' (some (.ref s.heap.objs.size)) { s with heap := s.heap.push (litO c) } → wpAny (model prog w) A (callSpecialIfBoundUnlessNone? (.ref c) "__iter__" (do rule "iter.none"; raiseError "TypeError" s!"'{← typeNameOf (.ref c)}' object is not iterable")) Q' E s := fun {Q'} q => by
    simp only [callSpecialIfBoundUnlessNone?, bindSpecialIfBound?, specialOf]
    refine wpAny_holding (wpAny_bind (wpAny_bind (wpAny_bind (L0.here (L1.here ?_)))))
    simp only [slot_list_iter.bind]
    have fin : wpAny (model prog w) A (if (Value.builtin "list.__iter__" == Value.none) = true then ((do rule "iter.none"; raiseError "TypeError" s!"'{← typeNameOf (.ref c)}' object is not iterable") >>= fun v => pure (some v)) else (call (.builtin "list.__iter__") [.ref c] >>= fun v => pure (some v))) Q' E s := by
      rw [if_neg (show ¬ ((Value.builtin "list.__iter__" == Value.none) = true) from Bool.false_ne_true)]
      exact wpAny_bind (wpAny_mono key (fun v s' h' => by obtain ⟨rfl, rfl⟩ := h'; exact wpAny_pure q) fun _ _ h' => h')
    refine wpAny_bind (wpAny_askSetting (wpAny_ite ?_))
    split
    · exact wpAny_bind (wpAny_pure (wpAny_pure fin))
    · exact wpAny_tryCatch (wpAny_bind (wpAny_pure (wpAny_pure fin)))
  unfold pyIter specialOf
  refine wpAny_bind (wpAny_bind (L0.here (L1.here ?_)))
  dsimp only
  refine wpAny_bind (fin ?_)
  dsimp only
  have hT : ({ s with heap := s.heap.push (litO c) } : Shared).TypeIs (.ref s.heap.objs.size) "list_iterator" := ⟨_, Heap.get?_push_size _ rfl, rfl⟩
  exact wpAny_bind (wpAny_specialOf hT slot_listiter_next.lookup (wpAny_pure h))
end
end TF19
section TF20
open Builtin Builtin.ObjectAttr
/-- a part: a pair of strs -/
def pairK (p : Str × Str) : Kd := .is fun o => ∃ t u, o = tupObj [.str p.1 t, .str p.2 u]
inductive PartsIn (hs : List (Addr × Kd)) : List Value → List (Str × Str) → Prop
  | nil : PartsIn hs [] []
  | cons {v p vs ps} : (∃ a, v = .ref a ∧ (a, pairK p) ∈ hs) → PartsIn hs vs ps → PartsIn hs (v :: vs) (p :: ps)
section
variable {prog : Program} {w : World} {f : Fx} {A : Around} {E : Value → Shared → Prop} {s : Shared} {ls : List (Str × Value)} {hs : List (Addr × Kd)}
theorem St.moved {wr : List Addr} {gi : Nat} {s' : Shared} (S : St f ls hs s) (hm : Moved wr (GenOnlyQ gi) s s') (hw : ∀ b ∈ wr, f.g.n ≤ b ∧ f.h0.objs.size ≤ b ∧ b ≠ f.L ∧ ∀ p ∈ hs, p.1 ≠ b) : St f ls hs s' := by
  obtain ⟨m, hn, hm'⟩ := S.loc
  have hL : s'.heap.Ns f.L m := by
    obtain ⟨o, es, ep, ho, r⟩ := hn
    exact ⟨o, es, ep, hm.heap _ _ (fun q => (hw _ q).2.2.1 rfl) ho, r⟩
  have lo : ∀ b o, b < f.g.n → s.heap.get? b = some o → s'.heap.get? b = some o := fun b o hb e => hm.heap _ _ (fun q => absurd hb (Nat.not_lt.mpr (hw _ q).1)) e
  have I : Inv f.g s' := by
    refine ⟨fun b o e => lo b o (Heap.lt_size (of_B e)) (S.inv.base b o e), Nat.le_trans S.lo (Nat.le_of_lt hL.lt), ?_, hm.os.trans S.inv.os, S.inv.gens.movedS hm⟩
    obtain ⟨p, q, a1, a2, a3, a4⟩ := S.inv.tab
    have lt : ∀ b o, (KF f.g.w).lookup b = some o → b < f.g.n := fun b o e => Heap.lt_size (S.ok.kx _ _ e)
    have l1 : 144 < f.g.n := lt 144 _ rfl
    have l2 : 151 < f.g.n := lt 151 _ rfl
    have l3 : 140 < f.g.n := tabs_in S.ok _ (by decide)
    have l4 : 147 < f.g.n := tabs_in S.ok _ (by decide)
    refine ⟨p, q, isCode_ext a1 ?_, tableAt_ext a2 ?_, isCode_ext a3 ?_, tableAt_ext a4 ?_⟩ <;> (rintro b (rfl | rfl) o e <;> exact lo _ _ (by assumption) e)
  refine ⟨S.ok, I, ⟨Nat.le_trans S.new (Nat.le_of_lt hL.lt), fun b o e h1 h2 => hm.heap _ _ (fun q => absurd (Heap.lt_size e) (Nat.not_lt.mpr (hw _ q).2.1)) (S.ext.2 b o e h1 h2)⟩, ⟨m, hL, hm'⟩, S.lo, S.new, fun p hp => ?_, S.nd⟩
  have := S.has p hp
  refine ⟨?_, this.2⟩
  have k : ∀ o, s.heap.get? p.1 = some o → s'.heap.get? p.1 = some o := fun o e => hm.heap _ _ (fun q => (hw _ q).2.2.2 p hp rfl) e
  obtain ⟨a, kd⟩ := p
  cases kd with
  | sl ws => obtain ⟨vs, n, q, r⟩ := this.1; exact ⟨vs, n, k _ q, r⟩
  | obj o => exact k _ this.1
  | is P => obtain ⟨o, q, r⟩ := this.1; exact ⟨o, k _ q, r⟩
/-- a code table grows -/
theorem St.code {P : Addr} {h' : Heap} {t : Nat} (S : St f ls hs s) (hP : P ∈ tabs) (e : Heap.ExtBut P s.heap h') (z : s.heap.objs.size ≤ h'.objs.size) (ht : TabOk h') : St f ls hs { s with heap := h', toks := t } := by
  have hne : ∀ a, f.g.n ≤ a → a ≠ P := fun a ha q => absurd (tabs_in S.ok _ hP) (Nat.not_lt.mpr (q ▸ ha))
  obtain ⟨m, hn, hm'⟩ := S.loc
  refine ⟨S.ok, ⟨fun b o q => ?_, Nat.le_trans S.inv.size z, ht, S.inv.os, S.inv.gens⟩, ⟨Nat.le_trans S.ext.1 z, fun b o q h1 h2 => e b o (fun r => h2 (r ▸ hP)) (S.ext.2 b o q h1 h2)⟩, ⟨m, ?_, hm'⟩, S.lo, S.new, fun p hp => ?_, S.nd⟩
  · refine e b o (fun r => ?_) (S.inv.base b o q)
    have := hideAll_none (h := f.g.h1) tabs hP
    rw [r] at q
    rw [show f.g.B.get? P = Option.none from this] at q
    cases q
  · obtain ⟨o, es, ep, ho, r⟩ := hn
    exact ⟨o, es, ep, e _ _ (hne _ S.lo) ho, r⟩
  · have := S.has p hp
    refine ⟨?_, this.2⟩
    have k : ∀ o, s.heap.get? p.1 = some o → h'.get? p.1 = some o := fun o q => e _ _ (hne _ this.2.1) q
    obtain ⟨a, kd⟩ := p
    cases kd with
    | sl ws => obtain ⟨vs, n, q, r⟩ := this.1; exact ⟨vs, n, k _ q, r⟩
    | obj o => exact k _ this.1
    | is P => obtain ⟨o, q, r⟩ := this.1; exact ⟨o, k _ q, r⟩
theorem r_genCode {env : Env} {pos : Pos} {qn : Str} {scope : Scope} {cc P : Addr} {Q : Value → Shared → Prop} (S : St f ls hs s) (hcc : env.code = .ref cc) (hP : (cc = 144 ∧ P = 140) ∨ (cc = 151 ∧ P = 147))
    (h : ∀ v h' t, Heap.ExtBut P s.heap h' → s.heap.objs.size ≤ h'.objs.size → St f ls hs { s with heap := h', toks := t } → Q v { s with heap := h', toks := t }) :
    wpAny (model prog w) A (genexprCode env pos qn scope) Q E s := by
  obtain ⟨p, q, a1, a2, a3, a4⟩ := S.inv.tab
  have go : ∀ ps, s.heap.IsCode cc P ps → s.heap.TableAt cc P ps → P ∈ tabs → (∀ h' ps', Heap.ExtBut P s.heap h' → h'.IsCode cc P ps' → h'.TableAt cc P ps' → TabOk h') → wpAny (model prog w) A (genexprCode env pos qn scope) Q E s := fun ps b1 b2 hP hk => by
    cases e : codeAmong pos ps.toList with
    | none =>
      refine wpAny_genexprCodeX hcc b1 b2 e fun c' h' tk hx hge hlt hcode _ htab _ => ?_
      have z : s.heap.objs.size ≤ h'.objs.size := Nat.le_trans hge (Nat.le_of_lt hlt)
      exact h _ _ _ hx z (S.code hP hx z (hk _ _ hx hcode htab))
    | some c' => exact wpAny_genexprCode_hit hcc b1 e (h _ s.heap s.toks (fun _ _ _ e => e) (Nat.le_refl _) S)
  rcases hP with ⟨rfl, rfl⟩ | ⟨rfl, rfl⟩
  · exact go p a1 a2 (by decide) fun h' ps' hx c1 c2 => ⟨ps', q, c1, c2, a3.extBut hx (by decide) (by decide), a4.extBut hx (by decide) (by decide)⟩
  · exact go q a3 a4 (by decide) fun h' ps' hx c1 c2 => ⟨p, ps', a1.extBut hx (by decide) (by decide), a2.extBut hx (by decide) (by decide), c1, c2⟩
/-- a generator at hand: it walks F's values -/
def GenX (prog : Program) (w : World) (A : Around) (f : Fx) (hs : List (Addr × Kd)) (a : Addr) (n : Nat) (F : Nat → Value → Prop) (s : Shared) : Prop :=
  ∃ fp wr g St', WalksS prog w A.in4 a fp wr (GenOnlyQ g) n F St' ∧ St' 0 s ∧ (∀ i s', St' i s' → s'.TypeIs (.ref a) "generator") ∧ a ∈ fp ∧ (∀ b ∈ fp, b < s.heap.objs.size) ∧
    ∀ b ∈ wr, f.g.n ≤ b ∧ f.h0.objs.size ≤ b ∧ b ≠ f.L ∧ ∀ p ∈ hs, p.1 ≠ b
theorem GenX.tok {a : Addr} {n : Nat} {F : Nat → Value → Prop} (x : GenX prog w A f hs a n F s) {t : Nat} (h : s.toks ≤ t) : GenX prog w A f hs a n F { s with toks := t } := by
  obtain ⟨fp, wr, g, St', W, h0, hT, ha, hfp, hw⟩ := x
  exact ⟨fp, wr, g, St', W, W.frame 0 s s.heap t h0 h (fun _ _ _ e => e), hT, ha, hfp, hw⟩
theorem parts_get {vs : Array Value} {ps : List (Str × Str)} (h : PartsIn hs vs.toList ps) : vs.size = ps.length ∧ ∀ j (hj : j < ps.length), ∃ a, vs[j]? = some (.ref a) ∧ (a, pairK ps[j]) ∈ hs := by
  have hl : vs.toList.length = ps.length := by
    have : ∀ {l : List Value} {m : List (Str × Str)}, PartsIn hs l m → l.length = m.length := fun h => by
      induction h with
      | nil => rfl
      | cons _ _ ih => simp [ih]
    exact this h
  refine ⟨by simpa using hl, fun j hj => ?_⟩
  have : ∀ {l : List Value} {m : List (Str × Str)}, PartsIn hs l m → ∀ j (hj : j < m.length), ∃ a, l[j]? = some (.ref a) ∧ (a, pairK m[j]) ∈ hs := fun h => by
    induction h with
    | nil => intro j hj; simp at hj
    | cons q _ ih =>
      intro j hj
      cases j with
      | zero => obtain ⟨a, rfl, hm⟩ := q; exact ⟨a, rfl, hm⟩
      | succ j => simpa using ih j (by simpa using hj)
  simpa using this h j hj
end
end TF20
section TF21
open Builtin Builtin.ObjectAttr
theorem passing_all (n : Nat) : passing (fun _ => true) n 0 = List.range n := by simp [passing]
def Gl (g : Gx) (h : Heap) : Prop := h.Ns mainGlobals g.mg ∧ h.Ns builtinsNs g.mb
section
variable {prog : Program} {w : World} {f : Fx} {A : Around} {E : Value → Shared → Prop} {s : Shared} {ls : List (Str × Value)} {hs : List (Addr × Kd)}
theorem St.pushed {o : Obj} (S : St f ls hs s) (t : Nat) : St f ls hs { s with heap := s.heap.push o, toks := t } :=
  S.stay (S.inv.step S.ok (fun b o _ e => Heap.get?_push_of_some _ e) (by rw [Heap.size_push]; exact Nat.le_succ _) rfl S.inv.gens) (Ext.push ..)
theorem r_genexp {env : Env} {elt : Expr} {xa xb : Str} {p0 pa pb pt pos : Pos} {kt : Nat} {scope : Scope} {cl : List (Str × Addr)} {c d cc P : Addr} {vs : Array Value} {ps : List (Str × Str)} {k : Nat} {Fv : Str × Str → Value → Prop} {Q : Value → Shared → Prop}
    (S : St f ls hs s) (ar : Ar A k) (hself : ls.lookup ("self" : Str) = some (.ref c)) (hc : (c, accK d vs) ∈ hs) (hp : PartsIn hs vs.toList ps)
    (hcc : env.code = .ref cc) (hP : (cc = 144 ∧ P = 140) ∨ (cc = 151 ∧ P = 147))
    (helt : ∀ (A' : Around) (E' : Value → Shared → Prop) (p : Str × Str) (t u : Tok) (L : Addr) (code : Value) (s₂ : Shared) (m₂ : Str → Option Value), A'.handled = none → p ∈ ps → s₂.heap.Ns L m₂ → m₂ xa = some (.str p.1 t) → m₂ xb = some (.str p.2 u) → Gl f.g s₂.heap →
      wpAny (model prog w) A' (eval elt (genEnv scope cl L code builtinsNs env)) (fun y s₃ => Fv p y ∧ Keeps s₂ s₃) E' s₂)
    (h : ∀ a s', St f ls hs s' → GenX prog w A f hs a ps.length (fun j y => ∃ hj : j < ps.length, Fv ps[j] y) s' → Q (.ref a) s')
    (hco : scope.isCoroutine = false := by rfl) (hclos : closureFor scope env = pure cl := by rfl) (hcell : ∀ y ∈ scope.names, y.2 ≠ .cell := by decide) (h0 : scope.names.lookup (".0" : Str) = some NameKind.local := by rfl)
    (hxa : scope.names.lookup xa = some .local := by rfl) (hxb : scope.names.lookup xb = some .local := by rfl) (hab : xa ≠ xb := by decide) (hkind : scope.kind = .function := by rfl)
    (hL : env.locals = f.L := by rfl) (hk : env.scope.kind = .function := by rfl) (hx : env.kindOf ("self" : Str) = some .local := by rfl) (hgl : env.globals = mainGlobals := by rfl) :
    wpAny (model prog w) A (eval (.GeneratorExp elt [⟨.Tuple [.Name xa pa, .Name xb pb] kt pt, .Name "self" p0, [], 0⟩] scope pos) env) Q E s := by
  obtain ⟨hz, hget⟩ := parts_get hp
  refine wpAny_GeneratorExp_walksQT ar.hand hco hclos hcell h0 hxa hxb hab hkind (by have := ar.dep; unfold recursionLimit; omega) ?_ (fun x => rfl)
  refine r_local S hself ?_ hL hk hx
  refine acc_iter S hc ?_
  have S₂ : St f ls hs { s with heap := s.heap.push (litO c) } := S.pushed s.toks
  refine ⟨S₂.inv.lim S₂.ok, r_genCode S₂ hcc hP fun code h₃ t₃ hx₃ hz₃ S₃ => ?_⟩
  have g1 : f.g.mg ("__builtins__" : Str) = some (.ref 4) := mg_of S.ok.kx S.ok.gl (by rfl)
  refine wpAny_builtinsFor (m := f.g.mg) (bm := 4) (o := { cls := .type "module", dict := some builtinsNs, data := .plain }) (by rw [hgl]; exact S₃.inv.gl S₃.ok) g1 (by decide) (S₃.inv.at S₃.ok (by rfl) (by decide)) rfl rfl rfl ?_
  have hPt : P ∈ tabs := by rcases hP with ⟨_, rfl⟩ | ⟨_, rfl⟩ <;> decide
  have nP : ∀ a, f.g.n ≤ a → a ≠ P := fun a ha q => absurd (tabs_in S.ok _ hPt) (Nat.not_lt.mpr (q ▸ ha))
  have hI : f.g.n ≤ s.heap.objs.size := S.inv.size
  obtain ⟨fr, hfr⟩ := Classical.axiomOfChoice (r := fun j (r : Addr × Value × Value) => j < ps.length → vs[j]? = some (.ref r.1) ∧ r.1 < s.heap.objs.size ∧ s.heap.IsTuple r.1 #[r.2.1, r.2.2] ∧ f.g.n ≤ r.1 ∧ ∃ p t u, ps[j]? = some p ∧ r.2.1 = .str p.1 t ∧ r.2.2 = .str p.2 u) (fun j => by
    by_cases hj : j < ps.length
    · obtain ⟨a, h1, h2⟩ := hget j hj
      obtain ⟨o, ho, t, u, rfl⟩ := S.get h2
      exact ⟨(a, .str ps[j].1 t, .str ps[j].2 u), fun _ => ⟨h1, Heap.lt_size ho, ⟨_, ho, rfl, _, rfl⟩, S.low h2, ps[j], t, u, List.getElem?_eq_getElem hj, rfl, rfl⟩⟩
    · exact ⟨(0, .none, .none), fun q => absurd q hj⟩)
  have W : ∀ A' : Around, A'.handled = none → WalksU prog w A' s.heap.objs.size _ [s.heap.objs.size] vs.size _ _ _ := fun A' hA' =>
    (walkU hA' s.heap.objs.size c (fun q => absurd (S.get hc).lt (by rw [q]; exact Nat.lt_irrefl _)) vs (fun j => (fr j).1) (fun j => #[(fr j).2.1, (fr j).2.2]) (fun j hj => (hfr j (by omega)).1) (fun j hj => Nat.ne_of_lt (hfr j (by omega)).2.1)).bound
  have k₃ : ∀ b o, b ≠ P → s.heap.get? b = some o → h₃.get? b = some o := fun b o hb e => hx₃ b o hb (Heap.get?_push_of_some _ e)
  have hsz : s.heap.objs.size < h₃.objs.size := by
    have : (s.heap.push (litO c)).objs.size ≤ h₃.objs.size := hz₃
    rw [Heap.size_push] at this
    exact this
  refine ⟨s.heap.objs.size, _, [s.heap.objs.size], vs.size, _, _, _, fun _ => true, fun i y => ∃ hj : i < ps.length, Fv ps[i] y, rfl, W, fun i vals hv => ⟨_, _, hv.2⟩, ⟨?_, ?_, fun j hj => ?_⟩, ?_, S₃.inv.lim S₃.ok, ?_, fun href hk => ⟨?_, ?_⟩, ?_⟩
  · exact ⟨_, hx₃ _ _ (nP _ hI) (Heap.get?_push_size _ rfl), rfl, rfl⟩
  · obtain ⟨o, ho, n, sl, rfl⟩ := S.get hc
    exact ⟨_, n, k₃ _ _ (nP _ (S.low hc)) ho, rfl⟩
  · obtain ⟨_, h2, h3, h4, _⟩ := hfr j (by omega)
    exact h3.at fun o e => k₃ _ _ (nP _ h4) e
  · intro b hb
    rcases List.mem_cons.mp hb with rfl | hb
    · exact hsz
    · rcases List.mem_cons.mp hb with rfl | hb
      · exact Nat.lt_trans (S.get hc).lt hsz
      · obtain ⟨j, hj, rfl⟩ := List.mem_map.mp hb
        exact Nat.lt_trans (hfr j (by have := List.mem_range.mp hj; omega)).2.1 hsz
  · intro hm
    rw [List.mem_singleton] at hm
    obtain ⟨_, hns, _⟩ := S.ok.lim
    have : cStatics < f.g.n := hns.lt
    exact absurd (hm ▸ this) (Nat.not_lt.mpr hI)
  · intro A' E' i va vb s₂ m₂ _ _ _ _ _ _
    exact wpAny_pure ⟨rfl, s₂.heap, s₂.toks, rfl, fun _ _ e => e⟩
  · intro A' E' i va vb s₂ m₂ hA' hpt _ hn hxa' hxb' hkp
    obtain ⟨hi, hv⟩ := hpt
    obtain ⟨_, _, _, _, p, t, u, hpi, e1, e2⟩ := hfr i (by omega)
    have ev : [va, vb] = [(fr i).2.1, (fr i).2.2] := congrArg Array.toList hv
    have ea : va = (fr i).2.1 := (List.cons.inj ev).1
    have eb : vb = (fr i).2.2 := (List.cons.inj (List.cons.inj ev).2).1
    subst ea eb
    have hpe : ps[i]'(by omega) = p := by
      rw [List.getElem?_eq_getElem (by omega)] at hpi
      exact Option.some.inj hpi
    have nsk : ∀ a m, a < f.g.n → h₃.Ns a m → s₂.heap.Ns a m := fun a m ha hna => by
      have hlt := hna.lt
      obtain ⟨o, es, ep, ho, r⟩ := hna
      exact ⟨o, es, ep, hkp a (List.mem_range.mpr hlt) (fun q => absurd ha (by rw [List.mem_singleton.mp q]; exact Nat.not_lt.mpr hI)) o (hk a o ho), r⟩
    refine wpAny_mono (helt A' E' p t u _ _ s₂ m₂ hA' (List.mem_of_getElem? hpi) hn (by rw [hxa', e1]) (by rw [hxb', e2]) ⟨nsk _ _ ?_ (S₃.inv.gl S₃.ok), nsk _ _ ?_ (S₃.inv.bl S₃.ok)⟩) (fun y s₃ h3 => ⟨⟨by omega, by rw [hpe]; exact h3.1⟩, h3.2⟩) fun _ _ e => e
    · exact S.ok.gl.lt
    · exact S.ok.bl.lt
  · intro a h₅ tk gs hgb hag hsz₅ hk₅ W5 hat
    have Z : h₃.objs.size ≤ h₅.objs.size := by rw [hsz₅]; exact Nat.le_of_lt (Nat.lt_succ_of_lt hag)
    have I₅ : Inv f.g { s with gens := s.gens.push gs, toks := tk, heap := h₅ } := S₃.inv.step S₃.ok (fun b o _ e => hk₅ b o e) Z rfl (S.inv.gens.push hgb)
    have S₅ : St f ls hs { s with gens := s.gens.push gs, toks := tk, heap := h₅ } := S₃.stay I₅ (Ext.keeps hk₅ Z [])
    refine h a _ S₅ ⟨_, _, _, _, ⟨W5.sub, W5.grefl, W5.gtrans, W5.frame, fun i s Q E hi st hQ => W5.item i s Q E (by rw [passing_all, List.length_range]; omega) st fun v s' hv => hQ v s' ?_, fun s Q E st hQ => W5.done s Q E ?_ hQ, W5.self⟩, hat, (fun i s' st => st.1.typeIs), List.mem_cons_self, ?_, ?_⟩
    · obtain ⟨i', he, hf⟩ := hv
      rw [passing_all] at he
      have : i' = i := by
        rw [List.getElem?_range (by omega)] at he
        exact (Option.some.inj he).symm
      subst this
      exact hf
    · have e : (passing (fun _ => true) vs.size 0).length = ps.length := by rw [passing_all, List.length_range, hz]
      rw [e]
      exact st
    · intro b hb
      show b < h₅.objs.size
      rw [hsz₅]
      have hag' : h₃.objs.size < a := hag
      rcases List.mem_cons.mp hb with rfl | hb
      · exact Nat.lt_succ_self _
      · rcases List.mem_cons.mp hb with rfl | hb
        · exact Nat.lt_succ_of_lt hag
        · exact Nat.lt_succ_of_lt (Nat.lt_trans (List.mem_range.mp hb) hag')
    · have key : ∀ b, s.heap.objs.size ≤ b → f.g.n ≤ b ∧ f.h0.objs.size ≤ b ∧ b ≠ f.L ∧ ∀ p ∈ hs, p.1 ≠ b := fun b hb =>
        ⟨Nat.le_trans hI hb, Nat.le_trans S.ext.1 hb, Nat.ne_of_gt (Nat.lt_of_lt_of_le S.ltL hb), fun p hp => Nat.ne_of_lt (Nat.lt_of_lt_of_le (S.has p hp).1.lt hb)⟩
      intro b hb
      rcases List.mem_cons.mp hb with rfl | hb
      · exact key _ (Nat.le_of_lt hsz)
      · rw [List.mem_singleton] at hb
        exact key _ (Nat.le_of_eq hb.symm)
end
end TF21
section TH1
def sdn (x : Str) (sp : Nat) (ws : List Str) (pos : Nat) : List Str :=
  if h : sp < pos then
    (if slt x (ws.getD ((pos - 1) / 2) x) then sdn x sp (ws.set pos (ws.getD ((pos - 1) / 2) x)) ((pos - 1) / 2) else ws.set pos x)
  else ws.set pos x
termination_by pos
decreasing_by omega

inductive SdnW (f : Fx) (a : Addr) (ws : List Str) (x : Str) (sp pos : Nat) (tx t : Tok) (n : Nat) (s' : Shared) : Prop
  | mk (p : Nat) (ws' : List Str) (tp : Tok) : n = p → St f [("newitem", .str x tx), ("heap", .ref a), ("startpos", .int sp t), ("pos", .int p tp)] [(a, .sl ws')] s' →
    p < ws'.length → ws'.length = ws.length → sdn x sp ws' p = sdn x sp ws pos → SdnW f a ws x sp pos tx t n s'
theorem siftdown_spec {g : Gx} (G : g.Ok) {A : Around} {k : Nat} (ar : Ar A (k + 1)) {s : Shared} (I : Inv g s) {a : Addr} {ws : List Str} {sp pos : Nat} {x : Str} {t t' : Tok}
    (hl : (Kd.sl ws).At s.heap a) (ha : g.n ≤ a) (hx : ws[pos]? = some x) (hz : ws.length < 2 ^ 60)
    {Q E : Value → Shared → Prop} (h : ∀ s', Inv g s' → Ext [a] s.heap s'.heap → (Kd.sl (sdn x sp ws pos)).At s'.heap a → Q .none s') :
    wpAny (model PR g.w) A (call (.ref 210) [.ref a, .int sp t, .int pos t']) Q E s := by
  refine' r_call G [a] [(a, .sl ws)] [("heap", .ref a), ("startpos", .int sp t), ("pos", .int pos t')] I ar ?ho ?hnt ?hcd ?hct ?hbd ?hc ?hlc ?hh ?nd ?_ ?c1 ?c2 ?c3
  ((case ho => rfl); (case hnt => decide); (case hcd => rfl); (case hct => decide); (case hbd => exact BindsTo.of_eq rfl); (case hc => decide); (case hlc => exact locs rfl); (case c1 => rfl); (case c2 => rfl); (case c3 => rfl))
  case hh => simp; exact ⟨hl, ha⟩
  case nd => simp
  intro s₁ S ar' hg
  refine gA ar' fun A' ar0 => ?_; replace ar' := ar0
  refine let env0 : Env := _; idE env0 ?_
  (refine let fx0 : Fx := _; let ls0 : List (Str × Value) := _; have S0x : St fx0 ls0 _ _ := S; ?_); clear S; have S := S0x; clear S0x
  (refine opq ?_; intro Q0 c0)
  refine noE ?_
  refine wpAny_execs_cons ?_
  (refine opq ?_; intro Q1 c1)
  refine wpAny_Assign_Name ?_
  (refine opq ?_; intro Q2 c2)
  refine Subscript_ ?_
  refine' r_local (by assumption) ?hv ?_; (case hv => rfl)
  refine' r_local (by assumption) ?hv ?_; (case hv => rfl)
  refine r_item S (mA 0 rfl) (by omega) hx ?_ ?_
  · have := (List.getElem?_eq_some_iff.mp hx).1; omega
  intro tx
  refine c2 _ _ ?_
  refine' r_storeName (by assumption) ?_; intro _ _
  refine c1 _ _ ?_
  refine wpAny_execs_cons ?_
  (refine opq ?_; intro Q3 c3)
  refine wpAny_While (codeAny_whileLoop (SdnW ⟨g, s.heap, [a], s.heap.objs.size⟩ a ws x sp pos tx t) ?_ pos ⟨pos, ws, t', rfl, ?_, ?_, rfl, rfl⟩)
  · rintro n s₂ ⟨p, ws', tp, rfl, S₂, hp, hlen, hsd⟩
    (refine let fx1 : Fx := _; let ls1 : List (Str × Value) := _; have S1x : St fx1 ls1 _ _ := S₂; ?_); clear S₂; have S₂ := S1x; clear S1x
    (refine opq ?_; intro Q4 c4)
    refine noE ?_
    refine wpAny_isTrue_Compare1 ?_
    refine' r_local (by assumption) ?hv ?_; (case hv => rfl)
    refine' r_local (by assumption) ?hv ?_; (case hv => rfl)
    refine P.gt_int ?_
    refine wpAny_truthy_bool ?_
    refine c4 _ _ ?_
    by_cases hc : sp < n
    · rw [if_pos (by simpa using hc)]
      (refine opq ?_; intro Q5 c5)
      refine noE ?_
      refine wpAny_execs_cons ?_
      (refine opq ?_; intro Q6 c6)
      refine wpAny_Assign_Name ?_
      (refine opq ?_; intro Q7 c7)
      refine wpAny_BinOp ?_
      (refine opq ?_; intro Q8 c8)
      refine wpAny_BinOp ?_
      refine' r_local (by assumption) ?hv ?_; (case hv => rfl)
      refine' r_int (by assumption) ?_; intro _ _ _
      refine' r_sub (by assumption) ?_; intro _ _ _
      refine c8 _ _ ?_
      refine' r_int (by assumption) ?_; intro _ _ _
      refine' r_shr (by assumption) (by decide) ?_; intro _ _ _
      refine c7 _ _ ?_
      refine' r_storeName (by assumption) ?_; intro _ _
      refine c6 _ _ ?_
      refine wpAny_execs_cons ?_
      (refine opq ?_; intro Q9 c9)
      refine wpAny_Assign_Name ?_
      (refine opq ?_; intro Q10 c10)
      refine Subscript_ ?_
      refine' r_local (by assumption) ?hv ?_; (case hv => rfl)
      refine' r_local (by assumption) ?hv ?_; (case hv => rfl)
      rename_i s₄ S₄
      have e1 : ((n : Int) - 1).fdiv (2 ^ (1 : Int).toNat) = (((n - 1) / 2 : Nat) : Int) := by
        rw [fdiv_two]; omega
      rw [e1] at S₄ ⊢
      have hpp : (n - 1) / 2 < ws'.length := by omega
      refine r_itemN S₄ (mA 0 rfl) (List.getElem?_eq_getElem hpp) (by omega) ?_
      intro ty
      refine c10 _ _ ?_
      refine' r_storeName (by assumption) ?_; intro _ _
      refine c9 _ _ ?_
      refine wpAny_execs_cons ?_
      (refine opq ?_; intro Q11 c11)
      refine wpAny_If ?_
      (refine opq ?_; intro Q12 c12)
      refine wpAny_isTrue_Compare1 ?_
      refine' r_local (by assumption) ?hv ?_; (case hv => rfl)
      refine' r_local (by assumption) ?hv ?_; (case hv => rfl)
      refine r_slt ?_
      refine wpAny_truthy_bool ?_
      refine c12 _ _ ?_
      cases hlt : slt x ws'[(n - 1) / 2] with
      | true =>
        rw [if_pos rfl]
        refine wpAny_execs_cons ?_
        (refine opq ?_; intro Q13 c13)
        refine wpAny_Assign_Subscript ?_
        refine' r_local (by assumption) ?hv ?_; (case hv => rfl)
        refine' r_local (by assumption) ?hv ?_; (case hv => rfl)
        refine' r_local (by assumption) ?hv ?_; (case hv => rfl)
        rename_i s₅ S₅
        refine r_setN S₅ (.inl (mA 0 rfl)) hp (by omega) ?_
        intro s₆ S₆
        refine c13 _ _ ?_
        refine wpAny_execs_cons ?_
        (refine opq ?_; intro Q14 c14)
        refine wpAny_Assign_Name ?_
        refine' r_local (by assumption) ?hv ?_; (case hv => rfl)
        refine' r_storeName (by assumption) ?_; intro _ _
        refine c14 _ _ ?_
        refine wpAny_execs_cons ?_
        refine wpAny_Continue ?_
        refine c11 _ _ ?_
        refine c5 _ _ ?_
        rename_i s₇ S₇
        refine ⟨(n - 1) / 2, by omega, (n - 1) / 2, _, _, rfl, S₇.wl (by rfl), by simpa using hpp, by simpa using hlen, ?_⟩
        rw [← hsd]
        conv => rhs; rw [sdn]
        simp [hc, hpp, hlt]
      | false =>
        rw [if_neg (by decide)]
        refine wpAny_execs_nil ?_
        refine c11 _ _ ?_
        refine wpAny_execs_cons ?_
        refine wpAny_Break ?_
        refine c5 _ _ ?_
        refine c3 _ _ ?_
        refine wpAny_execs_cons ?_
        (refine opq ?_; intro Q13 c13)
        refine wpAny_Assign_Subscript ?_
        refine' r_local (by assumption) ?hv ?_; (case hv => rfl)
        refine' r_local (by assumption) ?hv ?_; (case hv => rfl)
        refine' r_local (by assumption) ?hv ?_; (case hv => rfl)
        rename_i s₅ S₅
        refine r_setN S₅ (.inl (mA 0 rfl)) hp (by omega) ?_
        intro s₆ S₆
        refine c13 _ _ ?_
        refine wpAny_execs_nil ?_
        refine c0 _ _ ?_
        refine h _ S₆.inv S₆.ext ?_
        rw [← hsd, sdn]
        simp only [hc, hpp, hlt, List.getD_eq_getElem?_getD, List.getElem?_eq_getElem, Option.getD_some, dif_pos, Bool.false_eq_true, if_false]
        exact S₆.get (mA 0 rfl)
    · rw [if_neg (by simpa using hc)]
      refine noE ?_
      refine wpAny_execs_nil ?_
      refine c3 _ _ ?_
      refine wpAny_execs_cons ?_
      (refine opq ?_; intro Q5 c5)
      refine wpAny_Assign_Subscript ?_
      refine' r_local (by assumption) ?hv ?_; (case hv => rfl)
      refine' r_local (by assumption) ?hv ?_; (case hv => rfl)
      refine' r_local (by assumption) ?hv ?_; (case hv => rfl)
      refine r_setN S₂ (.inl (mA 0 rfl)) hp (by omega) ?_
      intro s₆ S₆
      refine c5 _ _ ?_
      refine wpAny_execs_nil ?_
      refine c0 _ _ ?_
      refine h _ S₆.inv S₆.ext ?_
      rw [← hsd, sdn]
      simp only [hc, dif_neg, not_false_eq_true]
      exact S₆.get (mA 0 rfl)
  · rename_i S₃
    exact S₃.wl (by rfl)
  · exact (List.getElem?_eq_some_iff.mp hx).1
end TH1
section TH2
def sup (x : Str) (ws : List Str) (pos : Nat) : List Str × Nat :=
  if h : 2 * pos + 1 < ws.length then
    (if 2 * pos + 2 < ws.length ∧ slt (ws.getD (2 * pos + 1) x) (ws.getD (2 * pos + 2) x) = false then sup x (ws.set pos (ws.getD (2 * pos + 2) x)) (2 * pos + 2)
     else sup x (ws.set pos (ws.getD (2 * pos + 1) x)) (2 * pos + 1))
  else (ws.set pos x, pos)
termination_by ws.length - pos
decreasing_by all_goals (simp; omega)

theorem sup_len (x : Str) : ∀ (k : Nat) (ws : List Str) (pos : Nat), ws.length - pos = k → (sup x ws pos).1.length = ws.length := by
  intro k
  induction k using Nat.strongRecOn with
  | ind k ih =>
    intro ws pos hk
    rw [sup]
    by_cases h : 2 * pos + 1 < ws.length
    · rw [dif_pos h]
      split
      · rw [ih _ (by simp; omega) _ _ rfl]; simp
      · rw [ih _ (by simp; omega) _ _ rfl]; simp
    · rw [dif_neg h]; simp
theorem sup_pos (x : Str) : ∀ (k : Nat) (ws : List Str) (pos : Nat), ws.length - pos = k → pos < ws.length → (sup x ws pos).2 < ws.length ∧ (sup x ws pos).1[(sup x ws pos).2]? = some x := by
  intro k
  induction k using Nat.strongRecOn with
  | ind k ih =>
    intro ws pos hk hp
    rw [sup]
    by_cases h : 2 * pos + 1 < ws.length
    · rw [dif_pos h]
      split
      · have := ih _ (by simp; omega) (ws.set pos (ws.getD (2 * pos + 2) x)) (2 * pos + 2) rfl (by simp; omega)
        simpa using this
      · have := ih _ (by simp; omega) (ws.set pos (ws.getD (2 * pos + 1) x)) (2 * pos + 1) rfl (by simp; omega)
        simpa using this
    · rw [dif_neg h]; simp [hp]

def siftup (x : Str) (ws : List Str) (pos : Nat) : List Str := sdn x pos (sup x ws pos).1 (sup x ws pos).2

inductive SupW (f : Fx) (a : Addr) (ws : List Str) (x : Str) (pos : Nat) (tx : Tok) (n : Nat) (s' : Shared) : Prop
  | mk (p : Nat) (ws' : List Str) (tp tc te ts : Tok) : n = ws.length - p → St f [("childpos", .int (2 * (p : Int) + 1) tc), ("newitem", .str x tx), ("endpos", .int ws.length te), ("startpos", .int pos ts), ("heap", .ref a), ("pos", .int p tp)] [(a, .sl ws')] s' →
    p < ws'.length → ws'.length = ws.length → sup x ws' p = sup x ws pos → SupW f a ws x pos tx n s'
inductive SupN (f : Fx) (a : Addr) (ws ws' : List Str) (x : Str) (pos p : Nat) (tx te ts tp : Tok) (fl : Flow) (s₅ : Shared) : Prop
  | mk : fl = .next → (c : Nat) → (tc' : Tok) → (c < ws'.length ∧ p < c ∧ sup x (ws'.set p (ws'.getD c x)) c = sup x ws pos) →
      St f [("childpos", .int c tc'), ("newitem", .str x tx), ("endpos", .int ws.length te), ("startpos", .int pos ts), ("heap", .ref a), ("pos", .int p tp)] [(a, .sl ws')] s₅ → SupN f a ws ws' x pos p tx te ts tp fl s₅
theorem siftup_spec {g : Gx} (G : g.Ok) {A : Around} {k : Nat} (ar : Ar A (k + 2)) {s : Shared} (I : Inv g s) {a : Addr} {ws : List Str} {pos : Nat} {x : Str} {t' : Tok}
    (hl : (Kd.sl ws).At s.heap a) (ha : g.n ≤ a) (hx : ws[pos]? = some x) (hz : ws.length < 2 ^ 60)
    {Q E : Value → Shared → Prop} (h : ∀ s', Inv g s' → Ext [a] s.heap s'.heap → (Kd.sl (siftup x ws pos)).At s'.heap a → Q .none s') :
    wpAny (model PR g.w) A (call (.ref 217) [.ref a, .int pos t']) Q E s := by
  refine' r_call G [a] [(a, .sl ws)] [("heap", .ref a), ("pos", .int pos t')] I ar ?ho ?hnt ?hcd ?hct ?hbd ?hc ?hlc ?hh ?nd ?_ ?c1 ?c2 ?c3
  ((case ho => rfl); (case hnt => decide); (case hcd => rfl); (case hct => decide); (case hbd => exact BindsTo.of_eq rfl); (case hc => decide); (case hlc => exact locs rfl); (case c1 => rfl); (case c2 => rfl); (case c3 => rfl))
  case hh => simp; exact ⟨hl, ha⟩
  case nd => simp
  intro s₁ S ar' hg
  refine gA ar' fun A' ar0 => ?_; replace ar' := ar0
  have hpl := (List.getElem?_eq_some_iff.mp hx).1
  refine let env0 : Env := _; idE env0 ?_
  (refine let fx0 : Fx := _; let ls0 : List (Str × Value) := _; have S0x : St fx0 ls0 _ _ := S; ?_); clear S; have S := S0x; clear S0x
  (refine opq ?_; intro Q0 c0)
  refine noE ?_
  refine wpAny_execs_cons ?_
  (refine opq ?_; intro Q1 c1)
  refine wpAny_Assign_Name ?_
  (refine opq ?_; intro Q2 c2)
  refine r_Call ?_
  refine' r_boot (by assumption) ?hv ?hw ?_; (case hv => rfl); (case hw => boot_by_name)
  refine PyProof.Rows.callWith_builtin1 ?_
  (refine opq ?_; intro Q3 c3)
  refine wpAny_items_cons ?_
  refine' r_local (by assumption) ?hv ?_; (case hv => rfl)
  (refine opq ?_; intro Q4 c4)
  refine wpAny_items_nil ?_
  refine c4 _ _ ?_
  refine c3 _ _ ?_
  refine' r_len (by assumption) ?hm ?hz ?_; (case hm => exact mA 0 rfl); (case hz => omega); intro _ _ _
  refine c2 _ _ ?_
  refine' r_storeName (by assumption) ?_; intro _ _
  refine c1 _ _ ?_
  refine wpAny_execs_cons ?_
  (refine opq ?_; intro Q5 c5)
  refine wpAny_Assign_Name ?_
  refine' r_local (by assumption) ?hv ?_; (case hv => rfl)
  refine' r_storeName (by assumption) ?_; intro _ _
  refine c5 _ _ ?_
  refine wpAny_execs_cons ?_
  (refine opq ?_; intro Q6 c6)
  refine wpAny_Assign_Name ?_
  (refine opq ?_; intro Q7 c7)
  refine Subscript_ ?_
  refine' r_local (by assumption) ?hv ?_; (case hv => rfl)
  refine' r_local (by assumption) ?hv ?_; (case hv => rfl)
  rename_i s₂ S₂
  refine r_itemN S₂ (mA 0 rfl) hx hz ?_
  intro tx
  refine c7 _ _ ?_
  refine' r_storeName (by assumption) ?_; intro _ _
  refine c6 _ _ ?_
  refine wpAny_execs_cons ?_
  (refine opq ?_; intro Q8 c8)
  refine wpAny_Assign_Name ?_
  (refine opq ?_; intro Q9 c9)
  refine wpAny_BinOp ?_
  (refine opq ?_; intro Q10 c10)
  refine wpAny_BinOp ?_
  refine' r_int (by assumption) ?_; intro _ _ _
  refine' r_local (by assumption) ?hv ?_; (case hv => rfl)
  refine' r_mul (by assumption) ?_ (IntMulOk.of_left (by decide)); intro _ _ _
  refine c10 _ _ ?_
  refine' r_int (by assumption) ?_; intro _ _ _
  refine' r_add (by assumption) ?_; intro _ _ _
  refine c9 _ _ ?_
  refine' r_storeName (by assumption) ?_; intro _ _
  refine c8 _ _ ?_
  refine wpAny_execs_cons ?_
  (refine opq ?_; intro Q11 c11)
  rename_i s₃ S₃
  refine wpAny_While (codeAny_whileLoop (SupW ⟨g, s.heap, [a], s.heap.objs.size⟩ a ws x pos tx) ?_ (ws.length - pos) ⟨pos, ws, _, _, _, _, rfl, S₃.wl (by rfl), hpl, rfl, rfl⟩)
  rintro n s₂ ⟨p, ws', tp, tc, te, ts, rfl, S₂, hp, hlen, hsd⟩
  rw [show (2 * (p : Int) + 1) = ((2 * p + 1 : Nat) : Int) by omega] at S₂
  (refine let fx1 : Fx := _; let ls1 : List (Str × Value) := _; have S1x : St fx1 ls1 _ _ := S₂; ?_); clear S₂; have S₂ := S1x; clear S1x
  (refine opq ?_; intro Q12 c12)
  refine noE ?_
  refine wpAny_isTrue_Compare1 ?_
  refine' r_local (by assumption) ?hv ?_; (case hv => rfl)
  refine' r_local (by assumption) ?hv ?_; (case hv => rfl)
  refine P.lt_int ?_
  refine wpAny_truthy_bool ?_
  refine c12 _ _ ?_
  by_cases hc : 2 * p + 1 < ws.length
  · rw [if_pos (by simp; omega)]
    (refine opq ?_; intro Q13 c13)
    refine noE ?_
    refine wpAny_execs_cons ?_
    (refine opq ?_; intro Q14 c14)
    refine wpAny_Assign_Name ?_
    (refine opq ?_; intro Q15 c15)
    refine wpAny_BinOp ?_
    refine' r_local (by assumption) ?hv ?_; (case hv => rfl)
    refine' r_int (by assumption) ?_; intro _ _ _
    refine' r_add (by assumption) ?_; intro _ _ _
    refine c15 _ _ ?_
    refine' r_storeName (by assumption) ?_; intro _ _
    refine c14 _ _ ?_
    refine wpAny_execs_cons ?_
    rename_i s₄ S₄
    have hi1 : 2 * p + 1 < ws'.length := by omega
    refine wpAny_mono (Q := SupN ⟨g, s.heap, [a], s.heap.objs.size⟩ a ws ws' x pos p tx te ts tp) ?_ ?_ (fun _ _ e => e)
    · rw [show (((2 * p + 1 : Nat) : Int) + 1) = ((2 * p + 2 : Nat) : Int) by omega] at S₄
      (refine opq ?_; intro Q16 c16)
      refine wpAny_If ?_
      (refine opq ?_; intro Q17 c17)
      refine wpAny_isTrue_BoolOp ?_
      refine wpAny_allTrue_And_cons ?_
      (refine opq ?_; intro Q18 c18)
      refine wpAny_isTrue_Compare1 ?_
      refine' r_local (by assumption) ?hv ?_; (case hv => rfl)
      refine' r_local (by assumption) ?hv ?_; (case hv => rfl)
      refine P.lt_int ?_
      refine wpAny_truthy_bool ?_
      refine c18 _ _ ?_
      by_cases hr : 2 * p + 2 < ws.length
      · rw [if_pos (by simp; omega)]
        have hi2 : 2 * p + 2 < ws'.length := by omega
        refine wpAny_allTrue_And_cons ?_
        (refine opq ?_; intro Q19 c19)
        refine wpAny_isTrue_Not ?_
        (refine opq ?_; intro Q20 c20)
        refine wpAny_isTrue_Compare1 ?_
        (refine opq ?_; intro Q21 c21)
        refine Subscript_ ?_
        refine' r_local (by assumption) ?hv ?_; (case hv => rfl)
        refine' r_local (by assumption) ?hv ?_; (case hv => rfl)
        refine r_itemN S₄ (mA 0 rfl) (List.getElem?_eq_getElem hi1) (by omega) ?_
        intro t1
        refine c21 _ _ ?_
        (refine opq ?_; intro Q22 c22)
        refine Subscript_ ?_
        refine' r_local (by assumption) ?hv ?_; (case hv => rfl)
        refine' r_local (by assumption) ?hv ?_; (case hv => rfl)
        refine r_itemN S₄ (mA 0 rfl) (List.getElem?_eq_getElem hi2) (by omega) ?_
        intro t2
        refine c22 _ _ ?_
        refine r_slt ?_
        refine wpAny_truthy_bool ?_
        refine c20 _ _ ?_
        refine c19 _ _ ?_
        cases hlt : slt ws'[2 * p + 1] ws'[2 * p + 2] with
        | true =>
          simp only [Bool.not_true, Bool.false_eq_true, if_false]
          refine c17 _ _ ?_
          rw [if_neg Bool.false_ne_true]
          refine wpAny_execs_nil ?_
          refine c16 _ _ ?_
          refine ⟨rfl, 2 * p + 1, _, ⟨hi1, by omega, ?_⟩, S₄.wl (by rfl)⟩
          rw [← hsd]; conv => rhs; rw [sup]
          simp [hi1, hi2, hlt]
        | false =>
          simp only [Bool.not_false, if_true]
          refine wpAny_allTrue_And_nil ?_
          refine c17 _ _ ?_
          rw [if_pos rfl]
          refine wpAny_execs_cons ?_
          (refine opq ?_; intro Q23 c23)
          refine wpAny_Assign_Name ?_
          refine' r_local (by assumption) ?hv ?_; (case hv => rfl)
          refine' r_storeName (by assumption) ?_; intro _ _
          refine c23 _ _ ?_
          refine wpAny_execs_nil ?_
          refine c16 _ _ ?_
          rename_i s₅ S₅
          refine ⟨rfl, 2 * p + 2, _, ⟨hi2, by omega, ?_⟩, S₅.wl (by rfl)⟩
          rw [← hsd]; conv => rhs; rw [sup]
          simp [hi1, hi2, hlt]
      · rw [if_neg (by simp; omega)]
        try simp only [Bool.false_eq_true, if_false]
        refine c17 _ _ ?_
        rw [if_neg Bool.false_ne_true]
        refine wpAny_execs_nil ?_
        refine c16 _ _ ?_
        refine ⟨rfl, 2 * p + 1, _, ⟨hi1, by omega, ?_⟩, S₄.wl (by rfl)⟩
        rw [← hsd]; conv => rhs; rw [sup]
        have : ¬ 2 * p + 2 < ws'.length := by omega
        simp [hi1, this]
    · rintro fl s₅ ⟨rfl, c, tc', ⟨hcl, hpc, hcs⟩, S₅⟩
      (refine let fx2 : Fx := _; let ls2 : List (Str × Value) := _; have S2x : St fx2 ls2 _ _ := S₅; ?_); clear S₅; have S₅ := S2x; clear S2x
      refine wpAny_execs_cons ?_
      (refine opq ?_; intro Q16 c16)
      refine wpAny_Assign_Subscript ?_
      (refine opq ?_; intro Q17 c17)
      refine Subscript_ ?_
      refine' r_local (by assumption) ?hv ?_; (case hv => rfl)
      refine' r_local (by assumption) ?hv ?_; (case hv => rfl)
      refine r_itemN S₅ (mA 0 rfl) (List.getElem?_eq_getElem hcl) (by omega) ?_
      intro t1
      refine c17 _ _ ?_
      refine' r_local (by assumption) ?hv ?_; (case hv => rfl)
      refine' r_local (by assumption) ?hv ?_; (case hv => rfl)
      refine r_setN S₅ (.inl (mA 0 rfl)) hp (by omega) ?_
      intro s₆ S₆
      refine c16 _ _ ?_
      refine wpAny_execs_cons ?_
      (refine opq ?_; intro Q18 c18)
      refine wpAny_Assign_Name ?_
      refine' r_local (by assumption) ?hv ?_; (case hv => rfl)
      refine' r_storeName (by assumption) ?_; intro _ _
      refine c18 _ _ ?_
      refine wpAny_execs_cons ?_
      (refine opq ?_; intro Q19 c19)
      refine wpAny_Assign_Name ?_
      (refine opq ?_; intro Q20 c20)
      refine wpAny_BinOp ?_
      (refine opq ?_; intro Q21 c21)
      refine wpAny_BinOp ?_
      refine' r_int (by assumption) ?_; intro _ _ _
      refine' r_local (by assumption) ?hv ?_; (case hv => rfl)
      refine' r_mul (by assumption) ?_ (IntMulOk.of_left (by decide)); intro _ _ _
      refine c21 _ _ ?_
      refine' r_int (by assumption) ?_; intro _ _ _
      refine' r_add (by assumption) ?_; intro _ _ _
      refine c20 _ _ ?_
      refine' r_storeName (by assumption) ?_; intro _ _
      refine c19 _ _ ?_
      refine wpAny_execs_nil ?_
      refine c13 _ _ ?_
      rename_i s₇ S₇
      refine ⟨ws.length - c, by omega, c, _, _, _, _, _, rfl, S₇.wl (by rfl), by simpa using hcl, by simpa using hlen, ?_⟩
      rw [← hcs]; simp [hcl]
  · rw [if_neg (by simp; omega)]
    refine noE ?_
    refine wpAny_execs_nil ?_
    refine c11 _ _ ?_
    refine wpAny_execs_cons ?_
    (refine opq ?_; intro Q13 c13)
    refine wpAny_Assign_Subscript ?_
    refine' r_local (by assumption) ?hv ?_; (case hv => rfl)
    refine' r_local (by assumption) ?hv ?_; (case hv => rfl)
    refine' r_local (by assumption) ?hv ?_; (case hv => rfl)
    refine r_setN S₂ (.inl (mA 0 rfl)) hp (by omega) ?_
    intro s₄ S₄
    refine c13 _ _ ?_
    refine wpAny_execs_cons ?_
    (refine opq ?_; intro Q14 c14)
    refine wpAny_Expr ?_
    (refine opq ?_; intro Q15 c15)
    refine r_Call ?_
    refine' r_glob (by assumption) ?hv ?_; (case hv => rfl)
    refine r_cwF ?_
    (refine opq ?_; intro Q16 c16)
    refine wpAny_items_cons ?_
    refine' r_local (by assumption) ?hv ?_; (case hv => rfl)
    (refine opq ?_; intro Q17 c17)
    refine wpAny_items_cons ?_
    refine' r_local (by assumption) ?hv ?_; (case hv => rfl)
    (refine opq ?_; intro Q18 c18)
    refine wpAny_items_cons ?_
    refine' r_local (by assumption) ?hv ?_; (case hv => rfl)
    (refine opq ?_; intro Q19 c19)
    refine wpAny_items_nil ?_
    refine c19 _ _ ?_
    refine c18 _ _ ?_
    refine c17 _ _ ?_
    refine c16 _ _ ?_
    refine' And.intro (fn_at (by assumption) ?fo ?fn) ?_; (case fo => rfl); (case fn => decide)
    have hs0 : sup x ws' p = (ws'.set p x, p) := by rw [sup, dif_neg (by omega)]
    refine siftdown_spec (k := k) S₄.ok ar' S₄.inv (S₄.get (mA 0 rfl)) (S₄.low (mA 0 rfl)) (x := x) (ws := ws'.set p x) (by rw [List.getElem?_set_self hp]) (by rw [List.length_set]; omega) ?_
    intro s₅ I₅ E₅ H₅
    try dsimp only
    refine c15 _ _ ?_
    refine c14 _ _ ?_
    refine wpAny_execs_nil ?_
    refine c0 _ _ ?_
    refine h _ I₅ (Ext.trans' (X := [a]) S₄.ext E₅ (by simp)) ?_
    unfold siftup
    rw [← hsd, hs0]
    exact H₅
end TH2
section TH3
theorem heappush_spec {g : Gx} (G : g.Ok) {A : Around} {k : Nat} (ar : Ar A (k + 2)) {s : Shared} (I : Inv g s) {a : Addr} {ws : List Str} {x : Str} {t : Tok}
    (hl : (Kd.sl ws).At s.heap a) (ha : g.n ≤ a) (hz : ws.length < 2 ^ 20)
    {Q E : Value → Shared → Prop} (h : ∀ s', Inv g s' → Ext [a] s.heap s'.heap → (Kd.sl (sdn x 0 (ws ++ [x]) ws.length)).At s'.heap a → Q .none s') :
    wpAny (model PR g.w) A (call (.ref 189) [.ref a, .str x t]) Q E s := by
  refine' r_call G [a] [(a, .sl ws)] [("heap", .ref a), ("item", .str x t)] I ar ?ho ?hnt ?hcd ?hct ?hbd ?hc ?hlc ?hh ?nd ?_ ?c1 ?c2 ?c3
  ((case ho => rfl); (case hnt => decide); (case hcd => rfl); (case hct => decide); (case hbd => exact BindsTo.of_eq rfl); (case hc => decide); (case hlc => exact locs rfl); (case c1 => rfl); (case c2 => rfl); (case c3 => rfl))
  case hh => simp; exact ⟨hl, ha⟩
  case nd => simp
  intro s₁ S ar' hg
  refine gA ar' fun A' ar0 => ?_; replace ar' := ar0
  refine let env0 : Env := _; idE env0 ?_
  (refine let fx0 : Fx := _; let ls0 : List (Str × Value) := _; have S0x : St fx0 ls0 _ _ := S; ?_); clear S; have S := S0x; clear S0x
  (refine opq ?_; intro Q0 c0)
  refine noE ?_
  refine wpAny_execs_cons ?_
  (refine opq ?_; intro Q1 c1)
  refine wpAny_Expr ?_
  (refine opq ?_; intro Q2 c2)
  refine MethodCall_ ?_
  refine' r_local (by assumption) ?hv ?_; (case hv => rfl)
  refine' r_gm (by assumption) ?hm F.slot_list_append F.type_list_append ?_; (case hm => exact mA 0 rfl)
  refine callWith_method1 ?_
  (refine opq ?_; intro Q3 c3)
  refine wpAny_items_cons ?_
  refine' r_local (by assumption) ?hv ?_; (case hv => rfl)
  (refine opq ?_; intro Q4 c4)
  refine wpAny_items_nil ?_
  refine c4 _ _ ?_
  refine c3 _ _ ?_
  refine r_append S (.inl (mA 0 rfl)) (by rw [sizeLine_eq]; omega) ?_
  intro s₂ S₂
  try dsimp only
  have hz' : (ws ++ [x]).length < 2 ^ 60 := by simp; omega
  refine c2 _ _ ?_
  refine c1 _ _ ?_
  refine wpAny_execs_cons ?_
  (refine opq ?_; intro Q5 c5)
  refine wpAny_Expr ?_
  (refine opq ?_; intro Q6 c6)
  refine r_Call ?_
  refine' r_glob (by assumption) ?hv ?_; (case hv => rfl)
  refine r_cwF ?_
  (refine opq ?_; intro Q7 c7)
  refine wpAny_items_cons ?_
  refine' r_local (by assumption) ?hv ?_; (case hv => rfl)
  (refine opq ?_; intro Q8 c8)
  refine wpAny_items_cons ?_
  refine' r_int (by assumption) ?_; intro _ _ _
  (refine opq ?_; intro Q9 c9)
  refine wpAny_items_cons ?_
  (refine opq ?_; intro Q10 c10)
  refine wpAny_BinOp ?_
  (refine opq ?_; intro Q11 c11)
  refine r_Call ?_
  refine' r_boot (by assumption) ?hv ?hw ?_; (case hv => rfl); (case hw => boot_by_name)
  refine PyProof.Rows.callWith_builtin1 ?_
  (refine opq ?_; intro Q12 c12)
  refine wpAny_items_cons ?_
  refine' r_local (by assumption) ?hv ?_; (case hv => rfl)
  (refine opq ?_; intro Q13 c13)
  refine wpAny_items_nil ?_
  refine c13 _ _ ?_
  refine c12 _ _ ?_
  refine' r_len (by assumption) ?hm ?hz ?_; (case hm => exact mA 0 rfl); (case hz => omega); intro _ _ _
  refine c11 _ _ ?_
  refine' r_int (by assumption) ?_; intro _ _ _
  refine' r_sub (by assumption) ?_; intro _ _ _
  refine c10 _ _ ?_
  (refine opq ?_; intro Q14 c14)
  refine wpAny_items_nil ?_
  refine c14 _ _ ?_
  refine c9 _ _ ?_
  refine c8 _ _ ?_
  refine c7 _ _ ?_
  refine' And.intro (fn_at (by assumption) ?fo ?fn) ?_; (case fo => rfl); (case fn => decide)
  rename_i s₃ S₃
  have e1 : (((ws ++ [x]).length : Nat) : Int) - 1 = (ws.length : Nat) := by simp
  rw [e1]
  refine siftdown_spec (k := k) (sp := 0) S₃.ok ar' S₃.inv (S₃.get (mA 0 rfl)) (S₃.low (mA 0 rfl)) (x := x) (ws := ws ++ [x]) (by simp) (by omega) ?_
  intro s₅ I₅ E₅ H₅
  try dsimp only
  refine c6 _ _ ?_
  refine c5 _ _ ?_
  refine wpAny_execs_nil ?_
  refine c0 _ _ ?_
  exact h _ I₅ (Ext.trans' (X := [a]) S₃.ext E₅ (by simp)) H₅

theorem heappop_spec {g : Gx} (G : g.Ok) {A : Around} {k : Nat} (ar : Ar A (k + 3)) {s : Shared} (I : Inv g s) {a : Addr} {ws : List Str} {y : Str}
    (hl : (Kd.sl (ws ++ [y])).At s.heap a) (ha : g.n ≤ a) (hz : ws.length < 2 ^ 20)
    {Q E : Value → Shared → Prop} (h : ∀ t s', Inv g s' → Ext [a] s.heap s'.heap → (Kd.sl (match ws with | [] => [] | _ :: r => siftup y (y :: r) 0)).At s'.heap a → Q (.str (ws.headD y) t) s') :
    wpAny (model PR g.w) A (call (.ref 196) [.ref a]) Q E s := by
  refine' r_call G [a] [(a, .sl (ws ++ [y]))] [("heap", .ref a)] I ar ?ho ?hnt ?hcd ?hct ?hbd ?hc ?hlc ?hh ?nd ?_ ?c1 ?c2 ?c3
  ((case ho => rfl); (case hnt => decide); (case hcd => rfl); (case hct => decide); (case hbd => exact BindsTo.of_eq rfl); (case hc => decide); (case hlc => exact locs rfl); (case c1 => rfl); (case c2 => rfl); (case c3 => rfl))
  case hh => simp; exact ⟨hl, ha⟩
  case nd => simp
  intro s₁ S ar' hg
  refine gA ar' fun A' ar0 => ?_; replace ar' := ar0
  refine let env0 : Env := _; idE env0 ?_
  (refine let fx0 : Fx := _; let ls0 : List (Str × Value) := _; have S0x : St fx0 ls0 _ _ := S; ?_); clear S; have S := S0x; clear S0x
  (refine opq ?_; intro Q0 c0)
  refine noE ?_
  refine wpAny_execs_cons ?_
  (refine opq ?_; intro Q1 c1)
  refine wpAny_Assign_Name ?_
  (refine opq ?_; intro Q2 c2)
  refine MethodCall_ ?_
  refine' r_local (by assumption) ?hv ?_; (case hv => rfl)
  refine' r_gm (by assumption) ?hm F.slot_list_pop F.type_list_pop ?_; (case hm => exact mA 0 rfl)
  refine callWith_method0 ?_
  refine r_pop S (.inl (mA 0 rfl)) (by rw [sizeLine_eq]; omega) ?_
  intro t s₂ S₂
  refine c2 _ _ ?_
  refine' r_storeName (by assumption) ?_; intro _ _
  refine c1 _ _ ?_
  refine wpAny_execs_cons ?_
  (refine opq ?_; intro Q3 c3)
  refine wpAny_If ?_
  (refine opq ?_; intro Q4 c4)
  refine wpAny_isTrue_value ?_
  refine' r_local (by assumption) ?hv ?_; (case hv => rfl)
  refine' r_truthL (by assumption) ?hm ?hz ?_; (case hm => exact mA 0 rfl); (case hz => omega); intro _ _
  refine c4 _ _ ?_
  rename_i s₃ S₃
  cases ws with
  | nil =>
    simp only [List.isEmpty_nil, Bool.not_true]
    rw [if_neg Bool.false_ne_true]
    refine wpAny_execs_nil ?_
    refine c3 _ _ ?_
    refine wpAny_execs_cons ?_
    (refine opq ?_; intro Q5 c5)
    refine wpAny_Return_some ?_
    refine' r_local (by assumption) ?hv ?_; (case hv => rfl)
    refine c5 _ _ ?_
    refine c0 _ _ ?_
    exact h _ _ S₃.inv S₃.ext (S₃.get (mA 0 rfl))
  | cons z r =>
    simp only [List.isEmpty_cons, Bool.not_false]
    rw [if_pos trivial]
    refine wpAny_execs_cons ?_
    (refine opq ?_; intro Q5 c5)
    refine wpAny_Assign_Name ?_
    (refine opq ?_; intro Q6 c6)
    refine Subscript_ ?_
    refine' r_local (by assumption) ?hv ?_; (case hv => rfl)
    refine' r_int (by assumption) ?_; intro _ _ _
    rename_i s₄ S₄
    refine r_item (k := 0) S₄ (mA 0 rfl) (by decide) (y := z) rfl (by decide) ?_
    intro t1
    refine c6 _ _ ?_
    refine' r_storeName (by assumption) ?_; intro _ _
    refine c5 _ _ ?_
    refine wpAny_execs_cons ?_
    (refine opq ?_; intro Q7 c7)
    refine wpAny_Assign_Subscript ?_
    refine' r_local (by assumption) ?hv ?_; (case hv => rfl)
    refine' r_local (by assumption) ?hv ?_; (case hv => rfl)
    refine' r_int (by assumption) ?_; intro _ _ _
    rename_i s₅ S₅
    refine r_setItem (k := 0) S₅ (.inl (mA 0 rfl)) (by decide) (by simp) (by decide) ?_
    intro s₆ S₆
    refine c7 _ _ ?_
    refine wpAny_execs_cons ?_
    (refine opq ?_; intro Q8 c8)
    refine wpAny_Expr ?_
    (refine opq ?_; intro Q9 c9)
    refine r_Call ?_
    refine' r_glob (by assumption) ?hv ?_; (case hv => rfl)
    refine r_cwF ?_
    (refine opq ?_; intro Q10 c10)
    refine wpAny_items_cons ?_
    refine' r_local (by assumption) ?hv ?_; (case hv => rfl)
    (refine opq ?_; intro Q11 c11)
    refine wpAny_items_cons ?_
    refine' r_int (by assumption) ?_; intro _ _ _
    (refine opq ?_; intro Q12 c12)
    refine wpAny_items_nil ?_
    refine c12 _ _ ?_
    refine c11 _ _ ?_
    refine c10 _ _ ?_
    refine' And.intro (fn_at (by assumption) ?fo ?fn) ?_; (case fo => rfl); (case fn => decide)
    rename_i s₇ S₇
    refine siftup_spec (k := k) (pos := 0) S₇.ok ar' S₇.inv (S₇.get (mA 0 rfl)) (S₇.low (mA 0 rfl)) (x := y) (ws := y :: r) rfl (by simp at hz ⊢; omega) ?_
    intro s₈ I₈ E₈ H₈
    try dsimp only
    have S₈ := S₇.upd I₈ E₈ (.inl (mA 0 rfl)) H₈
    refine c9 _ _ ?_
    refine c8 _ _ ?_
    refine wpAny_execs_cons ?_
    (refine opq ?_; intro Q13 c13)
    refine wpAny_Return_some ?_
    refine' r_local (by assumption) ?hv ?_; (case hv => rfl)
    refine c13 _ _ ?_
    refine c3 _ _ ?_
    refine c0 _ _ ?_
    exact h _ _ S₈.inv S₈.ext (S₈.get (mA 0 rfl))
end TH3
section TH4
def hfy : Nat → List Str → List Str
  | 0, ws => ws
  | i + 1, ws => hfy i (siftup (ws.getD i ⟨#[]⟩) ws i)
theorem sdn_len (x : Str) (sp : Nat) : ∀ (k : Nat) (ws : List Str) (pos : Nat), pos = k → (sdn x sp ws pos).length = ws.length := by
  intro k
  induction k using Nat.strongRecOn with
  | ind k ih =>
    intro ws pos hk
    rw [sdn]
    by_cases h : sp < pos
    · rw [dif_pos h]
      split
      · rw [ih _ (by omega) _ _ rfl]; simp
      · simp
    · rw [dif_neg h]; simp
theorem siftup_len (x : Str) (ws : List Str) (pos : Nat) : (siftup x ws pos).length = ws.length := by
  unfold siftup; rw [sdn_len x pos _ _ _ rfl, sup_len x _ _ _ rfl]

inductive HfyW (f : Fx) (a it : Addr) (ws : List Str) (n : Nat) (s' : Shared) : Prop
  | mk (ws' : List Str) (ls' : List (Str × Value)) : n ≤ ws.length / 2 → St f (("x", .ref a) :: ls') [(it, .obj (riObj ((n : Int) - 1) n (-1))), (a, .sl ws')] s' → ws'.length = ws.length → hfy n ws' = hfy (ws.length / 2) ws → HfyW f a it ws n s'
theorem heapify_spec {g : Gx} (G : g.Ok) {A : Around} {k : Nat} (ar : Ar A (k + 3)) {s : Shared} (I : Inv g s) {a : Addr} {ws : List Str}
    (hl : (Kd.sl ws).At s.heap a) (ha : g.n ≤ a) (hz : ws.length < 2 ^ 20)
    {Q E : Value → Shared → Prop} (h : ∀ s', Inv g s' → Ext [a] s.heap s'.heap → (Kd.sl (hfy (ws.length / 2) ws)).At s'.heap a → Q .none s') :
    wpAny (model PR g.w) A (call (.ref 203) [.ref a]) Q E s := by
  refine' r_call G [a] [(a, .sl ws)] [("x", .ref a)] I ar ?ho ?hnt ?hcd ?hct ?hbd ?hc ?hlc ?hh ?nd ?_ ?c1 ?c2 ?c3
  ((case ho => rfl); (case hnt => decide); (case hcd => rfl); (case hct => decide); (case hbd => exact BindsTo.of_eq rfl); (case hc => decide); (case hlc => exact locs rfl); (case c1 => rfl); (case c2 => rfl); (case c3 => rfl))
  case hh => simp; exact ⟨hl, ha⟩
  case nd => simp
  intro s₁ S ar' hg
  refine gA ar' fun A' ar0 => ?_; replace ar' := ar0
  refine let env0 : Env := _; idE env0 ?_
  (refine let fx0 : Fx := _; let ls0 : List (Str × Value) := _; have S0x : St fx0 ls0 _ _ := S; ?_); clear S; have S := S0x; clear S0x
  (refine opq ?_; intro Q0 c0)
  refine noE ?_
  refine wpAny_execs_cons ?_
  (refine opq ?_; intro Q1 c1)
  refine wpAny_Assign_Name ?_
  (refine opq ?_; intro Q2 c2)
  refine r_Call ?_
  refine' r_boot (by assumption) ?hv ?hw ?_; (case hv => rfl); (case hw => boot_by_name)
  refine PyProof.Rows.callWith_builtin1 ?_
  (refine opq ?_; intro Q3 c3)
  refine wpAny_items_cons ?_
  refine' r_local (by assumption) ?hv ?_; (case hv => rfl)
  (refine opq ?_; intro Q4 c4)
  refine wpAny_items_nil ?_
  refine c4 _ _ ?_
  refine c3 _ _ ?_
  refine' r_len (by assumption) ?hm ?hz ?_; (case hm => exact mA 0 rfl); (case hz => omega); intro _ _ _
  refine c2 _ _ ?_
  refine' r_storeName (by assumption) ?_; intro _ _
  refine c1 _ _ ?_
  refine wpAny_execs_cons ?_
  (refine opq ?_; intro Q5 c5)
  refine wpAny_For ?_
  (refine opq ?_; intro Q6 c6)
  refine r_Call ?_
  refine' r_boot (by assumption) ?hv ?hw ?_; (case hv => rfl); (case hw => boot_by_name)
  refine Pv.callWith_type1 ?_
  (refine opq ?_; intro Q7 c7)
  refine wpAny_items_cons ?_
  (refine opq ?_; intro Q8 c8)
  refine r_Call ?_
  refine' r_boot (by assumption) ?hv ?hw ?_; (case hv => rfl); (case hw => boot_by_name)
  refine Pv.callWith_type1 ?_
  (refine opq ?_; intro Q9 c9)
  refine wpAny_items_cons ?_
  (refine opq ?_; intro Q10 c10)
  refine wpAny_BinOp ?_
  refine' r_local (by assumption) ?hv ?_; (case hv => rfl)
  refine' r_int (by assumption) ?_; intro _ _ _
  refine' r_fdiv (by assumption) (by decide) (PyProof.noPylong_of_log2 (by decide +kernel)) ?_; intro _ _ _
  refine c10 _ _ ?_
  (refine opq ?_; intro Q11 c11)
  refine wpAny_items_nil ?_
  refine c11 _ _ ?_
  refine c9 _ _ ?_
  refine' r_range1 (by assumption) ?_; intro _ _ _ _ _ _
  refine c8 _ _ ?_
  (refine opq ?_; intro Q12 c12)
  refine wpAny_items_nil ?_
  refine c12 _ _ ?_
  refine c7 _ _ ?_
  rename_i s₂ S₂
  have e1 : (ws.length : Int).fdiv 2 = ((ws.length / 2 : Nat) : Int) := by rw [Int.fdiv_eq_ediv_of_nonneg _ (by decide)]; omega
  rw [e1] at S₂
  refine r_rev S₂ (by omega) (by omega) ?_
  intro it s₃ hit S₃
  refine c6 _ _ ?_
  refine pyIter_ri (S₃.get (mA 0 rfl)) ?_
  refine codeAny_forLoop (HfyW ⟨g, s.heap, [a], s.heap.objs.size⟩ a it ws) ?_ (ws.length / 2) ⟨ws, [], Nat.le_refl _, S₃.wl (by rfl), rfl, rfl⟩
  rintro n s₄ ⟨ws', ls', hn, S₄, hlen, hf⟩
  cases n with
  | zero =>
    refine r_endR S₄ hit ar'.hand (by decide) ?_
    intro s₅ S₅
    refine noE ?_
    refine wpAny_execs_nil ?_
    refine c5 _ _ ?_
    refine wpAny_execs_nil ?_
    refine c0 _ _ ?_
    exact h _ S₅.inv S₅.ext (hf ▸ S₅.get (mA 0 rfl))
  | succ i =>
    refine r_nextR S₄ hit (by omega) ?_
    intro t s₅ S₅
    refine noE ?_
    refine wpAny_assign_Name ?_
    refine' r_storeName (by assumption) ?_; intro _ _
    (refine opq ?_; intro Q13 c13)
    refine noE ?_
    refine wpAny_execs_cons ?_
    (refine opq ?_; intro Q14 c14)
    refine wpAny_Expr ?_
    (refine opq ?_; intro Q15 c15)
    refine r_Call ?_
    refine' r_glob (by assumption) ?hv ?_; (case hv => rfl)
    refine r_cwF ?_
    (refine opq ?_; intro Q16 c16)
    refine wpAny_items_cons ?_
    refine' r_local (by assumption) ?hv ?_; (case hv => rfl)
    (refine opq ?_; intro Q17 c17)
    refine wpAny_items_cons ?_
    refine' r_local (by assumption) ?hv ?_; (case hv => rfl)
    (refine opq ?_; intro Q18 c18)
    refine wpAny_items_nil ?_
    refine c18 _ _ ?_
    refine c17 _ _ ?_
    refine c16 _ _ ?_
    refine' And.intro (fn_at (by assumption) ?fo ?fn) ?_; (case fo => rfl); (case fn => decide)
    rename_i s₆ S₆
    have e2 : (((i + 1 : Nat) : Int) - 1) = (i : Int) := by omega
    rw [e2] at S₆ ⊢
    have hi : i < ws'.length := by omega
    refine siftup_spec (k := k) (pos := i) S₆.ok ar' S₆.inv (S₆.get (mA 1 rfl)) (S₆.low (mA 1 rfl)) (x := ws'[i]) (ws := ws') (List.getElem?_eq_getElem hi) (by omega) ?_
    intro s₇ I₇ E₇ H₇
    try dsimp only
    have S₇ := S₆.swap.upd I₇ E₇ (.inl (mA 0 rfl)) H₇
    refine c15 _ _ ?_
    refine c14 _ _ ?_
    refine wpAny_execs_nil ?_
    refine c13 _ _ ?_
    refine ⟨i, by omega, siftup ws'[i] ws' i, [], by omega, ?_, ?_, ?_⟩
    · have z := S₇.swap
      rw [show (i : Int) + -1 = (i : Int) - 1 by omega] at z
      exact z.wl (ls' := [("x", .ref a)]) (by rfl)
    · rw [siftup_len]; exact hlen
    · rw [← hf, hfy]; simp [hi]
end TH4
section TH5
def hpop (ws : List Str) : Str × List Str := match ws.getLast? with
  | none => (⟨#[]⟩, [])
  | some y => (ws.dropLast.headD y, match ws.dropLast with | [] => [] | _ :: r => siftup y (y :: r) 0)
theorem hpop_snoc (ws : List Str) (y : Str) : hpop (ws ++ [y]) = (ws.headD y, match ws with | [] => [] | _ :: r => siftup y (y :: r) 0) := by
  unfold hpop
  simp only [List.getLast?_append, List.getLast?_singleton, Option.some_or, List.dropLast_concat]
theorem hpop_len (ws : List Str) : (hpop ws).2.length = ws.length - 1 := by
  rcases List.eq_nil_or_concat ws with rfl | ⟨r, y, rfl⟩
  · rfl
  · rw [List.concat_eq_append, hpop_snoc]
    cases r with
    | nil => rfl
    | cons z q => dsimp only; rw [siftup_len]; simp
def offs : Nat → List Str → List Str
  | 0, _ => []
  | n + 1, ws => (hpop ws).1 :: offs n (hpop ws).2

theorem mem_sdn (x : Str) (sp : Nat) : ∀ (k : Nat) (ws : List Str) (pos : Nat), pos = k → ∀ z ∈ sdn x sp ws pos, z = x ∨ z ∈ ws := by
  intro k
  induction k using Nat.strongRecOn with
  | ind k ih =>
    intro ws pos hk z hz
    rw [sdn] at hz
    by_cases h : sp < pos
    · rw [dif_pos h] at hz
      split at hz
      · rcases ih _ (by omega) _ _ rfl z hz with h1 | h1
        · exact .inl h1
        · rcases List.mem_or_eq_of_mem_set h1 with h2 | h2
          · exact .inr h2
          · subst h2
            rw [List.getD_eq_getElem?_getD]
            cases q : ws[(pos - 1) / 2]? with
            | none => exact .inl rfl
            | some y => exact .inr (List.mem_of_getElem? q)
      · exact (List.mem_or_eq_of_mem_set hz).symm
    · rw [dif_neg h] at hz; exact (List.mem_or_eq_of_mem_set hz).symm
theorem mem_getD (x : Str) (ws : List Str) (i : Nat) : ws.getD i x = x ∨ ws.getD i x ∈ ws := by
  rw [List.getD_eq_getElem?_getD]
  cases q : ws[i]? with
  | none => exact .inl rfl
  | some y => exact .inr (List.mem_of_getElem? q)
theorem mem_sup (x : Str) : ∀ (k : Nat) (ws : List Str) (pos : Nat), ws.length - pos = k → ∀ z ∈ (sup x ws pos).1, z = x ∨ z ∈ ws := by
  intro k
  induction k using Nat.strongRecOn with
  | ind k ih =>
    intro ws pos hk z hz
    rw [sup] at hz
    by_cases h : 2 * pos + 1 < ws.length
    · rw [dif_pos h] at hz
      split at hz
      all_goals
        rcases ih _ (by simp; omega) _ _ rfl z hz with h1 | h1
        · exact .inl h1
        · rcases List.mem_or_eq_of_mem_set h1 with h2 | h2
          · exact .inr h2
          · rw [h2]; exact mem_getD _ _ _
    · rw [dif_neg h] at hz; exact (List.mem_or_eq_of_mem_set hz).symm
theorem mem_siftup {x z : Str} {ws : List Str} {pos : Nat} (h : z ∈ siftup x ws pos) : z = x ∨ z ∈ ws := by
  unfold siftup at h
  rcases mem_sdn _ _ _ _ _ rfl z h with h1 | h1
  · exact .inl h1
  · exact mem_sup _ _ _ _ rfl z h1
theorem okw_hpop {ws : List Str} (h : okw ws) : okw (hpop ws).2 := by
  rcases List.eq_nil_or_concat ws with rfl | ⟨r, y, rfl⟩
  · intro x hx; cases hx
  · rw [List.concat_eq_append] at h ⊢
    rw [hpop_snoc]
    cases r with
    | nil => intro x hx; cases hx
    | cons z q =>
      intro x hx
      rcases mem_siftup hx with rfl | h1
      · exact h _ (by simp)
      · rcases List.mem_cons.mp h1 with rfl | h2
        · exact h _ (by simp)
        · exact h _ (by simp [h2])

inductive OffW (f : Fx) (r : Addr) (ws : List Str) (n : Nat) (s' : Shared) : Prop
  | mk (ws' os : List Str) (o : Addr) : n = ws'.length → St f [("rest", .ref r), ("off", .ref o)] [(r, .sl ws'), (o, .sl os)] s' → f.h0.objs.size ≤ o →
    ws'.length + os.length ≤ ws.length → okw ws' → os ++ offs ws'.length ws' = offs ws.length ws → OffW f r ws n s'
theorem law_off_spec {g : Gx} (G : g.Ok) {A : Around} {k : Nat} (ar : Ar A (k + 4)) {s : Shared} (I : Inv g s) {a : Addr} {ws : List Str}
    (hl : (Kd.sl ws).At s.heap a) (ha : g.n ≤ a) (hz : ws.length < 1000) (hok : okw ws)
    {Q E : Value → Shared → Prop} (h : ∀ c s', Inv g s' → Ext [] s.heap s'.heap → s.heap.objs.size ≤ c → (Kd.sl (offs ws.length ws)).At s'.heap c → Q (.ref c) s') :
    wpAny (model PR g.w) A (call (.ref 238) [.ref a]) Q E s := by
  refine' r_call G [] [(a, .sl ws)] [("heap", .ref a)] I ar ?ho ?hnt ?hcd ?hct ?hbd ?hc ?hlc ?hh ?nd ?_ ?c1 ?c2 ?c3
  ((case ho => rfl); (case hnt => decide); (case hcd => rfl); (case hct => decide); (case hbd => exact BindsTo.of_eq rfl); (case hc => decide); (case hlc => exact locs rfl); (case c1 => rfl); (case c2 => rfl); (case c3 => rfl))
  case hh => simp; exact ⟨hl, ha⟩
  case nd => simp
  intro s₁ S ar' hg
  refine gA ar' fun A' ar0 => ?_; replace ar' := ar0
  refine let env0 : Env := _; idE env0 ?_
  (refine let fx0 : Fx := _; let ls0 : List (Str × Value) := _; have S0x : St fx0 ls0 _ _ := S; ?_); clear S; have S := S0x; clear S0x
  (refine opq ?_; intro Q0 c0)
  refine noE ?_
  refine wpAny_execs_cons ?_
  (refine opq ?_; intro Q1 c1)
  refine Assign_Tuple_swapped (names := ["rest", "off"]) ?_ (by rfl) (by kernel_rfl)
  (refine opq ?_; intro Q2 c2)
  refine r_Tuple ?_
  (refine opq ?_; intro Q3 c3)
  refine wpAny_items_cons ?_
  (refine opq ?_; intro Q4 c4)
  refine Subscript_ ?_
  refine' r_local (by assumption) ?hv ?_; (case hv => rfl)
  (refine opq ?_; intro Q5 c5)
  refine r_Slice ?_
  (refine opq ?_; intro Q6 c6)
  refine r_partN ?_
  refine c6 _ _ ?_
  (refine opq ?_; intro Q7 c7)
  refine r_partN ?_
  refine c7 _ _ ?_
  refine' r_slnext (by assumption) ?_; intro _ _ _
  refine c5 _ _ ?_
  rename_i s₂ S₂
  refine r_sliceTail S₂ (mA 0 rfl) .none .none (by rw [sizeLine_eq]; omega) ?_
  intro r s₃ _ S₃
  rw [pk_all] at S₃
  refine c4 _ _ ?_
  (refine opq ?_; intro Q8 c8)
  refine wpAny_items_cons ?_
  (refine opq ?_; intro Q9 c9)
  refine r_List ?_
  (refine opq ?_; intro Q10 c10)
  refine wpAny_items_nil ?_
  refine c10 _ _ ?_
  refine' r_dispS (by assumption) ?sv (Nat.le_of_ble_eq_true rfl) ?_; (case sv => (repeat (first | exact StrsAre.nil | apply StrsAre.cons))); intro _ _ _ _
  refine c9 _ _ ?_
  (refine opq ?_; intro Q11 c11)
  refine wpAny_items_nil ?_
  refine c11 _ _ ?_
  refine c8 _ _ ?_
  refine c3 _ _ ?_
  refine' r_dispT (by assumption) (Nat.le_of_ble_eq_true rfl) ?_; intro _ _ _ _
  refine c2 _ _ ?_
  refine' r_unpack (by assumption) ?hm ?hn (Ar.hand (by assumption)) ?_; (case hm => exact mA 0 rfl); (case hn => rfl); intro _ _
  (refine opq ?_; intro Q12 c12)
  first | refine r_aio_cons ?_ | refine r_aio_nil ?_
  dsimp only [List.nil_append, List.cons_append]
  refine wpAny_bindName ?_
  refine' r_storeName (by assumption) ?_; intro _ _
  first | refine r_aio_cons ?_ | refine r_aio_nil ?_
  dsimp only [List.nil_append, List.cons_append]
  refine wpAny_bindName ?_
  refine' r_storeName (by assumption) ?_; intro _ _
  first | refine r_aio_cons ?_ | refine r_aio_nil ?_
  refine c12 _ _ ?_
  refine c1 _ _ ?_
  refine wpAny_execs_cons ?_
  (refine opq ?_; intro Q13 c13)
  rename_i s₄ S₄
  have nr : s.heap.objs.size ≤ r := Nat.le_trans S₂.ext.1 ‹_›
  refine wpAny_While (codeAny_whileLoop (OffW ⟨g, s.heap, [], s.heap.objs.size⟩ r ws) ?_ ws.length ⟨ws, [], _, rfl, (by exact S₄.pick 1000 [2, 1]), Nat.le_trans S₃.ext.1 ‹_›, by simp, hok, by simp⟩)
  rintro n s₅ ⟨ws', os, o, rfl, S₅, no, hle, hok', he⟩
  (refine opq ?_; intro Q14 c14)
  refine noE ?_
  refine wpAny_isTrue_Compare1 ?_
  refine' r_local (by assumption) ?hv ?_; (case hv => rfl)
  (refine opq ?_; intro Q15 c15)
  refine r_List ?_
  (refine opq ?_; intro Q16 c16)
  refine wpAny_items_nil ?_
  refine c16 _ _ ?_
  refine' r_dispS (by assumption) ?sv (Nat.le_of_ble_eq_true rfl) ?_; (case sv => (repeat (first | exact StrsAre.nil | apply StrsAre.cons))); intro _ _ _ _
  refine c15 _ _ ?_
  rename_i s₆ S₆
  refine r_neL S₆ (mA 1 rfl) (mA 0 rfl) hok' (by intro x hx; cases hx) ar'.u64 ?_
  refine wpAny_truthy_bool ?_
  refine c14 _ _ ?_
  rcases List.eq_nil_or_concat ws' with rfl | ⟨q, y, rfl⟩
  · rw [if_neg (by simp)]
    refine noE ?_
    refine wpAny_execs_nil ?_
    refine c13 _ _ ?_
    refine wpAny_execs_cons ?_
    (refine opq ?_; intro Q17 c17)
    refine wpAny_Return_some ?_
    refine' r_local (by assumption) ?hv ?_; (case hv => rfl)
    refine c17 _ _ ?_
    refine c0 _ _ ?_
    simp only [List.length_nil, offs, List.append_nil] at he
    subst he
    exact h _ _ S₆.inv S₆.ext no (S₆.get (mA 2 rfl))
  · rw [List.concat_eq_append] at *
    rw [if_pos (by simp)]
    (refine opq ?_; intro Q17 c17)
    refine noE ?_
    refine wpAny_execs_cons ?_
    (refine opq ?_; intro Q18 c18)
    refine wpAny_Assign_Name ?_
    (refine opq ?_; intro Q19 c19)
    refine wpAny_BinOp ?_
    refine' r_local (by assumption) ?hv ?_; (case hv => rfl)
    (refine opq ?_; intro Q20 c20)
    refine r_List ?_
    (refine opq ?_; intro Q21 c21)
    refine wpAny_items_cons ?_
    (refine opq ?_; intro Q22 c22)
    refine r_Call ?_
    refine' r_glob (by assumption) ?hv ?_; (case hv => rfl)
    refine r_cwF ?_
    (refine opq ?_; intro Q23 c23)
    refine wpAny_items_cons ?_
    refine' r_local (by assumption) ?hv ?_; (case hv => rfl)
    (refine opq ?_; intro Q24 c24)
    refine wpAny_items_nil ?_
    refine c24 _ _ ?_
    refine c23 _ _ ?_
    refine' And.intro (fn_at (by assumption) ?fo ?fn) ?_; (case fo => rfl); (case fn => decide)
    simp only [List.length_append, List.length_singleton] at hle
    refine heappop_spec (k := k) S₆.ok ar' S₆.inv (S₆.get (mA 1 rfl)) (S₆.low (mA 1 rfl)) (by omega) ?_
    intro t s₇ I₇ E₇ H₇
    have H₇' : (Kd.sl (hpop (q ++ [y])).2).At s₇.heap r := by rw [hpop_snoc]; exact H₇
    have S₇ := S₆.drop.upd I₇ E₇ (.inr nr) H₇'
    refine c22 _ _ ?_
    (refine opq ?_; intro Q25 c25)
    refine wpAny_items_nil ?_
    refine c25 _ _ ?_
    refine c21 _ _ ?_
    refine' r_dispS (by assumption) ?sv (Nat.le_of_ble_eq_true rfl) ?_; (case sv => (repeat (first | exact StrsAre.nil | apply StrsAre.cons))); intro _ _ _ _
    refine c20 _ _ ?_
    rename_i s₈ S₈

    refine r_addL S₈ (mA 2 rfl) (mA 0 rfl) (by rw [sizeLine_eq]; simp; omega) ?_
    intro c s₉ nc S₉
    refine c19 _ _ ?_
    refine' r_storeName (by assumption) ?_; intro _ _
    refine c18 _ _ ?_
    refine wpAny_execs_nil ?_
    refine c17 _ _ ?_
    rename_i s₁₀ S₁₀
    have hp := hpop_len (q ++ [y])
    simp only [List.length_append, List.length_singleton] at hp
    have h1 : (hpop (q ++ [y])).1 = q.headD y := by rw [hpop_snoc]
    refine ⟨(hpop (q ++ [y])).2.length, ?_, (hpop (q ++ [y])).2, os ++ [q.headD y], c, rfl, (by exact S₁₀.pick 1000 [2, 0]), Nat.le_trans S₈.ext.1 nc, ?_, ?_, ?_⟩
    · simp; omega
    · simp; omega
    · exact okw_hpop hok'
    · rw [← he, List.append_assoc]
      simp only [List.length_append, List.length_singleton, offs, h1]
      rw [hp]; simp
end TH5
section TH6
section
variable {prog : Program} {w : World} {A : Around} {E : Value → Shared → Prop} {s : Shared} {env : Env}
theorem r_enter {k : Nat} {outer : List Env} {b : List Stmt} {Q : Flow → Shared → Prop} (hfr : A.frames = some outer) (ar : Ar (A.deeper env) k) (h : ∀ A', Ar A' k → A'.frames = some (env :: outer) → wpAny (model prog w) A' (execs b env) Q E s) : wpAny (model prog w) (A.deeper env) (execs b env) Q E s :=
  h _ ar (Around.frames_deeper hfr)
end

def uld : List Str → List Str → List Str × List Str
  | [], bs => ([], bs)
  | x :: r, bs => if x ∈ bs then uld r (bs.erase x) else (x :: (uld r bs).1, (uld r bs).2)

inductive UldW (f : Fx) (a b m : Addr) (es bs : List Str) (tl : List (Addr × Kd)) (n : Nat) (s' : Shared) : Prop
  | mk (es' bs' ms : List Str) : n = es'.length → St f [("expected", .ref a), ("actual", .ref b), ("missing", .ref m)] ((a, .sl es') :: (b, .sl bs') :: (m, .sl ms) :: tl) s' →
    es'.length + bs'.length + ms.length < 500 → ms ++ (uld es'.reverse bs').1 = (uld es.reverse bs).1 → (uld es'.reverse bs').2 = (uld es.reverse bs).2 → UldW f a b m es bs tl n s'
theorem uld_spec {g : Gx} (G : g.Ok) {A : Around} {k : Nat} (ar : Ar A (k + 1)) {s : Shared} (I : Inv g s) {a b : Addr} {es bs : List Str} {outer : List Env} {fr : List (Addr × Obj)}
    (hfr : A.frames = some outer) (hF : Frs outer fr) (hp : ∀ p ∈ frK fr, p.2.At s.heap p.1 ∧ g.n ≤ p.1) (nd : (a :: b :: (frK fr).map (·.1)).Nodup)
    (hl : (Kd.sl es).At s.heap a) (ha : g.n ≤ a) (hl' : (Kd.sl bs).At s.heap b) (hb : g.n ≤ b) (hz : es.length + bs.length < 500)
    {Q E : Value → Shared → Prop} (h : ∀ t m s', Inv g s' → Ext (a :: b :: fr.map (·.1)) s.heap s'.heap → (∀ p ∈ frK fr, p.2.At s'.heap p.1) → s.heap.objs.size ≤ t → s.heap.objs.size ≤ m →
      (Kd.obj (tupObj [.ref m, .ref b])).At s'.heap t → (Kd.sl (uld es.reverse bs).1).At s'.heap m → (Kd.sl (uld es.reverse bs).2).At s'.heap b → Q (.ref t) s') :
    wpAny (model PR g.w) A (call (.ref 231) [.ref a, .ref b]) Q E s := by
  refine' r_call G (a :: b :: fr.map (·.1)) ((a, .sl es) :: (b, .sl bs) :: frK fr) [("expected", .ref a), ("actual", .ref b)] I ar ?ho ?hnt ?hcd ?hct ?hbd ?hc ?hlc ?hh ?nd ?_ ?c1 ?c2 ?c3
  ((case ho => rfl); (case hnt => decide); (case hcd => rfl); (case hct => decide); (case hbd => exact BindsTo.of_eq rfl); (case hc => decide); (case hlc => exact locs rfl); (case c1 => rfl); (case c2 => rfl); (case c3 => rfl))
  case hh => exact List.forall_mem_cons.mpr ⟨⟨hl, ha⟩, List.forall_mem_cons.mpr ⟨⟨hl', hb⟩, hp⟩⟩
  case nd => exact nd
  intro s₁ S ar' hg
  refine r_enter hfr ar' fun A' ar' hA' => ?_
  have B : Below' ⟨g, s.heap, a :: b :: fr.map (·.1), s.heap.objs.size⟩ A' _ (frK fr) := ⟨⟨outer, fr, hA', hF, fun p hp => hp, fun p hp => .inl (mD 2 (List.mem_map_of_mem hp))⟩, rfl, rfl⟩
  refine let env0 : Env := _; idE env0 ?_
  (refine let fx0 : Fx := _; let ls0 : List (Str × Value) := _; have S0x : St fx0 ls0 _ _ := S; ?_); clear S; have S := S0x; clear S0x
  (refine opq ?_; intro Q0 c0)
  refine wpAny_execs_cons ?_
  (refine opq ?_; intro Q1 c1)
  refine wpAny_Assign_Name ?_
  (refine opq ?_; intro Q2 c2)
  refine r_List ?_
  (refine opq ?_; intro Q3 c3)
  refine wpAny_items_nil ?_
  refine c3 _ _ ?_
  refine' r_dispS (by assumption) ?sv (Nat.le_of_ble_eq_true rfl) ?_; (case sv => (repeat (first | exact StrsAre.nil | apply StrsAre.cons))); intro _ _ _ _
  refine c2 _ _ ?_
  refine' r_storeName (by assumption) ?_; intro _ _
  refine c1 _ _ ?_
  refine wpAny_execs_cons ?_
  (refine opq ?_; intro Q4 c4)
  rename_i m _ nm _ s₂ S₂
  refine wpAny_While (codeAny_whileLoop (UldW ⟨g, s.heap, a :: b :: fr.map (·.1), s.heap.objs.size⟩ a b m es bs (frK fr)) ?_ es.length ⟨es, bs, [], rfl, (by exact S₂.pick 3 [1, 2, 0]), by simpa using hz, rfl, rfl⟩)
  rintro n s₃ ⟨es', bs', ms, rfl, S₃, hlen, hq1, hq2⟩
  (refine opq ?_; intro Q5 c5)
  refine wpAny_isTrue_value ?_
  refine' r_local (by assumption) ?hv ?_; (case hv => rfl)
  refine' r_truthL (by assumption) ?hm ?hz ?_; (case hm => exact mA 0 rfl); (case hz => omega); intro _ _
  refine c5 _ _ ?_
  rename_i s₄ S₄
  have mm : Fx.may ⟨g, s.heap, a :: b :: fr.map (·.1), s.heap.objs.size⟩ m := .inr (Nat.le_trans S.ext.1 nm)
  rcases List.eq_nil_or_concat es' with rfl | ⟨q, y, rfl⟩
  · rw [if_neg (by simp)]
    refine wpAny_execs_nil ?_
    refine c4 _ _ ?_
    refine wpAny_execs_cons ?_
    (refine opq ?_; intro Q6 c6)
    refine wpAny_Return_some ?_
    (refine opq ?_; intro Q7 c7)
    refine r_Tuple ?_
    (refine opq ?_; intro Q8 c8)
    refine wpAny_items_cons ?_
    refine' r_local (by assumption) ?hv ?_; (case hv => rfl)
    (refine opq ?_; intro Q9 c9)
    refine wpAny_items_cons ?_
    refine' r_local (by assumption) ?hv ?_; (case hv => rfl)
    (refine opq ?_; intro Q10 c10)
    refine wpAny_items_nil ?_
    refine c10 _ _ ?_
    refine c9 _ _ ?_
    refine c8 _ _ ?_
    refine' r_dispT (by assumption) (Nat.le_of_ble_eq_true rfl) ?_; intro _ _ _ _
    refine c7 _ _ ?_
    refine c6 _ _ ?_
    refine c0 _ _ ?_
    rename_i t s₅ nt S₅
    simp only [List.reverse_nil, uld, List.append_nil] at hq1 hq2
    rw [← hq1, ← hq2] at h
    exact h t m _ S₅.inv S₅.ext (fun p hp => S₅.get (mD 4 hp)) (Nat.le_trans S₄.ext.1 nt) (Nat.le_trans S.ext.1 nm) (S₅.get (mA 0 rfl)) (S₅.get (mA 3 rfl)) (S₅.get (mA 2 rfl))
  · rw [List.concat_eq_append] at *
    rw [if_pos (by simp)]
    (refine opq ?_; intro Q6 c6)
    refine wpAny_execs_cons ?_
    (refine opq ?_; intro Q7 c7)
    refine wpAny_Assign_Name ?_
    (refine opq ?_; intro Q8 c8)
    refine MethodCall_ ?_
    refine' r_local (by assumption) ?hv ?_; (case hv => rfl)
    refine' r_gm (by assumption) ?hm F.slot_list_pop F.type_list_pop ?_; (case hm => exact mA 0 rfl)
    refine callWith_method0 ?_
    simp only [List.length_append, List.length_singleton] at hlen
    refine r_pop S₄ (.inl (mA 0 rfl)) (by rw [sizeLine_eq]; omega) ?_
    intro t s₅ S₅
    refine c8 _ _ ?_
    refine' r_storeName (by assumption) ?_; intro _ _
    refine c7 _ _ ?_
    refine wpAny_execs_cons ?_
    (refine opq ?_; intro Q9 c9)
    refine wpAny_Try_except ?_
    (refine opq ?_; intro Q10 c10)
    refine wpAny_execs_cons ?_
    (refine opq ?_; intro Q11 c11)
    refine wpAny_Expr ?_
    (refine opq ?_; intro Q12 c12)
    refine MethodCall_ ?_
    refine' r_local (by assumption) ?hv ?_; (case hv => rfl)
    refine' r_gm (by assumption) ?hm F.slot_list_remove F.type_list_remove ?_; (case hm => exact mA 1 rfl)
    refine callWith_method1 ?_
    (refine opq ?_; intro Q13 c13)
    refine wpAny_items_cons ?_
    refine' r_local (by assumption) ?hv ?_; (case hv => rfl)
    (refine opq ?_; intro Q14 c14)
    refine wpAny_items_nil ?_
    refine c14 _ _ ?_
    refine c13 _ _ ?_
    rename_i s₆ S₆
    rw [List.reverse_append, List.reverse_singleton, List.singleton_append, uld] at hq1 hq2
    by_cases hy : y ∈ bs'
    · rw [if_pos hy] at hq1 hq2
      refine r_remove S₆.swap (.inl (mA 1 rfl)) hy (by rw [sizeLine_eq]; omega) ?_
      intro s₇ S₇
      refine c12 _ _ ?_
      refine c11 _ _ ?_
      refine wpAny_execs_nil ?_
      refine c10 _ _ ?_
      refine wpAny_execs_nil ?_
      refine c9 _ _ ?_
      refine wpAny_execs_nil ?_
      refine c6 _ _ ?_
      have hle := List.length_erase_of_mem hy
      exact ⟨q.length, by simp, q, bs'.erase y, ms, rfl, S₇.swap.wl (by rfl), by omega, hq1, hq2⟩
    · rw [if_neg hy] at hq1 hq2
      refine x_remove S₆ (mA 1 rfl) ar'.hand hy ?_
      intro e s₇ X
      refine x_caught X (B.weak fun p hp => mD 3 hp) F.isExc_ValueError F.notTuple_ValueError (by rw [isSubtype_type]; kernel_rfl) (by rfl) (by boot_by_name) ?_
      intro T s₈ S₈
      (refine let fx1 : Fx := _; let ls1 : List (Str × Value) := _; let hs1 : List (Addr × Kd) := _; have S1x : St fx1 ls1 hs1 _ := S₈; ?_); clear S₈; have S₈ := S1x; clear S1x
      refine wpAny_execs_cons ?_
      (refine opq ?_; intro Q15 c15)
      refine wpAny_Expr ?_
      (refine opq ?_; intro Q16 c16)
      refine MethodCall_ ?_
      refine' r_local (by assumption) ?hv ?_; (case hv => rfl)
      refine' r_gm (by assumption) ?hm F.slot_list_append F.type_list_append ?_; (case hm => exact mA 4 rfl)
      refine callWith_method1 ?_
      (refine opq ?_; intro Q17 c17)
      refine wpAny_items_cons ?_
      refine' r_local (by assumption) ?hv ?_; (case hv => rfl)
      (refine opq ?_; intro Q18 c18)
      refine wpAny_items_nil ?_
      refine c18 _ _ ?_
      refine c17 _ _ ?_
      have S₉ : St ⟨g, s.heap, a :: b :: fr.map (·.1), s.heap.objs.size⟩ [("item", .str y t), ("expected", .ref a), ("actual", .ref b), ("missing", .ref m)] ((m, .sl ms) :: (a, .sl q) :: (b, .sl bs') :: frK fr) s₈ := by
        exact (by exact S₈.pick 5 [4, 2, 3])
      refine r_append S₉ mm (by rw [sizeLine_eq]; omega) ?_
      intro s₁₀ S₁₀
      refine c16 _ _ ?_
      refine c15 _ _ ?_
      refine wpAny_execs_nil ?_
      refine c9 _ _ ?_
      refine wpAny_execs_nil ?_
      refine c6 _ _ ?_
      exact ⟨q.length, by simp, q, bs', ms ++ [y], rfl, (by exact S₁₀.pick 3 [1, 2, 0]), by simp; omega, by simpa using hq1, hq2⟩
end TH6
section TH7
section
variable {prog : Program} {w : World} {f : Fx} {A : Around} {E : Value → Shared → Prop} {s : Shared} {ls : List (Str × Value)} {hs : List (Addr × Kd)} {env : Env}
theorem x_item {value slice : Expr} {a : Addr} {ws : List Str} {j : Nat} {u : Tok} {c : Value} {Q : Value → Shared → Prop} (S : St f ls hs s) (hm : (a, .sl ws) ∈ hs) (hh : Hd A hs c) (hj : ws.length ≤ j) (hz : j < 2 ^ 60)
    (h : ∀ e s', XS f ls hs "IndexError" c e s' → E (.ref e) s') (hsl : subscripted slice false (.ref a) (.int (j : Int) u) = operate [.ref a, .int (j : Int) u] (getItem (.ref a) (.int (j : Int) u)) := by with_unfolding_all rfl) :
    wpAny (model prog w) A (subscriptTail value slice (.ref a) (.int (j : Int) u)) Q E s := by
  obtain ⟨vs, n, hl, hv⟩ := S.get hm
  exact tail_any hl.isList.typeIs slot_list_getitem.lookup (x_getItem S hm hh hj hz fun e s' z S' => h e s' (.new (.inr (Nat.le_trans S.ext.1 z)) S')) hsl

theorem St.over {x : Str} {v u : Value} (S : St f ((x, v) :: (x, u) :: ls) hs s) : St f ((x, v) :: ls) hs s := S.wloc fun y z e => by
  rw [List.lookup_cons] at e ⊢
  cases q : y == x with
  | true => rw [q] at e; exact e
  | false => rw [q] at e; simp only [List.lookup_cons, q]; exact e

theorem lookup_over {x y : Str} {v : Value} {ls : List (Str × Value)} (h : (y == x) = false) : List.lookup y ((x, v) :: ls) = ls.lookup y := by rw [List.lookup_cons, h]

theorem lookup_self {x : Str} {v : Value} {ls : List (Str × Value)} : List.lookup x ((x, v) :: ls) = some v := by rw [List.lookup_cons, beq_self_eq_true]
inductive SkipW (f : Fx) (ls : List (Str × Value)) (hs : List (Addr × Kd)) (ni : Str) (ws : List Str) (y : Str) (i₀ : Nat) (n : Nat) (s' : Shared) : Prop
  | mk (i : Nat) (t : Tok) : n = ws.length - i → i₀ ≤ i → i ≤ ws.length → (ws.drop i).dropWhile (· == y) = (ws.drop i₀).dropWhile (· == y) → St f ((ni, .int i t) :: ls) hs s' → SkipW f ls hs ni ws y i₀ n s'
/-- while xs[i] == e: i += 1 -/
theorem skip_loop {nx ni ne : Str} {q1 q2 q3 q4 q5 q6 q7 q8 q9 : Pos} {k} {ws : List Str} {a : Addr} {y : Str} {i₀ : Nat} {t ty : Tok} {c : Value} {Q : Flow → Shared → Prop} (S : St f ((ni, .int i₀ t) :: ls) hs s)
    (la : ls.lookup nx = some (.ref a)) (le : ls.lookup ne = some (.str y ty)) (hm : (a, .sl ws) ∈ hs) (hd : Hd A hs c) (B : Below' f A env hs) (hi : i₀ ≤ ws.length) (hz : ws.length < 1000)
    (hQ : ∀ i t s', i₀ ≤ i → i < ws.length → ws.drop i = (ws.drop i₀).dropWhile (· == y) → St f ((ni, .int i t) :: ls) hs s' → Q .next s')
    (hE : ∀ e t s', (ws.drop i₀).dropWhile (· == y) = [] → XS f ((ni, .int ws.length t) :: ls) hs "IndexError" c e s' → E (.ref e) s')
    (hL : env.locals = f.L := by rfl) (hk : env.scope.kind = .function := by rfl) (hx1 : env.kindOf nx = some .local := by rfl) (hx2 : env.kindOf ni = some .local := by rfl) (hx3 : env.kindOf ne = some .local := by rfl)
    (hd1 : (nx == ("__debug__" : Str)) = false := by decide) (hd2 : (ni == ("__debug__" : Str)) = false := by decide) (hd3 : (ne == ("__debug__" : Str)) = false := by decide) (n1 : (nx == ni) = false := by decide) (n2 : (ne == ni) = false := by decide) :
    wpAny (model prog w) A (exec (.While (.Compare (.Subscript (.Name nx q1) (.Name ni q2) q3) [.Eq] [.Name ne q4] q5) [.AugAssign (.Name ni q6) .Add (.Constant (.int 1) k q7) q8] [] q9) env) Q E s := by
  refine wpAny_While (codeAny_whileLoop (SkipW f ls hs ni ws y i₀) ?_ (ws.length - i₀) ⟨i₀, t, rfl, Nat.le_refl _, hi, rfl, S⟩)
  rintro n s₁ ⟨i, t₁, rfl, h1, h2, h3, S₁⟩
  refine wpAny_isTrue_Compare1 (Subscript_ ?_)
  refine r_local S₁ (by rw [lookup_over n1]; exact la) ?_ hL hk hx1 hd1
  refine r_local S₁ lookup_self ?_ hL hk hx2 hd2
  rcases Nat.lt_or_eq_of_le h2 with h4 | rfl
  · refine r_itemN S₁ hm (List.getElem?_eq_getElem h4) (by omega) ?_
    intro t₂
    refine r_local S₁ (by rw [lookup_over n2]; exact le) ?_ hL hk hx3 hd3
    refine r_seq ?_
    refine wpAny_truthy_bool ?_
    have hdr := List.drop_eq_getElem_cons h4
    by_cases hw : ws[i] = y
    · rw [if_pos (by simpa using hw)]
      refine wpAny_execs_cons (wpAny_AugAssign_Name ?_)
      refine r_loadName S₁ lookup_self ?_ hL hk hx2
      refine r_int S₁ fun t₃ s₂ S₂ => ?_
      refine r_iadd S₂ fun t₄ s₃ S₃ => ?_
      refine r_storeName S₃ (fun s₄ S₄ => ?_) hL hk hx2
      refine wpAny_execs_nil ?_
      refine ⟨ws.length - (i + 1), by omega, i + 1, t₄, rfl, by omega, by omega, ?_, ?_⟩
      · rw [← h3, hdr, List.dropWhile_cons_of_pos (by simpa using hw)]
      · have := S₄.over
        rw [show ((i : Int) + 1) = ((i + 1 : Nat) : Int) by push_cast; rfl] at this
        exact this
    · rw [if_neg (by simpa using hw)]
      refine wpAny_execs_nil ?_
      refine hQ i t₁ _ h1 h4 ?_ S₁
      rw [← h3, hdr, List.dropWhile_cons_of_neg (by simpa using hw)]
  · refine x_item S₁ hm hd (Nat.le_refl _) (by omega) ?_
    intro e s₂ X
    exact x_loop X B fun s₃ X₃ => hE e t₁ s₃ (by rw [← h3]; simp) X₃
end
end TH7
section TH8
def sld : List Str → List Str → List Str × List Str
  | [], us => ([], us)
  | x :: ws, [] => (x :: ws, [])
  | x :: ws, y :: us =>
    if slt x y then (x :: (sld (ws.dropWhile (· == x)) (y :: us)).1, (sld (ws.dropWhile (· == x)) (y :: us)).2)
    else if slt y x then ((sld (x :: ws) (us.dropWhile (· == y))).1, y :: (sld (x :: ws) (us.dropWhile (· == y))).2)
    else sld (ws.dropWhile (· == x)) (us.dropWhile (· == y))
  termination_by ws us => ws.length + us.length
  decreasing_by
    all_goals
      have h1 := (List.dropWhile_sublist (· == x) (l := ws)).length_le
      have h2 := (List.dropWhile_sublist (· == y) (l := us)).length_le
      simp only [List.length_cons]
      omega

theorem XS.weak {f : Fx} {ls ls' : List (Str × Value)} {hs hs' : List (Addr × Kd)} {X : String} {c : Value} {e : Addr} {s : Shared} (x : XS f ls hs X c e s) (h1 : ls'.map (fun p => ls.lookup p.1) = ls'.map (fun p => some p.2)) (h2 : ∀ p ∈ hs', p ∈ hs) (nd : (hs'.map (·.1)).Nodup) : XS f ls' hs' X c e s := by
  have sub : ∀ z, z ∈ hs'.map (·.1) → z ∈ hs.map (·.1) := fun z hz => by
    obtain ⟨p, hp, rfl⟩ := List.mem_map.mp hz
    exact List.mem_map_of_mem (h2 p hp)
  cases x with
  | new m S =>
    have n := S.nd
    rw [List.map_cons, List.nodup_cons] at n
    refine .new m ((S.wl h1).weak (fun _ _ e => e) (fun p hp => ?_) (by rw [List.map_cons, List.nodup_cons]; exact ⟨fun z => n.1 (sub _ z), nd⟩))
    rcases List.mem_cons.mp hp with rfl | hp
    · exact .head _
    · exact mD 1 (h2 p hp)
  | held mT m S =>
    have n := S.nd
    simp only [List.map_cons, List.nodup_cons, List.mem_cons, not_or] at n
    refine .held mT m ((S.wl h1).weak (fun _ _ e => e) (fun p hp => ?_) (by simp only [List.map_cons, List.nodup_cons, List.mem_cons, not_or]; exact ⟨⟨n.1.1, fun z => n.1.2 (sub _ z)⟩, fun z => n.2.1 (sub _ z), nd⟩))
    rcases List.mem_cons.mp hp with rfl | hp
    · exact .head _
    · rcases List.mem_cons.mp hp with rfl | hp
      · exact mA 1 rfl
      · exact mD 2 (h2 p hp)

inductive SldW (f : Fx) (hs0 : List (Addr × Kd)) (ws us : List Str) (a b m u : Addr) (R : List Str × List Str) (n : Nat) (s' : Shared) : Prop
  | mk (i j : Nat) (ti tj : Tok) (ms vs : List Str) : n = (ws.length - i) + (us.length - j) → i ≤ ws.length → j ≤ us.length → ms.length ≤ i → vs.length ≤ j →
      ms ++ (sld (ws.drop i) (us.drop j)).1 = R.1 → vs ++ (sld (ws.drop i) (us.drop j)).2 = R.2 →
      St f [("i", .int i ti), ("j", .int j tj), ("missing", .ref m), ("unexpected", .ref u), ("expected", .ref a), ("actual", .ref b)] ((m, .sl ms) :: (u, .sl vs) :: hs0) s' → SldW f hs0 ws us a b m u R n s'
inductive SldN (f : Fx) (hs0 : List (Addr × Kd)) (ws us : List Str) (a b m u : Addr) (R : List Str × List Str) (i j : Nat) (fl : Flow) (s' : Shared) : Prop
  | mk : fl = .next → (i' j' : Nat) → (ti tj : Tok) → (ms vs : List Str) → (ws.length - i') + (us.length - j') < (ws.length - i) + (us.length - j) → i' ≤ ws.length → j' ≤ us.length → ms.length ≤ i' → vs.length ≤ j' →
      ms ++ (sld (ws.drop i') (us.drop j')).1 = R.1 → vs ++ (sld (ws.drop i') (us.drop j')).2 = R.2 →
      St f [("i", .int i' ti), ("j", .int j' tj), ("missing", .ref m), ("unexpected", .ref u), ("expected", .ref a), ("actual", .ref b)] ((m, .sl ms) :: (u, .sl vs) :: hs0) s' → SldN f hs0 ws us a b m u R i j fl s'
inductive SldE (f : Fx) (hs0 : List (Addr × Kd)) (ws us : List Str) (a b m u : Addr) (R : List Str × List Str) (e : Value) (s' : Shared) : Prop
  | mk (r : Addr) (i' j' : Nat) (ti tj : Tok) (ms vs : List Str) (c : Value) : e = .ref r → i' ≤ ws.length → j' ≤ us.length → ms.length ≤ i' → vs.length ≤ j' →
      ms ++ ws.drop i' = R.1 → vs ++ us.drop j' = R.2 →
      XS f [("i", .int i' ti), ("j", .int j' tj), ("missing", .ref m), ("unexpected", .ref u), ("expected", .ref a), ("actual", .ref b)] ((m, .sl ms) :: (u, .sl vs) :: hs0) "IndexError" c r s' → SldE f hs0 ws us a b m u R e s'
theorem sld_spec {g : Gx} (G : g.Ok) {A : Around} {k : Nat} (ar : Ar A (k + 1)) {s : Shared} (I : Inv g s) {a b : Addr} {ws us : List Str} {outer : List Env} {fr : List (Addr × Obj)} {hs0 : List (Addr × Kd)}
    (hfr : A.frames = some outer) (hF : Frs outer fr) (hh : ∀ p ∈ hs0, p.2.At s.heap p.1 ∧ g.n ≤ p.1) (nd : (hs0.map (·.1)).Nodup) (m1 : (a, .sl ws) ∈ hs0) (m2 : (b, .sl us) ∈ hs0) (m3 : ∀ p ∈ frK fr, p ∈ hs0)
    (hz : ws.length + us.length < 500)
    {Q E : Value → Shared → Prop} (h : ∀ t m u s', Inv g s' → Ext (fr.map (·.1)) s.heap s'.heap → (∀ p ∈ hs0, p.2.At s'.heap p.1) → s.heap.objs.size ≤ t → s.heap.objs.size ≤ m → s.heap.objs.size ≤ u → m ≠ u →
      (Kd.obj (tupObj [.ref m, .ref u])).At s'.heap t → (Kd.sl (sld ws us).1).At s'.heap m → (Kd.sl (sld ws us).2).At s'.heap u → Q (.ref t) s') :
    wpAny (model PR g.w) A (call (.ref 224) [.ref a, .ref b]) Q E s := by
  refine' r_call G (fr.map (·.1)) hs0 [("expected", .ref a), ("actual", .ref b)] I ar ?ho ?hnt ?hcd ?hct ?hbd ?hc ?hlc ?hh ?nd ?_ ?c1 ?c2 ?c3
  ((case ho => rfl); (case hnt => decide); (case hcd => rfl); (case hct => decide); (case hbd => exact BindsTo.of_eq rfl); (case hc => decide); (case hlc => exact locs rfl); (case c1 => rfl); (case c2 => rfl); (case c3 => rfl))
  case hh => exact hh
  case nd => exact nd
  intro s₁ S ar' hg
  refine r_enter hfr ar' fun A' ar' hA' => ?_
  have B : Below' ⟨g, s.heap, fr.map (·.1), s.heap.objs.size⟩ A' _ hs0 := ⟨⟨outer, fr, hA', hF, m3, fun p hp => .inl (List.mem_map_of_mem hp)⟩, rfl, rfl⟩
  refine let env0 : Env := _; idE env0 ?_
  (refine let fx1 : Fx := _; let ls1 : List (Str × Value) := _; have S1x : St fx1 ls1 _ _ := S; ?_); clear S; have S := S1x; clear S1x
  (refine opq ?_; intro Q0 c0)
  refine wpAny_execs_cons ?_
  (refine opq ?_; intro Q1 c1)
  refine wpAny_Assign_two ?_
  refine' r_int (by assumption) ?_; intro _ _ _
  refine wpAny_assign_Name ?_
  refine' r_storeName (by assumption) ?_; intro _ _
  refine wpAny_assign_Name ?_
  refine' r_storeName (by assumption) ?_; intro _ _
  refine c1 _ _ ?_
  refine wpAny_execs_cons ?_
  (refine opq ?_; intro Q2 c2)
  refine wpAny_Assign_Name ?_
  (refine opq ?_; intro Q3 c3)
  refine r_List ?_
  (refine opq ?_; intro Q4 c4)
  refine wpAny_items_nil ?_
  refine c4 _ _ ?_
  refine' r_dispS (by assumption) ?sv (Nat.le_of_ble_eq_true rfl) ?_; (case sv => (repeat (first | exact StrsAre.nil | apply StrsAre.cons))); intro _ _ _ _
  refine c3 _ _ ?_
  refine' r_storeName (by assumption) ?_; intro _ _
  refine c2 _ _ ?_
  refine wpAny_execs_cons ?_
  (refine opq ?_; intro Q5 c5)
  refine wpAny_Assign_Name ?_
  (refine opq ?_; intro Q6 c6)
  refine r_List ?_
  (refine opq ?_; intro Q7 c7)
  refine wpAny_items_nil ?_
  refine c7 _ _ ?_
  refine' r_dispS (by assumption) ?sv (Nat.le_of_ble_eq_true rfl) ?_; (case sv => (repeat (first | exact StrsAre.nil | apply StrsAre.cons))); intro _ _ _ _
  refine c6 _ _ ?_
  refine' r_storeName (by assumption) ?_; intro _ _
  refine c5 _ _ ?_
  refine wpAny_execs_cons ?_
  (refine opq ?_; intro Q8 c8)
  rename_i _ Sj m _ nm Sm sx Sx u _ nu _ s₃ S₃
  have zm : s.heap.objs.size ≤ m := Nat.le_trans Sj.ext.1 nm
  have zu : s.heap.objs.size ≤ u := Nat.le_trans Sx.ext.1 nu
  have hmu : m ≠ u := fun q => absurd (Sx.get (mA 0 rfl)).lt (by rw [q]; exact Nat.not_lt.mpr nu)
  have nd3 := S₃.nd; skip
  simp only [List.map_cons, List.nodup_cons, List.mem_cons, not_or] at nd3
  generalize hR : sld ws us = R at h
  have mm : Fx.may ⟨g, s.heap, fr.map (·.1), s.heap.objs.size⟩ m := .inr zm
  have mu : Fx.may ⟨g, s.heap, fr.map (·.1), s.heap.objs.size⟩ u := .inr zu
  refine wpAny_While (codeAny_whileLoop (SldW ⟨g, s.heap, fr.map (·.1), s.heap.objs.size⟩ hs0 ws us a b m u R) ?_ (ws.length - 0 + (us.length - 0)) ⟨0, 0, _, _, [], [], rfl, Nat.zero_le _, Nat.zero_le _, Nat.le_refl _, Nat.le_refl _, by simp [hR], by simp [hR], S₃.swap.wl (by rfl)⟩)
  rintro n s₄ ⟨i, j, ti, tj, ms, vs, rfl, hi, hj, lm, lv, hq1, hq2, S₄⟩
  (refine let fx2 : Fx := _; let ls2 : List (Str × Value) := _; have S2x : St fx2 ls2 _ _ := S₄; ?_); clear S₄; have S₄ := S2x; clear S2x
  (refine opq ?_; intro Q9 c9)
  refine wpAny_isTrue_value ?_
  refine wpAny_Constant_bool ?_
  refine wpAny_truthy_bool ?_
  refine c9 _ _ ?_
  rw [if_pos rfl]
  (refine opq ?_; intro Q10 c10)
  refine wpAny_execs_cons ?_
  (refine opq ?_; intro Q11 c11)
  refine wpAny_Try_except (wpAny_mono (Q := SldN ⟨g, s.heap, fr.map (·.1), s.heap.objs.size⟩ hs0 ws us a b m u R i j)
    (E := SldE ⟨g, s.heap, fr.map (·.1), s.heap.objs.size⟩ hs0 ws us a b m u R) ?_ ?_ ?_)
  · (refine opq ?_; intro Q12 c12)
    refine wpAny_execs_cons ?_
    (refine opq ?_; intro Q13 c13)
    refine wpAny_Assign_Name ?_
    (refine opq ?_; intro Q14 c14)
    refine Subscript_ ?_
    refine' r_local (by assumption) ?hv ?_; (case hv => rfl)
    refine' r_local (by assumption) ?hv ?_; (case hv => rfl)
    have hd4 : Hd A' ((m, .sl ms) :: (u, .sl vs) :: hs0) .none := .no ar'.hand
    rcases Nat.lt_or_eq_of_le hi with hi' | rfl
    · refine r_itemN S₄ (mD 2 m1) (List.getElem?_eq_getElem hi') (by omega) ?_
      intro t₁
      refine c14 _ _ ?_
      refine' r_storeName (by assumption) ?_; intro _ _
      refine c13 _ _ ?_
      refine wpAny_execs_cons ?_
      (refine opq ?_; intro Q15 c15)
      refine wpAny_Assign_Name ?_
      (refine opq ?_; intro Q16 c16)
      refine Subscript_ ?_
      refine' r_local (by assumption) ?hv ?_; (case hv => rfl)
      refine' r_local (by assumption) ?hv ?_; (case hv => rfl)
      rename_i s₅ S₅
      rcases Nat.lt_or_eq_of_le hj with hj' | rfl
      · refine r_itemN S₅ (mD 2 m2) (List.getElem?_eq_getElem hj') (by omega) ?_
        intro t₂
        have hdi := List.drop_eq_getElem_cons hi'
        have hdj := List.drop_eq_getElem_cons hj'
        rw [hdi, hdj, sld] at hq1 hq2
        refine c16 _ _ ?_
        refine' r_storeName (by assumption) ?_; intro _ _
        refine c15 _ _ ?_
        refine wpAny_execs_cons ?_
        (refine opq ?_; intro Q17 c17)
        refine wpAny_If ?_
        (refine opq ?_; intro Q18 c18)
        refine wpAny_isTrue_Compare1 ?_
        refine' r_local (by assumption) ?hv ?_; (case hv => rfl)
        refine' r_local (by assumption) ?hv ?_; (case hv => rfl)
        refine r_slt ?_
        refine wpAny_truthy_bool ?_
        refine c18 _ _ ?_
        rename_i s₆ S₆
        have hd5 : Hd A' ((m, .sl (ms ++ [ws[i]])) :: (u, .sl vs) :: hs0) .none := .no ar'.hand
        have hd6 : Hd A' ((u, .sl (vs ++ [us[j]])) :: (m, .sl ms) :: hs0) .none := .no ar'.hand
        have B' : Below' ⟨g, s.heap, fr.map (·.1), s.heap.objs.size⟩ A' _ ((m, .sl ms) :: (u, .sl vs) :: hs0) := B.weak fun p hp => mD 2 hp
        by_cases hlt : slt ws[i] us[j] = true
        · rw [if_pos hlt] at hq1 hq2 ⊢
          refine wpAny_execs_cons ?_
          (refine opq ?_; intro Q19 c19)
          refine wpAny_Expr ?_
          (refine opq ?_; intro Q20 c20)
          refine MethodCall_ ?_
          refine' r_local (by assumption) ?hv ?_; (case hv => rfl)
          refine' r_gm (by assumption) ?hm F.slot_list_append F.type_list_append ?_; (case hm => exact mA 0 rfl)
          refine callWith_method1 ?_
          (refine opq ?_; intro Q21 c21)
          refine wpAny_items_cons ?_
          refine' r_local (by assumption) ?hv ?_; (case hv => rfl)
          (refine opq ?_; intro Q22 c22)
          refine wpAny_items_nil ?_
          refine c22 _ _ ?_
          refine c21 _ _ ?_
          refine r_append S₆ mm (by rw [sizeLine_eq]; omega) ?_
          intro s₇ S₇
          refine c20 _ _ ?_
          refine c19 _ _ ?_
          refine wpAny_execs_cons ?_
          (refine opq ?_; intro Q23 c23)
          refine wpAny_AugAssign_Name ?_
          refine' r_loadName (by assumption) ?hv ?_; (case hv => rfl)
          refine' r_int (by assumption) ?_; intro _ _ _
          refine' r_iadd (by assumption) ?_; intro _ _ _
          refine' r_storeName (by assumption) ?_; intro _ _
          refine c23 _ _ ?_
          refine wpAny_execs_cons ?_
          (refine opq ?_; intro Q24 c24)
          rename_i s₈ S₈
          rw [show ((i : Int) + 1) = ((i + 1 : Nat) : Int) by push_cast; rfl] at S₈
          refine skip_loop S₈ rfl rfl (mD 2 m1) hd5 (B.weak fun p hp => mD 2 hp) (by omega) (by omega) ?_ ?_
          · intro i' t₃ s₉ h1 h2 h3 S₉
            refine c24 _ _ ?_
            refine wpAny_execs_nil ?_
            refine c17 _ _ ?_
            refine wpAny_execs_nil ?_
            refine c12 _ _ ?_
            refine ⟨rfl, i', j, t₃, tj, ms ++ [ws[i]], vs, by omega, by omega, by omega, by simp; omega, lv, ?_, ?_, S₉.wl (by rfl)⟩
            · rw [h3, hdj]; simpa using hq1
            · rw [h3, hdj]; exact hq2
          · intro r t₃ s₉ hn X
            refine ⟨r, ws.length, j, t₃, tj, ms ++ [ws[i]], vs, _, rfl, Nat.le_refl _, hj, by simp; omega, lv, ?_, ?_, X.weak (by rfl) (fun p hp => hp) S₇.nd⟩
            · rw [hn, sld] at hq1; simpa using hq1
            · rw [hn, sld] at hq2; rw [hdj]; exact hq2
        · rw [if_neg hlt] at hq1 hq2 ⊢
          refine wpAny_execs_cons ?_
          (refine opq ?_; intro Q19 c19)
          refine wpAny_If ?_
          (refine opq ?_; intro Q20 c20)
          refine wpAny_isTrue_Compare1 ?_
          refine' r_local (by assumption) ?hv ?_; (case hv => rfl)
          refine' r_local (by assumption) ?hv ?_; (case hv => rfl)
          refine r_sgt ?_
          refine wpAny_truthy_bool ?_
          refine c20 _ _ ?_
          by_cases hgt : slt us[j] ws[i] = true
          · rw [if_pos hgt] at hq1 hq2 ⊢
            refine wpAny_execs_cons ?_
            (refine opq ?_; intro Q21 c21)
            refine wpAny_Expr ?_
            (refine opq ?_; intro Q22 c22)
            refine MethodCall_ ?_
            refine' r_local (by assumption) ?hv ?_; (case hv => rfl)
            refine' r_gm (by assumption) ?hm F.slot_list_append F.type_list_append ?_; (case hm => exact mA 1 rfl)
            refine callWith_method1 ?_
            (refine opq ?_; intro Q23 c23)
            refine wpAny_items_cons ?_
            refine' r_local (by assumption) ?hv ?_; (case hv => rfl)
            (refine opq ?_; intro Q24 c24)
            refine wpAny_items_nil ?_
            refine c24 _ _ ?_
            refine c23 _ _ ?_
            refine r_append S₆.swap mu (by rw [sizeLine_eq]; omega) ?_
            intro s₇ S₇
            refine c22 _ _ ?_
            refine c21 _ _ ?_
            refine wpAny_execs_cons ?_
            (refine opq ?_; intro Q25 c25)
            refine wpAny_AugAssign_Name ?_
            refine' r_loadName (by assumption) ?hv ?_; (case hv => rfl)
            refine' r_int (by assumption) ?_; intro _ _ _
            refine' r_iadd (by assumption) ?_; intro _ _ _
            refine' r_storeName (by assumption) ?_; intro _ _
            refine c25 _ _ ?_
            refine wpAny_execs_cons ?_
            (refine opq ?_; intro Q26 c26)
            rename_i s₈ S₈
            rw [show ((j : Int) + 1) = ((j + 1 : Nat) : Int) by push_cast; rfl] at S₈
            refine skip_loop S₈ rfl rfl (mD 2 m2) hd6 (B.weak fun p hp => mD 2 hp) (by omega) (by omega) ?_ ?_
            · intro j' t₃ s₉ h1 h2 h3 S₉
              refine c26 _ _ ?_
              refine wpAny_execs_nil ?_
              refine c19 _ _ ?_
              refine wpAny_execs_nil ?_
              refine c17 _ _ ?_
              refine wpAny_execs_nil ?_
              refine c12 _ _ ?_
              refine ⟨rfl, i, j', ti, t₃, ms, vs ++ [us[j]], by omega, by omega, by omega, lm, by simp; omega, ?_, ?_, S₉.swap.wl (by rfl)⟩
              · rw [h3, hdi]; exact hq1
              · rw [h3, hdi]; simpa using hq2
            · intro r t₃ s₉ hn X
              refine ⟨r, i, us.length, ti, t₃, ms, vs ++ [us[j]], _, rfl, hi, Nat.le_refl _, lm, by simp; omega, ?_, ?_, X.weak (by rfl) (by grind) S₇.swap.nd⟩
              · rw [hn, sld] at hq1; rw [hdi]; exact hq1
              · rw [hn, sld] at hq2; simpa using hq2
          · rw [if_neg hgt] at hq1 hq2 ⊢
            refine wpAny_execs_cons ?_
            (refine opq ?_; intro Q21 c21)
            refine wpAny_AugAssign_Name ?_
            refine' r_loadName (by assumption) ?hv ?_; (case hv => rfl)
            refine' r_int (by assumption) ?_; intro _ _ _
            refine' r_iadd (by assumption) ?_; intro _ _ _
            refine' r_storeName (by assumption) ?_; intro _ _
            refine c21 _ _ ?_
            refine wpAny_execs_cons ?_
            (refine opq ?_; intro Q22 c22)
            rename_i s₇ S₇
            rw [show ((i : Int) + 1) = ((i + 1 : Nat) : Int) by push_cast; rfl] at S₇
            refine wpAny_Try_finally ?_
            (refine opq ?_; intro Q23 c23)
            refine wpAny_execs_cons ?_
            (refine opq ?_; intro Q24 c24)
            refine skip_loop S₇ rfl rfl (mD 2 m1) hd4 (B.weak fun p hp => mD 2 hp) (by omega) (by omega) ?_ ?_
            · intro i' t₃ s₈ h1 h2 h3 S₈
              refine c24 _ _ ?_
              refine wpAny_execs_nil ?_
              refine c23 _ _ ?_
              refine wpAny_execs_nil ?_
              (refine opq ?_; intro Q25 c25)
              refine wpAny_execs_cons ?_
              (refine opq ?_; intro Q26 c26)
              refine wpAny_AugAssign_Name ?_
              refine' r_loadName (by assumption) ?hv ?_; (case hv => rfl)
              refine' r_int (by assumption) ?_; intro _ _ _
              refine' r_iadd (by assumption) ?_; intro _ _ _
              refine' r_storeName (by assumption) ?_; intro _ _
              refine c26 _ _ ?_
              refine wpAny_execs_cons ?_
              (refine opq ?_; intro Q27 c27)
              rename_i s₉ S₉
              rw [show ((j : Int) + 1) = ((j + 1 : Nat) : Int) by push_cast; rfl] at S₉
              refine skip_loop S₉ rfl rfl (mD 2 m2) hd4 (B.weak fun p hp => mD 2 hp) (by omega) (by omega) ?_ ?_
              · intro j' t₄ s₁₀ h4 h5 h6 S₁₀
                refine c27 _ _ ?_
                refine wpAny_execs_nil ?_
                refine c25 _ _ ?_
                refine c22 _ _ ?_
                refine wpAny_execs_nil ?_
                refine c19 _ _ ?_
                refine wpAny_execs_nil ?_
                refine c17 _ _ ?_
                refine wpAny_execs_nil ?_
                refine c12 _ _ ?_
                refine ⟨rfl, i', j', t₃, t₄, ms, vs, by omega, by omega, by omega, by omega, by omega, ?_, ?_, S₁₀.wl (by rfl)⟩
                · rw [h3, h6]; exact hq1
                · rw [h3, h6]; exact hq2
              · intro r t₄ s₁₀ hn X
                refine x_loop X (B.weak fun p hp => mD 2 hp) fun s₁₁ X' => ?_
                refine ⟨r, i', us.length, t₃, t₄, ms, vs, _, rfl, by omega, Nat.le_refl _, by omega, by omega, ?_, ?_, X'.weak (by rfl) (fun p hp => hp) S₈.nd⟩
                · rw [← hq1, hn, h3]; cases List.dropWhile (fun x => x == ws[i]) (List.drop (i + 1) ws) <;> simp [sld]
                · rw [← hq2, hn]; cases List.dropWhile (fun x => x == ws[i]) (List.drop (i + 1) ws) <;> simp [sld]
            · intro r t₃ s₈ hn X
              refine x_finally X (B.weak fun p hp => mD 2 hp) ?_
              intro T s₉ mT me S₉
              (refine let hs3 : List (Addr × Kd) := _; have S3x : St _ _ hs3 _ := S₉; ?_); clear S₉; have S₉ := S3x; clear S3x
              (refine opq ?_; intro Q25 c25)
              refine wpAny_execs_cons ?_
              (refine opq ?_; intro Q26 c26)
              refine wpAny_AugAssign_Name ?_
              refine' r_loadName (by assumption) ?hv ?_; (case hv => rfl)
              refine' r_int (by assumption) ?_; intro _ _ _
              refine' r_iadd (by assumption) ?_; intro _ _ _
              refine' r_storeName (by assumption) ?_; intro _ _
              refine c26 _ _ ?_
              refine wpAny_execs_cons ?_
              (refine opq ?_; intro Q27 c27)
              rename_i s₁₀ S₁₀
              rw [show ((j : Int) + 1) = ((j + 1 : Nat) : Int) by push_cast; rfl] at S₁₀
              have hd7 : Hd (A'.mark (some (.ref r))) ((T, tbK .none) :: (r, excT "IndexError" .none T) :: (m, .sl ms) :: (u, .sl vs) :: hs0) (.ref r) := .some rfl (mA 1 rfl)
              refine skip_loop S₁₀ rfl rfl (mD 4 m2) hd7 ((B.weak fun p hp => List.Mem.tail _ (List.Mem.tail _ (List.Mem.tail _ (List.Mem.tail _ hp)))).mark _) (by omega) (by omega) ?_ ?_
              · intro j' t₄ s₁₁ h4 h5 h6 S₁₁
                refine c27 _ _ ?_
                refine wpAny_execs_nil ?_
                refine c25 _ _ ?_
                refine x_passOn S₁₁ mT me rfl fun s₁₂ X' => ?_
                refine ⟨r, ws.length, j', t₃, t₄, ms, vs, _, rfl, Nat.le_refl _, by omega, by omega, by omega, ?_, ?_, X'.weak (by rfl) (fun p hp => hp) S₄.nd⟩
                · rw [← hq1, hn, sld]; simp
                · rw [← hq2, hn, h6, sld]
              · intro r₂ t₄ s₁₁ hn₂ X₂
                refine x_loop X₂ ((B.weak fun p hp => List.Mem.tail _ (List.Mem.tail _ (List.Mem.tail _ (List.Mem.tail _ hp)))).mark _) fun s₁₂ X' => ?_
                refine ⟨r₂, ws.length, us.length, t₃, t₄, ms, vs, _, rfl, Nat.le_refl _, Nat.le_refl _, by omega, by omega, ?_, ?_, X'.weak (by rfl) (fun p hp => mD 2 hp) S₄.nd⟩
                · rw [← hq1, hn, hn₂, sld]; simp
                · rw [← hq2, hn, hn₂, sld]; simp
      · refine x_item S₅ (mD 2 m2) hd4 (Nat.le_refl _) (by omega) ?_
        intro r s₆ X
        refine ⟨r, i, us.length, ti, tj, ms, vs, _, rfl, hi, Nat.le_refl _, lm, lv, ?_, ?_, X.weak (by rfl) (fun p hp => hp) S₄.nd⟩
        · rw [← hq1]; cases hw : ws.drop i <;> simp [sld]
        · rw [← hq2]; cases hw : ws.drop i <;> simp [sld]
    · refine x_item S₄ (mD 2 m1) hd4 (Nat.le_refl _) (by omega) ?_
      intro r s₅ X
      refine ⟨r, ws.length, j, ti, tj, ms, vs, _, rfl, Nat.le_refl _, hj, lm, lv, ?_, ?_, X⟩
      · rw [← hq1]; simp [sld]
      · rw [← hq2]; simp [sld]
  · rintro fl s₅ ⟨rfl, i', j', ti', tj', ms', vs', h1, h2, h3, h4, h5, h6, h7, S₅⟩
    (refine let fx3 : Fx := _; let ls3 : List (Str × Value) := _; have S3x : St fx3 ls3 _ _ := S₅; ?_); clear S₅; have S₅ := S3x; clear S3x
    refine wpAny_execs_nil ?_
    refine c11 _ _ ?_
    refine wpAny_execs_nil ?_
    refine c10 _ _ ?_
    exact ⟨_, h1, i', j', ti', tj', ms', vs', rfl, h2, h3, h4, h5, h6, h7, S₅⟩
  · rintro e s₅ ⟨r, i', j', ti', tj', ms', vs', c, rfl, h2, h3, h4, h5, h6, h7, X⟩
    refine x_caught X (B.weak fun p hp => mD 2 hp) F.isExc_IndexError F.notTuple_IndexError (by rw [isSubtype_type]; kernel_rfl) (by rfl) (by boot_by_name) ?_
    intro T s₆ S₆
    (refine let fx3 : Fx := _; let ls3 : List (Str × Value) := _; let hs3 : List (Addr × Kd) := _; have S3x : St fx3 ls3 hs3 _ := S₆; ?_); clear S₆; have S₆ := S3x; clear S3x
    refine wpAny_execs_cons ?_
    (refine opq ?_; intro Q12 c12)
    refine wpAny_Expr ?_
    (refine opq ?_; intro Q13 c13)
    refine MethodCall_ ?_
    refine' r_local (by assumption) ?hv ?_; (case hv => rfl)
    refine' r_gm (by assumption) ?hm F.slot_list_extend F.type_list_extend ?_; (case hm => exact mA 2 rfl)
    refine callWith_method1 ?_
    (refine opq ?_; intro Q14 c14)
    refine wpAny_items_cons ?_
    (refine opq ?_; intro Q15 c15)
    refine Subscript_ ?_
    refine' r_local (by assumption) ?hv ?_; (case hv => rfl)
    (refine opq ?_; intro Q16 c16)
    refine r_Slice ?_
    (refine opq ?_; intro Q17 c17)
    refine r_partS ?_
    refine' r_local (by assumption) ?hv ?_; (case hv => rfl)
    refine c17 _ _ ?_
    (refine opq ?_; intro Q18 c18)
    refine r_partN ?_
    refine c18 _ _ ?_
    refine' r_slnext (by assumption) ?_; intro _ _ _
    refine c16 _ _ ?_
    rename_i b₁ s₇ S₇
    have hl1 : ms'.length + (ws.drop i').length < 1000 := by simp; omega
    have hl2 : vs'.length + (us.drop j').length < 1000 := by simp; omega
    refine r_sliceTail S₇ (mD 4 m1) (.int _ _) .none (by rw [sizeLine_eq]; omega) ?_
    intro c₁ s₈ nc₁ S₈
    rw [pk_from] at S₈
    refine c15 _ _ ?_
    (refine opq ?_; intro Q19 c19)
    refine wpAny_items_nil ?_
    refine c19 _ _ ?_
    refine c14 _ _ ?_
    have S₉ : St ⟨g, s.heap, fr.map (·.1), s.heap.objs.size⟩ [("i", .int i' ti'), ("j", .int j' tj'), ("missing", .ref m), ("unexpected", .ref u), ("expected", .ref a), ("actual", .ref b)] ((m, .sl ms') :: (c₁, .sl (ws.drop i')) :: (u, .sl vs') :: hs0) s₈ := by
      exact (by exact S₈.pick 5 [3, 0, 4])
    refine r_extend S₉ mm (mA 0 rfl) hl1 ?_
    intro s₁₀ S₁₀
    refine c13 _ _ ?_
    refine c12 _ _ ?_
    refine wpAny_execs_cons ?_
    (refine opq ?_; intro Q20 c20)
    refine wpAny_Expr ?_
    (refine opq ?_; intro Q21 c21)
    refine MethodCall_ ?_
    refine' r_local (by assumption) ?hv ?_; (case hv => rfl)
    refine' r_gm (by assumption) ?hm F.slot_list_extend F.type_list_extend ?_; (case hm => exact mA 2 rfl)
    refine callWith_method1 ?_
    (refine opq ?_; intro Q22 c22)
    refine wpAny_items_cons ?_
    (refine opq ?_; intro Q23 c23)
    refine Subscript_ ?_
    refine' r_local (by assumption) ?hv ?_; (case hv => rfl)
    (refine opq ?_; intro Q24 c24)
    refine r_Slice ?_
    (refine opq ?_; intro Q25 c25)
    refine r_partS ?_
    refine' r_local (by assumption) ?hv ?_; (case hv => rfl)
    refine c25 _ _ ?_
    (refine opq ?_; intro Q26 c26)
    refine r_partN ?_
    refine c26 _ _ ?_
    refine' r_slnext (by assumption) ?_; intro _ _ _
    refine c24 _ _ ?_
    rename_i b₂ s₁₁ S₁₁
    refine r_sliceTail S₁₁ (mD 3 m2) (.int _ _) .none (by rw [sizeLine_eq]; omega) ?_
    intro c₂ s₁₂ nc₂ S₁₂
    rw [pk_from] at S₁₂
    refine c23 _ _ ?_
    (refine opq ?_; intro Q27 c27)
    refine wpAny_items_nil ?_
    refine c27 _ _ ?_
    refine c22 _ _ ?_
    have S₁₃ : St ⟨g, s.heap, fr.map (·.1), s.heap.objs.size⟩ [("i", .int i' ti'), ("j", .int j' tj'), ("missing", .ref m), ("unexpected", .ref u), ("expected", .ref a), ("actual", .ref b)] ((u, .sl vs') :: (c₂, .sl (us.drop j')) :: (m, .sl (ms' ++ ws.drop i')) :: hs0) s₁₂ := by
      exact (by exact S₁₂.pick 4 [3, 0, 1])
    refine r_extend S₁₃ mu (mA 0 rfl) hl2 ?_
    intro s₁₄ S₁₄
    refine c21 _ _ ?_
    refine c20 _ _ ?_
    refine wpAny_execs_cons ?_
    refine wpAny_Break ?_
    refine c11 _ _ ?_
    refine c10 _ _ ?_
    refine c8 _ _ ?_
    refine wpAny_execs_cons ?_
    (refine opq ?_; intro Q28 c28)
    refine wpAny_Return_some ?_
    (refine opq ?_; intro Q29 c29)
    refine r_Tuple ?_
    (refine opq ?_; intro Q30 c30)
    refine wpAny_items_cons ?_
    refine' r_local (by assumption) ?hv ?_; (case hv => rfl)
    (refine opq ?_; intro Q31 c31)
    refine wpAny_items_cons ?_
    refine' r_local (by assumption) ?hv ?_; (case hv => rfl)
    (refine opq ?_; intro Q32 c32)
    refine wpAny_items_nil ?_
    refine c32 _ _ ?_
    refine c31 _ _ ?_
    refine c30 _ _ ?_
    refine' r_dispT (by assumption) (Nat.le_of_ble_eq_true rfl) ?_; intro _ _ _ _
    refine c29 _ _ ?_
    refine c28 _ _ ?_
    refine c0 _ _ ?_
    rename_i t s₁₅ nt S₁₅
    rw [← h6, ← h7] at h
    exact h t m u _ S₁₅.inv S₁₅.ext (fun p hp => S₁₅.get (mD 4 hp)) (Nat.le_trans S₁₄.ext.1 nt) zm zu hmu (S₁₅.get (mA 0 rfl)) (S₁₅.get (mA 3 rfl)) (S₁₅.get (mA 1 rfl))
end TH8
section TH9
def alone1 (us : List Str) (al : List Str) (x : Str) : List Str :=
  if x ∉ us ∧ (us = [] ∨ slt (us.getLastD ⟨#[]⟩) x = true ∨ x ∉ al) then al ++ [x] else al
def alone (ws us : List Str) : List Str := ws.foldl (alone1 us) []

inductive AloneW (f : Fx) (hs0 : List (Addr × Kd)) (ws us : List Str) (a b it : Addr) (n : Nat) (s' : Shared) : Prop
  | mk (i : Nat) (al : List Str) (c : Addr) (ls' : List (Str × Value)) : n = ws.length - i → i ≤ ws.length → al.length ≤ i → f.h0.objs.size ≤ c → al = (ws.take i).foldl (alone1 us) [] →
    St f (("one", .ref a) :: ("two", .ref b) :: ("alone", .ref c) :: ls') ((it, .is (liP a i)) :: (c, .sl al) :: hs0) s' → AloneW f hs0 ws us a b it n s'
theorem law_alone_spec {g : Gx} (G : g.Ok) {A : Around} {k : Nat} (ar : Ar A (k + 1)) {s : Shared} (I : Inv g s) {a b : Addr} {ws us : List Str} {hs0 : List (Addr × Kd)}
    (hh : ∀ p ∈ hs0, p.2.At s.heap p.1 ∧ g.n ≤ p.1) (nd : (hs0.map (·.1)).Nodup) (m1 : (a, .sl ws) ∈ hs0) (m2 : (b, .sl us) ∈ hs0) (hz : ws.length + us.length < 500) (hu : okw us)
    {Q E : Value → Shared → Prop} (h : ∀ c s', Inv g s' → Ext [] s.heap s'.heap → s.heap.objs.size ≤ c → (Kd.sl (alone ws us)).At s'.heap c → Q (.ref c) s') :
    wpAny (model PR g.w) A (call (.ref 264) [.ref a, .ref b]) Q E s := by
  refine' r_call G [] hs0 [("one", .ref a), ("two", .ref b)] I ar ?ho ?hnt ?hcd ?hct ?hbd ?hc ?hlc ?hh ?nd ?_ ?c1 ?c2 ?c3
  ((case ho => rfl); (case hnt => decide); (case hcd => rfl); (case hct => decide); (case hbd => exact BindsTo.of_eq rfl); (case hc => decide); (case hlc => exact locs rfl); (case c1 => rfl); (case c2 => rfl); (case c3 => rfl))
  case hh => exact hh
  case nd => exact nd
  intro s₁ S ar' hg
  refine gA ar' fun A' ar0 => ?_; replace ar' := ar0
  refine let env0 : Env := _; idE env0 ?_
  (refine let fx1 : Fx := _; let ls1 : List (Str × Value) := _; have S1x : St fx1 ls1 _ _ := S; ?_); clear S; have S := S1x; clear S1x
  (refine opq ?_; intro Q0 c0)
  refine noE ?_
  refine wpAny_execs_cons ?_
  (refine opq ?_; intro Q1 c1)
  refine wpAny_Assign_Name ?_
  (refine opq ?_; intro Q2 c2)
  refine r_List ?_
  (refine opq ?_; intro Q3 c3)
  refine wpAny_items_nil ?_
  refine c3 _ _ ?_
  refine' r_dispS (by assumption) ?sv (Nat.le_of_ble_eq_true rfl) ?_; (case sv => (repeat (first | exact StrsAre.nil | apply StrsAre.cons))); intro _ _ _ _
  refine c2 _ _ ?_
  refine' r_storeName (by assumption) ?_; intro _ _
  refine c1 _ _ ?_
  refine wpAny_execs_cons ?_
  (refine opq ?_; intro Q4 c4)
  refine wpAny_For ?_
  refine' r_local (by assumption) ?hv ?_; (case hv => rfl)
  rename_i al₀ _ na₀ _ s₂ S₂
  refine r_iterL S₂ (mD 1 m1) ?_
  intro it s₃ mit S₃
  refine codeAny_forLoop (AloneW ⟨g, s.heap, [], s.heap.objs.size⟩ hs0 ws us a b it) ?_ (ws.length - 0) ⟨0, [], _, [], rfl, Nat.zero_le _, Nat.le_refl _, Nat.le_trans S.ext.1 na₀, rfl, S₃.wl (by rfl)⟩
  rintro n s₄ ⟨i, al, c, ls', rfl, hi, hla, nc, hal, S₄⟩
  rcases Nat.lt_or_eq_of_le hi with hi' | rfl
  · refine r_nextL S₄ (mD 1 m1) mit (List.getElem?_eq_getElem hi') ?_
    intro t₁ s₅ S₅
    refine noE ?_
    refine wpAny_assign_Name ?_
    refine' r_storeName (by assumption) ?_; intro _ _
    (refine opq ?_; intro Q5 c5)
    refine noE ?_
    refine wpAny_execs_cons ?_
    rename_i s₆ S₆
    have ok0 : okw [] := by intro x hx; cases hx
    have hst : (ws.take (i + 1)).foldl (alone1 us) [] = alone1 us al ws[i] := by rw [hal, List.take_succ_eq_append_getElem hi', List.foldl_append]; rfl
    refine wpAny_If (wpAny_mono (Q := fun bb s' => bb = decide (ws[i] ∉ us ∧ (us = [] ∨ slt (us.getLastD ⟨#[]⟩) ws[i] = true ∨ ws[i] ∉ al)) ∧ St ⟨g, s.heap, [], s.heap.objs.size⟩ (("word", .str ws[i] t₁) :: ("one", .ref a) :: ("two", .ref b) :: ("alone", .ref c) :: ls') ((it, .is (liP a (i + 1))) :: (c, .sl al) :: hs0) s') ?_ ?_ (fun _ _ x => x))
    · (refine let fx2 : Fx := _; let ls2 : List (Str × Value) := _; have S2x : St fx2 ls2 _ _ := S₆; ?_); clear S₆; have S₆ := S2x; clear S2x
      (refine opq ?_; intro Q6 c6)
      refine wpAny_isTrue_BoolOp ?_
      refine wpAny_allTrue_And_cons ?_
      (refine opq ?_; intro Q7 c7)
      refine wpAny_isTrue_Compare1 ?_
      refine' r_local (by assumption) ?hv ?_; (case hv => rfl)
      refine' r_local (by assumption) ?hv ?_; (case hv => rfl)
      refine' r_notin (by assumption) ?hm ?_; (case hm => exact mD 2 (by assumption))
      refine wpAny_truthy_bool ?_
      refine c7 _ _ ?_
      by_cases h1 : ws[i] ∈ us
      · rw [if_neg (by simpa using h1)]
        refine c6 _ _ ?_
        exact ⟨by simp [h1], S₆⟩
      · rw [if_pos (by simpa using h1)]
        refine wpAny_allTrue_And_cons ?_
        (refine opq ?_; intro Q8 c8)
        refine wpAny_isTrue_BoolOp ?_
        refine wpAny_allTrue_Or_cons ?_
        (refine opq ?_; intro Q9 c9)
        refine wpAny_isTrue_Compare1 ?_
        refine' r_local (by assumption) ?hv ?_; (case hv => rfl)
        (refine opq ?_; intro Q10 c10)
        refine r_List ?_
        (refine opq ?_; intro Q11 c11)
        refine wpAny_items_nil ?_
        refine c11 _ _ ?_
        refine' r_dispS (by assumption) ?sv (Nat.le_of_ble_eq_true rfl) ?_; (case sv => (repeat (first | exact StrsAre.nil | apply StrsAre.cons))); intro _ _ _ _
        refine c10 _ _ ?_
        rename_i _ s₇ _ S₇
        refine r_eqL S₇ (by exact mD 3 (by assumption)) (mA 0 rfl) hu ok0 ar'.u64 ?_
        refine wpAny_truthy_bool ?_
        refine c9 _ _ ?_
        by_cases h2 : us = []
        · rw [if_pos (by simpa using h2)]
          refine c8 _ _ ?_
          rw [if_pos rfl]
          refine wpAny_allTrue_And_nil ?_
          refine c6 _ _ ?_
          exact ⟨(decide_eq_true ⟨h1, .inl h2⟩).symm, S₇.drop⟩
        · rw [if_neg (by simpa using h2)]
          refine wpAny_allTrue_Or_cons ?_
          (refine opq ?_; intro Q12 c12)
          refine wpAny_isTrue_Compare1 ?_
          refine' r_local (by assumption) ?hv ?_; (case hv => rfl)
          (refine opq ?_; intro Q13 c13)
          refine Subscript_ ?_
          refine' r_local (by assumption) ?hv ?_; (case hv => rfl)
          (refine opq ?_; intro Q14 c14)
          refine wpAny_UnaryOp ?_
          refine' r_int (by assumption) ?_; intro _ _ _
          refine' r_neg (by assumption) ?_; intro _ _ _
          refine c14 _ _ ?_
          rename_i _ s₈ S₈
          refine r_last S₈ (by exact mD 3 (by assumption)) rfl (y := us.getLastD ⟨#[]⟩) ?_ (by omega) ?_
          · rw [List.getLastD_eq_getLast?]
            cases hl : us.getLast? with
            | none => exact absurd (List.getLast?_eq_none_iff.mp hl) h2
            | some y => rfl
          intro t₂
          refine c13 _ _ ?_
          refine r_sgt ?_
          refine wpAny_truthy_bool ?_
          refine c12 _ _ ?_
          by_cases h3 : slt (us.getLastD ⟨#[]⟩) ws[i] = true
          · rw [if_pos h3]
            refine c8 _ _ ?_
            rw [if_pos rfl]
            refine wpAny_allTrue_And_nil ?_
            refine c6 _ _ ?_
            exact ⟨(decide_eq_true ⟨h1, .inr (.inl h3)⟩).symm, S₈.drop⟩
          · rw [if_neg h3]
            refine wpAny_allTrue_Or_cons ?_
            (refine opq ?_; intro Q15 c15)
            refine wpAny_isTrue_Compare1 ?_
            refine' r_local (by assumption) ?hv ?_; (case hv => rfl)
            refine' r_local (by assumption) ?hv ?_; (case hv => rfl)
            refine' r_notin (by assumption) ?hm ?_; (case hm => exact mA 2 rfl)
            refine wpAny_truthy_bool ?_
            refine c15 _ _ ?_
            by_cases h4 : ws[i] ∈ al
            · rw [if_neg (by simpa using h4)]
              refine wpAny_allTrue_Or_nil ?_
              refine c8 _ _ ?_
              rw [if_neg Bool.false_ne_true]
              refine c6 _ _ ?_
              exact ⟨(decide_eq_false fun ⟨_, q⟩ => q.elim h2 fun q => q.elim h3 fun q => q h4).symm, S₈.drop⟩
            · rw [if_pos (by simpa using h4)]
              refine c8 _ _ ?_
              rw [if_pos rfl]
              refine wpAny_allTrue_And_nil ?_
              refine c6 _ _ ?_
              exact ⟨(decide_eq_true ⟨h1, .inr (.inr h4)⟩).symm, S₈.drop⟩
    · rintro bb s₇ ⟨rfl, S₇⟩
      by_cases hc : ws[i] ∉ us ∧ (us = [] ∨ slt (us.getLastD ⟨#[]⟩) ws[i] = true ∨ ws[i] ∉ al)
      · rw [if_pos (by simpa using hc)]
        (refine let fx2 : Fx := _; let ls2 : List (Str × Value) := _; have S2x : St fx2 ls2 _ _ := S₇; ?_); clear S₇; have S₇ := S2x; clear S2x
        (refine opq ?_; intro Q6 c6)
        refine wpAny_execs_cons ?_
        (refine opq ?_; intro Q7 c7)
        refine wpAny_Assign_Name ?_
        (refine opq ?_; intro Q8 c8)
        refine wpAny_BinOp ?_
        refine' r_local (by assumption) ?hv ?_; (case hv => rfl)
        (refine opq ?_; intro Q9 c9)
        refine r_List ?_
        (refine opq ?_; intro Q10 c10)
        refine wpAny_items_cons ?_
        refine' r_local (by assumption) ?hv ?_; (case hv => rfl)
        (refine opq ?_; intro Q11 c11)
        refine wpAny_items_nil ?_
        refine c11 _ _ ?_
        refine c10 _ _ ?_
        refine' r_dispS (by assumption) ?sv (Nat.le_of_ble_eq_true rfl) ?_; (case sv => (repeat (first | exact StrsAre.nil | apply StrsAre.cons))); intro _ _ _ _
        refine c9 _ _ ?_
        rename_i _ s₈ _ S₈
        refine r_addL S₈ (by exact mA 2 rfl) (mA 0 rfl) (by rw [sizeLine_eq]; simp; omega) ?_
        intro c' s₉ nc' S₉
        refine c8 _ _ ?_
        refine' r_storeName (by assumption) ?_; intro _ _
        refine c7 _ _ ?_
        refine wpAny_execs_nil ?_
        refine c6 _ _ ?_
        refine wpAny_execs_nil ?_
        refine c5 _ _ ?_
        rename_i s₁₀ S₁₀
        rw [alone1, if_pos hc] at hst
        exact ⟨ws.length - (i + 1), by omega, i + 1, al ++ [ws[i]], c', [], rfl, by omega, by simp; omega, Nat.le_trans S₈.ext.1 nc', hst.symm, (by exact S₁₀.pick 4 [2, 0])⟩
      · rw [if_neg (by simpa using hc)]
        (refine let fx2 : Fx := _; let ls2 : List (Str × Value) := _; have S2x : St fx2 ls2 _ _ := S₇; ?_); clear S₇; have S₇ := S2x; clear S2x
        refine wpAny_execs_nil ?_
        refine wpAny_execs_nil ?_
        refine c5 _ _ ?_
        rw [alone1, if_neg hc] at hst
        exact ⟨ws.length - (i + 1), by omega, i + 1, al, c, [], rfl, by omega, by omega, nc, hst.symm, S₇.wl (by rfl)⟩
  · refine r_endL S₄ (mD 1 m1) mit ar'.hand (by simp) ?_
    intro s₅ S₅
    refine noE ?_
    refine wpAny_execs_nil ?_
    refine c4 _ _ ?_
    refine wpAny_execs_cons ?_
    (refine opq ?_; intro Q5 c5)
    refine wpAny_Return_some ?_
    refine' r_local (by assumption) ?hv ?_; (case hv => rfl)
    refine c5 _ _ ?_
    refine c0 _ _ ?_
    rw [List.take_length] at hal
    rw [show alone ws us = al from hal.symm] at h
    exact h _ _ S₅.inv S₅.ext nc (S₅.get (mA 0 rfl))
end TH9
section TH10
def sp : Str := Str.ofString " "
def em : Str := Str.ofString ""
def rows1 (width head : Int) (rows : List Str) (x : Str) : List Str :=
  if rows = [] then (if head = 0 ∨ (x.length : Int) ≤ width - head then [x] else [em, sp ++ x])
  else if (if rows.length < 2 then width - head else width) < (rows.getLastD em).length + 1 + x.length then rows ++ [sp ++ x]
  else rows.dropLast ++ [rows.getLastD em ++ sp ++ x]
def rowsOf (width head : Int) (ws : List Str) : List Str := ws.foldl (rows1 width head) []

theorem sp_ok : PyData.strOk sp = true := by unfold PyData.strOk; rw [← Array.all_toList]; rfl
theorem em_ok : PyData.strOk em = true := by unfold PyData.strOk; rw [← Array.all_toList]; rfl
theorem rows1_ok {width head : Int} {rows : List Str} {x : Str} {n : Nat} (h1 : rows.length ≤ 2 * n) (h2 : ∀ r ∈ rows, r.length ≤ 11 * n) (h3 : okw rows) (hx : x.length ≤ 10) (hk : PyData.strOk x = true) :
    (rows1 width head rows x).length ≤ 2 * (n + 1) ∧ (∀ r ∈ rows1 width head rows x, r.length ≤ 11 * (n + 1)) ∧ okw (rows1 width head rows x) := by
  have s1 : sp.length = 1 := rfl
  have s2 : em.length = 0 := rfl
  have e1 := str_len_append sp x
  have k1 : PyData.strOk (sp ++ x) = true := strOk_append sp_ok hk
  have k2 : PyData.strOk em = true := em_ok
  have gl : (rows.getLastD em).length ≤ 11 * n ∧ PyData.strOk (rows.getLastD em) = true := by
    rw [List.getLastD_eq_getLast?]
    cases q : rows.getLast? with
    | none => exact ⟨by simp [s2], k2⟩
    | some y => exact ⟨h2 y (List.mem_of_getLast? q), h3 y (List.mem_of_getLast? q)⟩
  have e2 := str_len_append (rows.getLastD em) sp
  have e3 := str_len_append (rows.getLastD em ++ sp) x
  have k3 : PyData.strOk (rows.getLastD em ++ sp ++ x) = true := strOk_append (strOk_append gl.2 sp_ok) hk
  unfold rows1
  by_cases c1 : rows = []
  · rw [if_pos c1]
    by_cases c2 : head = 0 ∨ (x.length : Int) ≤ width - head
    · rw [if_pos c2]; exact ⟨by simp; omega, by simp; omega, by intro r hr; simp at hr; rw [hr]; exact hk⟩
    · rw [if_neg c2]
      refine ⟨by simp; omega, ?_, ?_⟩
      · intro r hr
        simp only [List.mem_cons, List.not_mem_nil, or_false] at hr
        rcases hr with rfl | rfl
        · omega
        · omega
      · intro r hr
        simp only [List.mem_cons, List.not_mem_nil, or_false] at hr
        rcases hr with rfl | rfl
        · exact k2
        · exact k1
  · rw [if_neg c1]
    by_cases c2 : (if rows.length < 2 then width - head else width) < (rows.getLastD em).length + 1 + x.length
    · rw [if_pos c2]
      refine ⟨by simp; omega, ?_, ?_⟩
      · intro r hr
        simp only [List.mem_append, List.mem_cons, List.not_mem_nil, or_false] at hr
        rcases hr with hr | rfl
        · have := h2 r hr; omega
        · omega
      · intro r hr
        simp only [List.mem_append, List.mem_cons, List.not_mem_nil, or_false] at hr
        rcases hr with hr | rfl
        · exact h3 r hr
        · exact k1
    · rw [if_neg c2]
      refine ⟨by simp; omega, ?_, ?_⟩
      · intro r hr
        simp only [List.mem_append, List.mem_cons, List.not_mem_nil, or_false] at hr
        rcases hr with hr | rfl
        · have := h2 r (List.dropLast_subset _ hr); omega
        · omega
      · intro r hr
        simp only [List.mem_append, List.mem_cons, List.not_mem_nil, or_false] at hr
        rcases hr with hr | rfl
        · exact h3 r (List.dropLast_subset _ hr)
        · exact k3

inductive RowsW (f : Fx) (ws : List Str) (a it : Addr) (width head : Int) (tw th : Tok) (n : Nat) (s' : Shared) : Prop
  | mk (i : Nat) (rows : List Str) (c : Addr) (ls' : List (Str × Value)) : n = ws.length - i → i ≤ ws.length → rows.length ≤ 2 * i → (∀ r ∈ rows, r.length ≤ 11 * i) → okw rows → f.h0.objs.size ≤ c → rows = (ws.take i).foldl (rows1 width head) [] →
    St f (("words", .ref a) :: ("width", .int width tw) :: ("head", .int head th) :: ("rows", .ref c) :: ls') [(it, .is (liP a i)), (c, .sl rows), (a, .sl ws)] s' → RowsW f ws a it width head tw th n s'
theorem law_rows_spec {g : Gx} (G : g.Ok) {A : Around} {k : Nat} (ar : Ar A (k + 1)) {s : Shared} (I : Inv g s) {a : Addr} {ws : List Str} {width head : Int} {tw th : Tok}
    (hl : (Kd.sl ws).At s.heap a) (ha : g.n ≤ a) (hz : ws.length < 50) (hok : okw ws) (h10 : ∀ x ∈ ws, x.length ≤ 10)
    {Q E : Value → Shared → Prop} (h : ∀ t s', Inv g s' → Ext [] s.heap s'.heap → Q (.str (Txt.join (Str.ofString "\n") (rowsOf width head ws)) t) s') :
    wpAny (model PR g.w) A (call (.ref 252) [.ref a, .int width tw, .int head th]) Q E s := by
  refine' r_call G [] [(a, .sl ws)] [("words", .ref a), ("width", .int width tw), ("head", .int head th)] I ar ?ho ?hnt ?hcd ?hct ?hbd ?hc ?hlc ?hh ?nd ?_ ?c1 ?c2 ?c3
  ((case ho => rfl); (case hnt => decide); (case hcd => rfl); (case hct => decide); (case hbd => exact BindsTo.of_eq rfl); (case hc => decide); (case hlc => exact locs rfl); (case c1 => rfl); (case c2 => rfl); (case c3 => rfl))
  case hh => simp; exact ⟨hl, ha⟩
  case nd => simp
  intro s₁ S ar' hg
  refine gA ar' fun A' ar0 => ?_; replace ar' := ar0
  refine let env0 : Env := _; idE env0 ?_
  (refine let fx0 : Fx := _; let ls0 : List (Str × Value) := _; have S0x : St fx0 ls0 _ _ := S; ?_); clear S; have S := S0x; clear S0x
  (refine opq ?_; intro Q0 c0)
  refine noE ?_
  refine wpAny_execs_cons ?_
  (refine opq ?_; intro Q1 c1)
  refine wpAny_Assign_Name ?_
  (refine opq ?_; intro Q2 c2)
  refine r_List ?_
  (refine opq ?_; intro Q3 c3)
  refine wpAny_items_nil ?_
  refine c3 _ _ ?_
  refine' r_dispS (by assumption) ?sv (Nat.le_of_ble_eq_true rfl) ?_; (case sv => (repeat (first | exact StrsAre.nil | apply StrsAre.cons))); intro _ _ _ _
  refine c2 _ _ ?_
  refine' r_storeName (by assumption) ?_; intro _ _
  refine c1 _ _ ?_
  refine wpAny_execs_cons ?_
  (refine opq ?_; intro Q4 c4)
  refine wpAny_For ?_
  refine' r_local (by assumption) ?hv ?_; (case hv => rfl)
  rename_i c₀ _ nc₀ _ s₂ S₂
  refine r_iterL S₂ (mA 1 rfl) ?_
  intro it s₃ mit S₃
  refine codeAny_forLoop (RowsW ⟨g, s.heap, [], s.heap.objs.size⟩ ws a it width head tw th) ?_ (ws.length - 0) ⟨0, [], _, [], rfl, Nat.zero_le _, Nat.le_refl _, by simp, (by intro x hx; cases hx), Nat.le_trans S.ext.1 nc₀, rfl, S₃.wl (by rfl)⟩
  rintro n s₄ ⟨i, rows, c, ls', rfl, hi, hlr, hbr, okr, nc, hrows, S₄⟩
  rcases Nat.lt_or_eq_of_le hi with hi' | rfl
  · refine r_nextL S₄ (mA 1 rfl) mit (List.getElem?_eq_getElem hi') ?_
    intro t₁ s₅ S₅
    have hx := h10 _ (List.getElem_mem hi')
    have hkx := hok _ (List.getElem_mem hi')
    have hst : (ws.take (i + 1)).foldl (rows1 width head) [] = rows1 width head rows ws[i] := by rw [hrows, List.take_succ_eq_append_getElem hi', List.foldl_append]; rfl
    have hro := rows1_ok (width := width) (head := head) (x := ws[i]) hlr hbr okr hx hkx
    generalize hy : ws[i] = y at *
    (refine let fx1 : Fx := _; let ls1 : List (Str × Value) := _; have S1x : St fx1 ls1 _ _ := S₅; ?_); clear S₅; have S₅ := S1x; clear S1x
    refine noE ?_
    refine wpAny_assign_Name ?_
    refine' r_storeName (by assumption) ?_; intro _ _
    (refine opq ?_; intro Q5 c5)
    refine noE ?_
    refine wpAny_execs_cons ?_
    (refine opq ?_; intro Q6 c6)
    refine wpAny_Assign_Name ?_
    rename_i s₆ S₆
    refine wpAny_mono (Q := fun v s' => ∃ t, v = .int (if rows.length < 2 then width - head else width) t ∧ St ⟨g, s.heap, [], s.heap.objs.size⟩ (("word", .str y t₁) :: ("words", .ref a) :: ("width", .int width tw) :: ("head", .int head th) :: ("rows", .ref c) :: ls') [(it, .is (liP a (i + 1))), (c, .sl rows), (a, .sl ws)] s') ?_ ?_ (fun _ _ x => x)
    · (refine opq ?_; intro Q7 c7)
      refine wpAny_IfExp ?_
      (refine opq ?_; intro Q8 c8)
      refine wpAny_isTrue_Compare1 ?_
      (refine opq ?_; intro Q9 c9)
      refine r_Call ?_
      refine' r_boot (by assumption) ?hv ?hw ?_; (case hv => rfl); (case hw => boot_by_name)
      refine PyProof.Rows.callWith_builtin1 ?_
      (refine opq ?_; intro Q10 c10)
      refine wpAny_items_cons ?_
      refine' r_local (by assumption) ?hv ?_; (case hv => rfl)
      (refine opq ?_; intro Q11 c11)
      refine wpAny_items_nil ?_
      refine c11 _ _ ?_
      refine c10 _ _ ?_
      refine' r_len (by assumption) ?hm ?hz ?_; (case hm => exact mA 1 rfl); (case hz => omega); intro _ _ _
      refine c9 _ _ ?_
      refine' r_int (by assumption) ?_; intro _ _ _
      refine P.lt_int ?_
      refine wpAny_truthy_bool ?_
      refine c8 _ _ ?_
      by_cases c1 : rows.length < 2
      · rw [if_pos (decide_eq_true (by omega))]
        refine wpAny_BinOp ?_
        refine' r_local (by assumption) ?hv ?_; (case hv => rfl)
        refine' r_local (by assumption) ?hv ?_; (case hv => rfl)
        refine' r_sub (by assumption) ?_; intro _ _ _
        refine c7 _ _ ?_
        exact ⟨_, by rw [if_pos c1], by assumption⟩
      · rw [if_neg (by rw [decide_eq_true_eq]; omega)]
        refine' r_local (by assumption) ?hv ?_; (case hv => rfl)
        refine c7 _ _ ?_
        exact ⟨_, by rw [if_neg c1], by assumption⟩
    rintro v s₇ ⟨tr, rfl, S₇⟩
    generalize hroom : (if rows.length < 2 then width - head else width) = room at *
    (refine let fx2 : Fx := _; let ls2 : List (Str × Value) := _; have S2x : St fx2 ls2 _ _ := S₇; ?_); clear S₇; have S₇ := S2x; clear S2x
    refine' r_storeName (by assumption) ?_; intro _ _
    refine c6 _ _ ?_
    refine wpAny_execs_cons ?_
    (refine opq ?_; intro Q7 c7)
    refine wpAny_If ?_
    (refine opq ?_; intro Q8 c8)
    refine wpAny_isTrue_Compare1 ?_
    refine' r_local (by assumption) ?hv ?_; (case hv => rfl)
    (refine opq ?_; intro Q9 c9)
    refine r_List ?_
    (refine opq ?_; intro Q10 c10)
    refine wpAny_items_nil ?_
    refine c10 _ _ ?_
    refine' r_dispS (by assumption) ?sv (Nat.le_of_ble_eq_true rfl) ?_; (case sv => (repeat (first | exact StrsAre.nil | apply StrsAre.cons))); intro _ _ _ _
    refine c9 _ _ ?_
    rename_i _ s₈ _ S₈
    refine r_eqL S₈ (by exact mA 2 rfl) (mA 0 rfl) okr (by intro x hx; cases hx) ar'.u64 ?_
    (refine let hs3 : List (Addr × Kd) := _; have S3x : St _ _ hs3 _ := S₈; ?_); clear S₈; have S₈ := S3x; clear S3x
    refine wpAny_truthy_bool ?_
    refine c8 _ _ ?_
    by_cases c1 : rows = []
    · rw [if_pos (by simpa using c1)]
      refine wpAny_execs_cons ?_
      (refine opq ?_; intro Q11 c11)
      refine wpAny_Assign_Name ?_
      have hr0 : room = width - head := by rw [← hroom, c1]; rfl
      refine wpAny_mono (Q := fun v s' => ∃ c', v = .ref c' ∧ s.heap.objs.size ≤ c' ∧ St ⟨g, s.heap, [], s.heap.objs.size⟩ [("word", .str y t₁), ("words", .ref a), ("width", .int width tw), ("head", .int head th)] [(c', .sl (rows1 width head rows y)), (it, .is (liP a (i + 1))), (a, .sl ws)] s') ?_ ?_ (fun _ _ x => x)
      · (refine opq ?_; intro Q12 c12)
        refine wpAny_IfExp ?_
        (refine opq ?_; intro Q13 c13)
        refine wpAny_isTrue_BoolOp ?_
        refine wpAny_allTrue_Or_cons ?_
        (refine opq ?_; intro Q14 c14)
        refine wpAny_isTrue_Compare1 ?_
        refine' r_local (by assumption) ?hv ?_; (case hv => rfl)
        refine' r_int (by assumption) ?_; intro _ _ _
        refine P.eq_int ?_
        refine wpAny_truthy_bool ?_
        refine c14 _ _ ?_
        by_cases c2 : head = 0
        · rw [if_pos (by simpa using c2)]
          refine c13 _ _ ?_
          rw [if_pos rfl]
          refine r_List ?_
          (refine opq ?_; intro Q15 c15)
          refine wpAny_items_cons ?_
          refine' r_local (by assumption) ?hv ?_; (case hv => rfl)
          (refine opq ?_; intro Q16 c16)
          refine wpAny_items_nil ?_
          refine c16 _ _ ?_
          refine c15 _ _ ?_
          refine' r_dispS (by assumption) ?sv (Nat.le_of_ble_eq_true rfl) ?_; (case sv => (repeat (first | exact StrsAre.nil | apply StrsAre.cons))); intro _ _ _ _
          refine c12 _ _ ?_
          rename_i c' s₉ nc' S₉
          have e : rows1 width head rows y = [y] := by rw [rows1, if_pos c1, if_pos (.inl c2)]
          exact ⟨c', rfl, St.fresh (f := ⟨g, s.heap, [], s.heap.objs.size⟩) (by assumption) nc', by rw [e]; exact (by exact S₉.pick 1000 [0, 2, 4])⟩
        · rw [if_neg (by simpa using c2)]
          refine wpAny_allTrue_Or_cons ?_
          (refine opq ?_; intro Q15 c15)
          refine wpAny_isTrue_Compare1 ?_
          (refine opq ?_; intro Q16 c16)
          refine r_Call ?_
          refine' r_boot (by assumption) ?hv ?hw ?_; (case hv => rfl); (case hw => boot_by_name)
          refine PyProof.Rows.callWith_builtin1 ?_
          (refine opq ?_; intro Q17 c17)
          refine wpAny_items_cons ?_
          refine' r_local (by assumption) ?hv ?_; (case hv => rfl)
          (refine opq ?_; intro Q18 c18)
          refine wpAny_items_nil ?_
          refine c18 _ _ ?_
          refine c17 _ _ ?_
          refine' r_lenS (by assumption) ?hz ?_; (case hz => omega); intro _ _ _
          refine c16 _ _ ?_
          refine' r_local (by assumption) ?hv ?_; (case hv => rfl)
          refine P.le_int ?_
          refine wpAny_truthy_bool ?_
          refine c15 _ _ ?_
          rename_i _ s₉ S₉
          by_cases c3 : (y.length : Int) ≤ room
          · rw [if_pos (decide_eq_true c3)]
            refine c13 _ _ ?_
            rw [if_pos rfl]
            refine r_List ?_
            (refine opq ?_; intro Q19 c19)
            refine wpAny_items_cons ?_
            refine' r_local (by assumption) ?hv ?_; (case hv => rfl)
            (refine opq ?_; intro Q20 c20)
            refine wpAny_items_nil ?_
            refine c20 _ _ ?_
            refine c19 _ _ ?_
            refine' r_dispS (by assumption) ?sv (Nat.le_of_ble_eq_true rfl) ?_; (case sv => (repeat (first | exact StrsAre.nil | apply StrsAre.cons))); intro _ _ _ _
            refine c12 _ _ ?_
            rename_i c' s₁₀ nc' S₁₀
            have e : rows1 width head rows y = [y] := by rw [rows1, if_pos c1, if_pos (.inr (by omega))]
            exact ⟨c', rfl, St.fresh (f := ⟨g, s.heap, [], s.heap.objs.size⟩) (by assumption) nc', by rw [e]; exact (by exact S₁₀.pick 1000 [0, 2, 4])⟩
          · rw [if_neg (by rw [decide_eq_true_eq]; exact c3)]
            refine wpAny_allTrue_Or_nil ?_
            refine c13 _ _ ?_
            rw [if_neg Bool.false_ne_true]
            refine r_List ?_
            (refine opq ?_; intro Q19 c19)
            refine wpAny_items_cons ?_
            refine' r_str (by assumption) ?_; intro _ _ _
            (refine opq ?_; intro Q20 c20)
            refine wpAny_items_cons ?_
            (refine opq ?_; intro Q21 c21)
            refine wpAny_BinOp ?_
            refine' r_str (by assumption) ?_; intro _ _ _
            refine' r_local (by assumption) ?hv ?_; (case hv => rfl)
            rename_i s₁₀ S₁₀
            refine r_addS S₁₀ (by show 1 + y.length < 10000; omega) ?_
            intro t₂ s₁₁ S₁₁
            refine c21 _ _ ?_
            (refine opq ?_; intro Q22 c22)
            refine wpAny_items_nil ?_
            refine c22 _ _ ?_
            refine c20 _ _ ?_
            refine c19 _ _ ?_
            refine' r_dispS (by assumption) ?sv (Nat.le_of_ble_eq_true rfl) ?_; (case sv => (repeat (first | exact StrsAre.nil | apply StrsAre.cons))); intro _ _ _ _
            refine c12 _ _ ?_
            rename_i c' s₁₂ nc' S₁₂
            have e : rows1 width head rows y = [em, sp ++ y] := by rw [rows1, if_pos c1, if_neg (fun q => q.elim c2 (by omega))]
            exact ⟨c', rfl, St.fresh (f := ⟨g, s.heap, [], s.heap.objs.size⟩) (by assumption) nc', by rw [e]; exact (by exact S₁₂.pick 1000 [0, 2, 4])⟩
      · rintro v s₉ ⟨c', rfl, nc', S₉⟩
        (refine let fx4 : Fx := _; let ls4 : List (Str × Value) := _; have S4x : St fx4 ls4 _ _ := S₉; ?_); clear S₉; have S₉ := S4x; clear S4x
        refine' r_storeName (by assumption) ?_; intro _ _
        refine c11 _ _ ?_
        refine wpAny_execs_nil ?_
        refine c7 _ _ ?_
        refine wpAny_execs_nil ?_
        refine c5 _ _ ?_
        rename_i s₁₀ S₁₀
        exact ⟨ws.length - (i + 1), by omega, i + 1, rows1 width head rows y, c', [], rfl, by omega, hro.1, hro.2.1, hro.2.2, nc', hst.symm, (by exact S₁₀.pick 1000 [1, 0, 2])⟩
    · rw [if_neg (by simpa using c1)]
      obtain ⟨lr, hlr'⟩ : ∃ z, rows.getLast? = some z := by
        cases q : rows.getLast? with
        | none => exact absurd (List.getLast?_eq_none_iff.mp q) c1
        | some z => exact ⟨z, rfl⟩
      have hlD : rows.getLastD em = lr := by rw [List.getLastD_eq_getLast?, hlr']; rfl
      have hll : lr.length ≤ 11 * i := hbr _ (List.mem_of_getLast? hlr')
      rw [rows1, if_neg c1, hroom, hlD] at hro hst
      refine wpAny_execs_cons ?_
      (refine opq ?_; intro Q11 c11)
      refine wpAny_If ?_
      (refine opq ?_; intro Q12 c12)
      refine wpAny_isTrue_Compare1 ?_
      (refine opq ?_; intro Q13 c13)
      refine wpAny_BinOp ?_
      (refine opq ?_; intro Q14 c14)
      refine wpAny_BinOp ?_
      (refine opq ?_; intro Q15 c15)
      refine r_Call ?_
      refine' r_boot (by assumption) ?hv ?hw ?_; (case hv => rfl); (case hw => boot_by_name)
      refine PyProof.Rows.callWith_builtin1 ?_
      (refine opq ?_; intro Q16 c16)
      refine wpAny_items_cons ?_
      (refine opq ?_; intro Q17 c17)
      refine Subscript_ ?_
      refine' r_local (by assumption) ?hv ?_; (case hv => rfl)
      (refine opq ?_; intro Q18 c18)
      refine wpAny_UnaryOp ?_
      refine' r_int (by assumption) ?_; intro _ _ _
      refine' r_neg (by assumption) ?_; intro _ _ _
      refine c18 _ _ ?_
      rename_i _ s₉ S₉
      refine r_last S₉ (by exact mA 2 rfl) rfl hlr' (by omega) ?_
      intro t₂
      refine c17 _ _ ?_
      (refine opq ?_; intro Q19 c19)
      refine wpAny_items_nil ?_
      refine c19 _ _ ?_
      refine c16 _ _ ?_
      refine' r_lenS (by assumption) ?hz ?_; (case hz => omega); intro _ _ _
      refine c15 _ _ ?_
      refine' r_int (by assumption) ?_; intro _ _ _
      refine' r_add (by assumption) ?_; intro _ _ _
      refine c14 _ _ ?_
      (refine opq ?_; intro Q20 c20)
      refine r_Call ?_
      refine' r_boot (by assumption) ?hv ?hw ?_; (case hv => rfl); (case hw => boot_by_name)
      refine PyProof.Rows.callWith_builtin1 ?_
      (refine opq ?_; intro Q21 c21)
      refine wpAny_items_cons ?_
      refine' r_local (by assumption) ?hv ?_; (case hv => rfl)
      (refine opq ?_; intro Q22 c22)
      refine wpAny_items_nil ?_
      refine c22 _ _ ?_
      refine c21 _ _ ?_
      refine' r_lenS (by assumption) ?hz ?_; (case hz => omega); intro _ _ _
      refine c20 _ _ ?_
      refine' r_add (by assumption) ?_; intro _ _ _
      refine c13 _ _ ?_
      refine' r_local (by assumption) ?hv ?_; (case hv => rfl)
      refine P.gt_int ?_
      refine wpAny_truthy_bool ?_
      refine c12 _ _ ?_
      rename_i s₁₀ S₁₀
      by_cases c2 : room < (lr.length : Int) + 1 + y.length
      · rw [if_pos (by simpa using c2)]
        rw [if_pos c2] at hro hst
        refine wpAny_execs_cons ?_
        (refine opq ?_; intro Q23 c23)
        refine wpAny_Assign_Name ?_
        (refine opq ?_; intro Q24 c24)
        refine wpAny_BinOp ?_
        refine' r_local (by assumption) ?hv ?_; (case hv => rfl)
        (refine opq ?_; intro Q25 c25)
        refine r_List ?_
        (refine opq ?_; intro Q26 c26)
        refine wpAny_items_cons ?_
        (refine opq ?_; intro Q27 c27)
        refine wpAny_BinOp ?_
        refine' r_str (by assumption) ?_; intro _ _ _
        refine' r_local (by assumption) ?hv ?_; (case hv => rfl)
        rename_i s₁₁ S₁₁
        refine r_addS S₁₁ (by show 1 + y.length < 10000; omega) ?_
        intro t₃ s₁₂ S₁₂
        refine c27 _ _ ?_
        (refine opq ?_; intro Q28 c28)
        refine wpAny_items_nil ?_
        refine c28 _ _ ?_
        refine c26 _ _ ?_
        refine' r_dispS (by assumption) ?sv (Nat.le_of_ble_eq_true rfl) ?_; (case sv => (repeat (first | exact StrsAre.nil | apply StrsAre.cons))); intro _ _ _ _
        refine c25 _ _ ?_
        rename_i _ s₁₃ _ S₁₃
        refine r_addL S₁₃ (by exact mA 3 rfl) (mA 0 rfl) (by rw [sizeLine_eq]; simp; omega) ?_
        intro c' s₁₄ nc' S₁₄
        refine c24 _ _ ?_
        refine' r_storeName (by assumption) ?_; intro _ _
        refine c23 _ _ ?_
        refine wpAny_execs_nil ?_
        refine c11 _ _ ?_
        refine wpAny_execs_nil ?_
        refine c7 _ _ ?_
        refine wpAny_execs_nil ?_
        refine c5 _ _ ?_
        rename_i s₁₅ S₁₅
        exact ⟨ws.length - (i + 1), by omega, i + 1, rows ++ [sp ++ y], c', [], rfl, by omega, hro.1, hro.2.1, hro.2.2, St.fresh (f := ⟨g, s.heap, [], s.heap.objs.size⟩) (by assumption) nc', hst.symm, (by exact S₁₅.pick 1000 [3, 0, 5])⟩
      · rw [if_neg (by simpa using c2)]
        rw [if_neg c2] at hro hst
        refine wpAny_execs_cons ?_
        (refine opq ?_; intro Q23 c23)
        refine wpAny_Assign_Name ?_
        (refine opq ?_; intro Q24 c24)
        refine wpAny_BinOp ?_
        (refine opq ?_; intro Q25 c25)
        refine Subscript_ ?_
        refine' r_local (by assumption) ?hv ?_; (case hv => rfl)
        (refine opq ?_; intro Q26 c26)
        refine r_Slice ?_
        (refine opq ?_; intro Q27 c27)
        refine r_partN ?_
        refine c27 _ _ ?_
        (refine opq ?_; intro Q28 c28)
        refine r_partS ?_
        refine wpAny_UnaryOp ?_
        refine' r_int (by assumption) ?_; intro _ _ _
        refine' r_neg (by assumption) ?_; intro _ _ _
        refine c28 _ _ ?_
        refine' r_slnext (by assumption) ?_; intro _ _ _
        refine c26 _ _ ?_
        rename_i b₁ s₁₁ S₁₁
        refine r_sliceTail S₁₁ (by exact mA 2 rfl) .none (.int _ _) (by rw [sizeLine_eq]; omega) ?_
        intro c₁ s₁₂ _ S₁₂
        rw [pk_butlast] at S₁₂
        refine c25 _ _ ?_
        (refine opq ?_; intro Q29 c29)
        refine r_List ?_
        (refine opq ?_; intro Q30 c30)
        refine wpAny_items_cons ?_
        (refine opq ?_; intro Q31 c31)
        refine wpAny_BinOp ?_
        (refine opq ?_; intro Q32 c32)
        refine wpAny_BinOp ?_
        (refine opq ?_; intro Q33 c33)
        refine Subscript_ ?_
        refine' r_local (by assumption) ?hv ?_; (case hv => rfl)
        (refine opq ?_; intro Q34 c34)
        refine wpAny_UnaryOp ?_
        refine' r_int (by assumption) ?_; intro _ _ _
        refine' r_neg (by assumption) ?_; intro _ _ _
        refine c34 _ _ ?_
        rename_i _ s₁₃ S₁₃
        refine r_last S₁₃ (by exact mA 3 rfl) rfl hlr' (by omega) ?_
        intro t₃
        refine c33 _ _ ?_
        refine' r_str (by assumption) ?_; intro _ _ _
        rename_i s₁₄ S₁₄
        have e2 := str_len_append lr sp
        have e3 : sp.length = 1 := rfl
        refine r_addS S₁₄ (by show lr.length + 1 < 10000; omega) ?_
        intro t₄ s₁₅ S₁₅
        refine c32 _ _ ?_
        refine' r_local (by assumption) ?hv ?_; (case hv => rfl)
        refine r_addS S₁₅ (by show (lr ++ sp).length + y.length < 10000; omega) ?_
        intro t₅ s₁₆ S₁₆
        refine c31 _ _ ?_
        (refine opq ?_; intro Q35 c35)
        refine wpAny_items_nil ?_
        refine c35 _ _ ?_
        refine c30 _ _ ?_
        refine' r_dispS (by assumption) ?sv (Nat.le_of_ble_eq_true rfl) ?_; (case sv => (repeat (first | exact StrsAre.nil | apply StrsAre.cons))); intro _ _ _ _
        refine c29 _ _ ?_
        rename_i c₂ s₁₇ _ S₁₇
        refine r_addL S₁₇ (by exact mA 1 rfl) (mA 0 rfl) (by rw [sizeLine_eq]; simp; omega) ?_
        intro c' s₁₈ nc' S₁₈
        refine c24 _ _ ?_
        refine' r_storeName (by assumption) ?_; intro _ _
        refine c23 _ _ ?_
        refine wpAny_execs_nil ?_
        refine c11 _ _ ?_
        refine wpAny_execs_nil ?_
        refine c7 _ _ ?_
        refine wpAny_execs_nil ?_
        refine c5 _ _ ?_
        rename_i s₁₉ S₁₉
        exact ⟨ws.length - (i + 1), by omega, i + 1, rows.dropLast ++ [lr ++ sp ++ y], c', [], rfl, by omega, hro.1, hro.2.1, hro.2.2, St.fresh (f := ⟨g, s.heap, [], s.heap.objs.size⟩) (by assumption) nc', hst.symm, (by exact S₁₉.pick 1000 [4, 0, 6])⟩
  · refine r_endL S₄ (mA 1 rfl) mit ar'.hand (by simp) ?_
    intro s₅ S₅
    (refine let fx1 : Fx := _; let ls1 : List (Str × Value) := _; have S1x : St fx1 ls1 _ _ := S₅; ?_); clear S₅; have S₅ := S1x; clear S1x
    refine noE ?_
    refine wpAny_execs_nil ?_
    refine c4 _ _ ?_
    refine wpAny_execs_cons ?_
    (refine opq ?_; intro Q5 c5)
    refine wpAny_Return_some ?_
    (refine opq ?_; intro Q6 c6)
    refine MethodCall_ ?_
    refine' r_str (by assumption) ?_; intro _ _ _
    refine GM.join ?_
    refine callWith_method1 ?_
    (refine opq ?_; intro Q7 c7)
    refine wpAny_items_cons ?_
    refine' r_local (by assumption) ?hv ?_; (case hv => rfl)
    (refine opq ?_; intro Q8 c8)
    refine wpAny_items_nil ?_
    refine c8 _ _ ?_
    refine c7 _ _ ?_
    rename_i t s₆ S₆
    refine r_join S₆ (mA 0 rfl) (by decide) (by omega) (fun y hy => by have := hbr y hy; omega) ?_
    intro t' s₇ S₇
    rw [List.take_length] at hrows
    rw [show rowsOf width head ws = rows from hrows.symm] at h
    refine c6 _ _ ?_
    refine c5 _ _ ?_
    refine c0 _ _ ?_
    exact h _ _ S₇.inv S₇.ext
end TH10
section TH11
def lacksN (ws us : List Str) : Nat → List Str
  | 0 => []
  | k + 1 => (if ((ws.take k).count (ws.getD k ⟨#[]⟩) : Int) < ws.count (ws.getD k ⟨#[]⟩) - us.count (ws.getD k ⟨#[]⟩) then [ws.getD k ⟨#[]⟩] else []) ++ lacksN ws us k
def keepsN (ws us : List Str) : Nat → List Str
  | 0 => []
  | k + 1 => keepsN ws us k ++ (if ws.count (us.getD k ⟨#[]⟩) ≤ (us.take k).count (us.getD k ⟨#[]⟩) then [us.getD k ⟨#[]⟩] else [])

theorem rsz (n : Nat) : Builtin.Range.rangeSize ((n : Int) - 1) (-1) (-1) = n := by
  unfold Builtin.Range.rangeSize
  simp
  omega
theorem rsm (n : Nat) (h : n < 1000) : Builtin.Range.small ((n : Int) - 1) (-1) (-1) = true := by
  unfold Builtin.Range.small
  rw [rsz]
  simp only [Builtin.Range.rangeFitsLong, Bool.and_eq_true, Bool.or_eq_true, decide_eq_true_eq, beq_iff_eq]
  simp
  omega
inductive BagW (f : Fx) (ws us : List Str) (D it : Addr) (tl : List (Addr × Kd)) (n : Nat) (s' : Shared) : Prop
  | mk (acc : List Str) (ls' : List (Str × Value)) : n ≤ ws.length → acc.length + n ≤ ws.length → acc ++ lacksN ws us n = lacksN ws us ws.length →
    St f ls' ((D, .sl acc) :: (it, .obj (riObj ((n : Int) - 1) n (-1))) :: tl) s' → BagW f ws us D it tl n s'
inductive BagV (f : Fx) (ws us : List Str) (D it : Addr) (tl : List (Addr × Kd)) (n : Nat) (s' : Shared) : Prop
  | mk (j : Nat) (ls' : List (Str × Value)) : n = us.length - j → j ≤ us.length → (keepsN ws us j).length ≤ j →
      St f ls' ((D, .sl (keepsN ws us j)) :: (it, .obj (riObj (j : Int) ((us.length : Int) - j) 1)) :: tl) s' → BagV f ws us D it tl n s'
theorem law_bags_spec {g : Gx} (G : g.Ok) {A : Around} {k : Nat} (ar : Ar A (k + 1)) {s : Shared} (I : Inv g s) {a b : Addr} {ws us : List Str} {hs0 : List (Addr × Kd)}
    (hh : ∀ p ∈ hs0, p.2.At s.heap p.1 ∧ g.n ≤ p.1) (nd : (hs0.map (·.1)).Nodup) (m1 : (a, .sl ws) ∈ hs0) (m2 : (b, .sl us) ∈ hs0) (hz : ws.length + us.length < 500)
    {Q E : Value → Shared → Prop} (h : ∀ t c d s', Inv g s' → Ext [] s.heap s'.heap → s.heap.objs.size ≤ t → s.heap.objs.size ≤ c → s.heap.objs.size ≤ d → c ≠ d → (Kd.obj (tupObj [.ref c, .ref d])).At s'.heap t → (Kd.sl (lacksN ws us ws.length)).At s'.heap c → (Kd.sl (keepsN ws us us.length)).At s'.heap d → Q (.ref t) s') :
    wpAny (model PR g.w) A (call (.ref 257) [.ref a, .ref b]) Q E s := by
  refine' r_callC G [] hs0 [("one", .ref a), ("two", .ref b)] [("two", s.heap.objs.size + 2), ("one", s.heap.objs.size + 1)] I ar ?ho ?hnt ?hcd ?hct ?hbd ?hcs ?hlk ?hkd ?hh ?nd ?_ ?c1 ?c2 ?c3
  case ho => rfl
  case hnt => decide
  case hcd => rfl
  case hct => decide
  case hbd => exact BindsTo.of_eq rfl
  case hcs => rfl
  case hlk => intro p hp; simp at hp; rcases hp with rfl | rfl <;> rfl
  case hkd => intro p hp; simp at hp; rcases hp with rfl | rfl <;> exact .inr ⟨rfl, rfl⟩
  case c1 => rfl
  case c2 => rfl
  case c3 => rfl
  case hh => exact hh
  case nd => exact nd
  intro s₁ S ar'
  refine gA ar' fun A' ar0 => ?_; replace ar' := ar0
  refine let env0 : Env := _; idE env0 ?_
  (refine opq ?_; intro Q0 c0)
  refine noE ?_
  refine wpAny_execs_cons ?_
  (refine opq ?_; intro Q1 c1)
  have S₁ : St ⟨g, s.heap, [], s.heap.objs.size⟩ [] ((s.heap.objs.size + 2, cellK (some (.ref b))) :: (s.heap.objs.size + 1, cellK (some (.ref a))) :: hs0) s₁ := S
  clear S
  refine r_AssignComp (by kernel_rfl) (by rfl) rfl (by decide) ?_
  (refine opq ?_; intro Q2 c2)
  refine r_Call ?_
  refine' r_boot (by assumption) ?hv ?hw ?_; (case hv => rfl); (case hw => boot_by_name)
  refine Pv.callWith_type1 ?_
  (refine opq ?_; intro Q3 c3)
  refine wpAny_items_cons ?_
  (refine opq ?_; intro Q4 c4)
  refine wpAny_BinOp ?_
  (refine opq ?_; intro Q5 c5)
  refine r_Call ?_
  refine' r_boot (by assumption) ?hv ?hw ?_; (case hv => rfl); (case hw => boot_by_name)
  refine PyProof.Rows.callWith_builtin1 ?_
  (refine opq ?_; intro Q6 c6)
  refine wpAny_items_cons ?_
  refine' r_cell (by assumption) ?hx ?hc ?hm ?_; (case hx => rfl); (case hc => rfl); (case hm => exact mA 1 rfl)
  (refine opq ?_; intro Q7 c7)
  refine wpAny_items_nil ?_
  refine c7 _ _ ?_
  refine c6 _ _ ?_
  refine' r_len (by assumption) ?hm ?hz ?_; (case hm => exact mD 2 (by assumption)); (case hz => omega); intro _ _ _
  refine c5 _ _ ?_
  refine' r_int (by assumption) ?_; intro _ _ _
  refine' r_sub (by assumption) ?_; intro _ _ _
  refine c4 _ _ ?_
  (refine opq ?_; intro Q8 c8)
  refine wpAny_items_cons ?_
  (refine opq ?_; intro Q9 c9)
  refine wpAny_UnaryOp ?_
  refine' r_int (by assumption) ?_; intro _ _ _
  refine' r_neg (by assumption) ?_; intro _ _ _
  refine c9 _ _ ?_
  (refine opq ?_; intro Q10 c10)
  refine wpAny_items_cons ?_
  (refine opq ?_; intro Q11 c11)
  refine wpAny_UnaryOp ?_
  refine' r_int (by assumption) ?_; intro _ _ _
  refine' r_neg (by assumption) ?_; intro _ _ _
  refine c11 _ _ ?_
  (refine opq ?_; intro Q12 c12)
  refine wpAny_items_nil ?_
  refine c12 _ _ ?_
  refine c10 _ _ ?_
  refine c8 _ _ ?_
  refine c3 _ _ ?_
  rename_i s₂ S₂
  refine r_range3 S₂ (by decide) (PyProof.noPylong_small (by omega)) ?_
  intro r s₃ _ _ _ S₃
  refine c2 _ _ ?_
  refine r_iterR S₃ (rsm _ (by omega)) ?_
  intro it s₄ mit S₄
  rw [rsz] at S₄
  refine comp_enter S₄ (fun s' Q' E' hk hq => pyIter_ri hk hq) (by decide) rfl ?_
  intro C D s₅ nD nC hDC S₅
  refine codeAny_compLoop_tests (BagW ⟨g, s₄.heap, [it], C⟩ ws us D it ((s.heap.objs.size + 2, cellK (some (.ref b))) :: (s.heap.objs.size + 1, cellK (some (.ref a))) :: hs0)) ?_ ws.length ⟨[], [], Nat.le_refl _, by simp, rfl, S₅⟩
  rintro n s₆ ⟨acc, ls', hn, hla, hacc, S₆⟩
  cases n with
  | zero =>
    refine r_endR S₆.swap (.inl (mA 0 rfl)) ar'.hand (by decide) ?_
    intro s₇ S₇
    simp only [lacksN, List.append_nil] at hacc
    subst hacc
    have mC : Fx.may ⟨g, s.heap, [], s.heap.objs.size⟩ C := .inr (St.fresh S₄ nC)
    refine comp_store (comp_leave S₄ mit nD S₇) mC rfl ?_
    intro s₈ S₈
    refine c1 _ _ ?_
    refine wpAny_execs_cons ?_
    (refine opq ?_; intro Q13 c13)
    refine wpAny_Return_some ?_
    (refine opq ?_; intro Q14 c14)
    refine r_Tuple ?_
    (refine opq ?_; intro Q15 c15)
    refine wpAny_items_cons ?_
    refine' r_local (by assumption) ?hv ?_; (case hv => rfl)
    (refine opq ?_; intro Q16 c16)
    refine wpAny_items_cons ?_
    (refine opq ?_; intro Q17 c17)
    refine r_ListComp (by rfl) rfl (by decide) ?_
    (refine opq ?_; intro Q18 c18)
    refine r_Call ?_
    refine' r_boot (by assumption) ?hv ?hw ?_; (case hv => rfl); (case hw => boot_by_name)
    refine Pv.callWith_type1 ?_
    (refine opq ?_; intro Q19 c19)
    refine wpAny_items_cons ?_
    (refine opq ?_; intro Q20 c20)
    refine r_Call ?_
    refine' r_boot (by assumption) ?hv ?hw ?_; (case hv => rfl); (case hw => boot_by_name)
    refine PyProof.Rows.callWith_builtin1 ?_
    (refine opq ?_; intro Q21 c21)
    refine wpAny_items_cons ?_
    refine' r_cell (by assumption) ?hx ?hc ?hm ?_; (case hx => rfl); (case hc => rfl); (case hm => exact mA 1 rfl)
    (refine opq ?_; intro Q22 c22)
    refine wpAny_items_nil ?_
    refine c22 _ _ ?_
    refine c21 _ _ ?_
    refine' r_len (by assumption) ?hm ?hz ?_; (case hm => exact mD 3 (by assumption)); (case hz => omega); intro _ _ _
    refine c20 _ _ ?_
    (refine opq ?_; intro Q23 c23)
    refine wpAny_items_nil ?_
    refine c23 _ _ ?_
    refine c19 _ _ ?_
    refine' r_range1 (by assumption) ?_; intro _ _ _ _ _ _
    refine c18 _ _ ?_
    rename_i _ _ _ s₉ S₉
    refine r_iterR S₉ (small_one (by omega) (by omega) (by omega) (by omega)) ?_
    intro it₂ s₁₀ mit₂ S₁₀
    rw [rangeSize_one, show (if (0 : Int) < (us.length : Int) then (us.length : Int) - 0 else 0) = (us.length : Int) from by split <;> omega] at S₁₀
    refine comp_enter S₁₀ (fun s' Q' E' hk hq => pyIter_ri hk hq) (by decide) rfl ?_
    intro C₂ D₂ s₁₁ nD₂ nC₂ hDC₂ S₁₁
    refine codeAny_compLoop_tests (BagV ⟨g, s₁₀.heap, [it₂], C₂⟩ ws us D₂ it₂ ((D, .sl (lacksN ws us ws.length)) :: (s.heap.objs.size + 2, cellK (some (.ref b))) :: (s.heap.objs.size + 1, cellK (some (.ref a))) :: hs0)) ?_ (us.length - 0) ⟨0, [], rfl, Nat.zero_le _, Nat.le_refl _, by rw [show ((us.length : Int) - ((0 : Nat) : Int)) = us.length by omega]; exact S₁₁⟩
    rintro n s₁₂ ⟨j, ls', rfl, hj, hlj, S₁₂⟩
    rcases Nat.lt_or_eq_of_le hj with hj' | rfl
    · refine r_nextR S₁₂.swap (.inl (mA 0 rfl)) (by omega) ?_
      intro t s₁₃ S₁₃
      dsimp only
      have hx : us[j]? = some (us.getD j ⟨#[]⟩) := by simp [hj']
      have hk1 : keepsN ws us (j + 1) = keepsN ws us j ++ (if ws.count (us.getD j ⟨#[]⟩) ≤ (us.take j).count (us.getD j ⟨#[]⟩) then [us.getD j ⟨#[]⟩] else []) := rfl
      generalize us.getD j ⟨#[]⟩ = x at *
      (refine let fx1 : Fx := _; let hs1 : List (Addr × Kd) := _; have S1x : St fx1 _ hs1 _ := S₁₃; ?_); clear S₁₃; have S₁₃ := S1x; clear S1x
      refine noE ?_
      refine wpAny_assign_Name ?_
      refine' r_storeName (by assumption) ?_; intro _ _
      refine noE ?_
      refine forIn1 ?_
      (refine opq ?_; intro Q24 c24)
      refine wpAny_isTrue_Compare1 ?_
      (refine opq ?_; intro Q25 c25)
      refine MethodCall_ ?_
      (refine opq ?_; intro Q26 c26)
      refine Subscript_ ?_
      refine' r_cell (by assumption) ?hx ?hc ?hm ?_; (case hx => rfl); (case hc => rfl); (case hm => exact mA 3 rfl)
      (refine opq ?_; intro Q27 c27)
      refine r_Slice ?_
      (refine opq ?_; intro Q28 c28)
      refine r_partN ?_
      refine c28 _ _ ?_
      (refine opq ?_; intro Q29 c29)
      refine r_partS ?_
      refine' r_local (by assumption) ?hv ?_; (case hv => rfl)
      refine c29 _ _ ?_
      refine' r_slnext (by assumption) ?_; intro _ _ _
      refine c27 _ _ ?_
      rename_i _ s₁₄ S₁₄
      refine r_sliceTail S₁₄ (by exact mD 5 (by assumption)) .none (.int _ _) (by rw [sizeLine_eq]; omega) ?_
      intro c₁ s₁₅ _ S₁₅
      rw [pk_upto] at S₁₅
      refine c26 _ _ ?_
      refine' r_gm (by assumption) ?hm F.slot_list_count F.type_list_count ?_; (case hm => exact mA 0 rfl)
      refine callWith_method1 ?_
      (refine opq ?_; intro Q30 c30)
      refine wpAny_items_cons ?_
      (refine opq ?_; intro Q31 c31)
      refine Subscript_ ?_
      refine' r_cell (by assumption) ?hx ?hc ?hm ?_; (case hx => rfl); (case hc => rfl); (case hm => exact mA 4 rfl)
      refine' r_local (by assumption) ?hv ?_; (case hv => rfl)
      refine r_itemN S₁₅ (by exact mD 6 (by assumption)) hx (by omega) ?_
      intro t₁
      refine c31 _ _ ?_
      (refine opq ?_; intro Q32 c32)
      refine wpAny_items_nil ?_
      refine c32 _ _ ?_
      refine c30 _ _ ?_
      refine r_count S₁₅ (mA 0 rfl) ?_
      intro t₂ s₁₆ S₁₆
      refine c25 _ _ ?_
      (refine opq ?_; intro Q33 c33)
      refine MethodCall_ ?_
      refine' r_cell (by assumption) ?hx ?hc ?hm ?_; (case hx => rfl); (case hc => rfl); (case hm => exact mA 5 rfl)
      refine' r_gm (by assumption) ?hm F.slot_list_count F.type_list_count ?_; (case hm => exact mD 6 (by assumption))
      refine callWith_method1 ?_
      (refine opq ?_; intro Q34 c34)
      refine wpAny_items_cons ?_
      (refine opq ?_; intro Q35 c35)
      refine Subscript_ ?_
      refine' r_cell (by assumption) ?hx ?hc ?hm ?_; (case hx => rfl); (case hc => rfl); (case hm => exact mA 4 rfl)
      refine' r_local (by assumption) ?hv ?_; (case hv => rfl)
      refine r_itemN S₁₆ (by exact mD 6 (by assumption)) hx (by omega) ?_
      intro t₃
      refine c35 _ _ ?_
      (refine opq ?_; intro Q36 c36)
      refine wpAny_items_nil ?_
      refine c36 _ _ ?_
      refine c34 _ _ ?_
      refine r_count S₁₆ (by exact mD 6 (by assumption)) ?_
      intro t₄ s₁₇ S₁₇
      refine c33 _ _ ?_
      refine P.ge_int ?_
      refine wpAny_truthy_bool ?_
      refine c24 _ _ ?_
      have S₁₈ : St ⟨g, s₁₀.heap, [it₂], C₂⟩ [("k", .int j t)] ((D₂, .sl (keepsN ws us j)) :: (it₂, .obj (riObj ((j + 1 : Nat) : Int) ((us.length : Int) - (j + 1 : Nat)) 1)) :: (D, .sl (lacksN ws us ws.length)) :: (s.heap.objs.size + 2, cellK (some (.ref b))) :: (s.heap.objs.size + 1, cellK (some (.ref a))) :: hs0) s₁₇ := by
        have e1 : ((j + 1 : Nat) : Int) = (j : Int) + 1 := by omega
        have e2 : (us.length : Int) - (j + 1 : Nat) = (us.length : Int) - j - 1 := by omega
        rw [e2, e1]
        exact (by exact S₁₇.pick 6 [2, 1, 3, 4, 5])
      by_cases hc : ws.count x ≤ (us.take j).count x
      · rw [if_pos (decide_eq_true (by omega))]
        rw [if_pos hc] at hk1
        (refine let fx2 : Fx := _; let hs2 : List (Addr × Kd) := _; have S2x : St fx2 _ hs2 _ := S₁₈; ?_); clear S₁₈; have S₁₈ := S2x; clear S2x
        (refine opq ?_; intro Q37 c37)
        refine noE ?_
        refine Subscript_ ?_
        refine' r_cell (by assumption) ?hx ?hc ?hm ?_; (case hx => rfl); (case hc => rfl); (case hm => exact mA 3 rfl)
        refine' r_local (by assumption) ?hv ?_; (case hv => rfl)
        refine r_itemN S₁₈ (by exact mD 5 (by assumption)) hx (by omega) ?_
        intro t₇
        refine c37 _ _ ?_
        refine noE ?_
        refine r_append S₁₈ (.inr nD₂) (by rw [sizeLine_eq]; omega) ?_
        intro s₁₉ S₁₉
        rw [← hk1] at S₁₉
        exact ⟨us.length - (j + 1), by omega, j + 1, _, rfl, by omega, by rw [hk1]; simp; omega, S₁₉⟩
      · rw [if_neg (by rw [decide_eq_true_eq]; omega)]
        rw [if_neg hc, List.append_nil] at hk1
        rw [← hk1] at S₁₈
        exact ⟨us.length - (j + 1), by omega, j + 1, _, rfl, by omega, by rw [hk1]; omega, S₁₈⟩
    · refine r_endR S₁₂.swap (.inl (mA 0 rfl)) ar'.hand (by omega) ?_
      intro s₁₃ S₁₃
      have mC₂ : Fx.may ⟨g, s.heap, [], s.heap.objs.size⟩ C₂ := .inr (St.fresh S₁₀ nC₂)
      refine comp_value (comp_leave S₁₀ mit₂ nD₂ S₁₃) mC₂ ?_
      intro s₁₄ S₁₄
      refine c17 _ _ ?_
      (refine opq ?_; intro Q24 c24)
      refine wpAny_items_nil ?_
      refine c24 _ _ ?_
      refine c16 _ _ ?_
      refine c15 _ _ ?_
      refine' r_dispT (by assumption) (Nat.le_of_ble_eq_true rfl) ?_; intro _ _ _ _
      refine c14 _ _ ?_
      refine c13 _ _ ?_
      refine c0 _ _ ?_
      rename_i t s₁₅ nt S₁₅
      have nd := S₁₅.nd; skip
      exact h t D D₂ _ S₁₅.inv S₁₅.ext (St.fresh S₁₄ nt) (St.fresh S₄ nD) (St.fresh S₁₀ nD₂) (by simp at nd; grind) (S₁₅.get (mA 0 rfl)) (S₁₅.get (by exact mA 2 rfl)) (S₁₅.get (by exact mA 1 rfl))
  | succ i =>
    refine r_nextR S₆.swap (.inl (mA 0 rfl)) (by omega) ?_
    intro t s₇ S₇
    have e2 : (((i + 1 : Nat) : Int) - 1) = (i : Int) := by omega
    have e3 : (i : Int) + -1 = (i : Int) - 1 := by omega
    rw [e2, e3] at S₇
    rw [e2]
    dsimp only
    have hi : i < ws.length := by omega
    have hx : ws[i]? = some (ws.getD i ⟨#[]⟩) := by simp [hi]
    rw [lacksN] at hacc
    generalize ws.getD i ⟨#[]⟩ = x at *
    (refine let fx1 : Fx := _; let hs1 : List (Addr × Kd) := _; have S1x : St fx1 _ hs1 _ := S₇; ?_); clear S₇; have S₇ := S1x; clear S1x
    refine noE ?_
    refine wpAny_assign_Name ?_
    refine' r_storeName (by assumption) ?_; intro _ _
    refine noE ?_
    refine forIn1 ?_
    (refine opq ?_; intro Q13 c13)
    refine wpAny_isTrue_Compare1 ?_
    (refine opq ?_; intro Q14 c14)
    refine MethodCall_ ?_
    (refine opq ?_; intro Q15 c15)
    refine Subscript_ ?_
    refine' r_cell (by assumption) ?hx ?hc ?hm ?_; (case hx => rfl); (case hc => rfl); (case hm => exact mA 3 rfl)
    (refine opq ?_; intro Q16 c16)
    refine r_Slice ?_
    (refine opq ?_; intro Q17 c17)
    refine r_partN ?_
    refine c17 _ _ ?_
    (refine opq ?_; intro Q18 c18)
    refine r_partS ?_
    refine' r_local (by assumption) ?hv ?_; (case hv => rfl)
    refine c18 _ _ ?_
    refine' r_slnext (by assumption) ?_; intro _ _ _
    refine c16 _ _ ?_
    rename_i _ s₈ S₈
    refine r_sliceTail S₈ (by exact mD 4 (by assumption)) .none (.int _ _) (by rw [sizeLine_eq]; omega) ?_
    intro c₁ s₉ _ S₉
    rw [pk_upto] at S₉
    refine c15 _ _ ?_
    refine' r_gm (by assumption) ?hm F.slot_list_count F.type_list_count ?_; (case hm => exact mA 0 rfl)
    refine callWith_method1 ?_
    (refine opq ?_; intro Q19 c19)
    refine wpAny_items_cons ?_
    (refine opq ?_; intro Q20 c20)
    refine Subscript_ ?_
    refine' r_cell (by assumption) ?hx ?hc ?hm ?_; (case hx => rfl); (case hc => rfl); (case hm => exact mA 4 rfl)
    refine' r_local (by assumption) ?hv ?_; (case hv => rfl)
    refine r_itemN S₉ (by exact mD 5 (by assumption)) hx (by omega) ?_
    intro t₁
    refine c20 _ _ ?_
    (refine opq ?_; intro Q21 c21)
    refine wpAny_items_nil ?_
    refine c21 _ _ ?_
    refine c19 _ _ ?_
    refine r_count S₉ (mA 0 rfl) ?_
    intro t₂ s₁₀ S₁₀
    refine c14 _ _ ?_
    (refine opq ?_; intro Q22 c22)
    refine wpAny_BinOp ?_
    (refine opq ?_; intro Q23 c23)
    refine MethodCall_ ?_
    refine' r_cell (by assumption) ?hx ?hc ?hm ?_; (case hx => rfl); (case hc => rfl); (case hm => exact mA 4 rfl)
    refine' r_gm (by assumption) ?hm F.slot_list_count F.type_list_count ?_; (case hm => exact mD 5 (by assumption))
    refine callWith_method1 ?_
    (refine opq ?_; intro Q24 c24)
    refine wpAny_items_cons ?_
    (refine opq ?_; intro Q25 c25)
    refine Subscript_ ?_
    refine' r_cell (by assumption) ?hx ?hc ?hm ?_; (case hx => rfl); (case hc => rfl); (case hm => exact mA 4 rfl)
    refine' r_local (by assumption) ?hv ?_; (case hv => rfl)
    refine r_itemN S₁₀ (by exact mD 5 (by assumption)) hx (by omega) ?_
    intro t₃
    refine c25 _ _ ?_
    (refine opq ?_; intro Q26 c26)
    refine wpAny_items_nil ?_
    refine c26 _ _ ?_
    refine c24 _ _ ?_
    refine r_count S₁₀ (by exact mD 5 (by assumption)) ?_
    intro t₄ s₁₁ S₁₁
    refine c23 _ _ ?_
    (refine opq ?_; intro Q27 c27)
    refine MethodCall_ ?_
    refine' r_cell (by assumption) ?hx ?hc ?hm ?_; (case hx => rfl); (case hc => rfl); (case hm => exact mA 3 rfl)
    refine' r_gm (by assumption) ?hm F.slot_list_count F.type_list_count ?_; (case hm => exact mD 5 (by assumption))
    refine callWith_method1 ?_
    (refine opq ?_; intro Q28 c28)
    refine wpAny_items_cons ?_
    (refine opq ?_; intro Q29 c29)
    refine Subscript_ ?_
    refine' r_cell (by assumption) ?hx ?hc ?hm ?_; (case hx => rfl); (case hc => rfl); (case hm => exact mA 4 rfl)
    refine' r_local (by assumption) ?hv ?_; (case hv => rfl)
    refine r_itemN S₁₁ (by exact mD 5 (by assumption)) hx (by omega) ?_
    intro t₅
    refine c29 _ _ ?_
    (refine opq ?_; intro Q30 c30)
    refine wpAny_items_nil ?_
    refine c30 _ _ ?_
    refine c28 _ _ ?_
    refine r_count S₁₁ (by exact mD 5 (by assumption)) ?_
    intro t₆ s₁₂ S₁₂
    refine c27 _ _ ?_
    refine' r_sub (by assumption) ?_; intro _ _ _
    refine c22 _ _ ?_
    refine P.lt_int ?_
    refine wpAny_truthy_bool ?_
    refine c13 _ _ ?_
    rename_i s₁₃ S₁₃
    have S₁₄ : St ⟨g, s₄.heap, [it], C⟩ [("k", .int i t)] ((D, .sl acc) :: (it, .obj (riObj ((i : Int) - 1) i (-1))) :: (s.heap.objs.size + 2, cellK (some (.ref b))) :: (s.heap.objs.size + 1, cellK (some (.ref a))) :: hs0) s₁₃ :=
      (by exact S₁₃.pick 5 [2, 1, 3, 4])
    by_cases hc : ((ws.take i).count x : Int) < ws.count x - us.count x
    · rw [if_pos (decide_eq_true hc)]
      rw [if_pos hc] at hacc
      (refine let fx2 : Fx := _; let hs2 : List (Addr × Kd) := _; have S2x : St fx2 _ hs2 _ := S₁₄; ?_); clear S₁₄; have S₁₄ := S2x; clear S2x
      (refine opq ?_; intro Q31 c31)
      refine noE ?_
      refine Subscript_ ?_
      refine' r_cell (by assumption) ?hx ?hc ?hm ?_; (case hx => rfl); (case hc => rfl); (case hm => exact mA 3 rfl)
      refine' r_local (by assumption) ?hv ?_; (case hv => rfl)
      refine r_itemN S₁₄ (by exact mD 4 (by assumption)) hx (by omega) ?_
      intro t₇
      refine c31 _ _ ?_
      refine noE ?_
      refine r_append S₁₄ (.inr nD) (by rw [sizeLine_eq]; omega) ?_
      intro s₁₅ S₁₅
      exact ⟨i, by omega, acc ++ [x], _, by omega, by simp; omega, by simpa using hacc, S₁₅⟩
    · rw [if_neg (by rw [decide_eq_true_eq]; exact hc)]
      rw [if_neg hc] at hacc
      exact ⟨i, by omega, acc, _, by omega, by omega, by simpa using hacc, S₁₄⟩
end TH11
section TH12
theorem push_spec {g : Gx} (G : g.Ok) {A : Around} {k : Nat} (ar : Ar A (k + 1)) {s : Shared} (I : Inv g s) {c d : Addr} {vs : Array Value} {i : Int} {x y : Str} {t u : Tok}
    (hc : (accK d vs).At s.heap c) (nc : g.n ≤ c) (hd : (acdK i).At s.heap d) (nd : g.n ≤ d) (hcd : c ≠ d) (hz : vs.size < 1000)
    {Q E : Value → Shared → Prop} (h : ∀ p s', Inv g s' → Ext [c] s.heap s'.heap → s.heap.objs.size ≤ p → (Kd.obj (tupObj [.str x t, .str y u])).At s'.heap p → (accK d (vs.push (.ref p))).At s'.heap c → Q .none s') :
    wpAny (model PR g.w) A (call (.ref 122) [.ref c, .str x t, .str y u]) Q E s := by
  refine' r_call G [c] [(c, accK d vs), (d, acdK i)] [("self", .ref c), ("fws", .str x t), ("string", .str y u)] I ar ?ho ?hnt ?hcd ?hct ?hbd ?hc ?hlc ?hh ?nd ?_ ?c1 ?c2 ?c3
  ((case ho => rfl); (case hnt => decide); (case hcd => rfl); (case hct => decide); (case hbd => exact BindsTo.of_eq rfl); (case hc => decide); (case hlc => exact locs rfl); (case c1 => rfl); (case c2 => rfl); (case c3 => rfl))
  case hh => simp; exact ⟨⟨hc, nc⟩, hd, nd⟩
  case nd => simp; exact hcd
  intro s₁ S ar' hg
  refine gA ar' fun A' ar0 => ?_; replace ar' := ar0
  refine let env0 : Env := _; idE env0 ?_
  (refine let fx0 : Fx := _; let ls0 : List (Str × Value) := _; have S0x : St fx0 ls0 _ _ := S; ?_); clear S; have S := S0x; clear S0x
  (refine opq ?_; intro Q0 c0)
  refine noE ?_
  refine wpAny_execs_cons ?_
  (refine opq ?_; intro Q1 c1)
  refine wpAny_Expr ?_
  (refine opq ?_; intro Q2 c2)
  refine MethodCall_ ?_
  refine' r_local (by assumption) ?hv ?_; (case hv => rfl)
  refine' r_accM (fa := Value.builtin "list.append") (tv := Value.type "method_descriptor") (by assumption) ?hc ?hd ?hf ?ht ?htv ?hn ?_; (case hc => exact mA 0 rfl); (case hd => exact mA 1 rfl); (case hf => rfl); (case ht => rfl); (case htv => decide +kernel); (case hn => (intro _ _ _ _; rfl))
  refine callWith_method1 ?_
  (refine opq ?_; intro Q3 c3)
  refine wpAny_items_cons ?_
  (refine opq ?_; intro Q4 c4)
  refine r_Tuple ?_
  (refine opq ?_; intro Q5 c5)
  refine wpAny_items_cons ?_
  refine' r_local (by assumption) ?hv ?_; (case hv => rfl)
  (refine opq ?_; intro Q6 c6)
  refine wpAny_items_cons ?_
  refine' r_local (by assumption) ?hv ?_; (case hv => rfl)
  (refine opq ?_; intro Q7 c7)
  refine wpAny_items_nil ?_
  refine c7 _ _ ?_
  refine c6 _ _ ?_
  refine c5 _ _ ?_
  refine' r_dispT (by assumption) (Nat.le_of_ble_eq_true rfl) ?_; intro _ _ _ _
  refine c4 _ _ ?_
  (refine opq ?_; intro Q8 c8)
  refine wpAny_items_nil ?_
  refine c8 _ _ ?_
  refine c3 _ _ ?_
  rename_i p s₂ np S₂
  refine r_accAppend S₂.swap (.inl (mA 0 rfl)) hz ?_
  intro s₃ S₃
  refine c2 _ _ ?_
  refine c1 _ _ ?_
  refine wpAny_execs_nil ?_
  refine c0 _ _ ?_
  exact h p _ S₃.inv S₃.ext (St.fresh S np) (S₃.get (mA 1 rfl)) (S₃.get (mA 0 rfl))
end TH12
section TH13
theorem part_count_spec {g : Gx} (G : g.Ok) {A : Around} {k : Nat} (ar : Ar A (k + 1)) {s : Shared} (I : Inv g s) {c d : Addr} {vs : Array Value}
    (hc : (accK d vs).At s.heap c) (nc : g.n ≤ c) (hz : vs.size < 1000)
    {Q E : Value → Shared → Prop} (h : ∀ t s', Inv g s' → Ext [] s.heap s'.heap → Q (.int vs.size t) s') :
    wpAny (model PR g.w) A (call (.ref 175) [.ref c]) Q E s := by
  refine' r_callAt G [] [(c, accK d vs)] [("self", .ref c)] I ar ?ho ?hnt ?hcd ?hct ?hbd ?hc ?hlc ?hh ?nd ?_ ?c1 ?c2 ?c3
  ((case ho => rfl); (case hnt => decide); (case hcd => rfl); (case hct => decide); (case hbd => exact BindsTo.of_eq rfl); (case hc => decide); (case hlc => exact locs rfl); (case c1 => rfl); (case c2 => rfl); (case c3 => rfl))
  case hh => simp; exact ⟨hc, nc⟩
  case nd => simp
  intro s₁ S ar' hg
  refine ks_wpAt_execs_cons (ks_wpAt_Return_some (ks_wpAt_MethodCall ?_))
  refine' r_super (fa := 175) (cc := 174) S (mA 0 rfl) ?hself ?hf ?hft ?hfd ?hp ?hco ?hcc ?hct2 ?hoc ?hvs ?hfile ?_ ?hcl ?hL ?hk ?hx ?hg ?hb ?hks ?hkc ?hat ?hfu
  ((case hf => rfl); (case hft => decide); (case hfd => rfl); (case hp => rfl); (case hself => rfl); (case hco => rfl); (case hcc => rfl); (case hct2 => decide); (case hoc => rfl); (case hvs => rfl); (case hfile => rfl); (case hcl => rfl); (case hL => rfl); (case hk => rfl); (case hx => rfl); (case hg => rfl); (case hb => rfl); (case hks => rfl); (case hkc => rfl); (case hat => decide); (case hfu => rfl))
  intro so s₂ nso S₂
  refine r_superM (bt := "method-wrapper") (id := "list.__len__") S₂ (mA 0 rfl) (mA 1 rfl) (by rfl) (by decide) wd_slot wd_entry wd_args (by kernel_rfl) (fun ox h g d t os A Q E h1 h2 h3 hq => wd_get own_len h1 h2 h3 hq) ?_
  intro b s₃ nb S₃
  refine r_cwB0 S₃ (mA 0 rfl) (.inl rfl) ?_
  refine call_boundB (S₃.get (mA 0 rfl)) (.inl rfl) (fun Q' q => ?_) (by decide +kernel) ?_
  · exact wpAny_of_eq (a := ()) (by kernel_rfl) q
  · obtain ⟨_, hco, n, sl, rfl⟩ := S₃.get (mA 2 rfl)
    refine codeAny_builtin entry_list_len ?_
    have h' := fun t => h t _ (S₃.tok (s₃.toks + 1)).inv (S₃.tok (s₃.toks + 1)).ext
    obtain ⟨hh, g', dd, t, os⟩ := s₃
    unfold Builtin.«list.__len__»
    wp_walk using wpAny_loadPart' hco
    exact h' _
end TH13
section TH14
/-- pop: an empty line gives a new ('', ''), else the last part goes -/
theorem pop_args (a : Value) : (match Manifest.signature? "list.pop" with | some sig => Bind.checkArgs "list.pop" { sig with full := toString (Str.ofString "_Accumulator").toString ++ toString "." ++ toString (Bind.lastOf "list.pop") } ⟨[a], []⟩ | none => pure ()) = pure () := by
  rw [signature?_of (id := "list.pop") (n := ['p', 'o', 'p']) (o := ['t', 's', 'i', 'l']) (by kernel_rfl) F.owner_list]; kernel_rfl
theorem chk_pop {prog : Program} {w : World} {f : Fx} {A : Around} {E : Value → Shared → Prop} {s : Shared} {ls : List (Str × Value)} {hs : List (Addr × Kd)} {c d : Addr} {vs : Array Value} {Q : Unit → Shared → Prop} (S : St f ls hs s) (hc : (c, accK d vs) ∈ hs) (q : Q () s) :
    wpAny (model prog w) A (checkBoundCall "list.pop" ⟨[.ref c], []⟩) Q E s := by
  obtain ⟨_, hco, n, sl, rfl⟩ := S.get hc
  have X := S.inv.k2 S.ok
  have L1 : Looks (model prog w) s.heap (isSubtype (.ref 178) (.type "module")) false := looks_subIn X (by rfl)
  have L2 : Looks (model prog w) s.heap (typeOf (.ref 178)) (.type "type") := looks_typeIn X (by rfl)
  have L3 : Looks (model prog w) s.heap (classData 178) _ := looks_clsIn X (by rfl)
  have hk : builtinKind "list.pop" = some .method := by decide +kernel
  have hv : Manifest.varargsMethods.contains "list.pop" = false := by decide +kernel
  have ha := pop_args (.ref c)
  obtain ⟨hh, g, dd, t, os⟩ := s
  unfold checkBoundCall
  cases hsig : Manifest.signature? "list.pop" with
  | none => exact wpAny_pure q
  | some sig =>
    rw [hsig] at ha
    dsimp only at ha
    rw [hk]
    dsimp only
    rw [if_neg (by decide)]
    have T0 : Looks (model prog w) hh (typeOf (.ref c)) (.ref 178) := (Looks.ld hco).andThen .now
    refine wpAny_bind ((T0.andThen L1).at ?_)
    rw [hv]
    rw [if_neg (by decide)]
    refine wpAny_bind (ks_wpAny_isType_inst hco (by intro c q; cases q) ?_)
    rw [if_neg (by decide)]
    refine wpAny_bind (T0.at ?_)
    refine wpAny_bind (L3.at (wpAny_bind (L2.at ?_)))
    rw [if_pos (by rfl)]
    show wpAny _ _ (Bind.checkArgs _ _ _) _ _ _
    exact wpAny_of_eq ha q
theorem acc_pop {prog : Program} {w : World} {A A₁ : Around} {s : Shared} {c d : Addr} {items : Array Value} {n : Nat} {sl : Array (Option Value)} {y : Value} {R : Result → Shared → Prop} (hl : s.heap.get? c = some ⟨.ref 178, some d, .seq items n, sl⟩) (hy : items[items.size - 1]? = some y) (hs1 : items.size ≤ sizeLine)
    (h : R (.ok (.ret y)) { s with heap := s.heap.update c (Obj.mapSeq fun xs => xs.eraseIdxIfInBounds (items.size - 1)) }) :
    wpAny (model prog w) A₁ (Builtin.«list.pop» ⟨[.ref c], []⟩) (fun fin s' => match fin with | .done f => R (.ok f) s' | .again c' => c'.quiet = true ∧ codeAny (model prog w) A c' R s') (fun e s' => R (.error e) s') s := by
  obtain ⟨hp, g, dd, tk, os⟩ := s
  have hpos : 0 < items.size := by
    rcases Nat.eq_zero_or_pos items.size with h0 | h0
    · simp [h0] at hy
    · exact h0
  have hne : ¬ items.isEmpty = true := by
    intro he; have : items.size = 0 := by simpa using he
    omega
  have hk : seqIndex? (-1) items.size = some (items.size - 1) := by
    rw [MeetsSeq.seqIndex_neg (by omega) (by omega)]; congr 1; omega
  have hz' : (items.eraseIdxIfInBounds (items.size - 1)).size ≤ sizeLine + 1 := Nat.le_trans (MeetsSeq.size_erased items _) (Nat.le_succ_of_le hs1)
  wp_walk using wpAny_loadPart' hl
  simp only [hk, hy, Option.bind_some, Option.map_some]
  wp_walk using (wpAny_updateSeq hl rfl (hz := hs1) (_hz' := hz')), wpAny_loadPart' hl
  exact h
theorem push_last (vs : Array Value) (h : 0 < vs.size) : vs = (vs.eraseIdxIfInBounds (vs.size - 1)).push (vs[vs.size - 1]'(by omega)) := by
  have h2 : vs.size - 1 < vs.size := by omega
  simp only [Array.eraseIdxIfInBounds, h2, dite_true]
  apply Array.ext
  · simp; omega
  · intro i h3 h4
    rw [Array.getElem_push]
    split
    · rename_i h5
      simp only [Array.size_eraseIdx] at h5
      rw [Array.getElem_eraseIdx_of_lt (h' := h5)]
    · rename_i h5
      simp only [Array.size_eraseIdx] at h5
      have : i = vs.size - 1 := by omega
      subst this
      rfl
theorem pop_spec {g : Gx} (G : g.Ok) {A : Around} {k : Nat} (ar : Ar A (k + 2)) {s : Shared} (I : Inv g s) {c d : Addr} {vs : Array Value} {i : Int}
    (hc : (accK d vs).At s.heap c) (nc : g.n ≤ c) (hd : (acdK i).At s.heap d) (nd : g.n ≤ d) (hcd : c ≠ d) (hz : vs.size < 1000)
    {Q E : Value → Shared → Prop} (h0 : vs.size = 0 → ∀ p s' t u, Inv g s' → Ext [c] s.heap s'.heap → (accK d vs).At s'.heap c → s.heap.objs.size ≤ p → (Kd.obj (tupObj [.str (Str.ofString "") t, .str (Str.ofString "") u])).At s'.heap p → Q (.ref p) s')
    (h1 : ∀ v us, vs = us.push v → ∀ s', Inv g s' → Ext [c] s.heap s'.heap → (accK d us).At s'.heap c → Q v s') :
    wpAny (model PR g.w) A (call (.ref 138) [.ref c]) Q E s := by
  refine' r_callAt G [c] [(c, accK d vs), (d, acdK i)] [("self", .ref c)] I ar ?ho ?hnt ?hcd ?hct ?hbd ?hc ?hlc ?hh ?nd ?_ ?c1 ?c2 ?c3
  ((case ho => rfl); (case hnt => decide); (case hcd => rfl); (case hct => decide); (case hbd => exact BindsTo.of_eq rfl); (case hc => decide); (case hlc => exact locs rfl); (case c1 => rfl); (case c2 => rfl); (case c3 => rfl))
  case hh => simp; exact ⟨⟨hc, nc⟩, hd, nd⟩
  case nd => simp; exact hcd
  intro s₁ S ar' hg
  refine ks_wpAt_execs_cons (ks_wpAt_If ?_)
  refine wpAt_of_wpAny ?_
  refine gA ar' fun A' ar0 => ?_; replace ar' := ar0
  (refine let fx0 : Fx := _; let ls0 : List (Str × Value) := _; have S0x : St fx0 ls0 _ _ := S; ?_); clear S; have S := S0x; clear S0x
  (refine opq ?_; intro Q0 c0)
  refine noE ?_
  refine wpAny_isTrue_Compare1 ?_
  (refine opq ?_; intro Q1 c1)
  refine MethodCall_ ?_
  refine' r_local (by assumption) ?hv ?_; (case hv => rfl)
  refine' r_accM (by assumption) ?hc ?hd ?hf ?ht ?htv ?hn ?_; (case hc => exact mA 0 rfl); (case hd => exact mA 1 rfl); (case hf => rfl); (case ht => rfl); (case htv => decide +kernel); (case hn => (intro _ _ _ _; rfl))
  refine' r_cwF0 (fn_at (by assumption) ?fo ?fn) ?_; (case fo => rfl); (case fn => decide)
  refine part_count_spec (k := k) S.ok ar' S.inv (S.get (mA 0 rfl)) (S.low (mA 0 rfl)) hz ?_
  intro t s₂ I₂ E₂
  have S₂ := S.stay I₂ E₂
  refine c1 _ _ ?_
  refine' r_int (by assumption) ?_; intro _ _ _
  refine P.eq_int ?_
  refine wpAny_truthy_bool ?_
  refine c0 _ _ ?_
  rename_i s₃ S₃
  by_cases hv : vs.size = 0
  · rw [if_pos (by simpa using hv)]
    refine wpAt_of_wpAny ?_
    refine let env2 : Env := _; idE env2 ?_
    (refine opq ?_; intro Q2 c2)
    refine noE ?_
    refine wpAny_execs_cons ?_
    (refine opq ?_; intro Q3 c3)
    refine wpAny_Return_some ?_
    (refine opq ?_; intro Q4 c4)
    refine r_Tuple ?_
    (refine opq ?_; intro Q5 c5)
    refine wpAny_items_cons ?_
    refine' r_str (by assumption) ?_; intro _ _ _
    (refine opq ?_; intro Q6 c6)
    refine wpAny_items_cons ?_
    refine' r_str (by assumption) ?_; intro _ _ _
    (refine opq ?_; intro Q7 c7)
    refine wpAny_items_nil ?_
    refine c7 _ _ ?_
    refine c6 _ _ ?_
    refine c5 _ _ ?_
    refine' r_dispT (by assumption) (Nat.le_of_ble_eq_true rfl) ?_; intro _ _ _ _
    refine c4 _ _ ?_
    refine c3 _ _ ?_
    refine c2 _ _ ?_
    rename_i p s₄ np S₄
    exact h0 hv p _ _ _ S₄.inv S₄.ext (S₄.get (mA 1 rfl)) (St.fresh (f := ⟨g, s.heap, [c], s.heap.objs.size⟩) (by assumption) np) (S₄.get (mA 0 rfl))
  · rw [if_neg (by simpa using hv)]
    refine wpAt_of_wpAny (wpAny_execs_nil ?_)
    refine ks_wpAt_execs_cons (ks_wpAt_Return_some (ks_wpAt_MethodCall ?_))
    refine' r_super (fa := 138) (cc := 137) S₃ (mA 0 rfl) ?hself ?hf ?hft ?hfd ?hp ?hco ?hcc ?hct2 ?hoc ?hvs ?hfile ?_ ?hcl ?hL ?hk ?hx ?hg ?hb ?hks ?hkc ?hat ?hfu
    ((case hf => rfl); (case hft => decide); (case hfd => rfl); (case hp => rfl); (case hself => rfl); (case hco => rfl); (case hcc => rfl); (case hct2 => decide); (case hoc => rfl); (case hvs => rfl); (case hfile => rfl); (case hcl => rfl); (case hL => rfl); (case hk => rfl); (case hx => rfl); (case hg => rfl); (case hb => rfl); (case hks => rfl); (case hkc => rfl); (case hat => decide); (case hfu => rfl))
    intro so s₄ nso S₄
    refine r_superM (bt := "builtin_function_or_method") (id := "list.pop") S₄ (mA 0 rfl) (mA 1 rfl) (by rfl) (by decide) md_slot md_entry md_args (by kernel_rfl) (fun ox h g d t os A Q E h1 h2 h3 hq => md_get own_pop (by decide +kernel) h1 h2 h3 hq) ?_
    intro b s₅ nb S₅
    refine r_cwB0 S₅ (mA 0 rfl) (.inr rfl) ?_
    refine call_boundB (S₅.get (mA 0 rfl)) (.inr rfl) (fun Q' q => ?_) (by decide +kernel) ?_
    · exact chk_pop S₅ (mA 2 rfl) q
    · obtain ⟨_, hco, n, sl, rfl⟩ := S₅.get (mA 2 rfl)
      refine codeAny_builtin F.entry_list_pop ?_
      have S₆ : St ⟨g, s.heap, [c], s.heap.objs.size⟩ [("self", .ref c)] [(c, accK d vs)] s₅ := (by exact S₅.pick 1000 [2])
      have hpos : 0 < vs.size := Nat.pos_of_ne_zero hv
      have S₇ := S₆.accSet (.inl (mA 0 rfl)) (fun xs => xs.eraseIdxIfInBounds (vs.size - 1)) s₅.toks
      have hy : vs[vs.size - 1]? = some (vs[vs.size - 1]'(by omega)) := Array.getElem?_eq_getElem (by omega)
      exact acc_pop hco hy (by rw [sizeLine_eq]; omega) (h1 _ _ (push_last vs hpos) _ S₇.inv S₇.ext (S₇.get (mA 0 rfl)))
end TH14
section TH15
theorem bd_from (n i : Nat) (h : i ≤ n) : sliceBounds (some (i : Int)) none none n = ((i : Int), (n : Int), 1) := by
  unfold sliceBounds
  simp
  omega
theorem bd_all (n : Nat) : sliceBounds none none none n = (((0 : Nat) : Int), (n : Int), 1) := by rfl
theorem pop_from_spec {g : Gx} (G : g.Ok) {A : Around} {k : Nat} (ar : Ar A (k + 1)) {s : Shared} (I : Inv g s) {c d : Addr} {vs : Array Value} {i : Nat} {t : Tok}
    (hc : (accK d vs).At s.heap c) (nc : g.n ≤ c) (hz : vs.size < 500) (hi : i ≤ vs.size)
    {Q E : Value → Shared → Prop} (h : ∀ l s', Inv g s' → Ext [c] s.heap s'.heap → s.heap.objs.size ≤ l → (Kd.obj (listOf (vs.extract i vs.size) 0)).At s'.heap l → (accK d (vs.extract 0 i)).At s'.heap c → Q (.ref l) s') :
    wpAny (model PR g.w) A (call (.ref 130) [.ref c, .int i t]) Q E s := by
  refine' r_call G [c] [(c, accK d vs)] [("self", .ref c), ("i", .int i t)] I ar ?ho ?hnt ?hcd ?hct ?hbd ?hc ?hlc ?hh ?nd ?_ ?c1 ?c2 ?c3
  ((case ho => rfl); (case hnt => decide); (case hcd => rfl); (case hct => decide); (case hc => decide); (case hlc => exact locs rfl); (case c1 => rfl); (case c2 => rfl); (case c3 => rfl))
  case hbd => exact BindsTo.of_defaults rfl (I.at G (by rfl) (by decide)) rfl rfl rfl
  case hh => simp; exact ⟨hc, nc⟩
  case nd => simp
  intro s₁ S ar' hg
  refine gA ar' fun A' ar0 => ?_; replace ar' := ar0
  refine let env0 : Env := _; idE env0 ?_
  (refine let fx0 : Fx := _; let ls0 : List (Str × Value) := _; have S0x : St fx0 ls0 _ _ := S; ?_); clear S; have S := S0x; clear S0x
  (refine opq ?_; intro Q0 c0)
  refine noE ?_
  refine wpAny_execs_cons ?_
  (refine opq ?_; intro Q1 c1)
  refine wpAny_Assign_Name ?_
  (refine opq ?_; intro Q2 c2)
  refine Subscript_ ?_
  refine' r_local (by assumption) ?hv ?_; (case hv => rfl)
  (refine opq ?_; intro Q3 c3)
  refine r_Slice ?_
  (refine opq ?_; intro Q4 c4)
  refine r_partS ?_
  refine' r_local (by assumption) ?hv ?_; (case hv => rfl)
  refine c4 _ _ ?_
  (refine opq ?_; intro Q5 c5)
  refine r_partN ?_
  refine c5 _ _ ?_
  refine' r_slnext (by assumption) ?_; intro _ _ _
  refine c3 _ _ ?_
  rename_i b₁ s₂ S₂
  refine acc_tail S₂ (by exact mA 1 rfl) ?_
  refine acc_sliceG S₂ (by exact mA 1 rfl) (mA 0 rfl) (.int _ _) .none (by rw [sizeLine_eq]; omega) ?_
  intro l s₃ nl S₃
  refine c2 _ _ ?_
  refine' r_storeName (by assumption) ?_; intro _ _
  refine c1 _ _ ?_
  refine wpAny_execs_cons ?_
  (refine opq ?_; intro Q6 c6)
  refine wpAny_Assign_Subscript ?_
  (refine opq ?_; intro Q7 c7)
  refine r_List ?_
  (refine opq ?_; intro Q8 c8)
  refine wpAny_items_nil ?_
  refine c8 _ _ ?_
  refine' r_dispS (by assumption) ?sv (Nat.le_of_ble_eq_true rfl) ?_; (case sv => (repeat (first | exact StrsAre.nil | apply StrsAre.cons))); intro _ _ _ _
  refine c7 _ _ ?_
  refine' r_local (by assumption) ?hv ?_; (case hv => rfl)
  (refine opq ?_; intro Q9 c9)
  refine r_Slice ?_
  (refine opq ?_; intro Q10 c10)
  refine r_partS ?_
  refine' r_local (by assumption) ?hv ?_; (case hv => rfl)
  refine c10 _ _ ?_
  (refine opq ?_; intro Q11 c11)
  refine r_partN ?_
  refine c11 _ _ ?_
  refine' r_slnext (by assumption) ?_; intro _ _ _
  refine c9 _ _ ?_
  rename_i e₀ s₄ ne₀ S₄ b₂ s₆ S₆
  obtain ⟨us, n, hol, hv⟩ := S₆.get (a := e₀) (o := .sl []) (by exact mA 1 rfl)
  have hus : us = #[] := by
    have := sa_size hv
    simpa using this
  subst hus
  have S₇ : St ⟨g, s.heap, [c], s.heap.objs.size⟩ [("popped", .ref l)] [(c, accK d vs), (b₂, .obj (slObj (.int i t) .none)), (e₀, .sl []), (l, .obj (listOf (slicePick vs (some (i : Int)) none none) 0))] s₆ :=
    (by exact S₆.pick 1000 [4, 0, 1, 2])
  refine acc_sliceS S₇ (.inl (mA 0 rfl)) (mA 0 rfl) (mA 1 rfl) hol (.int _ _) (bd_from _ _ hi) hi (by simp; omega) ?_
  intro s₈ S₈
  rw [Array.append_empty] at S₈
  refine c6 _ _ ?_
  refine wpAny_execs_cons ?_
  (refine opq ?_; intro Q12 c12)
  refine wpAny_Return_some ?_
  refine' r_local (by assumption) ?hv ?_; (case hv => rfl)
  refine c12 _ _ ?_
  refine c0 _ _ ?_
  have e1 : slicePick vs (some (i : Int)) none none = vs.extract i vs.size := by
    rw [slicePick_from vs i hi]
    apply Array.toList_inj.mp
    simp
    rw [List.take_of_length_le (by simp)]
  rw [e1] at S₈
  exact h l _ S₈.inv S₈.ext (St.fresh S₂ nl) (S₈.get (by exact mA 3 rfl)) (S₈.get (mA 0 rfl))
end TH15
section TH16
theorem reset_spec {g : Gx} (G : g.Ok) {A : Around} {k : Nat} (ar : Ar A (k + 1)) {s : Shared} (I : Inv g s) {c d l : Addr} {vs us : Array Value} {i : Int} {n : Nat}
    (hc : (accK d vs).At s.heap c) (nc : g.n ≤ c) (hd : (acdK i).At s.heap d) (nd : g.n ≤ d) (hl : (Kd.obj (listOf us n)).At s.heap l) (nl : g.n ≤ l) (hcd : c ≠ d) (hcl : c ≠ l) (hdl : d ≠ l) (hz : vs.size + us.size < 500)
    {Q E : Value → Shared → Prop} (h : ∀ s', Inv g s' → Ext [c, d] s.heap s'.heap → (accK d us).At s'.heap c → (acdK 0).At s'.heap d → Q .none s') :
    wpAny (model PR g.w) A (call (.ref 160) [.ref c, .ref l]) Q E s := by
  refine' r_call G [c, d] [(c, accK d vs), (d, acdK i), (l, .obj (listOf us n))] [("self", .ref c), ("startval", .ref l)] I ar ?ho ?hnt ?hcd ?hct ?hbd ?hc ?hlc ?hh ?nd ?_ ?c1 ?c2 ?c3
  ((case ho => rfl); (case hnt => decide); (case hcd => rfl); (case hct => decide); (case hc => decide); (case hlc => exact locs rfl); (case c1 => rfl); (case c2 => rfl); (case c3 => rfl))
  case hbd => exact BindsTo.of_defaults rfl (I.at G (by rfl) (by decide)) rfl rfl rfl
  case hh => simp; exact ⟨⟨hc, nc⟩, ⟨hd, nd⟩, hl, nl⟩
  case nd => simp; exact ⟨⟨hcd, hcl⟩, hdl⟩
  intro s₁ S ar' hg
  refine gA ar' fun A' ar0 => ?_; replace ar' := ar0
  refine let env0 : Env := _; idE env0 ?_
  (refine let fx0 : Fx := _; let ls0 : List (Str × Value) := _; have S0x : St fx0 ls0 _ _ := S; ?_); clear S; have S := S0x; clear S0x
  (refine opq ?_; intro Q0 c0)
  refine noE ?_
  refine wpAny_execs_cons ?_
  (refine opq ?_; intro Q1 c1)
  refine wpAny_If ?_
  (refine opq ?_; intro Q2 c2)
  refine wpAny_isTrue_Compare1 ?_
  refine' r_local (by assumption) ?hv ?_; (case hv => rfl)
  refine wpAny_Constant_none ?_
  refine wpAny_mono (Q := fun v s' => v = .bool false ∧ s' = s₁) (wpAny_of_eq (a := .bool false) (by rfl) ⟨rfl, rfl⟩) ?_ (fun _ _ x => x)
  rintro v s₂ ⟨rfl, rfl⟩
  refine wpAny_truthy_bool ?_
  refine c2 _ _ ?_
  rw [if_neg Bool.false_ne_true]
  refine wpAny_execs_nil ?_
  refine c1 _ _ ?_
  refine wpAny_execs_cons ?_
  (refine opq ?_; intro Q3 c3)
  refine wpAny_Assign_Subscript ?_
  refine' r_local (by assumption) ?hv ?_; (case hv => rfl)
  refine' r_local (by assumption) ?hv ?_; (case hv => rfl)
  (refine opq ?_; intro Q4 c4)
  refine r_Slice ?_
  (refine opq ?_; intro Q5 c5)
  refine r_partN ?_
  refine c5 _ _ ?_
  (refine opq ?_; intro Q6 c6)
  refine r_partN ?_
  refine c6 _ _ ?_
  refine' r_slnext (by assumption) ?_; intro _ _ _
  refine c4 _ _ ?_
  rename_i b₁ s₃ S₃
  have hol : s₃.heap.get? l = some (listOf us n) := S₃.get (a := l) (o := .obj (listOf us n)) (by exact mA 3 rfl)
  have S₄ : St ⟨g, s.heap, [c, d], s.heap.objs.size⟩ [("self", .ref c)] [(c, accK d vs), (b₁, .obj (slObj .none .none)), (d, acdK i), (l, .obj (listOf us n))] s₃ := by
    exact (by exact S₃.pick 1000 [1, 0, 2, 3])
  refine acc_sliceS S₄ (.inl (mA 0 rfl)) (mA 0 rfl) (mA 2 rfl) hol .none (bd_all _) (Nat.zero_le _) (by omega) ?_
  intro s₅ S₅
  have e0 : vs.extract 0 0 ++ us = us := by simp
  rw [e0] at S₅
  refine c3 _ _ ?_
  refine wpAny_execs_cons ?_
  (refine opq ?_; intro Q7 c7)
  refine plainObj_wpAny_Assign_Attribute ?_
  refine' r_int (by assumption) ?_; intro _ _ _
  refine' r_local (by assumption) ?hv ?_; (case hv => rfl)
  rename_i t s₆ S₆
  have S₇ : St ⟨g, s.heap, [c, d], s.heap.objs.size⟩ [("self", .ref c)] [(d, acdK i), (c, accK d us)] s₆ := by
    exact (by exact S₆.pick 1000 [2, 0])
  refine r_initialS S₇ (mA 0 rfl) (.inl (mA 1 rfl)) ?_
  intro s₈ S₈
  refine c7 _ _ ?_
  refine wpAny_execs_nil ?_
  refine c0 _ _ ?_
  exact h _ S₈.inv S₈.ext (S₈.get (mA 1 rfl)) (S₈.get (mA 0 rfl))

theorem reset0_spec {g : Gx} (G : g.Ok) {A : Around} {k : Nat} (ar : Ar A (k + 1)) {s : Shared} (I : Inv g s) {c d : Addr} {vs : Array Value} {i : Int}
    (hc : (accK d vs).At s.heap c) (nc : g.n ≤ c) (hd : (acdK i).At s.heap d) (nd : g.n ≤ d) (hcd : c ≠ d) (hz : vs.size < 500)
    {Q E : Value → Shared → Prop} (h : ∀ s', Inv g s' → Ext [c, d] s.heap s'.heap → (accK d #[]).At s'.heap c → (acdK 0).At s'.heap d → Q .none s') :
    wpAny (model PR g.w) A (call (.ref 160) [.ref c]) Q E s := by
  refine' r_call G [c, d] [(c, accK d vs), (d, acdK i)] [("self", .ref c), ("startval", .none)] I ar ?ho ?hnt ?hcd ?hct ?hbd ?hc ?hlc ?hh ?nd ?_ ?c1 ?c2 ?c3
  ((case ho => rfl); (case hnt => decide); (case hcd => rfl); (case hct => decide); (case hc => decide); (case hlc => exact locs rfl); (case c1 => rfl); (case c2 => rfl); (case c3 => rfl))
  case hbd => exact BindsTo.of_defaults rfl (I.at G (by rfl) (by decide)) rfl rfl rfl
  case hh => simp; exact ⟨⟨hc, nc⟩, hd, nd⟩
  case nd => simp; exact hcd
  intro s₁ S ar' hg
  refine gA ar' fun A' ar0 => ?_; replace ar' := ar0
  refine let env0 : Env := _; idE env0 ?_
  (refine let fx0 : Fx := _; let ls0 : List (Str × Value) := _; have S0x : St fx0 ls0 _ _ := S; ?_); clear S; have S := S0x; clear S0x
  (refine opq ?_; intro Q0 c0)
  refine noE ?_
  refine wpAny_execs_cons ?_
  (refine opq ?_; intro Q1 c1)
  refine wpAny_If ?_
  (refine opq ?_; intro Q2 c2)
  refine wpAny_isTrue_Compare1 ?_
  refine' r_local (by assumption) ?hv ?_; (case hv => rfl)
  refine wpAny_Constant_none ?_
  refine wpAny_mono (Q := fun v s' => v = .bool true ∧ s' = s₁) (wpAny_of_eq (a := .bool true) (by rfl) ⟨rfl, rfl⟩) ?_ (fun _ _ x => x)
  rintro v s₂ ⟨rfl, rfl⟩
  refine wpAny_truthy_bool ?_
  refine c2 _ _ ?_
  rw [if_pos rfl]
  refine wpAny_execs_cons ?_
  (refine opq ?_; intro Q3 c3)
  refine wpAny_Assign_Name ?_
  (refine opq ?_; intro Q4 c4)
  refine r_List ?_
  (refine opq ?_; intro Q5 c5)
  refine wpAny_items_nil ?_
  refine c5 _ _ ?_
  refine' r_dispS (by assumption) ?sv (Nat.le_of_ble_eq_true rfl) ?_; (case sv => (repeat (first | exact StrsAre.nil | apply StrsAre.cons))); intro _ _ _ _
  refine c4 _ _ ?_
  refine' r_storeName (by assumption) ?_; intro _ _
  refine c3 _ _ ?_
  refine wpAny_execs_nil ?_
  refine c1 _ _ ?_
  refine wpAny_execs_cons ?_
  (refine opq ?_; intro Q6 c6)
  refine wpAny_Assign_Subscript ?_
  refine' r_local (by assumption) ?hv ?_; (case hv => rfl)
  refine' r_local (by assumption) ?hv ?_; (case hv => rfl)
  (refine opq ?_; intro Q7 c7)
  refine r_Slice ?_
  (refine opq ?_; intro Q8 c8)
  refine r_partN ?_
  refine c8 _ _ ?_
  (refine opq ?_; intro Q9 c9)
  refine r_partN ?_
  refine c9 _ _ ?_
  refine' r_slnext (by assumption) ?_; intro _ _ _
  refine c7 _ _ ?_
  rename_i e₀ _ _ _ _ _ b₁ s₃ S₃
  obtain ⟨us, n, hol, hv⟩ := S₃.get (a := e₀) (o := .sl []) (by exact mA 1 rfl)
  have hus : us = #[] := by
    have := sa_size hv
    simpa using this
  subst hus
  have S₄ : St ⟨g, s.heap, [c, d], s.heap.objs.size⟩ [("self", .ref c)] [(c, accK d vs), (b₁, .obj (slObj .none .none)), (e₀, .sl []), (d, acdK i)] s₃ := by
    exact (by exact S₃.pick 1000 [2, 0, 1, 3])
  refine acc_sliceS S₄ (.inl (mA 0 rfl)) (mA 0 rfl) (mA 1 rfl) hol .none (bd_all _) (Nat.zero_le _) (by simp; omega) ?_
  intro s₅ S₅
  have e0 : vs.extract 0 0 ++ #[] = #[] := by simp
  rw [e0] at S₅
  refine c6 _ _ ?_
  refine wpAny_execs_cons ?_
  (refine opq ?_; intro Q10 c10)
  refine plainObj_wpAny_Assign_Attribute ?_
  refine' r_int (by assumption) ?_; intro _ _ _
  refine' r_local (by assumption) ?hv ?_; (case hv => rfl)
  rename_i t s₆ S₆
  have S₇ : St ⟨g, s.heap, [c, d], s.heap.objs.size⟩ [("self", .ref c)] [(d, acdK i), (c, accK d #[])] s₆ := by
    exact (by exact S₆.pick 1000 [3, 0])
  refine r_initialS S₇ (mA 0 rfl) (.inl (mA 1 rfl)) ?_
  intro s₈ S₈
  refine c10 _ _ ?_
  refine wpAny_execs_nil ?_
  refine c0 _ _ ?_
  exact h _ S₈.inv S₈.ext (S₈.get (mA 1 rfl)) (S₈.get (mA 0 rfl))
end TH16
section TF22
open Builtin Builtin.ObjectAttr
theorem args_sum2 (a b : Value) : argsOk "sum" ⟨[a, b], []⟩ := by unfold argsOk; kernel_rfl
section
variable {prog : Program} {w : World} {A : Around} {E : Value → Shared → Prop} {s : Shared} {I : Addr} {fp wr : List Addr} {G : Array GenState → Array GenState → Prop} {n : Nat} {P : Nat → Value → Prop} {St' : Nat → Shared → Prop}
theorem shiftW (W : WalksS prog w A I fp wr G n P St') : WalksS prog w A I fp wr G (n + 1) (fun j v => ∃ k, j = k + 1 ∧ P k v) (fun j s => ∃ k, j = k + 1 ∧ St' k s) where
  sub := W.sub
  grefl := W.grefl
  gtrans := W.gtrans
  frame := fun i s h' tk ⟨k, e, st⟩ ht hk => ⟨k, e, W.frame k s h' tk st ht hk⟩
  item := fun i s Q E hi ⟨k, e, st⟩ hQ => W.item k s Q E (by omega) st fun v s' hp st' hm => hQ v s' ⟨k, e, hp⟩ ⟨k + 1, by omega, st'⟩ hm
  done := fun s Q E ⟨k, e, st⟩ hQ => W.done s Q E ((show k = n by omega) ▸ st) hQ
  self := fun i s Q E ⟨k, e, st⟩ hQ => W.self k s Q E st hQ
def shV (i0 : Int) (val : Nat → Int) : Nat → Int
  | 0 => i0
  | j + 1 => val j
theorem preSum_sh (i0 : Int) (val : Nat → Int) : ∀ n, preSum (shV i0 val) (n + 1) = i0 + preSum val n
  | 0 => by simp [preSum, shV]
  | n + 1 => by rw [preSum, preSum_sh i0 val n, preSum]; simp only [shV]; omega
theorem sum_tail {a : Addr} {i : Int} {val : Nat → Int} {Q : Value → Shared → Prop} (W : WalksS prog w A.in1 a fp wr G n P St') (hst : St' 0 s) (hfp : ∀ b ∈ fp, b < s.heap.objs.size) (hval : ∀ i v, P i v → ∃ t, v = .int (val i) t)
    (hQ : ∀ s' t', Moved wr G s s' → Q (.int (i + preSum val n) t') s') (tk : Tok) (k : Nat) (stg : Int) (hstg : stg = 0 ∨ stg = 2) (hk : s.toks ≤ k) :
    wpAny (model prog w) A.in1 (do
      for (ty, what, hint) in [("str", "strings", "''"), ("bytes", "bytes", "b''"), ("bytearray", "bytearray", "b''")] do
        if ← isInstance (Value.int i tk) (.type ty) then
          rule "sum.start-refused"; raiseError "TypeError" s!"sum() can't sum {what} [use {hint}.join(seq) instead]"
      again (.builtin "sum.loop" ⟨[.ref a, ← newList [Value.int i tk], rawInt stg, rawInt 0], []⟩))
    (fun fin s' => match fin with
      | .done f => (match (Except.ok f : Result) with | .ok (.ret v) => Q v s' | .ok _ => False | .error e => E e s')
      | .again c' => c'.quiet = true ∧ codeAny (model prog w) A c' (fun r s' => match r with | .ok (.ret v) => Q v s' | .ok _ => False | .error e => E e s') s') E { s with toks := k } := by
  simp only [List.forIn_cons, List.forIn_nil]
  refine wpAny_bind (wpAny_bind (wpAny_bind (wpAny_isInstance (T := "int") (b := false) (typeIs_int _ _ _) PySem.sub_int_str ?_)))
  simp only [Bool.false_eq_true, if_false]
  refine wpAny_pure (wpAny_bind (wpAny_bind (wpAny_isInstance (T := "int") (b := false) (typeIs_int _ _ _) PySem.sub_int_bytes ?_)))
  simp only [Bool.false_eq_true, if_false]
  refine wpAny_pure (wpAny_bind (wpAny_bind (wpAny_isInstance (T := "int") (b := false) (typeIs_int _ _ _) PySem.sub_int_bytearray ?_)))
  simp only [Bool.false_eq_true, if_false]
  refine wpAny_pure (wpAny_pure ?_)
  refine wpAny_bind (wpAny_newObj_type ?_)
  have hSf : s.heap.objs.size ∉ fp := fun hm => Nat.lt_irrefl _ (hfp _ hm)
  refine wpAny_pure ⟨plainId_quiet F.plain_sum_loop _, codeAny_sum_loopAnyS (shiftW W) (shV i val) ?_ s.heap.objs.size hSf n 1 _ tk 0 stg hstg (by omega) (by omega)
    ⟨0, rfl, W.frame 0 s _ _ hst hk fun b _ o e => Heap.get?_push_of_some _ e⟩ ?_ ?_⟩
  · rintro j v ⟨m, rfl, hp⟩
    exact hval m v hp
  · show (s.heap.push _).get? _ = _
    rw [preSum_sh]
    simp only [preSum, Int.add_zero]
    exact Heap.get?_push_size _ rfl
  · intro s' t' hm
    rw [preSum_sh]
    exact hQ s' t' (hm.drop_new hk)
theorem call_sum2 {a : Addr} {i : Int} {t : Tok} {val : Nat → Int} {Q : Value → Shared → Prop} (W : WalksS prog w A.in1 a fp wr G n P St') (hst : St' 0 s) (hfp : ∀ b ∈ fp, b < s.heap.objs.size) (hval : ∀ i v, P i v → ∃ t, v = .int (val i) t)
    (hQ : ∀ s' t', Moved wr G s s' → Q (.int (i + preSum val n) t') s') : wpAny (model prog w) A (call (.builtin "sum") [.ref a, .int i t]) Q E s := by
  refine call_function_tree F.kind_sum F.plain_sum F.entry_sum (args_sum2 _ _) ?_
  unfold Builtin.«sum»
  simp only [List.length_cons, List.length_nil]
  rw [if_neg (by decide)]
  refine wpAny_bind (wpAny_of_eq (show Builtin.Builtins.bindParams "sum" ["start"] 0 ⟨[.int i t], []⟩ = pure [some (.int i t)] from rfl) ?_)
  refine wpAny_bind (W.self 0 s _ _ hst ?_)
  dsimp only
  split
  · refine wpAny_bind (wpAny_rule (wpAny_bind (wpAny_mkInt (wpAny_bind (wpAny_pure ?_)))))
    exact sum_tail W hst hfp hval hQ _ _ _ (.inl rfl) (Nat.le_succ _)
  · refine wpAny_bind (wpAny_pure ?_)
    exact sum_tail W hst hfp hval hQ _ _ _ (.inr rfl) (Nat.le_refl _)
end
section
variable {prog : Program} {w : World} {f : Fx} {A : Around} {E : Value → Shared → Prop} {s : Shared} {ls : List (Str × Value)} {hs : List (Addr × Kd)}
theorem r_sumGen {a : Addr} {n : Nat} {Fv : Nat → Value → Prop} {val : Nat → Int} {i : Int} {t : Tok} {Q : Value → Shared → Prop} (S : St f ls hs s) (X : GenX prog w A f hs a n Fv s) (hval : ∀ i v, Fv i v → ∃ t, v = .int (val i) t)
    (h : ∀ t' s', St f ls hs s' → Q (.int (i + preSum val n) t') s') : wpAny (model prog w) A (call (.builtin "sum") [.ref a, .int i t]) Q E s := by
  obtain ⟨fp, wr, g, St', W, h0, hT, ha, hfp, hw⟩ := X
  exact call_sum2 W.in4_1 h0 hfp hval fun s' t' hm => h t' s' (S.moved hm hw)
theorem r_joinGen {a : Addr} {n : Nat} {Fv : Nat → Value → Prop} {tx : Nat → Str} {x : Str} {t : Tok} {Q : Value → Shared → Prop} (S : St f ls hs s) (X : GenX prog w A f hs a n Fv s) (htx : ∀ i v, Fv i v → ∃ t, v = .str (tx i) t) (hok : JoinOk x ((List.range n).map tx) = true) (hn : n ≤ 1000)
    (h : ∀ t' s', St f ls hs s' → Q (.str (Txt.join x ((List.range n).map tx)) t') s') : wpAny (model prog w) A (call (.builtin "str.join") [.str x t, .ref a]) Q E s := by
  obtain ⟨fp, wr, g, St', W, h0, hT, ha, hfp, hw⟩ := X
  have W := W.in4_2
  refine SC.joinGen W hT h0 hfp ha (fun j v hv => let ⟨u, e⟩ := htx j v hv; ⟨_, u, e⟩) (fun s' lt hm hacc => ?_) (by rw [sizeLine_eq]; omega)
  have hl : lt.map (·.1) = (List.range n).map tx := by
    apply List.ext_getElem?
    intro j
    have hsz : lt.length = n := by simpa [strValues] using hacc.1
    by_cases hj : j < n
    · have hj' : j < lt.length := hsz ▸ hj
      obtain ⟨u, hv⟩ := htx j _ (hacc.2 j (.str lt[j].1 lt[j].2) (by simp [strValues, List.getElem?_eq_getElem hj']))
      injection hv with h1 _
      simp [List.getElem?_eq_getElem hj', hj, h1]
    · rw [List.getElem?_eq_none (by simpa [hsz] using Nat.le_of_not_lt hj), List.getElem?_eq_none (by simpa using Nat.le_of_not_lt hj)]
  rw [hl]
  exact ⟨hok, fun t' k => h t' _ ((S.moved hm hw).tok k)⟩
end
end TF22
section TH17
def plen (ps : List (Str × Str)) : Int := preSum (fun j => (((ps[j]?.map fun p => p.1.length + p.2.length).getD 0 : Nat) : Int)) ps.length
theorem elt_len {g : Gx} (G : g.Ok) {prog : Program} {w : World} {A' : Around} {E' : Value → Shared → Prop} {env : Env} {x y : Str} {t u : Tok} {L : Addr} {s₂ : Shared} {m₂ : Str → Option Value} {p0 p1 p2 p3 p4 p5 p6 : Pos}
    (hx : x.length < 1000) (hy : y.length < 1000) (hn : s₂.heap.Ns L m₂) (h1 : m₂ (Str.ofString "fws") = some (.str x t)) (h2 : m₂ (Str.ofString "part") = some (.str y u)) (hg : Gl g s₂.heap)
    (hL : env.locals = L) (hk : env.scope.kind = .function) (k1 : env.kindOf (Str.ofString "fws") = some .local) (k2 : env.kindOf (Str.ofString "part") = some .local) (k3 : env.kindOf (Str.ofString "len") = some .globalImplicit)
    (eg : env.globals = mainGlobals) (eb : env.builtins = builtinsNs) :
    wpAny (model prog w) A' (eval (.BinOp (.Call (.Name (Str.ofString "len") p1) [.Name (Str.ofString "fws") p2] [] p3) .Add (.Call (.Name (Str.ofString "len") p4) [.Name (Str.ofString "part") p5] [] p6) p0) env)
      (fun v s₃ => (∃ t, v = .int ((x.length + y.length : Nat) : Int) t) ∧ Keeps s₂ s₃) E' s₂ := by
  have lenN : ∀ (p : Pos) (h : Heap) (s : Shared) (Q : Value → Shared → Prop), s.heap = s₂.heap → Q (.builtin "len") s → wpAny (model prog w) A' (eval (.Name (Str.ofString "len") p) env) Q E' s := fun p h s Q e q => by
    have b1 : bootBuiltins (Str.ofString "len") = some (.builtin "len") := by boot_by_name
    refine Name_function_global hk k3 (loadGlobal_builtin (by rw [eg, e]; exact hg.1) (mg_none_of G.kx G.gl (by rfl)) (by rw [eb, e]; exact hg.2) ((G.bb _ (by decide)).trans b1) q)
  refine wpAny_BinOp ?_
  refine r_Call (lenN _ s₂.heap _ _ rfl ?_)
  refine PyProof.Rows.callWith_builtin1 ?_
  refine wpAny_items_cons ?_
  refine wpAny_Name (wpAny_loadName_local hk k1 (by rw [hL]; exact hn) h1 ?_) (by decide)
  refine wpAny_items_nil ?_
  refine len_str (by omega) ?_
  refine r_Call (lenN _ s₂.heap _ _ rfl ?_)
  refine PyProof.Rows.callWith_builtin1 ?_
  refine wpAny_items_cons ?_
  refine wpAny_Name (wpAny_loadName_local hk k2 (by rw [hL]; exact hn) h2 ?_) (by decide)
  refine wpAny_items_nil ?_
  refine len_str (by omega) ?_
  refine P.add_int ?_
  exact ⟨⟨_, by rw [Int.natCast_add]⟩, _, _, rfl, fun _ _ e => e⟩
theorem r_initialX {prog : Program} {w : World} {f : Fx} {A : Around} {E : Value → Shared → Prop} {s : Shared} {ls : List (Str × Value)} {hs : List (Addr × Kd)} {c d : Addr} {vs : Array Value} {i : Int} {expr : Bool} {Q : Value → Shared → Prop} (S : St f ls hs s) (hc : (c, accK d vs) ∈ hs) (hd : (d, acdK i) ∈ hs) (h : ∀ t s', St f ls hs s' → s' = { s with toks := s.toks + 1 } → Q (.int i t) s') :
    wpAny (model prog w) A (getAttr (.ref c) "_initial_size" expr) Q E s := by
  obtain ⟨n, sl, hsh, k, t, n', I⟩ := acc_inst S hc hd
  exact getL_value (S.inv.k2 S.ok) I (by rfl) (by rfl) (by rfl) (by rfl) rfl (h t _ (S.tok _) rfl)
theorem len_spec {g : Gx} (G : g.Ok) {A : Around} {k : Nat} (ar : Ar A (k + 1)) {s : Shared} (I : Inv g s) {c d : Addr} {vs : Array Value} {i : Int} {ps : List (Str × Str)} {hs0 : List (Addr × Kd)}
    (hh : ∀ p ∈ hs0, p.2.At s.heap p.1 ∧ g.n ≤ p.1) (nd : (hs0.map (·.1)).Nodup) (m1 : (c, accK d vs) ∈ hs0) (m2 : (d, acdK i) ∈ hs0) (hp : PartsIn hs0 vs.toList ps) (hl : ∀ p ∈ ps, p.1.length < 1000 ∧ p.2.length < 1000)
    {Q E : Value → Shared → Prop} (h : ∀ t s', Inv g s' → Ext [] s.heap s'.heap → Q (.int (i + plen ps) t) s') :
    wpAny (model PR g.w) A (call (.ref 145) [.ref c]) Q E s := by
  refine' r_call G [] hs0 [("self", .ref c)] I ar ?ho ?hnt ?hcd ?hct ?hbd ?hc ?hlc ?hh ?nd ?_ ?c1 ?c2 ?c3
  ((case ho => rfl); (case hnt => decide); (case hcd => rfl); (case hct => decide); (case hbd => exact BindsTo.of_eq rfl); (case hc => decide); (case hlc => exact locs rfl); (case c1 => rfl); (case c2 => rfl); (case c3 => rfl))
  case hh => exact hh
  case nd => exact nd
  intro s₁ S ar' hg
  refine gA ar' fun A' ar0 => ?_; replace ar' := ar0
  refine let env0 : Env := _; idE env0 ?_
  (refine let fx1 : Fx := _; let ls1 : List (Str × Value) := _; have S1x : St fx1 ls1 _ _ := S; ?_); clear S; have S := S1x; clear S1x
  (refine opq ?_; intro Q0 c0)
  refine noE ?_
  refine wpAny_execs_cons ?_
  (refine opq ?_; intro Q1 c1)
  refine wpAny_Return_some ?_
  (refine opq ?_; intro Q2 c2)
  refine r_Call ?_
  refine' r_boot (by assumption) ?hv ?hw ?_; (case hv => rfl); (case hw => boot_by_name)
  refine PyProof.Rows.callWith_builtin1 ?_
  (refine opq ?_; intro Q3 c3)
  refine wpAny_items_cons ?_
  (refine opq ?_; intro Q4 c4)
  refine' r_genexp (cc := 144) (P := 140) (Fv := fun p y => ∃ t, y = .int ((p.1.length + p.2.length : Nat) : Int) t) S ar' (by rfl) m1 hp (by rfl) (.inl ⟨rfl, rfl⟩)
    (fun A' E' p t u L code s₂ m₂ hh hpm hn h1 h2 hgl => elt_len G (hl p hpm).1 (hl p hpm).2 hn h1 h2 hgl rfl rfl rfl rfl rfl rfl rfl) ?_
  intro a s₂ S₂ X₂
  refine c4 _ _ ?_
  (refine opq ?_; intro Q5 c5)
  refine wpAny_items_cons ?_
  (refine opq ?_; intro Q6 c6)
  refine Attribute_name ?_
  refine' r_local (by assumption) ?hv ?_; (case hv => rfl)
  refine r_initialX S₂ m1 m2 ?_
  intro t s₃ S₃ e₃
  have X₃ : GenX PR g.w A' ⟨g, s.heap, [], s.heap.objs.size⟩ hs0 a ps.length (fun j y => ∃ hj : j < ps.length, ∃ t, y = .int ((ps[j].1.length + ps[j].2.length : Nat) : Int) t) s₃ := e₃ ▸ X₂.tok (Nat.le_succ _)
  refine c6 _ _ ?_
  (refine opq ?_; intro Q7 c7)
  refine wpAny_items_nil ?_
  refine c7 _ _ ?_
  refine c5 _ _ ?_
  refine c3 _ _ ?_
  refine r_sumGen (val := fun j => (((ps[j]?.map fun p => p.1.length + p.2.length).getD 0 : Nat) : Int)) S₃ X₃ ?_ ?_
  · rintro j v ⟨hj, t, rfl⟩
    exact ⟨t, by simp [List.getElem?_eq_getElem hj]⟩
  intro t' s₄ S₄
  refine c2 _ _ ?_
  refine c1 _ _ ?_
  refine c0 _ _ ?_
  exact h _ _ S₄.inv S₄.ext
end TH17
section TH18
def pcat (p : Str × Str) : Str := p.1 ++ p.2
def pstr (ps : List (Str × Str)) : Str := Txt.join em (ps.map pcat)
theorem join_two (x y : Str) : Txt.join em [x, y] = x ++ y := by
  unfold Txt.join
  rw [StrLaws.glued_eq_join]
  show x ++ em ++ y = x ++ y
  congr 1
theorem str_spec {g : Gx} (G : g.Ok) {A : Around} {k : Nat} (ar : Ar A (k + 1)) {s : Shared} (I : Inv g s) {c d : Addr} {vs : Array Value} {i : Int} {ps : List (Str × Str)} {hs0 : List (Addr × Kd)}
    (hh : ∀ p ∈ hs0, p.2.At s.heap p.1 ∧ g.n ≤ p.1) (nd : (hs0.map (·.1)).Nodup) (m1 : (c, accK d vs) ∈ hs0) (hp : PartsIn hs0 vs.toList ps) (hl : ∀ p ∈ ps, p.1.length < 1000 ∧ p.2.length < 1000) (hz : ps.length < 500)
    {Q E : Value → Shared → Prop} (h : ∀ t s', Inv g s' → Ext [] s.heap s'.heap → Q (.str (pstr ps) t) s') :
    wpAny (model PR g.w) A (call (.ref 152) [.ref c]) Q E s := by
  refine' r_call G [] hs0 [("self", .ref c)] I ar ?ho ?hnt ?hcd ?hct ?hbd ?hc ?hlc ?hh ?nd ?_ ?c1 ?c2 ?c3
  ((case ho => rfl); (case hnt => decide); (case hcd => rfl); (case hct => decide); (case hbd => exact BindsTo.of_eq rfl); (case hc => decide); (case hlc => exact locs rfl); (case c1 => rfl); (case c2 => rfl); (case c3 => rfl))
  case hh => exact hh
  case nd => exact nd
  intro s₁ S ar' hg
  refine gA ar' fun A' ar0 => ?_; replace ar' := ar0
  refine let env0 : Env := _; idE env0 ?_
  (refine let fx1 : Fx := _; let ls1 : List (Str × Value) := _; have S1x : St fx1 ls1 _ _ := S; ?_); clear S; have S := S1x; clear S1x
  (refine opq ?_; intro Q0 c0)
  refine noE ?_
  refine wpAny_execs_cons ?_
  (refine opq ?_; intro Q1 c1)
  refine wpAny_Return_some ?_
  (refine opq ?_; intro Q2 c2)
  refine MethodCall_ ?_
  refine' r_glob (by assumption) ?hv ?_; (case hv => rfl)
  refine GM.join ?_
  refine callWith_method1 ?_
  (refine opq ?_; intro Q3 c3)
  refine wpAny_items_cons ?_
  (refine opq ?_; intro Q4 c4)
  refine' r_genexp (cc := 151) (P := 147) (Fv := fun p y => ∃ t, y = .str (p.1 ++ p.2) t) S ar' (by rfl) m1 hp (by rfl) (.inr ⟨rfl, rfl⟩)
    ?helt ?_
  case helt =>
    intro A' E' p t u L code s₂ m₂ hh hpm hn h1 h2 hgl
    obtain ⟨te, he⟩ : ∃ te, nsIn (KF g.w) mainGlobals (Str.ofString "EMPTYSTRING") = some (some (.str em te)) := ⟨_, by rfl⟩
    refine MethodCall_ ?_
    refine Name_function_global rfl rfl (loadGlobal_global hgl.1 (mg_of G.kx G.gl he) ?_) (by decide)
    refine GM.join ?_
    refine callWith_method1 ?_
    refine wpAny_items_cons ?_
    refine r_Tuple ?_
    refine wpAny_items_cons ?_
    refine wpAny_Name (wpAny_loadName_local rfl rfl hn h1 ?_) (by decide)
    refine wpAny_items_cons ?_
    refine wpAny_Name (wpAny_loadName_local rfl rfl hn h2 ?_) (by decide)
    refine wpAny_items_nil ?_
    refine ⟨by rw [sizeLine_eq]; simp, ?_⟩
    refine wpAny_items_nil ?_
    refine join_tupleW (ys := [p.1, p.2]) ⟨_, Heap.get?_push_size _ rfl, rfl, _, rfl⟩ (.cons _ _ (.cons _ _ .nil)) (by decide) (by have := hl p hpm; simp; omega) ?_
    intro t' k'
    rw [join_two]
    exact ⟨⟨_, rfl⟩, _, _, rfl, fun _ _ e => Heap.get?_push_of_some _ e⟩
  intro a s₂ S₂ X₂
  refine c4 _ _ ?_
  (refine opq ?_; intro Q5 c5)
  refine wpAny_items_nil ?_
  refine c5 _ _ ?_
  refine c3 _ _ ?_
  have hB : ∀ y ∈ ps.map pcat, y.length ≤ 2000 := fun y hy => by
    obtain ⟨p, hp', rfl⟩ := List.mem_map.mp hy
    have := hl p hp'
    have e : (pcat p).length = p.1.length + p.2.length := str_len_append p.1 p.2
    omega
  have hmap : (List.range ps.length).map (fun j => ((ps[j]?).map pcat).getD em) = ps.map pcat := by
    apply List.ext_getElem?
    intro j
    by_cases hj : j < ps.length
    · simp [hj, List.getElem?_eq_getElem hj]
    · simp [List.getElem?_eq_none (Nat.le_of_not_lt hj), Nat.le_of_not_lt hj]
  refine r_joinGen (tx := fun j => ((ps[j]?).map pcat).getD em) S₂ X₂ ?_ ?_ (by omega) ?_
  · rintro j v ⟨hj, t, rfl⟩
    exact ⟨t, by simp [List.getElem?_eq_getElem hj, pcat]⟩
  · rw [hmap]
    unfold JoinOk
    rw [Bool.not_eq_true']
    refine StrLaws.joinFits hB ?_
    simp
    have : (Str.ofString "").length = 0 := rfl
    rw [this]
    omega
  intro t' s₃ S₃
  rw [hmap]
  refine c2 _ _ ?_
  refine c1 _ _ ?_
  refine c0 _ _ ?_
  exact h _ _ S₃.inv S₃.ext
end TH18
section TF23
open Builtin Builtin.ObjectAttr
theorem Ar.in1 {A : Around} {k : Nat} (a : Ar A (k + 1)) : Ar A.in1 k := ⟨a.hand, by have := a.dep; show A.depth + k ≤ 400; omega, by have := a.uni; show A.units + 1 + 50 * k ≤ 5000; omega⟩
section
variable {f : Fx} {A : Around} {E : Value → Shared → Prop} {s : Shared} {ls : List (Str × Value)} {hs : List (Addr × Kd)} {c d : Addr} {vs : Array Value} {i : Int} {ps : List (Str × Str)} {k : Nat}
theorem St.given (S : St f ls hs s) : ∀ p ∈ hs, p.2.At s.heap p.1 ∧ f.g.n ≤ p.1 := fun p hp => ⟨(S.has p hp).1, (S.has p hp).2.1⟩
theorem acc_lenBody (ar : Ar A (k + 1)) (S : St f ls hs s) (hc : (c, accK d vs) ∈ hs) (hd : (d, acdK i) ∈ hs) (hp : PartsIn hs vs.toList ps) (hl : ∀ p ∈ ps, p.1.length < 1000 ∧ p.2.length < 1000) (h0 : 0 ≤ i + plen ps) (h1 : i + plen ps < 2 ^ 60)
    {Q : Fin → Shared → Prop} (h : ∀ t s', St f ls hs s' → Q (.done (.ret (.int (i + plen ps) t))) s') : wpAny (model PR f.g.w) A (Builtin.«len» ⟨[.ref c], []⟩) Q E s := by
  unfold Builtin.«len»
  refine wpAny_bind (m := oneArg "len" _) (wpAny_pure ?_)
  obtain ⟨n, sl, hsh, kk, t, n', I⟩ := acc_inst S hc hd
  refine wpAny_bind (m := callSpecial? (.ref c) (Str.ofString "__len__")) (special_fn (S.inv.k2 S.ok) I (by rfl) (by rfl) (len_spec S.ok ar S.inv S.given S.nd hc hd hp hl fun t s' I' E' => ?_))
  have S' := S.stay I' E'
  refine wpAny_bind (wpAny_holding (wpAny_pure ?_))
  refine wpAny_bind (wpAny_letGo ?_)
  show wpAny _ _ (if i + plen ps < 0 then _ else _) _ _ _
  rw [if_neg (by omega)]
  show wpAny _ _ (if i + plen ps ≥ 2 ^ 63 then _ else _) _ _ _
  rw [if_neg (by omega)]
  exact wpAny_bind (wpAny_mkInt (wpAny_pure (h _ _ (S'.tok _))))
theorem r_accLen (ar : Ar A (k + 2)) (S : St f ls hs s) (hc : (c, accK d vs) ∈ hs) (hd : (d, acdK i) ∈ hs) (hp : PartsIn hs vs.toList ps) (hl : ∀ p ∈ ps, p.1.length < 1000 ∧ p.2.length < 1000) (h0 : 0 ≤ i + plen ps) (h1 : i + plen ps < 2 ^ 60)
    {Q : Value → Shared → Prop} (h : ∀ t s', St f ls hs s' → Q (.int (i + plen ps) t) s') : wpAny (model PR f.g.w) A (call (.builtin "len") [.ref c]) Q E s :=
  Calls.call_function_entry kind_len plain_len entry_len (args_len1 _) (acc_lenBody ar.in1 S hc hd hp hl h0 h1 fun t s' S' => ⟨_, rfl, h t s' S'⟩)
theorem r_accTruth (ar : Ar A (k + 2)) (S : St f ls hs s) (hc : (c, accK d vs) ∈ hs) (hd : (d, acdK i) ∈ hs) (hp : PartsIn hs vs.toList ps) (hl : ∀ p ∈ ps, p.1.length < 1000 ∧ p.2.length < 1000) (h0 : 0 ≤ i + plen ps) (h1 : i + plen ps < 2 ^ 60)
    {Q : Bool → Shared → Prop} (h : ∀ s', St f ls hs s' → Q (i + plen ps != 0) s') : wpAny (model PR f.g.w) A (truthy (.ref c)) Q E s := by
  obtain ⟨n, sl, hsh, kk, t, n', I⟩ := acc_inst S hc hd
  have X := S.inv.k2 S.ok
  unfold truthy
  refine wpAny_bind (m := callSpecial? (.ref c) (Str.ofString "__bool__")) (wpAny_bind (wpAny_bind (I.type.here ((looks_findIn X (r := none) (by rfl)).here (wpAny_pure ?_)))))
  refine wpAny_bind (wpAny_bind (I.type.here ((looks_findIn X (r := some (.ref 145)) (by rfl)).here ?_)))
  show wpAny _ _ (if (some (Value.ref 145)).isNone = true then _ else _) _ _ _
  rw [if_neg (by simp)]
  refine wpAny_bind (wpAny_runValue (codeAny_builtin entry_len ?_))
  rw [Around.under_plainId plain_len _]
  refine acc_lenBody ar.in1 S hc hd hp hl h0 h1 fun t s' S' => ?_
  exact wpAny_pure (h _ S')
theorem r_accStr (ar : Ar A (k + 3)) (S : St f ls hs s) (hc : (c, accK d vs) ∈ hs) (hd : (d, acdK i) ∈ hs) (hp : PartsIn hs vs.toList ps) (hl : ∀ p ∈ ps, p.1.length < 1000 ∧ p.2.length < 1000) (hz : ps.length < 500)
    {Q : Value → Shared → Prop} (h : ∀ t s', St f ls hs s' → Q (.str (pstr ps) t) s') : wpAny (model PR f.g.w) A (call (.type "str") [.ref c]) Q E s := by
  obtain ⟨n, sl, hsh, kk, t, n', I⟩ := acc_inst S hc hd
  refine kso_call (K := K2 f.g.w) (by have := ar.uni; show A.units + 1 + 1 < cLine; unfold cLine; omega) (S.inv.k2 S.ok) I (f := 152) (by rfl) (by rfl) (str_spec S.ok (k := k) (i := i) ?_ S.inv S.given S.nd hc hp hl hz fun t s' I' E' => h _ _ (S.stay I' E'))
  exact (ar.in1).in1
end
end TF23
section TH19
theorem is_onlyws_spec {g : Gx} (G : g.Ok) {A : Around} {k : Nat} (ar : Ar A (k + 4)) {s : Shared} (I : Inv g s) {c d : Addr} {vs : Array Value} {i : Int} {ps : List (Str × Str)} {hs0 : List (Addr × Kd)}
    (hh : ∀ p ∈ hs0, p.2.At s.heap p.1 ∧ g.n ≤ p.1) (nd : (hs0.map (·.1)).Nodup) (m1 : (c, accK d vs) ∈ hs0) (m2 : (d, acdK i) ∈ hs0) (hp : PartsIn hs0 vs.toList ps) (hl : ∀ p ∈ ps, p.1.length < 1000 ∧ p.2.length < 1000) (hz : ps.length < 500)
    (h0 : 0 < i + plen ps) (h1 : i + plen ps < 2 ^ 60) (hno : i ≠ 0 ∨ Txt.isspace (pstr ps) = false)
    {Q E : Value → Shared → Prop} (h : ∀ s', Inv g s' → Ext [] s.heap s'.heap → Q (.bool false) s') :
    wpAny (model PR g.w) A (call (.ref 167) [.ref c]) Q E s := by
  refine' r_call G [] hs0 [("self", .ref c)] I ar ?ho ?hnt ?hcd ?hct ?hbd ?hc ?hlc ?hh ?nd ?_ ?c1 ?c2 ?c3
  ((case ho => rfl); (case hnt => decide); (case hcd => rfl); (case hct => decide); (case hbd => exact BindsTo.of_eq rfl); (case hc => decide); (case hlc => exact locs rfl); (case c1 => rfl); (case c2 => rfl); (case c3 => rfl))
  case hh => exact hh
  case nd => exact nd
  intro s₁ S ar' hg
  refine gA ar' fun A' ar0 => ?_; replace ar' := ar0
  refine let env0 : Env := _; idE env0 ?_
  (refine let fx1 : Fx := _; let ls1 : List (Str × Value) := _; have S1x : St fx1 ls1 _ _ := S; ?_); clear S; have S := S1x; clear S1x
  (refine opq ?_; intro Q0 c0)
  refine noE ?_
  refine wpAny_execs_cons ?_
  (refine opq ?_; intro Q1 c1)
  refine wpAny_Return_some ?_
  (refine opq ?_; intro Q2 c2)
  refine BoolOp_and ?_
  (refine opq ?_; intro Q3 c3)
  refine wpAny_Compare1 ?_
  (refine opq ?_; intro Q4 c4)
  refine Attribute_name ?_
  refine' r_local (by assumption) ?hv ?_; (case hv => rfl)
  refine r_initialX S m1 m2 ?_
  intro t s₂ S₂ _
  refine c4 _ _ ?_
  refine' r_int (by assumption) ?_; intro _ _ _
  refine P.eq_int ?_
  refine c3 _ _ ?_
  refine wpAny_truthy_bool ?_
  by_cases hi : i = 0
  · rw [if_pos (by simpa using hi)]
    refine BoolOp_one ?_
    refine BoolOp_or ?_
    (refine opq ?_; intro Q5 c5)
    refine wpAny_UnaryOp ?_
    refine' r_local (by assumption) ?hv ?_; (case hv => rfl)
    refine not_of ?_
    rename_i s₃ S₃
    refine r_accTruth (k := k) (ar'.le (by omega)) S₃ m1 m2 hp hl (by omega) h1 ?_
    intro s₄ S₄
    have hne : (i + plen ps != 0) = true := by simp; omega
    rw [hne]
    refine c5 _ _ ?_
    refine wpAny_truthy_bool ?_
    rw [if_neg (by decide)]
    refine BoolOp_one ?_
    refine MethodCall_ ?_
    (refine opq ?_; intro Q6 c6)
    refine r_Call ?_
    refine' r_boot (by assumption) ?hv ?hw ?_; (case hv => rfl); (case hw => boot_by_name)
    refine Pv.callWith_type1 ?_
    (refine opq ?_; intro Q7 c7)
    refine wpAny_items_cons ?_
    refine' r_local (by assumption) ?hv ?_; (case hv => rfl)
    (refine opq ?_; intro Q8 c8)
    refine wpAny_items_nil ?_
    refine c8 _ _ ?_
    refine c7 _ _ ?_
    refine r_accStr (k := k) ar' S₄ m1 m2 hp hl hz ?_
    intro t₂ s₅ S₅
    refine c6 _ _ ?_
    refine GM.isspace ?_
    refine callWith_method0 ?_
    refine SC.isspace ?_
    have hsp : Txt.isspace (pstr ps) = false := hno.elim (fun q => absurd hi q) id
    refine c2 _ _ ?_
    refine c1 _ _ ?_
    refine c0 _ _ ?_
    show Q (.bool (Txt.isspace (pstr ps))) _
    rw [hsp]
    exact h _ S₅.inv S₅.ext
  · rw [if_neg (by simpa using hi)]
    have hb : (i == 0) = false := by simpa using hi
    refine c2 _ _ ?_
    refine c1 _ _ ?_
    refine c0 _ _ ?_
    show Q (.bool (i == 0)) _
    rw [hb]
    rename_i s₃ S₃
    exact h _ S₃.inv S₃.ext
end TH19
section TF24
open Builtin Builtin.ObjectAttr
set_option maxHeartbeats 4000000
theorem acc_row : Manifest.signature? "list.__new__" = some ⟨.any, "list", "list", .cls, [⟨"args", .varPos, false⟩, ⟨"kwargs", .varKw, false⟩]⟩ := by kernel_rfl
theorem acc_kind : builtinKind "list.__new__" = some .builtinFn := by decide +kernel
theorem acc_split : splitId "list.__new__" = some ("list", "__new__") := by decide +kernel
section
variable {prog : Program} {w wk : World} {A : Around} {R : Result → Shared → Prop} {h : Heap} {g : Array GenState} {d : Drawn} {t : Nat} {os : OsState}
theorem acc_cls {M : Model} (X : (K2 wk).In h) : ∃ ho, (K2 wk).lookup 178 = some ho ∧ Looks M h (Bind.madeBy (.ref 178)) (some "list.__new__") ∧ Looks M h (Bind.staticBase (.ref 178)) (.ref 178) := by
  have made : Looks M h (Bind.madeBy (.ref 178)) (some "list.__new__") := by
    intro A Q E s k q
    unfold Bind.madeBy
    have hm : Looks M h (mroOf (.ref 178)) [.ref 178, .type "list", .type "object"] := Looks.of_peek X (by rfl)
    refine wpAny_bind (hm A _ E s k ?_)
    rw [List.forIn_cons]
    refine wpAny_bind (wpAny_bind (wpAny_bind (wpAny_bind (wpAny_loadPart (k _ _ (X 178 _ (by rfl))) (wpAny_pure ?_)))))
    exact wpAny_pure (wpAny_pure (wpAny_pure q))
  refine ⟨_, by rfl, made, ?_⟩
  intro A Q E s k q
  unfold Bind.staticBase
  have hm : Looks M h (mroOf (.ref 178)) [.ref 178, .type "list", .type "object"] := Looks.of_peek X (by rfl)
  refine wpAny_bind (hm A _ E s k ?_)
  rw [List.forIn_cons]
  exact wpAny_bind (wpAny_bind (wpAny_bind (made A _ E s k (wpAny_pure (wpAny_pure (wpAny_pure q))))))
theorem new_acc {rest : List Value} (X : (K2 wk).In h) (hq : R (.ok (.ret (.ref (h.objs.size + 1)))) ⟨(h.push emptyDict).push (accO h.objs.size #[] 0 #[]), g, d, t, os⟩) :
    codeAny (model prog w) A (.call (.builtin "list.__new__") ⟨.ref 178 :: rest, []⟩) R ⟨h, g, d, t, os⟩ := by
  obtain ⟨_, _, made, base⟩ := acc_cls (M := model prog w) X
  have sub : Looks (model prog w) h (isSubtype (.ref 178) (.type "list")) true := looks_subIn X (by rfl)
  have h178 : h.get? 178 = some _ := X 178 _ (by rfl)
  refine codeAny_call_builtin_code (Code.quiet_builtin _ (by decide +kernel)) ?_
  simp only [checkBuiltinCall, acc_kind, acc_split, acc_row]
  have args : Bind.checkArgs "list.__new__" ⟨.any, "list", "list", .cls, [⟨"args", .varPos, false⟩, ⟨"kwargs", .varKw, false⟩]⟩ ⟨.ref 178 :: rest, []⟩ = pure () := by kernel_rfl
  rw [args]
  have ist : ∀ {A' : Around} {Q : Bool → Shared → Prop} {E : Value → Shared → Prop} {s : Shared}, (∀ b o, h.get? b = some o → s.heap.get? b = some o) → Q true s → wpAny (model prog w) A' (isType (.ref 178)) Q E s := fun k q => ks_wpAny_isType_cls (k _ _ h178) rfl q
  refine wpAny_bind (ist (fun _ _ e => e) ?_)
  rw [if_neg (by decide)]
  refine wpAny_bind (sub.at ?_)
  rw [if_neg (by decide)]
  refine wpAny_bind (base.at (wpAny_bind (made.at ?_)))
  dsimp only
  rw [if_neg (by simp)]
  refine wpAny_pure ?_
  refine codeAny_builtin_stack F.entry_list_new rfl fun p st => ?_
  rw [Around.under_plainId F.plain_list_new _]
  have hown := owner_list_new
  simp only [hown]
  refine wpAny_bind (ist (fun _ _ e => e) ?_)
  rw [if_neg (by decide)]
  refine wpAny_bind (sub.at ?_)
  rw [if_neg (by decide)]
  refine wpAny_bind (wpAny_pure ?_)
  rw [if_neg (by decide)]
  refine wpAny_bind ?_
  unfold newDict
  refine wpAny_newObj_type ?_ (by size_fits)
  dsimp only
  refine wpAny_bind ?_
  have h178' := Heap.get?_push_of_some (accO h.objs.size #[] 0 #[]) (Heap.get?_push_of_some emptyDict h178)
  simp only [newObj]
  rw [if_neg (by simp)]
  show wpAny _ _ (newObjAsIs _ _ _) _ _ _
  unfold newObjAsIs classHasDel
  refine wpAny_bind (wpAny_alloc (wpAny_bind (wpAny_bind (wpAny_load h178' (wpAny_pure ?_)))))
  refine wpAny_pure (wpAny_pure ?_)
  show R _ _
  have e : (h.push emptyDict).objs.size = h.objs.size + 1 := Heap.size_push ..
  show R (.ok (.ret (.ref (h.push emptyDict).objs.size))) _
  rw [e]
  exact hq
theorem make_any {C fI : Addr} {id : String} {rest : List Value} {o : Obj} {l : List Value} {E : Value → Shared → Prop} {Q : Value → Shared → Prop} (X : (K2 wk).In h) (hm : Looks (model prog w) h (mroOf (.ref C)) l) (hl : l.isEmpty = false) (made : Looks (model prog w) h (Bind.madeBy (.ref C)) (some id)) (hC : ∃ oc, h.get? C = some oc ∧ ∃ cd, oc.data = .cls cd)
    (call' : specialIn (K2 wk) (.ref C) "__call__" = some (some (.builtin "type.__call__"))) (typ' : instIn (K2 wk) (.ref C) (.type "type") = some true) (self' : subIn (K2 wk) (.ref C) (.ref C) = some true)
    (hi' : findIn (K2 wk) (.ref C) "__init__" = some (some (.ref fI))) (hf' : typeIn (K2 wk) (.ref fI) = some (.type "function")) (ho : o.cls = .ref C) (hof : o.isFreed = false)
    (new : ∀ (A' : Around) (R : Result → Shared → Prop), R (.ok (.ret (.ref (h.objs.size + 1)))) ⟨(h.push emptyDict).push o, g, d, t, os⟩ → codeAny (model prog w) A' (.call (.builtin id) ⟨.ref C :: rest, []⟩) R ⟨h, g, d, t, os⟩)
    (hq : wpAny (model prog w) (A.under (.builtin "type.__call__" ⟨.ref C :: rest, []⟩)) (PySem.call (.ref fI) (.ref (h.objs.size + 1) :: rest)) (fun v s' => v = .none ∧ Q (.ref (h.objs.size + 1)) s') E ⟨(h.push emptyDict).push o, g, d, t, os⟩) :
    wpAny (model prog w) A (PySem.call (.ref C) rest) Q E ⟨h, g, d, t, os⟩ := by
  obtain ⟨⟨occ, ocd, oda, osl⟩, hC, cd, hcd⟩ := hC
  dsimp only at hcd
  subst hcd
  have call : Looks (model prog w) h (specialOf (.ref C) "__call__") (some (.builtin "type.__call__")) := looks_specialIn X call'
  have typ : Looks (model prog w) h (isInstance (.ref C) (.type "type")) true := looks_instIn X typ'
  have self := looks_subIn (M := model prog w) X self'
  have hi := looks_findIn (M := model prog w) X hi'
  refine wpAny_call (codeAny_of_tree ?_)
  show wpAny _ _ (callAny (.ref C) _) _ _ _
  refine nd_load hC ?_
  show wpAny _ _ (callAny.viaDunder (.ref C) _) _ _ _
  unfold callAny.viaDunder
  refine wpAny_bind (call.at ?_)
  dsimp only
  rw [tc_bind]
  refine wpAny_bind (wpAny_pure (wpAny_bind (wpAny_pure ?_)))
  refine wpAny_pure (a := Fin.again (.call (.builtin "type.__call__") ⟨.ref C :: rest, []⟩)) (And.intro rfl ?_)
  refine codeAny_call_builtin_at (Code.quiet_builtin _ (by decide +kernel)) entry_typeCall (check_slot tc_kind tc_split typ (tc_args _ _ _) ?_)
  unfold Builtin.«type.__call__»
  repeat (first | simp only [hl, Bool.false_eq_true, if_false] | with_reducible refine wpAny_call ?_ | lk)
  refine new _ _ ?_
  have k : ∀ b o', h.get? b = some o' → ((h.push emptyDict).push o).get? b = some o' := fun b o' e => Heap.get?_push_of_some _ (Heap.get?_push_of_some _ e)
  have hx : ((h.push emptyDict).push o).get? (h.objs.size + 1) = some o := by
    have e : (h.push emptyDict).objs.size = h.objs.size + 1 := Heap.size_push ..
    rw [← e]; exact Heap.get?_push_size _ hof
  have t1 : Looks (model prog w) ((h.push emptyDict).push o) (typeOf (.ref (h.objs.size + 1))) (.ref C) := ho ▸ (Looks.ld hx).andThen .now
  have s1 := self.keeps k
  have i1 := hi.keeps k
  have b1 := (bind_fn (M := model prog w) X (.ref (h.objs.size + 1)) hf').keeps k
  unfold isInstance callSpecial? specialOf
  have hq' : wpAny (model prog w) (A.under (.builtin "type.__call__" ⟨.ref C :: rest, []⟩)) (PySem.call (.ref fI) ([.ref (h.objs.size + 1)] ++ rest)) (fun v s' => v = .none ∧ Q (.ref (h.objs.size + 1)) s') E ⟨(h.push emptyDict).push o, g, d, t, os⟩ := hq
  repeat (first | with_reducible refine wpAny_mono hq' (fun r s' z => ?_) (fun _ _ z => z) | lk)
  obtain ⟨rfl, z⟩ := z
  exact wpAny_pure z
end
end TF24
section TH20
theorem acc_init_spec {g : Gx} (G : g.Ok) {A : Around} {k : Nat} (ar : Ar A (k + 1)) {s : Shared} (I : Inv g s) {c d : Addr} {i : Int} {t : Tok}
    (hc : (accK d #[]).At s.heap c) (nc : g.n ≤ c) (hd : (Kd.obj emptyDict).At s.heap d) (nd : g.n ≤ d) (hcd : c ≠ d)
    {Q E : Value → Shared → Prop} (h : ∀ s', Inv g s' → Ext [c, d] s.heap s'.heap → (accK d #[]).At s'.heap c → (acdK i).At s'.heap d → Q .none s') :
    wpAny (model PR g.w) A (call (.ref 115) [.ref c, .int i t]) Q E s := by
  refine' r_callAt G [c, d] [(d, .obj emptyDict), (c, accK d #[])] [("self", .ref c), ("initial_size", .int i t)] I ar ?ho ?hnt ?hcd ?hct ?hbd ?hc ?hlc ?hh ?nd ?_ ?c1 ?c2 ?c3
  ((case ho => rfl); (case hnt => decide); (case hcd => rfl); (case hct => decide); (case hc => decide); (case hlc => exact locs rfl); (case c1 => rfl); (case c2 => rfl); (case c3 => rfl))
  case hbd => exact BindsTo.of_defaults rfl (I.at G (by rfl) (by decide)) rfl rfl rfl
  case hh => simp; exact ⟨⟨hd, nd⟩, hc, nc⟩
  case nd => simp; exact fun q => hcd q.symm
  intro s₁ S ar' hg
  refine ks_wpAt_execs_cons (wpAt_of_wpAny ?_)
  refine gA ar' fun A' ar0 => ?_; replace ar' := ar0
  refine plainObj_wpAny_Assign_Attribute ?_
  (refine let fx0 : Fx := _; let ls0 : List (Str × Value) := _; have S0x : St fx0 ls0 _ _ := S; ?_); clear S; have S := S0x; clear S0x
  refine noE ?_
  refine' r_local (by assumption) ?hv ?_; (case hv => rfl)
  refine noE ?_
  refine' r_local (by assumption) ?hv ?_; (case hv => rfl)
  refine noE ?_
  obtain ⟨_, ho, n, sl, rfl⟩ := S.get (mA 1 rfl)
  have hdx : s₁.heap.get? d = some emptyDict := S.get (mA 0 rfl)
  have X := S.inv.k2 S.ok
  have In : InstAt s₁.heap c (accO d #[] n sl) 178 (some emptyDict) := ⟨ho, rfl, rfl, hdx⟩
  refine setattr_core X In rfl (by rfl) (Looks.of_peek X (by rfl)) (by rfl) (by rw [refuseLoop_ref]; exact store_list.passes _) (by rfl) (by rfl) (by rfl) (es := [⟨_, .str "_initial_size" _, .int i t⟩]) (n := 1) (by rfl) (Nat.le_of_ble_eq_true rfl) (by rfl) ?_
  have S₂ : St ⟨g, s.heap, [c, d], s.heap.objs.size⟩ [("self", .ref c)] [(d, acdK i), (c, accK d #[])] { s₁ with heap := s₁.heap.update d (Obj.putName "_initial_size" (PyData.keyHash g.w.params "_initial_size") (.str "_initial_size" (s₁.toks + 1)) (.int i t)), toks := s₁.toks + 1 + 1 } := by
    refine (S.wl (by rfl)).upd (S.inv.upd G nd _ _) (Ext.upd ..) (.inl (mA 1 rfl)) ⟨_, Heap.get?_update_self _ hdx (by rfl), _, _, _, _, rfl⟩
  refine ks_wpAt_execs_cons ?_
  refine ks_wpAt_Expr_any (ks_wpAt_MethodCall ?_)
  refine' r_super (fa := 115) (cc := 114) S₂ (mA 1 rfl) ?hself ?hf ?hft ?hfd ?hp ?hco ?hcc ?hct2 ?hoc ?hvs ?hfile ?_ ?hcl ?hL ?hk ?hx ?hg ?hb ?hks ?hkc ?hat ?hfu
  ((case hf => rfl); (case hft => decide); (case hfd => rfl); (case hp => rfl); (case hself => rfl); (case hco => rfl); (case hcc => rfl); (case hct2 => decide); (case hoc => rfl); (case hvs => rfl); (case hfile => rfl); (case hcl => rfl); (case hL => rfl); (case hk => rfl); (case hx => rfl); (case hg => rfl); (case hb => rfl); (case hks => rfl); (case hkc => rfl); (case hat => decide); (case hfu => rfl))
  intro so s₃ nso S₃
  refine r_superM (bt := "method-wrapper") (id := "list.__init__") S₃ (mA 0 rfl) (mA 2 rfl) (by rfl) (by decide) wd_slot wd_entry wd_args (by kernel_rfl) (fun ox h g d t os A Q E h1 h2 h3 hq => wd_get own_init h1 h2 h3 hq) ?_
  intro b s₄ nb S₄
  refine r_cwB0 S₄ (mA 0 rfl) (.inl rfl) ?_
  refine call_boundB (S₄.get (mA 0 rfl)) (.inl rfl) (fun Q' q => ?_) (by decide +kernel) ?_
  · exact wpAny_of_eq (a := ()) (by kernel_rfl) q
  · obtain ⟨_, hco, n, sl, rfl⟩ := S₄.get (mA 3 rfl)
    refine codeAny_builtin F.entry_list_init ?_
    have S₅ : St ⟨g, s.heap, [c, d], s.heap.objs.size⟩ [("self", .ref c)] [(c, accK d #[]), (d, acdK i)] s₄ := (by exact S₄.pick 1000 [3, 2])
    have S₆ := S₅.accSet (.inl (mA 0 rfl)) (fun _ => #[]) s₄.toks
    unfold Builtin.«list.__init__»
    dsimp only
    rw [if_neg (by decide), if_neg (by decide)]
    refine wpAny_bind ?_
    unfold Builtin.List.listItems
    refine wpAny_bind (wpAny_seqItems hco rfl (wpAny_pure ?_))
    unfold Builtin.List.listUpdate
    refine wpAny_bind (wpAny_updateSeq hco rfl ?_ (by rw [sizeLine_eq]; simp) (by rw [sizeLine_eq]; simp))
    refine wpAny_bind (wpAny_letGo ?_)
    refine wpAny_pure ?_
    show PySem.wpAt _ _ _ (execs [] _) _ _ _
    exact wpAt_of_wpAny (wpAny_execs_nil (h _ S₆.inv S₆.ext (S₆.get (mA 0 rfl)) (S₆.get (mA 1 rfl))))
end TH20
section TF25
open Builtin Builtin.ObjectAttr
set_option maxHeartbeats 4000000
theorem looks_opt {M : Model} {h : Heap} {K : Frag} (X : K.In h) {C : Addr} (hc : specialIn K (.ref C) "__call__" = some (some (.builtin "type.__call__"))) : Looks M h (specialOf (.ref C) "__call__") (some (.builtin "type.__call__")) := looks_specialIn X hc
section
variable {prog : Program} {w wk : World} {A : Around} {E : Value → Shared → Prop} {s : Shared} {env : Env} {Q : Value → Shared → Prop}
theorem r_cwC {pos : Pos} {C : Addr} {first : List Value} {e : Expr} {rest : List Expr} {oc : Obj} {cd : ClassData} (ho : (K2 wk).lookup C = some oc) (hcd : oc.data = .cls cd) (hcl : specialIn (K2 wk) (.ref C) "__call__" = some (some (.builtin "type.__call__")))
    (h : wpAny (model prog w) A (spliced (backTo pos (starEach (e :: rest) env))) (fun vs s₁ => (K2 wk).In s₁.heap ∧ wpAny (model prog w) A (call (.ref C) (first ++ vs)) Q E s₁) E s)
    (he : starEach (e :: rest) env = (false, eval e env) :: starEach rest env := by rfl) (hp : ((backTo pos (starEach (e :: rest) env)).any (·.1) || ([] : List (Option Str × Sem Value)).any (·.1.isNone)) = false := by rfl) :
    wpAny (model prog w) A (callWith pos (.ref C) first (backTo pos (starEach (e :: rest) env)) []) Q E s := by
  have key : wpAny (model prog w) A (evalArgs (.ref C) true (backTo pos (starEach (e :: rest) env)) []) (fun x s₁ => (K2 wk).In s₁.heap ∧ wpAny (model prog w) A (call (.ref C) (first ++ x.pos) x.kw) Q E s₁) E s := by
    rw [he] at h ⊢
    exact evalArgs_plain h
  unfold callWith
  refine wpAny_bind (wpAny_holding (wpAny_mono key (fun x s₁ h₁ => wpAny_bind (wpAny_standAt ?_)) fun _ _ x => x))
  obtain ⟨X, h₁⟩ := h₁
  rw [hp]
  have hk : ∀ {Q' : Keeper → Shared → Prop}, Q' .machine s₁ → wpAny (model prog w) A (keeperOf (.ref C)) Q' E s₁ := fun q => by
    unfold keeperOf
    refine wpAny_bind (wpAny_load (X _ _ ho) ?_)
    rw [hcd]
    refine wpAny_bind ((looks_specialIn X hcl).here ?_)
    rw [if_pos (by simp)]
    exact wpAny_pure q
  refine wpAny_bind (hk ?_)
  exact wpAny_bind (wpAny_mono h₁ (fun r s₂ hr => wpAny_bind (wpAny_holding (wpAny_point (wpAny_pure hr)))) fun _ _ x => x)
end
theorem tc_w (C : Addr) (rest : List Value) : (Code.builtin "type.__call__" ⟨.ref C :: rest, []⟩).weight = 1 := by kernel_rfl
theorem tc_u (args : Args) : (Code.builtin "type.__call__" args).cUnits = 1 := by kernel_rfl
theorem under_tc {A : Around} {k : Nat} {C : Addr} {rest : List Value} (ar : Ar A (k + 1)) : Ar (A.under (.builtin "type.__call__" ⟨.ref C :: rest, []⟩)) k :=
  ⟨ar.hand, by have := ar.dep; show A.depth + (Code.builtin "type.__call__" ⟨.ref C :: rest, []⟩).weight + k ≤ 400; rw [tc_w]; omega, by have := ar.uni; show A.units + (Code.builtin "type.__call__" ⟨.ref C :: rest, []⟩).cUnits + 50 * k ≤ 5000; rw [tc_u]; omega⟩
section
variable {g : Gx} {A : Around} {E : Value → Shared → Prop} {s : Shared} {Q : Value → Shared → Prop}
theorem inv_push {g : Gx} (G : g.Ok) {s : Shared} (I : Inv g s) (o : Obj) : Inv g { s with heap := s.heap.push o } := I.step G (fun b o' _ e => Heap.get?_push_of_some _ e) (by show _ ≤ (s.heap.push o).objs.size; rw [Heap.size_push]; exact Nat.le_succ _) rfl I.gens
theorem make_acc (G : g.Ok) {k : Nat} (ar : Ar A (k + 2)) (I : Inv g s) {i : Int} {t : Tok}
    (h : ∀ c d s', Inv g s' → Ext [] s.heap s'.heap → s.heap.objs.size ≤ d → s.heap.objs.size ≤ c → c ≠ d → (accK d #[]).At s'.heap c → (acdK i).At s'.heap d → Q (.ref c) s') :
    wpAny (model PR g.w) A (call (.ref 178) [.int i t]) Q E s := by
  have X := I.k2 G
  obtain ⟨ho, hho, made, base⟩ := acc_cls (M := model PR g.w) X
  obtain ⟨hp, gs, dd, tt, os⟩ := s
  refine make_any (o := accO hp.objs.size #[] 0 #[]) X (Looks.of_peek X (by rfl)) (l := [.ref 178, .type "list", .type "object"]) rfl made ⟨_, X 178 _ (by rfl), _, rfl⟩ (by rfl) (by rfl) (by rfl) (fI := 115) (by rfl) (by rfl) rfl rfl (fun A' R hR => new_acc X hR) ?_
  have I1 := inv_push G (inv_push G I emptyDict) (accO hp.objs.size #[] 0 #[])
  have e1 : (hp.push emptyDict).objs.size = hp.objs.size + 1 := Heap.size_push ..
  have hd : ((hp.push emptyDict).push (accO hp.objs.size #[] 0 #[])).get? hp.objs.size = some emptyDict := Heap.get?_push_of_some _ (Heap.get?_push_size _ rfl)
  have hc : ((hp.push emptyDict).push (accO hp.objs.size #[] 0 #[])).get? (hp.objs.size + 1) = some (accO hp.objs.size #[] 0 #[]) := by rw [← e1]; exact Heap.get?_push_size _ rfl
  have hs := I.size
  refine acc_init_spec G (k := k) (under_tc ar) I1 (c := hp.objs.size + 1) (d := hp.objs.size) ⟨_, hc, _, _, rfl⟩ (Nat.le_succ_of_le hs) hd hs (Nat.succ_ne_self _) fun s' I' E' H1 H2 => ⟨rfl, ?_⟩
  have E0 : Ext [] hp ((hp.push emptyDict).push (accO hp.objs.size #[] 0 #[])) := (Ext.push hp emptyDict []).trans (Ext.push _ _ [])
  refine h _ hp.objs.size s' I' (E0.trans' E' ?_) (Nat.le_refl _) (Nat.le_succ _) (Nat.succ_ne_self _) H1 H2
  intro b hb
  simp only [List.mem_cons, List.not_mem_nil, or_false] at hb
  rcases hb with rfl | rfl
  · exact .inr (Nat.le_succ _)
  · exact .inr (Nat.le_refl _)
end
def fdO (es : List DictEntry) (n : Nat) : Obj := ⟨.type "dict", none, .dict es.toArray n, #[]⟩
section
variable {prog : Program} {w : World} {f : Fx} {A : Around} {E : Value → Shared → Prop} {s : Shared} {ls : List (Str × Value)} {hs : List (Addr × Kd)} {x d : Addr}
theorem r_set94 {name : Str} {v : Value} {es : List DictEntry} {n : Nat} {Q : Unit → Shared → Prop} (S : St f ls ((d, .obj (fdO es n)) :: hs) s) (hx : (x, .obj (instObj 94 d)) ∈ hs) (m : f.may d)
    (ht : takerIn (K2 f.g.w) 94 name = some none) (hl : (lookIn name (fdO es n)).isSome = true) (hput : ∀ hsh k, Obj.putName name hsh (.str name k) v (fdO es n) = fdO (es ++ [⟨hsh, .str name k, v⟩]) (n + 1)) (hz : es.length < 1000)
    (h : ∀ hsh k s', St f ls ((d, .obj (fdO (es ++ [⟨hsh, .str name k, v⟩]) (n + 1))) :: hs) s' → Q () s') : wpAny (model prog w) A (setAttr (.ref x) name v) Q E s := by
  have X := S.inv.k2 S.ok
  have ho : s.heap.get? x = some (instObj 94 d) := S.get (.tail _ hx)
  have hd : s.heap.get? d = some (fdO es n) := S.get (.head _)
  have I : InstAt s.heap x (instObj 94 d) 94 (some (fdO es n)) := ⟨ho, rfl, rfl, hd⟩
  refine setattr_core X I rfl (by rfl) (Looks.of_peek X (by rfl)) (by rfl) (refuse_only _ (by rfl)) ht (by rfl) hl (es := es ++ [⟨PyData.keyHash w.params name, .str name (s.toks + 1), v⟩]) (n := n + 1) (by rw [hput]; rfl) (by simp; omega) (by rw [hput]; rfl) (h (PyData.keyHash w.params name) (s.toks + 1) _ ?_)
  refine S.upd (S.inv.upd S.ok (S.low (.head _)) _ _) (Ext.upd ..) m ?_
  show (s.heap.update d _).get? d = _
  rw [← hput]
  exact Heap.get?_update_self _ hd (by rw [hput]; rfl)
theorem r_cwCS {env : Env} {pos : Pos} {C : Addr} {first : List Value} {e : Expr} {rest : List Expr} {oc : Obj} {cd : ClassData} {Q : Value → Shared → Prop} (S : St f ls hs s) (ho : (K2 f.g.w).lookup C = some oc) (hcd : oc.data = .cls cd) (hcl : specialIn (K2 f.g.w) (.ref C) "__call__" = some (some (.builtin "type.__call__")))
    (h : wpAny (model prog w) A (spliced (backTo pos (starEach (e :: rest) env))) (fun vs s₁ => (K2 f.g.w).In s₁.heap ∧ wpAny (model prog w) A (call (.ref C) (first ++ vs)) Q E s₁) E s)
    (he : starEach (e :: rest) env = (false, eval e env) :: starEach rest env := by rfl) (hp : ((backTo pos (starEach (e :: rest) env)).any (·.1) || ([] : List (Option Str × Sem Value)).any (·.1.isNone)) = false := by rfl) :
    wpAny (model prog w) A (callWith pos (.ref C) first (backTo pos (starEach (e :: rest) env)) []) Q E s := r_cwC ho hcd hcl h he hp
theorem k2_of (S : St f ls hs s) : (K2 f.g.w).In s.heap := S.inv.k2 S.ok
theorem St.more2 {f : Fx} {ls : List (Str × Value)} {hs : List (Addr × Kd)} {s s' : Shared} {a b : Addr} {o o' : Kd} (S : St f ls hs s) (I : Inv f.g s') (e : Ext [] s.heap s'.heap) (ha : s.heap.objs.size ≤ a) (hb : s.heap.objs.size ≤ b) (hab : a ≠ b) (h : o.At s'.heap a) (h' : o'.At s'.heap b) : St f ls ((a, o) :: (b, o') :: hs) s' := by
  have S₁ := S.more I e hb h'
  refine S₁.next I (Ext.refl [] _) (by simp) (by simp) (fun p hp => ?_) ?_
  · rcases List.mem_cons.mp hp with rfl | hp
    · exact .inr ⟨h, Nat.le_trans S.inv.size ha, Nat.ne_of_gt (Nat.lt_of_lt_of_le S.ltL ha)⟩
    · exact .inl ⟨hp, by simp⟩
  · rw [List.map_cons, List.nodup_cons]
    refine ⟨fun q => ?_, S₁.nd⟩
    obtain ⟨p, hp, q⟩ := List.mem_map.mp q
    rcases List.mem_cons.mp hp with rfl | hp
    · exact hab q.symm
    · exact absurd (S.has p hp).1.lt (Nat.not_lt.mpr (by rw [q]; exact ha))
end
end TF25
section TH21
def fmdK (width : Int) (l c : Addr) : Kd := .is fun o => ∃ h1 h2 h3 h4 h5 h6 k1 k2 k3 k4 k5 k6 tw t1 n2 t2 t3, o = fdO [⟨h1, .str "_maxlen" k1, .int width tw⟩, ⟨h2, .str "_continuation_ws" k2, .str sp t1⟩, ⟨h3, .str "_continuation_ws_len" k3, .int n2 t2⟩, ⟨h4, .str "_splitchars" k4, .str sp t3⟩, ⟨h5, .str "_lines" k5, .ref l⟩, ⟨h6, .str "_current_line" k6, .ref c⟩] 6
theorem fmt_init_spec {g : Gx} (G : g.Ok) {A : Around} {k : Nat} (ar : Ar A (k + 3)) {s : Shared} (I : Inv g s) {x d : Addr} {head width : Int} {th tw t1 t2 : Tok}
    (hx : (Kd.obj (instObj 94 d)).At s.heap x) (nx : g.n ≤ x) (hd : (Kd.obj (fdO [] 0)).At s.heap d) (nd : g.n ≤ d) (hxd : x ≠ d)
    {Q E : Value → Shared → Prop} (h : ∀ l c e s', Inv g s' → Ext [d] s.heap s'.heap → (∀ a ∈ [l, c, e], s.heap.objs.size ≤ a) → ([l, c, e, x, d] : List Addr).Nodup → (fmdK width l c).At s'.heap d → (Kd.sl []).At s'.heap l → (accK e #[]).At s'.heap c → (acdK head).At s'.heap e → Q .none s') :
    wpAny (model PR g.w) A (call (.ref 35) [.ref x, .int head th, .int width tw, .str sp t1, .str sp t2]) Q E s := by
  refine' r_call G [d] [(d, .obj (fdO [] 0)), (x, .obj (instObj 94 d))] [("self", .ref x), ("headerlen", .int head th), ("maxlen", .int width tw), ("continuation_ws", .str sp t1), ("splitchars", .str sp t2)] I ar ?ho ?hnt ?hcd ?hct ?hbd ?hc ?hlc ?hh ?nd ?_ ?c1 ?c2 ?c3
  ((case ho => rfl); (case hnt => decide); (case hcd => rfl); (case hct => decide); (case hbd => exact BindsTo.of_eq rfl); (case hc => decide); (case hlc => exact locs rfl); (case c1 => rfl); (case c2 => rfl); (case c3 => rfl))
  case hh => simp; exact ⟨⟨hd, nd⟩, hx, nx⟩
  case nd => simp; exact fun q => hxd q.symm
  intro s₁ S ar' hg
  refine gA ar' fun A' ar0 => ?_; replace ar' := ar0
  have hsp1 : sp.length = 1 := rfl
  refine let env0 : Env := _; idE env0 ?_
  (refine let fx0 : Fx := _; let ls0 : List (Str × Value) := _; have S0x : St fx0 ls0 _ _ := S; ?_); clear S; have S := S0x; clear S0x
  (refine opq ?_; intro Q0 c0)
  refine noE ?_
  refine wpAny_execs_cons ?_
  (refine opq ?_; intro Q1 c1)
  refine plainObj_wpAny_Assign_Attribute ?_
  refine' r_local (by assumption) ?hv ?_; (case hv => rfl)
  refine' r_local (by assumption) ?hv ?_; (case hv => rfl)
  refine r_set94 S (mA 0 rfl) (.inl (mA 0 rfl)) (by rfl) (by rfl) (by intro _ _; rfl) (by simp) ?_
  intro h1 k1 s₂ S₂
  refine c1 _ _ ?_
  refine wpAny_execs_cons ?_
  (refine opq ?_; intro Q2 c2)
  refine plainObj_wpAny_Assign_Attribute ?_
  refine' r_local (by assumption) ?hv ?_; (case hv => rfl)
  refine' r_local (by assumption) ?hv ?_; (case hv => rfl)
  refine r_set94 S₂ (mA 0 rfl) (.inl (mA 0 rfl)) (by rfl) (by rfl) (by intro _ _; rfl) (by simp) ?_
  intro h2 k2 s₃ S₃
  refine c2 _ _ ?_
  refine wpAny_execs_cons ?_
  (refine opq ?_; intro Q3 c3)
  refine plainObj_wpAny_Assign_Attribute ?_
  (refine opq ?_; intro Q4 c4)
  refine r_Call ?_
  refine' r_boot (by assumption) ?hv ?hw ?_; (case hv => rfl); (case hw => boot_by_name)
  refine PyProof.Rows.callWith_builtin1 ?_
  (refine opq ?_; intro Q5 c5)
  refine wpAny_items_cons ?_
  refine' r_local (by assumption) ?hv ?_; (case hv => rfl)
  (refine opq ?_; intro Q6 c6)
  refine wpAny_items_nil ?_
  refine c6 _ _ ?_
  refine c5 _ _ ?_
  refine' r_lenS (by assumption) ?hz ?_; (case hz => omega); intro _ _ _
  refine c4 _ _ ?_
  refine' r_local (by assumption) ?hv ?_; (case hv => rfl)
  rename_i t3 s₄ S₄
  refine r_set94 S₄ (mA 0 rfl) (.inl (mA 0 rfl)) (by rfl) (by rfl) (by intro _ _; rfl) (by simp) ?_
  intro h3 k3 s₅ S₅
  refine c3 _ _ ?_
  refine wpAny_execs_cons ?_
  (refine opq ?_; intro Q7 c7)
  refine plainObj_wpAny_Assign_Attribute ?_
  refine' r_local (by assumption) ?hv ?_; (case hv => rfl)
  refine' r_local (by assumption) ?hv ?_; (case hv => rfl)
  refine r_set94 S₅ (mA 0 rfl) (.inl (mA 0 rfl)) (by rfl) (by rfl) (by intro _ _; rfl) (by simp) ?_
  intro h4 k4 s₆ S₆
  refine c7 _ _ ?_
  refine wpAny_execs_cons ?_
  (refine opq ?_; intro Q8 c8)
  refine plainObj_wpAny_Assign_Attribute ?_
  (refine opq ?_; intro Q9 c9)
  refine r_List ?_
  (refine opq ?_; intro Q10 c10)
  refine wpAny_items_nil ?_
  refine c10 _ _ ?_
  refine' r_dispS (by assumption) ?sv (Nat.le_of_ble_eq_true rfl) ?_; (case sv => (repeat (first | exact StrsAre.nil | apply StrsAre.cons))); intro _ _ _ _
  refine c9 _ _ ?_
  refine' r_local (by assumption) ?hv ?_; (case hv => rfl)
  rename_i l s₇ nl S₇
  have S₈ := S₇.swap
  refine r_set94 S₈ (mA 1 rfl) (.inl (mA 0 rfl)) (by rfl) (by rfl) (by intro _ _; rfl) (by simp) ?_
  intro h5 k5 s₉ S₉
  refine c8 _ _ ?_
  refine wpAny_execs_cons ?_
  (refine opq ?_; intro Q11 c11)
  refine plainObj_wpAny_Assign_Attribute ?_
  (refine opq ?_; intro Q12 c12)
  refine r_Call ?_
  refine' r_glob (by assumption) ?hv ?_; (case hv => rfl)
  refine' r_cwCS (by assumption) ?ho ?hcd ?hcl ?_; (case ho => rfl); (case hcd => rfl); (case hcl => rfl)
  (refine opq ?_; intro Q13 c13)
  refine wpAny_items_cons ?_
  refine' r_local (by assumption) ?hv ?_; (case hv => rfl)
  (refine opq ?_; intro Q14 c14)
  refine wpAny_items_nil ?_
  refine c14 _ _ ?_
  refine c13 _ _ ?_
  refine And.intro (k2_of (by assumption)) ?_
  refine make_acc G (k := k) ar' S₉.inv ?_
  intro c e s₁₀ I₁₀ E₁₀ ne nc hce hC hE
  have S₁₀ := S₉.more2 I₁₀ E₁₀ nc ne hce hC hE
  refine c12 _ _ ?_
  refine' r_local (by assumption) ?hv ?_; (case hv => rfl)
  have S₁₁ : St ⟨g, s.heap, [d], s.heap.objs.size⟩ _ [(d, .obj (fdO _ 5)), (x, .obj (instObj 94 d)), (l, .sl []), (c, accK e #[]), (e, acdK head)] s₁₀ := (by exact S₁₀.ph 1000 [2, 4, 3, 0, 1])
  refine r_set94 S₁₁ (mA 0 rfl) (.inl (mA 0 rfl)) (by rfl) (by rfl) (by intro _ _; rfl) (by simp) ?_
  intro h6 k6 s₁₂ S₁₂
  refine c11 _ _ ?_
  refine wpAny_execs_nil ?_
  refine c0 _ _ ?_
  have nd := S₁₂.nd; skip
  refine h l c e _ S₁₂.inv S₁₂.ext ?_ (by simp at nd ⊢; grind) ⟨_, S₁₂.get (mA 0 rfl), _, _, _, _, _, _, _, _, _, _, _, _, _, _, _, _, _, rfl⟩ (S₁₂.get (mA 2 rfl)) (S₁₂.get (mA 3 rfl)) (S₁₂.get (mA 4 rfl))
  intro a ha
  simp only [List.mem_cons, List.not_mem_nil, or_false] at ha
  rcases ha with rfl | rfl | rfl
  · exact St.fresh S₆ nl
  · exact St.fresh S₉ nc
  · exact St.fresh S₉ ne
end TH21
section TF26
open Builtin Builtin.ObjectAttr
set_option maxHeartbeats 4000000
section
variable {g : Gx} {A : Around} {E : Value → Shared → Prop} {s : Shared} {Q : Value → Shared → Prop}
theorem make_fmt (G : g.Ok) {k : Nat} (ar : Ar A (k + 4)) (I : Inv g s) {head width : Int} {th tw t1 t2 : Tok}
    (h : ∀ x d l c e s', Inv g s' → Ext [] s.heap s'.heap → (∀ a ∈ [x, d, l, c, e], s.heap.objs.size ≤ a) → ([x, d, l, c, e] : List Addr).Nodup → (Kd.obj (instObj 94 d)).At s'.heap x → (fmdK width l c).At s'.heap d → (Kd.sl []).At s'.heap l → (accK e #[]).At s'.heap c → (acdK head).At s'.heap e → Q (.ref x) s') :
    wpAny (model PR g.w) A (call (.ref 94) [.int head th, .int width tw, .str sp t1, .str sp t2]) Q E s := by
  have X := I.k2 G
  have Y : Makes (model PR g.w) s.heap 94 := makes_of X (by rfl)
  have made := Y.made
  obtain ⟨hp, gs, dd, tt, os⟩ := s
  refine make_any (o := instObj 94 hp.objs.size) X (Looks.of_peek X (by rfl)) (l := [.ref 94, .type "object"]) rfl made ⟨_, X 94 _ (by rfl), _, rfl⟩ (by rfl) (by rfl) (by rfl) (fI := 35) (by rfl) (by rfl) rfl rfl
    (fun A' R hR => new_K Y (looks_findIn X (r := some (.ref 35)) (by rfl)) (.inl rfl) hR) ?_
  have I1 := inv_push G (inv_push G I emptyDict) (instObj 94 hp.objs.size)
  have e1 : (hp.push emptyDict).objs.size = hp.objs.size + 1 := Heap.size_push ..
  have hd : ((hp.push emptyDict).push (instObj 94 hp.objs.size)).get? hp.objs.size = some emptyDict := Heap.get?_push_of_some _ (Heap.get?_push_size _ rfl)
  have hc : ((hp.push emptyDict).push (instObj 94 hp.objs.size)).get? (hp.objs.size + 1) = some (instObj 94 hp.objs.size) := by rw [← e1]; exact Heap.get?_push_size _ rfl
  have e2 : ((hp.push emptyDict).push (instObj 94 hp.objs.size)).objs.size = hp.objs.size + 2 := by rw [Heap.size_push, e1]
  have hs := I.size
  refine fmt_init_spec G (k := k) (under_tc ar) I1 (x := hp.objs.size + 1) (d := hp.objs.size) hc (Nat.le_succ_of_le hs) hd hs (Nat.succ_ne_self _) fun l c e s' I' E' hlo hnd H1 H2 H3 H4 => ⟨rfl, ?_⟩
  have E0 : Ext [] hp ((hp.push emptyDict).push (instObj 94 hp.objs.size)) := (Ext.push hp emptyDict []).trans (Ext.push _ _ [])
  have hx : s'.heap.get? (hp.objs.size + 1) = some (instObj 94 hp.objs.size) := E'.2 _ _ hc (by simp) (not_tab G (Nat.le_succ_of_le hs))
  refine h _ hp.objs.size l c e s' I' (E0.trans' E' ?_) ?_ ?_ hx H1 H2 H3 H4
  · intro b hb
    simp only [List.mem_cons, List.not_mem_nil, or_false] at hb
    subst hb
    exact .inr (Nat.le_refl _)
  · intro a ha
    simp only [List.mem_cons, List.not_mem_nil, or_false] at ha
    have := hlo a
    simp only [e2, List.mem_cons, List.not_mem_nil, or_false] at this
    show hp.objs.size ≤ a
    rcases ha with rfl | rfl | rfl | rfl | rfl
    · omega
    · omega
    · have := this (by simp); omega
    · have := this (by simp); omega
    · have := this (by simp); omega
  · simp at hnd ⊢; grind
end
section
variable {prog : Program} {w : World} {f : Fx} {A : Around} {E : Value → Shared → Prop} {s : Shared} {ls : List (Str × Value)} {hs : List (Addr × Kd)} {x d l c : Addr} {width : Int}
theorem fm_inst (S : St f ls hs s) (hx : (x, .obj (instObj 94 d)) ∈ hs) (hd : (d, fmdK width l c) ∈ hs) : ∃ h1 h2 h3 h4 h5 h6 k1 k2 k3 k4 k5 k6 tw t1 n2 t2 t3, InstAt s.heap x (instObj 94 d) 94 (some (fdO [⟨h1, .str "_maxlen" k1, .int width tw⟩, ⟨h2, .str "_continuation_ws" k2, .str sp t1⟩, ⟨h3, .str "_continuation_ws_len" k3, .int n2 t2⟩, ⟨h4, .str "_splitchars" k4, .str sp t3⟩, ⟨h5, .str "_lines" k5, .ref l⟩, ⟨h6, .str "_current_line" k6, .ref c⟩] 6)) := by
  obtain ⟨_, ho, h1, h2, h3, h4, h5, h6, k1, k2, k3, k4, k5, k6, tw, t1, n2, t2, t3, rfl⟩ := S.get hd
  exact ⟨h1, h2, h3, h4, h5, h6, k1, k2, k3, k4, k5, k6, tw, t1, n2, t2, t3, S.get hx, rfl, rfl, ho⟩
theorem r_fLine {expr : Bool} {Q : Value → Shared → Prop} (S : St f ls hs s) (hx : (x, .obj (instObj 94 d)) ∈ hs) (hd : (d, fmdK width l c) ∈ hs) (h : ∀ s', St f ls hs s' → Q (.ref c) s') : wpAny (model prog w) A (getAttr (.ref x) "_current_line" expr) Q E s := by
  obtain ⟨h1, h2, h3, h4, h5, h6, k1, k2, k3, k4, k5, k6, tw, t1, n2, t2, t3, I⟩ := fm_inst S hx hd
  exact get_value (S.inv.k2 S.ok) I (by rfl) (by rfl) rfl (h _ (S.tok _))
theorem r_fLines {expr : Bool} {Q : Value → Shared → Prop} (S : St f ls hs s) (hx : (x, .obj (instObj 94 d)) ∈ hs) (hd : (d, fmdK width l c) ∈ hs) (h : ∀ s', St f ls hs s' → Q (.ref l) s') : wpAny (model prog w) A (getAttr (.ref x) "_lines" expr) Q E s := by
  obtain ⟨h1, h2, h3, h4, h5, h6, k1, k2, k3, k4, k5, k6, tw, t1, n2, t2, t3, I⟩ := fm_inst S hx hd
  exact get_value (S.inv.k2 S.ok) I (by rfl) (by rfl) rfl (h _ (S.tok _))
theorem r_fMax {expr : Bool} {Q : Value → Shared → Prop} (S : St f ls hs s) (hx : (x, .obj (instObj 94 d)) ∈ hs) (hd : (d, fmdK width l c) ∈ hs) (h : ∀ t s', St f ls hs s' → Q (.int width t) s') : wpAny (model prog w) A (getAttr (.ref x) "_maxlen" expr) Q E s := by
  obtain ⟨h1, h2, h3, h4, h5, h6, k1, k2, k3, k4, k5, k6, tw, t1, n2, t2, t3, I⟩ := fm_inst S hx hd
  exact get_value (S.inv.k2 S.ok) I (by rfl) (by rfl) rfl (h _ _ (S.tok _))
theorem r_fSplit {expr : Bool} {Q : Value → Shared → Prop} (S : St f ls hs s) (hx : (x, .obj (instObj 94 d)) ∈ hs) (hd : (d, fmdK width l c) ∈ hs) (h : ∀ t s', St f ls hs s' → Q (.str sp t) s') : wpAny (model prog w) A (getAttr (.ref x) "_splitchars" expr) Q E s := by
  obtain ⟨h1, h2, h3, h4, h5, h6, k1, k2, k3, k4, k5, k6, tw, t1, n2, t2, t3, I⟩ := fm_inst S hx hd
  exact get_value (S.inv.k2 S.ok) I (by rfl) (by rfl) rfl (h _ _ (S.tok _))
theorem r_fM {name : Str} {fa : Addr} {pl : Sem Bool} {Q : Value × List Value → Shared → Prop} (S : St f ls hs s) (hx : (x, .obj (instObj 94 d)) ∈ hs) (hd : (d, fmdK width l c) ∈ hs)
    (hf : findIn (K2 f.g.w) (.ref 94) name = some (some (.ref fa))) (ht : typeIn (K2 f.g.w) (.ref fa) = some (.type "function"))
    (hn : ∀ h1 h2 h3 h4 h5 h6 k1 k2 k3 k4 k5 k6 tw t1 n2 t2 t3, shadowIn (some (fdO [⟨h1, .str "_maxlen" k1, .int width tw⟩, ⟨h2, .str "_continuation_ws" k2, .str sp t1⟩, ⟨h3, .str "_continuation_ws_len" k3, .int n2 t2⟩, ⟨h4, .str "_splitchars" k4, .str sp t3⟩, ⟨h5, .str "_lines" k5, .ref l⟩, ⟨h6, .str "_current_line" k6, .ref c⟩] 6)) name = some false)
    (h : Q (.ref fa, [.ref x]) s) : wpAny (model prog w) A (getMethod (.ref x) name pl) Q E s := by
  obtain ⟨h1, h2, h3, h4, h5, h6, k1, k2, k3, k4, k5, k6, tw, t1, n2, t2, t3, I⟩ := fm_inst S hx hd
  exact method_fn (S.inv.k2 S.ok) I (by rfl) (by rfl) hf ht (hn _ _ _ _ _ _ _ _ _ _ _ _ _ _ _ _ _) h
theorem r_star {a : Addr} {p : Str × Str} {Q : List Value → Shared → Prop} (S : St f ls hs s) (ha : (a, pairK p) ∈ hs) (h : ∀ t u s', St f ls hs s' → Q [.str p.1 t, .str p.2 u] s') : StarOf (model prog w) A E (.ref a) Q s := by
  obtain ⟨_, ho, t, u, rfl⟩ := S.get ha
  have hT : s.TypeIs (.ref a) "tuple" := ⟨_, ho, rfl⟩
  unfold StarOf notIterableAtAll
  refine wpAny_bind (wpAny_specialOf hT PySem.F.slot_tuple_iter.lookup (wpAny_pure ⟨rfl, ?_⟩))
  refine wpAny_size (wpAny_collect_seq a (.inr rfl) ho rfl rfl (fun h' hk z => h t u _ ?_) (by rw [sizeLine_eq]; simp))
  exact S.stay (S.inv.step S.ok (fun b o _ q => hk b o q) z rfl S.inv.gens) (Ext.keeps hk z _)
theorem r_neP {a b : Addr} {p : Str × Str} {y z : Str} {t u : Tok} {Q : Value → Shared → Prop} (S : St f ls hs s) (ha : (a, pairK p) ∈ hs) (hb : (b, .obj (tupObj [.str y t, .str z u])) ∈ hs) (h1 : PyData.strOk p.1 = true) (h2 : PyData.strOk p.2 = true) (h3 : PyData.strOk y = true) (h4 : PyData.strOk z = true) (hA : A.units + 64 < cLine)
    (h : Q (.bool (!decide (p = (y, z)))) s) : wpAny (model prog w) A (compareOp .NotEq (.ref a) (.ref b)) Q E s := by
  obtain ⟨_, ho, t', u', rfl⟩ := S.get ha
  have ra : Reads s.heap (.ref a) (.tuple ([p.1, p.2].map .str)) [] := .tuple ho rfl rfl (strs_readAll _ (.cons _ _ (.cons _ _ .nil)))
  have rb : Reads s.heap (.ref b) (.tuple ([y, z].map .str)) [] := .tuple (S.get hb) rfl rfl (strs_readAll _ (.cons _ _ (.cons _ _ .nil)))
  have sh : ∀ {a b : Str}, PyData.strOk a = true → PyData.strOk b = true → SeqAt.shaped (.tuple ([a, b].map .str)) = true := fun {a b} ha hb => by
    have hk : okw [a, b] := by
      intro x hx
      simp only [List.mem_cons, List.not_mem_nil, or_false] at hx
      rcases hx with rfl | rfl <;> assumption
    unfold SeqAt.shaped
    rw [PyData.canLay0, canLay_strs hk, PyData.depth, depth_strs]; rfl
  refine SeqAt.compareNe_shaped ra rb (sh h1 h2) (sh h3 h4) hA ?_
  rw [PyData.eqv, eqv_strs]
  have e : (decide ([p.1, p.2] = [y, z])) = decide (p = (y, z)) := by
    obtain ⟨p1, p2⟩ := p
    simp
  rw [e]
  exact h
end
theorem PartsIn.mono {hs hs' : List (Addr × Kd)} (h : ∀ p ∈ hs, p ∈ hs') : ∀ {vs ps}, PartsIn hs vs ps → PartsIn hs' vs ps
  | _, _, .nil => .nil
  | _, _, .cons ⟨a, e, m⟩ r => .cons ⟨a, e, h _ m⟩ (PartsIn.mono h r)
theorem PartsIn.snoc {hs : List (Addr × Kd)} {a : Addr} {p : Str × Str} (h : (a, pairK p) ∈ hs) : ∀ {vs ps}, PartsIn hs vs ps → PartsIn hs (vs ++ [.ref a]) (ps ++ [p])
  | _, _, .nil => .cons ⟨a, rfl, h⟩ .nil
  | _, _, .cons x r => .cons x (PartsIn.snoc h r)
theorem PartsIn.unsnoc {hs : List (Addr × Kd)} {v : Value} : ∀ {vs ps}, PartsIn hs (vs ++ [v]) ps → ∃ qs p a, ps = qs ++ [p] ∧ PartsIn hs vs qs ∧ v = .ref a ∧ (a, pairK p) ∈ hs
  | [], _, .cons (p := p) ⟨a, e, m⟩ .nil => ⟨[], p, a, rfl, .nil, e, m⟩
  | _ :: vs, _, .cons x r => by
    obtain ⟨qs, p, a, rfl, h, e, m⟩ := PartsIn.unsnoc (vs := vs) r
    exact ⟨_ :: qs, p, a, rfl, .cons x h, e, m⟩
theorem PartsIn.len {hs : List (Addr × Kd)} {vs : List Value} {ps : List (Str × Str)} (h : PartsIn hs vs ps) : vs.length = ps.length := by
  induction h with
  | nil => rfl
  | cons _ _ ih => simp [ih]
theorem preSum_congr {a b : Nat → Int} : ∀ n, (∀ j, j < n → a j = b j) → preSum a n = preSum b n
  | 0, _ => rfl
  | n + 1, h => by rw [preSum, preSum, preSum_congr n fun j hj => h j (by omega), h n (by omega)]
theorem plen_nil : plen [] = 0 := rfl
theorem plen_snoc (qs : List (Str × Str)) (p : Str × Str) : plen (qs ++ [p]) = plen qs + ((p.1.length + p.2.length : Nat) : Int) := by
  unfold plen
  rw [List.length_append, List.length_singleton, preSum]
  congr 1
  · refine preSum_congr _ fun j hj => ?_
    rw [List.getElem?_append_left hj]
  · simp
theorem plen_nonneg (qs : List (Str × Str)) : 0 ≤ plen qs := by
  unfold plen
  generalize qs.length = n
  induction n with
  | zero => simp [preSum]
  | succ n ih => rw [preSum]; omega
theorem St.updMore {f : Fx} {ls : List (Str × Value)} {hs : List (Addr × Kd)} {s s' : Shared} {a b : Addr} {o o' o'' : Kd} (S : St f ls ((a, o) :: hs) s) (I : Inv f.g s') (e : Ext [a] s.heap s'.heap) (m : f.may a) (h : o'.At s'.heap a) (hb : s.heap.objs.size ≤ b) (h' : o''.At s'.heap b) : St f ls ((b, o'') :: (a, o') :: hs) s' := by
  have S₁ := S.upd I e m h
  refine S₁.next I (Ext.refl [] _) (by simp) (by simp) (fun p hp => ?_) ?_
  · rcases List.mem_cons.mp hp with rfl | hp
    · exact .inr ⟨h', Nat.le_trans S.inv.size hb, Nat.ne_of_gt (Nat.lt_of_lt_of_le S.ltL hb)⟩
    · exact .inl ⟨hp, by simp⟩
  · rw [List.map_cons, List.nodup_cons]
    refine ⟨fun q => ?_, S₁.nd⟩
    obtain ⟨p, hp, q⟩ := List.mem_map.mp q
    have : p.1 < s.heap.objs.size := by
      rcases List.mem_cons.mp hp with rfl | hp
      · exact (S.get (.head _)).lt
      · exact (S.has p (.tail _ hp)).1.lt
    rw [q] at this
    exact absurd this (Nat.not_lt.mpr hb)
theorem em_ne_sp : (em, em) ≠ (sp, em) := by
  intro q
  have h := congrArg (fun p : Str × Str => p.1.length) q
  exact absurd h (by decide)
end TF26
section TF27
open Builtin Builtin.ObjectAttr
/-- r_call, as code -/
theorem r_callCode {prog : Program} {w : World} {g : Gx} (G : g.Ok) {A : Around} {k : Nat} {s : Shared} (X : List Addr) (hs : List (Addr × Kd)) {fa : Addr} {args : List Value} (binds : List (Str × Value)) {oc : Value} {od : Option Addr} {osl : Array (Option Value)}
    {name qual : Str} {params : Arguments} {body : List Stmt} {scope : Scope} {cl : List (Str × Addr)} {dV kV doc pm cdv ct : Value} {an : Option Addr}
    {R : Result → Shared → Prop} (I : Inv g s) (a : Ar A (k + 1))
    (ho : (KF g.w).lookup fa = some ⟨oc, od, .func (fnX name qual params body scope cl dV kV doc pm an cdv ct), osl⟩) (hnt : fa ∉ tabs) (hcd : codeIn (KF g.w) cdv qual = true) (hct : cdv ≠ .ref 140 ∧ cdv ≠ .ref 147)
    (hbind : BindsTo s (fnX name qual params body scope cl dV kV doc pm an cdv ct) ⟨args, []⟩ binds) (hcell : ∀ x ∈ scope.names, x.2 ≠ .cell) (hloc : ∀ x ∈ binds, scope.names.lookup x.1 = some .local)
    (hhs : ∀ p ∈ hs, p.2.At s.heap p.1 ∧ g.n ≤ p.1) (nd : (hs.map (·.1)).Nodup)
    (h : ∀ s₁, St ⟨g, s.heap, X, s.heap.objs.size⟩ binds.reverse hs s₁ → Ar (A.deeper (envX qual scope s.heap.objs.size fa cdv cl)) k → s₁.gens = s.gens →
      wpAny (model prog w) (A.deeper (envX qual scope s.heap.objs.size fa cdv cl)) (execs body (envX qual scope s.heap.objs.size fa cdv cl)) (fun f s' => R (.ok (.ret (match f with | .ret v => v | _ => .none))) s')
        (fun e s' => wpAny (model prog w) (A.deeper (envX qual scope s.heap.objs.size fa cdv cl)) (leaving (envX qual scope s.heap.objs.size fa cdv cl) e) (fun _ s'' => R (.error e) s'') (fun e' s'' => R (.error e') s'') s') s₁)
    (hco : scope.isCoroutine = false := by rfl) (hgen : scope.isGenerator = false := by rfl) (hk : scope.kind = .function := by rfl) :
    codeAny (model prog w) A (.call (.ref fa) ⟨args, []⟩) R s := by
  refine codeAny_call_def (fd := fnX name qual params body scope cl dV kV doc pm an cdv ct) a.room (I.at G ho hnt) rfl (I.lim G) (codeRec_at G I hcd hct) rfl hbind hcell hloc (fun h₀ hns hk₀ => ?_) hco hgen hk
  have z : s.heap.objs.size ≤ h₀.objs.size := Nat.le_of_lt hns.lt
  have hI : Inv g { s with heap := h₀, toks := s.toks + binds.length } := I.step G (fun b o _ e => hk₀ b o e) z rfl I.gens
  refine h _ ⟨G, hI, Ext.keeps hk₀ z X, ⟨_, hns, fun x v e => e⟩, I.size, Nat.le_refl _, fun p hp => ?_, nd⟩ (a.deeper _) rfl
  have := hhs p hp
  exact ⟨this.1.ext (Ext.keeps hk₀ z []) (by simp) (not_tab G this.2), this.2, Nat.ne_of_lt this.1.lt⟩
section
variable {prog : Program} {w : World} {A : Around} {E : Value → Shared → Prop} {s : Shared} {K : Frag} {x C : Addr} {ox : Obj} {od : Option Obj} {name : Str} {expr : Bool} {Q : Value → Shared → Prop}
/-- a bound method by way of list.__getattribute__ -/
theorem getL_bind {fa : Addr} (X : K.In s.heap) (I : InstAt s.heap x ox C od) (hga : findIn K (.ref C) "__getattribute__" = some (some (.builtin "list.__getattribute__"))) (hk : findIn K (.ref C) "__getattr__" = some none) (hi : subIn K (.ref C) (.type "list") = some true)
    (hf : findObj K C od name = some (.bind (.builtin "function.__get__") (.ref fa))) (hfn : typeIn K (.ref fa) = some (.type "function")) (h : Q (.ref s.heap.objs.size) { s with heap := s.heap.push (methodObj (.ref fa) (.ref x)), toks := s.toks + 1 }) : wpAny (model prog w) A (getAttr (.ref x) name expr) Q E s := by
  obtain ⟨hp, g, d, t, os⟩ := s
  have L0 := I.type (M := model prog w)
  have L1 := looks_findIn (M := model prog w) X hga
  have Lf := looks_find (M := model prog w) X I hf
  unfold getAttr getAttrBy
  refine wpAny_bind (wpAny_mkText (wpAny_holding (wpAny_bind (L0.at (wpAny_bind (L1.at ?_))))))
  dsimp only
  rw [show (onTheHeap (.ref C) && Value.builtin "list.__getattribute__" == Value.builtin "object.__getattribute__") = false from by rw [show (Value.builtin "list.__getattribute__" == Value.builtin "object.__getattribute__") = false from by decide +kernel, Bool.and_false], if_neg (by decide)]
  unfold getAttrByItsOwn
  refine wpAny_bind ((looks_hook (mc := .ref C) X (r := none) (by rw [if_pos (show onTheHeap (Value.ref C) = true from rfl)]; exact hk)).at (wpAny_bind (wpAny_attempt (wpAny_holding ?_))))
  unfold callGetattribute
  rw [show (expr && onTheHeap (Value.builtin "list.__getattribute__")) = false from Bool.and_false _, if_neg (by decide)]
  unfold boundAndCalled
  rw [LF.slot_ga.bind]
  refine wpAny_bind (wpAny_pure ?_)
  show wpAny _ _ (call (.builtin "list.__getattribute__") [.ref x, .str name t]) _ _ _
  refine wpAny_call (codeAny_call_builtin LF.slot_ga.plain LF.entry_ga ?_)
  refine @check_slot (model prog w) _ _ _ "list.__getattribute__" "list" "__getattribute__" (.ref x) [.str name t] [] _ (by decide +kernel) (by decide +kernel) (L0.andThen (looks_subIn X hi)) (LF.args_ga _ _) ?_
  unfold Builtin.«object.__getattribute__»
  refine wpAny_bind (wpAny_pure ?_)
  show wpAny _ _ (attrName (.str name t) >>= _) _ _ _
  refine wpAny_bind (wpAny_of_eq (a := name) rfl ?_)
  refine wpAny_bind (L0.at (wpAny_bind (Lf.at ?_)))
  show wpAny _ _ (holding [.ref fa] (call (.builtin "function.__get__") [.ref fa, .ref x, .ref C]) >>= ret) _ _ _
  refine wpAny_bind (wpAny_holding (wpAny_call (fn_get (s := ⟨hp, g, d, t + 1, os⟩) X hfn ?_)))
  refine wpAny_pure ?_
  show wpAny _ _ _ _ _ _
  dsimp only
  rw [handedOut_of rfl]
  exact wpAny_pure h
end
section
variable {prog : Program} {w : World} {f : Fx} {A : Around} {E : Value → Shared → Prop} {s : Shared} {ls : List (Str × Value)} {hs : List (Addr × Kd)}
theorem r_accBound {c d : Addr} {vs : Array Value} {i : Int} {name : Str} {fa : Addr} {expr : Bool} {Q : Value → Shared → Prop} (S : St f ls hs s) (hc : (c, accK d vs) ∈ hs) (hd : (d, acdK i) ∈ hs)
    (hf : ∀ hsh k v n, findObj (K2 f.g.w) 178 (some (acdO hsh k v n)) name = some (.bind (.builtin "function.__get__") (.ref fa))) (hfn : typeIn (K2 f.g.w) (.ref fa) = some (.type "function"))
    (h : ∀ q s', St f ls ((q, .obj (methodObj (.ref fa) (.ref c))) :: hs) s' → Q (.ref q) s') : wpAny (model prog w) A (getAttr (.ref c) name expr) Q E s := by
  obtain ⟨n, sl, hsh, k, t, n', I⟩ := acc_inst S hc hd
  exact getL_bind (S.inv.k2 S.ok) I (by rfl) (by rfl) (by rfl) (hf _ _ _ _) hfn (h _ _ (S.pushObj (methodObj (.ref fa) (.ref c)) (s.toks + 1) rfl))
/-- o.name(*args) -/
theorem r_MethodStar {env : Env} {o a : Expr} {name : Str} {apos pos p : Pos} {Q : Value → Shared → Prop}
    (h : wpAny (model prog w) A (eval o env) (fun ov s₁ => wpAny (model prog w) A (getAttr ov name true) (fun fv s₂ => wpAny (model prog w) A (callWith pos fv [] (backTo pos (starEach [.Starred a p] env)) []) Q E s₂) E s₁) E s)
    (he : eval (.Call (.Attribute o name apos) [.Starred a p] [] pos) env = (do
      let ov ← eval o env
      standAt apos.atName
      let fv ← holding [ov] (getAttr ov name true >>= fun f => pure (f, ([] : List Value)))
      callWith pos fv.1 fv.2 (backTo pos (starEach [.Starred a p] env)) []) := by rfl) :
    wpAny (model prog w) A (eval (.Call (.Attribute o name apos) [.Starred a p] [] pos) env) Q E s := by
  rw [he]
  refine wpAny_bind (wpAny_mono h (fun ov s₁ h₁ => wpAny_bind (wpAny_standAt (wpAny_bind (wpAny_holding (wpAny_bind (wpAny_mono h₁ (fun fv s₂ h₂ => wpAny_pure ?_) fun _ _ x => x)))))) fun _ _ x => x)
  exact h₂
theorem callWith_MS {env : Env} {q fa : Addr} {self : Value} {a : Expr} {p pos : Pos} {Q : Value → Shared → Prop} (S : St f ls hs s) (hf : fnIn (K2 f.g.w) fa = true)
    (h : wpAny (model prog w) A (eval a env) (fun v s₁ => StarOf (model prog w) A E v (fun vs s₂ => MethP (K2 f.g.w) q fa self s₂.heap ∧ wpAny (model prog w) A (call (.ref q) ([] ++ vs)) Q E s₂) s₁) E s)
    (he : starEach [.Starred a p] env = [(true, eval a env)] := by rfl) :
    wpAny (model prog w) A (callWith pos (.ref q) [] (backTo pos (starEach [.Starred a p] env)) []) Q E s := by
  rw [he]
  exact ks_call rfl (keeps_M hf) (ks_lone h)
theorem methP_of {q fa : Addr} {self : Value} (S : St f ls hs s) (hq : (q, .obj (methodObj (.ref fa) self)) ∈ hs) : MethP (K2 f.g.w) q fa self s.heap := ⟨S.get hq, k2_of S⟩
end
end TF27
section TH22
theorem push_code {g : Gx} (G : g.Ok) {A : Around} {k : Nat} (ar : Ar A (k + 1)) {s : Shared} (I : Inv g s) {c d : Addr} {vs : Array Value} {i : Int} {x y : Str} {t u : Tok}
    (hc : (accK d vs).At s.heap c) (nc : g.n ≤ c) (hd : (acdK i).At s.heap d) (nd : g.n ≤ d) (hcd : c ≠ d) (hz : vs.size < 1000)
    {Q E : Value → Shared → Prop} (h : ∀ p s', Inv g s' → Ext [c] s.heap s'.heap → s.heap.objs.size ≤ p → (Kd.obj (tupObj [.str x t, .str y u])).At s'.heap p → (accK d (vs.push (.ref p))).At s'.heap c → Q .none s') :
    codeAny (model PR g.w) A (.call (.ref 122) ⟨[.ref c, .str x t, .str y u], []⟩) (fun r s' => match r with | .ok (.ret v) => Q v s' | .ok _ => False | .error e => E e s') s := by
  refine' r_callCode G [c] [(c, accK d vs), (d, acdK i)] [("self", .ref c), ("fws", .str x t), ("string", .str y u)] I ar ?ho ?hnt ?hcd ?hct ?hbd ?hc ?hlc ?hh ?nd ?_ ?c1 ?c2 ?c3
  ((case ho => rfl); (case hnt => decide); (case hcd => rfl); (case hct => decide); (case hbd => exact BindsTo.of_eq rfl); (case hc => decide); (case hlc => exact locs rfl); (case c1 => rfl); (case c2 => rfl); (case c3 => rfl))
  case hh => simp; exact ⟨⟨hc, nc⟩, hd, nd⟩
  case nd => simp; exact hcd
  intro s₁ S ar' hg
  refine gA ar' fun A' ar0 => ?_; replace ar' := ar0
  refine let env0 : Env := _; idE env0 ?_
  (refine let fx0 : Fx := _; let ls0 : List (Str × Value) := _; have S0x : St fx0 ls0 _ _ := S; ?_); clear S; have S := S0x; clear S0x
  (refine opq ?_; intro Q0 c0)
  refine noE ?_
  refine wpAny_execs_cons ?_
  (refine opq ?_; intro Q1 c1)
  refine wpAny_Expr ?_
  (refine opq ?_; intro Q2 c2)
  refine MethodCall_ ?_
  refine' r_local (by assumption) ?hv ?_; (case hv => rfl)
  refine' r_accM (fa := Value.builtin "list.append") (tv := Value.type "method_descriptor") (by assumption) ?hc ?hd ?hf ?ht ?htv ?hn ?_; (case hc => exact mA 0 rfl); (case hd => exact mA 1 rfl); (case hf => rfl); (case ht => rfl); (case htv => decide +kernel); (case hn => (intro _ _ _ _; rfl))
  refine callWith_method1 ?_
  (refine opq ?_; intro Q3 c3)
  refine wpAny_items_cons ?_
  (refine opq ?_; intro Q4 c4)
  refine r_Tuple ?_
  (refine opq ?_; intro Q5 c5)
  refine wpAny_items_cons ?_
  refine' r_local (by assumption) ?hv ?_; (case hv => rfl)
  (refine opq ?_; intro Q6 c6)
  refine wpAny_items_cons ?_
  refine' r_local (by assumption) ?hv ?_; (case hv => rfl)
  (refine opq ?_; intro Q7 c7)
  refine wpAny_items_nil ?_
  refine c7 _ _ ?_
  refine c6 _ _ ?_
  refine c5 _ _ ?_
  refine' r_dispT (by assumption) (Nat.le_of_ble_eq_true rfl) ?_; intro _ _ _ _
  refine c4 _ _ ?_
  (refine opq ?_; intro Q8 c8)
  refine wpAny_items_nil ?_
  refine c8 _ _ ?_
  refine c3 _ _ ?_
  rename_i p s₂ np S₂
  refine r_accAppend S₂.swap (.inl (mA 0 rfl)) hz ?_
  intro s₃ S₃
  refine c2 _ _ ?_
  refine c1 _ _ ?_
  refine wpAny_execs_nil ?_
  refine c0 _ _ ?_
  exact h p _ S₃.inv S₃.ext (St.fresh S np) (S₃.get (mA 1 rfl)) (S₃.get (mA 0 rfl))
def fin (ps : List (Str × Str)) : List (Str × Str) := if ps = [] then [(em, em)] else ps
inductive NlM (f : Fx) (x d l c e : Addr) (width i : Int) (lines : List Str) (ps : List (Str × Str)) (v : Value) (s' : Shared) : Prop
  | mk (a : Addr) (p : Str × Str) (us : Array Value) (qs : List (Str × Str)) (tl' : List (Addr × Kd)) : v = .ref a → fin ps = qs ++ [p] → p ≠ (sp, em) → us.size < 400 →
    St f [("self", .ref x)] ((c, accK e us) :: (e, acdK i) :: (l, Kd.sl lines) :: (x, Kd.obj (instObj 94 d)) :: (d, fmdK width l c) :: tl') s' → PartsIn tl' us.toList qs → (a, pairK p) ∈ tl' → NlM f x d l c e width i lines ps v s'
theorem newline_spec {g : Gx} (G : g.Ok) {A : Around} {k : Nat} (ar : Ar A (k + 6)) {s : Shared} (I : Inv g s) {x d l c e : Addr} {width i : Int} {lines : List Str} {vs : Array Value} {ps : List (Str × Str)} {tl : List (Addr × Kd)}
    (hh : ∀ p ∈ (c, accK e vs) :: (e, acdK i) :: (l, Kd.sl lines) :: (x, Kd.obj (instObj 94 d)) :: (d, fmdK width l c) :: tl, p.2.At s.heap p.1 ∧ g.n ≤ p.1)
    (nd : (((c, accK e vs) :: (e, acdK i) :: (l, Kd.sl lines) :: (x, Kd.obj (instObj 94 d)) :: (d, fmdK width l c) :: tl).map (·.1)).Nodup)
    (hp : PartsIn tl vs.toList ps) (hl : ∀ p ∈ ps, (p.1.length < 1000 ∧ p.2.length < 1000) ∧ PyData.strOk p.1 = true ∧ PyData.strOk p.2 = true) (hz : ps.length < 400) (hend : ∀ qs p, ps = qs ++ [p] → p ≠ (sp, em)) (h0 : 0 ≤ i) (hi : i + plen (fin ps) < 2 ^ 60)
    (hno : 0 < i + plen (fin ps) → i ≠ 0 ∨ Txt.isspace (pstr (fin ps)) = false) (hlz : lines.length < 1000)
    {Q E : Value → Shared → Prop} (h : ∀ s', Inv g s' → Ext [c, e, l] s.heap s'.heap → (accK e #[]).At s'.heap c → (acdK 0).At s'.heap e → (Kd.sl (if 0 < i + plen (fin ps) then lines ++ [pstr (fin ps)] else lines)).At s'.heap l → Q .none s') :
    wpAny (model PR g.w) A (call (.ref 56) [.ref x]) Q E s := by
  refine' r_call G [c, e, l] _ [("self", .ref x)] I ar ?ho ?hnt ?hcd ?hct ?hbd ?hc ?hlc hh nd ?_ ?c1 ?c2 ?c3
  ((case ho => rfl); (case hnt => decide); (case hcd => rfl); (case hct => decide); (case hbd => exact BindsTo.of_eq rfl); (case hc => decide); (case hlc => exact locs rfl); (case c1 => rfl); (case c2 => rfl); (case c3 => rfl))
  intro s₁ S ar' hg
  refine gA ar' fun A' ar0 => ?_; replace ar' := ar0
  refine let env0 : Env := _; idE env0 ?_
  (refine let fx0 : Fx := _; let ls0 : List (Str × Value) := _; let hs0 : List (Addr × Kd) := _; have S0x : St fx0 ls0 hs0 _ := S; ?_); clear S; have S := S0x; clear S0x
  (refine opq ?_; intro Q0 c0)
  refine noE ?_
  refine wpAny_execs_cons ?_
  (refine opq ?_; intro Q1 c1)
  refine wpAny_Assign_Name ?_
  (refine opq ?_; intro Q2 c2)
  refine MethodCall_ ?_
  (refine opq ?_; intro Q3 c3)
  refine Attribute_name ?_
  refine' r_local (by assumption) ?hv ?_; (case hv => rfl)
  refine' r_fLine (by assumption) ?hx ?hd ?_; (case hx => exact mA 3 rfl); (case hd => exact mA 4 rfl); intro _ _
  refine c3 _ _ ?_
  refine' r_accM (by assumption) ?hc ?hd ?hf ?ht ?htv ?hn ?_; (case hc => exact mA 0 rfl); (case hd => exact mA 1 rfl); (case hf => rfl); (case ht => rfl); (case htv => decide +kernel); (case hn => (intro _ _ _ _; rfl))
  refine' r_cwF0 (fn_at (by assumption) ?fo ?fn) ?_; (case fo => rfl); (case fn => decide)
  rename_i s₂ S₂
  have nd' := S₂.nd; dsimp only [hs0] at nd'
  try simp only [List.map_cons, List.nodup_cons, List.mem_cons, not_or] at nd'
  have hfl : ∀ p ∈ fin ps, (p.1.length < 1000 ∧ p.2.length < 1000) ∧ PyData.strOk p.1 = true ∧ PyData.strOk p.2 = true := by
    unfold fin
    split
    · intro p hp'
      simp only [List.mem_singleton] at hp'
      subst hp'
      exact ⟨⟨by decide, by decide⟩, em_ok, em_ok⟩
    · exact hl
  have hfz : (fin ps).length < 500 := by
    unfold fin
    split
    · simp
    · omega
  refine wpAny_mono (Q := NlM ⟨g, s.heap, [c, e, l], s.heap.objs.size⟩ x d l c e width i lines ps) (E := fun _ _ => False) ?_ ?_ (fun _ _ z => z.elim)
  · have hlen := hp.len
    refine pop_spec G (k := k) (ar'.le (by omega)) S₂.inv (S₂.get (mA 0 rfl)) (S₂.low (mA 0 rfl)) (S₂.get (mA 1 rfl)) (S₂.low (mA 1 rfl)) (S₂.dis 0 1) (by simp at hlen; omega) ?_ ?_
    · intro hv p s₃ t u I₃ E₃ H₃ np Hp
      have hps : ps = [] := by
        have := hlen
        simp [hv] at this
        exact List.eq_nil_of_length_eq_zero this.symm
      have hvs : vs.toList = [] := by simpa using hv
      have S₃ : St _ _ ((p, pairK (em, em)) :: _) _ := S₂.updMore I₃ E₃ (.inl (mA 0 rfl)) H₃ np ⟨_, Hp, t, u, rfl⟩
      refine ⟨p, (em, em), vs, [], (p, pairK (em, em)) :: tl, rfl, by rw [fin, if_pos hps]; rfl, em_ne_sp, by omega, ?_, by rw [hvs]; exact .nil, .head _⟩
      have nd := S₃.nd; skip
      exact (by exact S₃.pick 6 [1, 2, 3, 4, 5, 0])
    · intro v us hvs s₃ I₃ E₃ H₃
      have S₃ := S₂.upd I₃ E₃ (.inl (mA 0 rfl)) H₃
      rw [hvs, Array.toList_push] at hp
      obtain ⟨qs, p, a, rfl, hq, rfl, ha⟩ := hp.unsnoc
      have hq' := hq.len
      simp at hq' hz
      exact ⟨a, p, us, qs, tl, rfl, by rw [fin, if_neg (by simp)], hend _ _ rfl, by omega, S₃, hq, ha⟩
  rintro v s₃ ⟨a, p, us, qs, tl', rfl, hfin, hpne, hus, S₃, hq, ha⟩
  have hpf : p ∈ fin ps := by rw [hfin]; simp
  refine c2 _ _ ?_
  refine' r_storeName (by assumption) ?_; intro _ _
  refine c1 _ _ ?_
  refine wpAny_execs_cons ?_
  (refine opq ?_; intro Q4 c4)
  refine wpAny_If ?_
  (refine opq ?_; intro Q5 c5)
  refine wpAny_isTrue_Compare1 ?_
  refine' r_local (by assumption) ?hv ?_; (case hv => rfl)
  (refine opq ?_; intro Q6 c6)
  refine r_Tuple ?_
  (refine opq ?_; intro Q7 c7)
  refine wpAny_items_cons ?_
  refine' r_str (by assumption) ?_; intro _ _ _
  (refine opq ?_; intro Q8 c8)
  refine wpAny_items_cons ?_
  refine' r_str (by assumption) ?_; intro _ _ _
  (refine opq ?_; intro Q9 c9)
  refine wpAny_items_nil ?_
  refine c9 _ _ ?_
  refine c8 _ _ ?_
  refine c7 _ _ ?_
  refine' r_dispT (by assumption) (Nat.le_of_ble_eq_true rfl) ?_; intro _ _ _ _
  refine c6 _ _ ?_
  rename_i b s₄ nb S₄
  refine r_neP S₄ (by exact mD 6 (by assumption)) (mA 0 rfl) (hfl p hpf).2.1 (hfl p hpf).2.2 sp_ok em_ok ar'.u64 ?_
  have e1 : decide (p = (Str.ofString " ", Str.ofString "")) = false := decide_eq_false hpne
  rw [e1]
  (refine let fx1 : Fx := _; let hs1 : List (Addr × Kd) := _; have S1x : St fx1 _ hs1 _ := S₄; ?_); clear S₄; have S₄ := S1x; clear S1x
  refine wpAny_truthy_bool ?_
  refine c5 _ _ ?_
  rw [if_pos (by rfl)]
  refine wpAny_execs_cons ?_
  (refine opq ?_; intro Q10 c10)
  refine wpAny_Expr ?_
  (refine opq ?_; intro Q11 c11)
  rename_i s₅ S₅
  refine r_MethodStar ?_
  (refine opq ?_; intro Q12 c12)
  refine Attribute_name ?_
  refine' r_local (by assumption) ?hv ?_; (case hv => rfl)
  refine' r_fLine (by assumption) ?hx ?hd ?_; (case hx => exact mA 4 rfl); (case hd => exact mA 5 rfl); intro _ _
  refine c12 _ _ ?_
  rename_i s₅ S₅
  refine r_accBound S₅ (by exact mA 1 rfl) (by exact mA 2 rfl) (fa := 122) (by intros; rfl) (by rfl) ?_
  intro q₀ s₆ S₆
  refine callWith_MS (self := .ref c) (fa := 122) S₆ (by rfl) ?_
  refine' r_local (by assumption) ?hv ?_; (case hv => rfl)
  refine r_star S₆ (p := p) (by exact mD 7 (by assumption)) ?_
  intro t u s₇ S₇
  refine ⟨methP_of S₇ (mA 0 rfl), ?_⟩
  refine wpAny_call (method_call (S₇.get (mA 0 rfl)) ?_)
  have S₇ := S₇.drop.drop
  have nd7 := S₇.nd; skip
  simp only [List.map_cons, List.nodup_cons, List.mem_cons, not_or] at nd7
  refine push_code G (k := k) (ar'.le (by omega)) S₇.inv (S₇.get (mA 0 rfl)) (S₇.low (mA 0 rfl)) (S₇.get (mA 1 rfl)) (S₇.low (mA 1 rfl)) nd7.1.1 (by omega) ?_
  intro p' s₈ I₈ E₈ np' H₈ H₈'
  have S₈ : St _ _ ((p', pairK p) :: _) _ := S₇.updMore I₈ E₈ (.inl (mA 0 rfl)) H₈' np' ⟨_, H₈, t, u, rfl⟩
  have hP : PartsIn ((p', pairK p) :: (c, accK e (us.push (.ref p'))) :: (e, acdK i) :: (l, Kd.sl lines) :: (x, Kd.obj (instObj 94 d)) :: (d, fmdK width l c) :: tl') (us.push (.ref p')).toList (fin ps) := by
    rw [hfin, Array.toList_push]
    exact (hq.mono (by exact subT 6 [] rfl)).snoc (mA 0 rfl)
  refine c11 _ _ ?_
  refine c10 _ _ ?_
  refine wpAny_execs_nil ?_
  refine c4 _ _ ?_
  refine wpAny_execs_cons ?_
  (refine opq ?_; intro Q13 c13)
  refine wpAny_If ?_
  (refine opq ?_; intro Q14 c14)
  refine wpAny_isTrue_Compare1 ?_
  (refine opq ?_; intro Q15 c15)
  refine r_Call ?_
  refine' r_boot (by assumption) ?hv ?hw ?_; (case hv => rfl); (case hw => boot_by_name)
  refine PyProof.Rows.callWith_builtin1 ?_
  (refine opq ?_; intro Q16 c16)
  refine wpAny_items_cons ?_
  (refine opq ?_; intro Q17 c17)
  refine Attribute_name ?_
  refine' r_local (by assumption) ?hv ?_; (case hv => rfl)
  refine' r_fLine (by assumption) ?hx ?hd ?_; (case hx => exact mA 4 rfl); (case hd => exact mA 5 rfl); intro _ _
  refine c17 _ _ ?_
  (refine opq ?_; intro Q18 c18)
  refine wpAny_items_nil ?_
  refine c18 _ _ ?_
  refine c16 _ _ ?_
  rename_i s₉ S₉
  have hP' : ∀ p ∈ fin ps, p.1.length < 1000 ∧ p.2.length < 1000 := fun p hp => (hfl p hp).1
  refine r_accLen (k := k) (ar'.le (by omega)) S₉ (by exact mA 1 rfl) (by exact mA 2 rfl) hP hP' (by have := plen_nonneg (fin ps); omega) hi ?_
  intro t₁ s₁₀ S₁₀
  refine c15 _ _ ?_
  refine' r_int (by assumption) ?_; intro _ _ _
  refine P.gt_int ?_
  refine wpAny_truthy_bool ?_
  refine c14 _ _ ?_
  have fin_reset : ∀ (ls' : List Str) (s' : Shared), ls' = (if 0 < i + plen (fin ps) then lines ++ [pstr (fin ps)] else lines) → St ⟨g, s.heap, [c, e, l], s.heap.objs.size⟩ [("self", .ref x)] ((l, Kd.sl ls') :: (c, accK e (us.push (.ref p'))) :: (e, acdK i) :: (x, Kd.obj (instObj 94 d)) :: (d, fmdK width l c) :: []) s' →
      wpAny (model PR g.w) A' (call (.ref 160) [.ref c]) (fun v s' => v = .none ∧ Q .none s') (fun _ _ => False) s' := by
    intro ls' s' hls T
    have T' := T.swap
    have ndT := T'.nd; skip
    simp only [List.map_cons, List.nodup_cons, List.mem_cons, not_or] at ndT
    refine reset0_spec G (k := k) (ar'.le (by omega)) T'.inv (T'.get (mA 0 rfl)) (T'.low (mA 0 rfl)) (T'.get (mA 2 rfl)) (T'.low (mA 2 rfl)) ndT.1.2.1 (by simp; omega) ?_
    intro s'' I'' E'' H1 H2
    have hl' := (T'.get (mA 1 rfl)).ext E'' (by simp; exact ⟨fun q => ndT.1.1 q.symm, ndT.2.1.1⟩) (not_tab G (T'.low (mA 1 rfl)))
    rw [hls] at hl'
    refine ⟨rfl, h _ I'' (Ext.trans' (X := [c, e, l]) T'.ext E'' ?_) H1 H2 hl'⟩
    intro b hb
    refine .inl ?_
    simp only [List.mem_cons, List.not_mem_nil, or_false] at hb ⊢
    rcases hb with rfl | rfl <;> simp
  by_cases hpos : 0 < i + plen (fin ps)
  · rw [if_pos (by simpa using hpos)]
    refine wpAny_execs_cons ?_
    (refine opq ?_; intro Q19 c19)
    refine wpAny_If ?_
    (refine opq ?_; intro Q20 c20)
    refine wpAny_isTrue_BoolOp ?_
    refine wpAny_allTrue_And_cons ?_
    (refine opq ?_; intro Q21 c21)
    refine wpAny_isTrue_value ?_
    (refine opq ?_; intro Q22 c22)
    refine MethodCall_ ?_
    (refine opq ?_; intro Q23 c23)
    refine Attribute_name ?_
    refine' r_local (by assumption) ?hv ?_; (case hv => rfl)
    refine' r_fLine (by assumption) ?hx ?hd ?_; (case hx => exact mA 4 rfl); (case hd => exact mA 5 rfl); intro _ _
    refine c23 _ _ ?_
    refine' r_accM (by assumption) ?hc ?hd ?hf ?ht ?htv ?hn ?_; (case hc => exact mA 1 rfl); (case hd => exact mA 2 rfl); (case hf => rfl); (case ht => rfl); (case htv => decide +kernel); (case hn => (intro _ _ _ _; rfl))
    refine' r_cwF0 (fn_at (by assumption) ?fo ?fn) ?_; (case fo => rfl); (case fn => decide)
    rename_i s₁₁ S₁₁
    refine is_onlyws_spec G (k := k) (ar'.le (by omega)) S₁₁.inv S₁₁.given S₁₁.nd (by exact mA 1 rfl) (by exact mA 2 rfl) hP hP' (by omega) hpos hi (hno hpos) ?_
    intro s₁₂ I₁₂ E₁₂
    have S₁₂ := S₁₁.stay I₁₂ E₁₂
    refine c22 _ _ ?_
    refine wpAny_truthy_bool ?_
    refine c21 _ _ ?_
    rw [if_neg Bool.false_ne_true]
    refine c20 _ _ ?_
    rw [if_neg Bool.false_ne_true]
    refine wpAny_execs_cons ?_
    (refine opq ?_; intro Q24 c24)
    refine wpAny_Expr ?_
    (refine opq ?_; intro Q25 c25)
    refine MethodCall_ ?_
    (refine opq ?_; intro Q26 c26)
    refine Attribute_name ?_
    refine' r_local (by assumption) ?hv ?_; (case hv => rfl)
    refine' r_fLines (by assumption) ?hx ?hd ?_; (case hx => exact mA 4 rfl); (case hd => exact mA 5 rfl); intro _ _
    refine c26 _ _ ?_
    refine' r_gm (by assumption) ?hm F.slot_list_append F.type_list_append ?_; (case hm => exact mA 3 rfl)
    refine callWith_method1 ?_
    (refine opq ?_; intro Q27 c27)
    refine wpAny_items_cons ?_
    (refine opq ?_; intro Q28 c28)
    refine r_Call ?_
    refine' r_boot (by assumption) ?hv ?hw ?_; (case hv => rfl); (case hw => boot_by_name)
    refine Pv.callWith_type1 ?_
    (refine opq ?_; intro Q29 c29)
    refine wpAny_items_cons ?_
    (refine opq ?_; intro Q30 c30)
    refine Attribute_name ?_
    refine' r_local (by assumption) ?hv ?_; (case hv => rfl)
    refine' r_fLine (by assumption) ?hx ?hd ?_; (case hx => exact mA 4 rfl); (case hd => exact mA 5 rfl); intro _ _
    refine c30 _ _ ?_
    (refine opq ?_; intro Q31 c31)
    refine wpAny_items_nil ?_
    refine c31 _ _ ?_
    refine c29 _ _ ?_
    rename_i s₁₃ S₁₃
    refine r_accStr (k := k) (ar'.le (by omega)) S₁₃ (by exact mA 1 rfl) (by exact mA 2 rfl) hP hP' hfz ?_
    intro t₂ s₁₄ S₁₄
    refine c28 _ _ ?_
    (refine opq ?_; intro Q32 c32)
    refine wpAny_items_nil ?_
    refine c32 _ _ ?_
    refine c27 _ _ ?_
    have S₁₅ : St ⟨g, s.heap, [c, e, l], s.heap.objs.size⟩ [("self", .ref x)] ((l, Kd.sl lines) :: (c, accK e (us.push (.ref p'))) :: (e, acdK i) :: (x, Kd.obj (instObj 94 d)) :: (d, fmdK width l c) :: []) s₁₄ := (by exact S₁₄.pick0 [3, 1, 2, 4, 5])
    refine r_append S₁₅ (.inl (by simp)) (by rw [sizeLine_eq]; omega) ?_
    intro s₁₆ S₁₆
    refine c25 _ _ ?_
    refine c24 _ _ ?_
    refine wpAny_execs_nil ?_
    refine c19 _ _ ?_
    refine wpAny_execs_nil ?_
    refine c13 _ _ ?_
    refine wpAny_execs_cons ?_
    (refine opq ?_; intro Q33 c33)
    refine wpAny_Expr ?_
    (refine opq ?_; intro Q34 c34)
    refine MethodCall_ ?_
    (refine opq ?_; intro Q35 c35)
    refine Attribute_name ?_
    refine' r_local (by assumption) ?hv ?_; (case hv => rfl)
    refine' r_fLine (by assumption) ?hx ?hd ?_; (case hx => exact mA 3 rfl); (case hd => exact mA 4 rfl); intro _ _
    refine c35 _ _ ?_
    refine' r_accM (by assumption) ?hc ?hd ?hf ?ht ?htv ?hn ?_; (case hc => exact mA 1 rfl); (case hd => exact mA 2 rfl); (case hf => rfl); (case ht => rfl); (case htv => decide +kernel); (case hn => (intro _ _ _ _; rfl))
    refine' r_cwF0 (fn_at (by assumption) ?fo ?fn) ?_; (case fo => rfl); (case fn => decide)
    rename_i s₁₇ S₁₇
    refine wpAny_mono (fin_reset (lines ++ [pstr (fin ps)]) _ (if_pos hpos).symm S₁₇) ?_ (fun _ _ z => z.elim)
    rintro v s' ⟨rfl, q⟩
    refine c34 _ _ ?_
    refine c33 _ _ ?_
    refine wpAny_execs_nil ?_
    refine c0 _ _ ?_
    exact q
  · rw [if_neg (by simpa using hpos)]
    refine wpAny_execs_nil ?_
    refine c13 _ _ ?_
    refine wpAny_execs_cons ?_
    (refine opq ?_; intro Q19 c19)
    refine wpAny_Expr ?_
    (refine opq ?_; intro Q20 c20)
    refine MethodCall_ ?_
    (refine opq ?_; intro Q21 c21)
    refine Attribute_name ?_
    refine' r_local (by assumption) ?hv ?_; (case hv => rfl)
    refine' r_fLine (by assumption) ?hx ?hd ?_; (case hx => exact mA 4 rfl); (case hd => exact mA 5 rfl); intro _ _
    refine c21 _ _ ?_
    refine' r_accM (by assumption) ?hc ?hd ?hf ?ht ?htv ?hn ?_; (case hc => exact mA 1 rfl); (case hd => exact mA 2 rfl); (case hf => rfl); (case ht => rfl); (case htv => decide +kernel); (case hn => (intro _ _ _ _; rfl))
    refine' r_cwF0 (fn_at (by assumption) ?fo ?fn) ?_; (case fo => rfl); (case fn => decide)
    rename_i s₁₁ S₁₁
    refine wpAny_mono (fin_reset lines _ (if_neg hpos).symm ((by exact S₁₁.pick0 [3, 1, 2, 4, 5]))) ?_ (fun _ _ z => z.elim)
    rintro v s' ⟨rfl, q⟩
    refine c20 _ _ ?_
    refine c19 _ _ ?_
    refine wpAny_execs_nil ?_
    refine c0 _ _ ?_
    exact q
end TH22
section TF28
open Builtin Builtin.ObjectAttr
section
variable {prog : Program} {w : World} {f : Fx} {A : Around} {E : Value → Shared → Prop} {s : Shared} {ls : List (Str × Value)} {hs : List (Addr × Kd)}
def sitK (x : Str) (t : Tok) (i : Nat) : Kd := .is fun o => o.cls = .type "str_ascii_iterator" ∧ o.data = .fields #[.str x t, .int i 0]
theorem sp_ascii : sp.cps.all (· < 128) = true := by rw [← Array.all_toList]; rfl
theorem r_iterS {t : Tok} {Q : Value → Shared → Prop} (S : St f ls hs s) (h : ∀ it s', f.may it → St f ls ((it, sitK sp t 0) :: hs) s' → Q (.ref it) s') : wpAny (model prog w) A (pyIter (.str sp t)) Q E s :=
  wpAny_pyIter_ascii sp_ascii (h _ _ (.inr S.ext.1) (S.push { cls := .type "str_ascii_iterator", data := .fields #[.str sp t, .int 0 0] } s.toks _ ⟨_, Heap.get?_push_size _ rfl, rfl, rfl⟩))
theorem r_nextS {it : Addr} {t : Tok} {Q : Option Value → Shared → Prop} (S : St f ls ((it, sitK sp t 0) :: hs) s) (m : f.may it) (h : ∀ t' s', St f ls ((it, sitK sp t 1) :: hs) s' → Q (some (.str sp t')) s') : wpAny (model prog w) A (pyNext (.ref it)) Q E s := by
  obtain ⟨o, ho, hp⟩ := S.get (.head _)
  refine wpAny_pyNext_ascii_item (c := 32) ⟨o, ho, hp⟩ (by rfl) fun h' hi hs => ?_
  have S' := (S.tok (s.toks + 1)).upd (o' := sitK sp t 1) (s' := { s with heap := h', toks := s.toks + 1 }) ((S.tok (s.toks + 1)).inv.step S.ok (fun b o hb e => (hs.2 b (Nat.ne_of_lt (Nat.lt_of_lt_of_le hb (S.low (.head _))))).trans e) (Nat.le_of_eq hs.1.symm) rfl S.inv.gens) (Ext.same hs) m hi
  exact h _ _ S'
theorem r_endS {it : Addr} {t : Tok} {Q : Option Value → Shared → Prop} (S : St f ls ((it, sitK sp t 1) :: hs) s) (m : f.may it) (hh : A.handled = none) (h : ∀ s', St f ls hs s' → Q none s') : wpAny (model prog w) A (pyNext (.ref it)) Q E s := by
  obtain ⟨o, ho, hp⟩ := S.get (.head _)
  exact wpAny_size (wpAny_pyNext_ascii_end hh ⟨o, ho, hp⟩ (by rfl) fun h' e z => h _ (S.gone e z m s.toks))
theorem r_truthS {x : Str} {t : Tok} {Q : Bool → Shared → Prop} (S : St f ls hs s) (hz : x.length < 1000) (h : ∀ s', St f ls hs s' → Q ((x.length : Int) != 0) s') : wpAny (model prog w) A (truthy (.str x t)) Q E s :=
  P.truthy_str (by omega) (h _ (S.tok _))
theorem r_pair0 {value slice : Expr} {a : Addr} {p : Str × Str} {u : Tok} {Q : Value → Shared → Prop} (S : St f ls hs s) (ha : (a, pairK p) ∈ hs) (h : ∀ t, Q (.str p.1 t) s)
    (hsl : subscripted slice false (.ref a) (.int 0 u) = operate [.ref a, .int 0 u] (getItem (.ref a) (.int 0 u)) := by with_unfolding_all rfl) : wpAny (model prog w) A (subscriptTail value slice (.ref a) (.int 0 u)) Q E s := by
  obtain ⟨_, ho, t, u', rfl⟩ := S.get ha
  have ht : IsTup s.heap a #[.str p.1 t, .str p.2 u'] := ⟨_, ho, rfl, _, rfl⟩
  exact tail_any ht.typeIs slot_tuple_getitem.lookup (getItem_tuple ht (by decide) (by decide) (j := 0) (by rfl) rfl (h t)) hsl
theorem r_sp0 {value slice : Expr} {t u : Tok} {Q : Value → Shared → Prop} (S : St f ls hs s) (h : ∀ t' s', St f ls hs s' → Q (.str sp t') s')
    (hs' : subscripted slice false (.str sp t) (.int 0 u) = operate [.str sp t, .int 0 u] (getItem (.str sp t) (.int 0 u)) := by with_unfolding_all rfl) (ht : ∀ r, letTemporaryGo value (.str sp t) r = pure () := by intro _; with_unfolding_all rfl) : wpAny (model prog w) A (subscriptTail value slice (.str sp t) (.int 0 u)) Q E s := by
  refine item_str (by rfl) (by decide) (by decide) (fun _ => ?_) hs' ht
  have e : Txt.item sp 0 = sp := by rfl
  rw [e]
  exact h _ _ (S.tok _)
theorem r_unpackP {a : Addr} {p : Str × Str} {Q : List Value → Shared → Prop} (S : St f ls hs s) (ha : (a, pairK p) ∈ hs) (hh : A.handled = none) (h : ∀ t u s', St f ls hs s' → Q [.str p.1 t, .str p.2 u] s') : wpAny (model prog w) A (unpackItems (.ref a) 2 none) Q E s := by
  obtain ⟨_, ho, t, u, rfl⟩ := S.get ha
  have z : wpAny (model prog w) A (unpackItems (.ref a) (#[Value.str p.1 t, .str p.2 u] : Array Value).size none) Q E s :=
    wpAny_size (wpAny_unpackItems_tuple hh ⟨_, ho, rfl, 0, rfl⟩ fun h' x z => h t u _ (S.stay (S.inv.step S.ok (fun b o hb q => x b o (Nat.ne_of_lt (Nat.lt_of_lt_of_le hb S.inv.size)) q) z rfl S.inv.gens) ⟨z, fun b o q _ _ => x b o (Nat.ne_of_lt (Heap.lt_size q)) q⟩))
  exact z
theorem r_assignP {env : Env} {x y : Str} {px py pos : Pos} {kt : Nat} {a : Addr} {p : Str × Str} {Q : Unit → Shared → Prop} (S : St f ls hs s) (ha : (a, pairK p) ∈ hs) (hh : A.handled = none)
    (hx : env.kindOf x = some .local) (hy : env.kindOf y = some .local) (h : ∀ t u s', St f ((y, .str p.2 u) :: (x, .str p.1 t) :: ls) hs s' → Q () s') (hL : env.locals = f.L := by rfl) (hk : env.scope.kind = .function := by rfl) :
    wpAny (model prog w) A (assign (.Tuple [.Name x px, .Name y py] kt pos) env (.ref a)) Q E s := by
  rw [arm_assign_Tuple]
  refine wpAny_bind (wpAny_standAt ?_)
  show wpAny _ _ (holding [.ref a] (unpackItems (.ref a) 2 none) >>= assignInOrder [assign (.Name x px) env, assign (.Name y py) env]) _ _ _
  refine wpAny_bind (wpAny_holding (r_unpackP S ha hh fun t u s₁ S₁ => ?_))
  refine r_aio_cons (wpAny_assign_Name (r_storeName S₁ (fun s₂ S₂ => ?_) hL hk hx))
  refine r_aio_cons (wpAny_assign_Name (r_storeName S₂ (fun s₃ S₃ => ?_) hL hk hy))
  exact r_aio_nil (h t u _ S₃)
end
end TF28
section TH23
theorem sp_isspace : Txt.isspace sp = true := by
  unfold Txt.isspace
  rw [← Array.all_toList]
  decide +kernel
theorem rsz0 (n : Nat) : Builtin.Range.rangeSize (n : Int) 0 (-1) = n := by
  unfold Builtin.Range.rangeSize
  simp
  omega
theorem rsm0 (n : Nat) (h : n < 1000) : Builtin.Range.small (n : Int) 0 (-1) = true := by
  unfold Builtin.Range.small
  rw [rsz0]
  simp only [Builtin.Range.rangeFitsLong, Bool.and_eq_true, Bool.or_eq_true, decide_eq_true_eq, beq_iff_eq]
  simp
  omega
abbrev fHS (p : Addr) (q : Str × Str) (c e l x d : Addr) (width i : Int) (lines : List Str) (vs : Array Value) (tl : List (Addr × Kd)) : List (Addr × Kd) :=
  (p, pairK q) :: (c, accK e vs) :: (e, acdK i) :: (l, Kd.sl lines) :: (x, Kd.obj (instObj 94 d)) :: (d, fmdK width l c) :: tl
def chunk (width : Int) (lines : List Str) (ps : List (Str × Str)) (i : Int) (fws wd : Str) : List Str × List (Str × Str) × Int :=
  if width < i + plen (ps ++ [(fws, wd)]) then
    if ps = [] then (if 0 < i then (lines ++ [pstr [(em, em)]], [(if fws = em then sp else fws, wd)], 0) else (lines, [(fws, wd)], i))
    else (lines ++ [pstr ps], [(fws, wd)], 0)
  else (lines, ps ++ [(fws, wd)], i)
theorem append_chunk_spec {g : Gx} (G : g.Ok) {A : Around} {k : Nat} (ar : Ar A (k + 8)) {s : Shared} (I : Inv g s) {x d l c e : Addr} {width i : Int} {lines : List Str} {vs : Array Value} {ps : List (Str × Str)} {tl : List (Addr × Kd)} {fws wd : Str} {tf tw : Tok}
    (hh : ∀ p ∈ (c, accK e vs) :: (e, acdK i) :: (l, Kd.sl lines) :: (x, Kd.obj (instObj 94 d)) :: (d, fmdK width l c) :: tl, p.2.At s.heap p.1 ∧ g.n ≤ p.1)
    (nd : (((c, accK e vs) :: (e, acdK i) :: (l, Kd.sl lines) :: (x, Kd.obj (instObj 94 d)) :: (d, fmdK width l c) :: tl).map (·.1)).Nodup)
    (hp : PartsIn tl vs.toList ps) (hl : ∀ p ∈ ps, p.1.length < 1000 ∧ p.2.length < 1000) (hz : ps.length < 300) (h0 : 0 ≤ i) (hi : i + plen ps < 2 ^ 50) (hlz : lines.length < 900)
    (hf : fws = em ∨ fws = sp) (hB : ps ≠ [] → fws = sp) (hwl : wd.length < 1000) (hwk : PyData.strOk wd = true)
    {Q E : Value → Shared → Prop} (h : ∀ p q vs' s', Inv g s' → Ext [c, e, l] s.heap s'.heap → s.heap.objs.size ≤ p → (pairK q).At s'.heap p → PartsIn ((p, pairK q) :: tl) vs'.toList (chunk width lines ps i fws wd).2.1 →
      (accK e vs').At s'.heap c → (acdK (chunk width lines ps i fws wd).2.2).At s'.heap e → (Kd.sl (chunk width lines ps i fws wd).1).At s'.heap l → Q .none s') :
    wpAny (model PR g.w) A (call (.ref 91) [.ref x, .str fws tf, .str wd tw]) Q E s := by
  refine' r_call G [c, e, l] _ [("self", .ref x), ("fws", .str fws tf), ("string", .str wd tw)] I ar ?ho ?hnt ?hcd ?hct ?hbd ?hc ?hlc hh nd ?_ ?c1 ?c2 ?c3
  ((case ho => rfl); (case hnt => decide); (case hcd => rfl); (case hct => decide); (case hbd => exact BindsTo.of_eq rfl); (case hc => decide); (case hlc => exact locs rfl); (case c1 => rfl); (case c2 => rfl); (case c3 => rfl))
  intro s₁ S ar' hg
  refine gA ar' fun A' ar0 => ?_; replace ar' := ar0
  have hlen := hp.len
  simp at hlen
  refine let env0 : Env := _; idE env0 ?_
  (refine let fx0 : Fx := _; let ls0 : List (Str × Value) := _; let hs0 : List (Addr × Kd) := _; have S0x : St fx0 ls0 hs0 _ := S; ?_); clear S; have S := S0x; clear S0x
  (refine opq ?_; intro Q0 c0)
  refine noE ?_
  refine wpAny_execs_cons ?_
  (refine opq ?_; intro Q1 c1)
  refine wpAny_Expr ?_
  (refine opq ?_; intro Q2 c2)
  refine MethodCall_ ?_
  (refine opq ?_; intro Q3 c3)
  refine Attribute_name ?_
  refine' r_local (by assumption) ?hv ?_; (case hv => rfl)
  refine' r_fLine (by assumption) ?hx ?hd ?_; (case hx => exact mA 3 rfl); (case hd => exact mA 4 rfl); intro _ _
  refine c3 _ _ ?_
  refine' r_accM (by assumption) ?hc ?hd ?hf ?ht ?htv ?hn ?_; (case hc => exact mA 0 rfl); (case hd => exact mA 1 rfl); (case hf => rfl); (case ht => rfl); (case htv => decide +kernel); (case hn => (intro _ _ _ _; rfl))
  refine r_cwF ?_
  (refine opq ?_; intro Q4 c4)
  refine wpAny_items_cons ?_
  refine' r_local (by assumption) ?hv ?_; (case hv => rfl)
  (refine opq ?_; intro Q5 c5)
  refine wpAny_items_cons ?_
  refine' r_local (by assumption) ?hv ?_; (case hv => rfl)
  (refine opq ?_; intro Q6 c6)
  refine wpAny_items_nil ?_
  refine c6 _ _ ?_
  refine c5 _ _ ?_
  refine c4 _ _ ?_
  refine' And.intro (fn_at (by assumption) ?fo ?fn) ?_; (case fo => rfl); (case fn => decide)
  rename_i s₂ S₂
  have nd2 := S₂.nd; dsimp only [hs0] at nd2
  simp only [List.map_cons, List.nodup_cons, List.mem_cons, not_or] at nd2
  refine push_spec G (k := k) (ar'.le (by omega)) S₂.inv (S₂.get (mA 0 rfl)) (S₂.low (mA 0 rfl)) (S₂.get (mA 1 rfl)) (S₂.low (mA 1 rfl)) nd2.1.1 (by omega) ?_
  intro p s₃ I₃ E₃ np H₃ H₃'
  have S₃ : St _ _ ((p, pairK (fws, wd)) :: _) _ := S₂.updMore I₃ E₃ (.inl (mA 0 rfl)) H₃' np ⟨_, H₃, _, _, rfl⟩
  have hP : PartsIn ((p, pairK (fws, wd)) :: (c, accK e (vs.push (.ref p))) :: (e, acdK i) :: (l, Kd.sl lines) :: (x, Kd.obj (instObj 94 d)) :: (d, fmdK width l c) :: tl) (vs.push (.ref p)).toList (ps ++ [(fws, wd)]) := by
    rw [Array.toList_push]
    exact (hp.mono (by exact subT 6 [] rfl)).snoc (mA 0 rfl)
  have hfl : fws.length ≤ 1 := by rcases hf with rfl | rfl <;> decide
  have hl' : ∀ q ∈ ps ++ [(fws, wd)], q.1.length < 1000 ∧ q.2.length < 1000 := by
    intro q hq
    rcases List.mem_append.mp hq with hq | hq
    · exact hl q hq
    · simp only [List.mem_singleton] at hq
      subst hq
      exact ⟨by show fws.length < 1000; omega, hwl⟩
  have hpl := plen_snoc ps (fws, wd)
  have hpn := plen_nonneg ps
  have hpn' := plen_nonneg (ps ++ [(fws, wd)])
  simp only at hpl
  refine c2 _ _ ?_
  refine c1 _ _ ?_
  refine wpAny_execs_cons ?_
  (refine opq ?_; intro Q7 c7)
  refine wpAny_If ?_
  (refine opq ?_; intro Q8 c8)
  refine wpAny_isTrue_Compare1 ?_
  (refine opq ?_; intro Q9 c9)
  refine r_Call ?_
  refine' r_boot (by assumption) ?hv ?hw ?_; (case hv => rfl); (case hw => boot_by_name)
  refine PyProof.Rows.callWith_builtin1 ?_
  (refine opq ?_; intro Q10 c10)
  refine wpAny_items_cons ?_
  (refine opq ?_; intro Q11 c11)
  refine Attribute_name ?_
  refine' r_local (by assumption) ?hv ?_; (case hv => rfl)
  refine' r_fLine (by assumption) ?hx ?hd ?_; (case hx => exact mA 4 rfl); (case hd => exact mA 5 rfl); intro _ _
  refine c11 _ _ ?_
  (refine opq ?_; intro Q12 c12)
  refine wpAny_items_nil ?_
  refine c12 _ _ ?_
  refine c10 _ _ ?_
  rename_i s₄ S₄
  refine r_accLen (k := k) (ar'.le (by omega)) S₄ (by exact mA 1 rfl) (by exact mA 2 rfl) hP hl' (by omega) (by omega) ?_
  intro t₁ s₅ S₅
  refine c9 _ _ ?_
  (refine opq ?_; intro Q13 c13)
  refine Attribute_name ?_
  refine' r_local (by assumption) ?hv ?_; (case hv => rfl)
  refine' r_fMax (by assumption) ?hx ?hd ?_; (case hx => exact mA 4 rfl); (case hd => exact mA 5 rfl); intro _ _ _
  refine c13 _ _ ?_
  refine P.gt_int ?_
  refine wpAny_truthy_bool ?_
  refine c8 _ _ ?_
  rename_i s₆ S₆
  by_cases hw : ¬ width < i + plen (ps ++ [(fws, wd)])
  · rw [if_neg (by simpa using hw)]
    (refine let hs1 : List (Addr × Kd) := _; have S1x : St _ _ hs1 _ := S₆; ?_); clear S₆; have S₆ := S1x; clear S1x
    refine wpAny_execs_nil ?_
    refine c7 _ _ ?_
    refine wpAny_execs_nil ?_
    refine c0 _ _ ?_
    have e : chunk width lines ps i fws wd = (lines, ps ++ [(fws, wd)], i) := if_neg hw
    rw [e] at h
    refine h p (fws, wd) _ _ S₆.inv S₆.ext (St.fresh S₂ np) (S₆.get (by exact mA 0 rfl)) ?_ (S₆.get (by exact mA 1 rfl)) (S₆.get (by exact mA 2 rfl)) (S₆.get (by exact mA 3 rfl))
    rw [Array.toList_push]
    exact (hp.mono (by exact subT 1 [] rfl)).snoc (mA 0 rfl)
  have hw : width < i + plen (ps ++ [(fws, wd)]) := Decidable.not_not.mp hw
  rw [if_pos (by simpa using hw)]
  (refine let hs1 : List (Addr × Kd) := _; have S1x : St _ _ hs1 _ := S₆; ?_); clear S₆; have S₆ := S1x; clear S1x
  refine wpAny_execs_cons ?_
  (refine opq ?_; intro Q14 c14)
  refine wpAny_For ?_
  (refine opq ?_; intro Q15 c15)
  refine Attribute_name ?_
  refine' r_local (by assumption) ?hv ?_; (case hv => rfl)
  refine' r_fSplit (by assumption) ?hx ?hd ?_; (case hx => exact mA 4 rfl); (case hd => exact mA 5 rfl); intro _ _ _
  refine c15 _ _ ?_
  rename_i tsp s₇ S₇
  refine r_iterS S₇ ?_
  intro it s₈ mit S₈
  by_cases hps : ps = []
  · subst hps
    have hvs : vs = #[] := by
      apply Array.toList_inj.mp
      exact List.eq_nil_of_length_eq_zero (by simpa using hlen)
    subst hvs
    refine codeAny_forLoop (fun n s' => (n = 1 ∧ St ⟨g, s.heap, [c, e, l], s.heap.objs.size⟩ [("self", .ref x)] ((it, sitK sp tsp 0) :: fHS p (fws, wd) c e l x d width i lines #[.ref p] tl) s') ∨ (n = 0 ∧ St ⟨g, s.heap, [c, e, l], s.heap.objs.size⟩ [("self", .ref x)] ((it, sitK sp tsp 1) :: fHS p (fws, wd) c e l x d width i lines #[.ref p] tl) s')) ?_ 1 (.inl ⟨rfl, S₈.wl (by rfl)⟩)
    rintro n s₉ (⟨rfl, S₉⟩ | ⟨rfl, S₉⟩)
    · refine r_nextS S₉ mit ?_
      intro tch s₁₀ S₁₀
      refine noE ?_
      refine wpAny_assign_Name ?_
      refine' r_storeName (by assumption) ?_; intro _ _
      (refine opq ?_; intro Q16 c16)
      refine noE ?_
      refine wpAny_execs_cons ?_
      (refine opq ?_; intro Q17 c17)
      refine wpAny_For ?_
      (refine opq ?_; intro Q18 c18)
      refine r_Call ?_
      refine' r_boot (by assumption) ?hv ?hw ?_; (case hv => rfl); (case hw => boot_by_name)
      refine Pv.callWith_type1 ?_
      (refine opq ?_; intro Q19 c19)
      refine wpAny_items_cons ?_
      (refine opq ?_; intro Q20 c20)
      refine wpAny_BinOp ?_
      (refine opq ?_; intro Q21 c21)
      refine MethodCall_ ?_
      (refine opq ?_; intro Q22 c22)
      refine Attribute_name ?_
      refine' r_local (by assumption) ?hv ?_; (case hv => rfl)
      refine' r_fLine (by assumption) ?hx ?hd ?_; (case hx => exact mA 5 rfl); (case hd => exact mA 6 rfl); intro _ _
      refine c22 _ _ ?_
      refine' r_accM (by assumption) ?hc ?hd ?hf ?ht ?htv ?hn ?_; (case hc => exact mA 2 rfl); (case hd => exact mA 3 rfl); (case hf => rfl); (case ht => rfl); (case htv => decide +kernel); (case hn => (intro _ _ _ _; rfl))
      refine' r_cwF0 (fn_at (by assumption) ?fo ?fn) ?_; (case fo => rfl); (case fn => decide)
      rename_i s₁₁ S₁₁
      refine part_count_spec G (k := k) (ar'.le (by omega)) S₁₁.inv (S₁₁.get (a := c) (o := accK e #[.ref p]) (by exact mA 2 rfl)) (S₁₁.low (a := c) (o := accK e #[.ref p]) (by exact mA 2 rfl)) (by simp) ?_
      intro tn s₁₂ I₁₂ E₁₂
      have S₁₂ := S₁₁.stay I₁₂ E₁₂
      refine c21 _ _ ?_
      refine' r_int (by assumption) ?_; intro _ _ _
      refine' r_sub (by assumption) ?_; intro _ _ _
      refine c20 _ _ ?_
      (refine opq ?_; intro Q23 c23)
      refine wpAny_items_cons ?_
      refine' r_int (by assumption) ?_; intro _ _ _
      (refine opq ?_; intro Q24 c24)
      refine wpAny_items_cons ?_
      (refine opq ?_; intro Q25 c25)
      refine wpAny_UnaryOp ?_
      refine' r_int (by assumption) ?_; intro _ _ _
      refine' r_neg (by assumption) ?_; intro _ _ _
      refine c25 _ _ ?_
      (refine opq ?_; intro Q26 c26)
      refine wpAny_items_nil ?_
      refine c26 _ _ ?_
      refine c24 _ _ ?_
      refine c23 _ _ ?_
      refine c19 _ _ ?_
      rename_i s₁₃ S₁₃
      refine r_range3 S₁₃ (by decide) (PyProof.noPylong_small (by decide)) ?_
      intro r s₁₄ _ _ _ S₁₄
      refine c18 _ _ ?_
      refine r_iterR S₁₄ (rsm0 0 (by omega)) ?_
      intro it₂ s₁₅ mit₂ S₁₅
      refine codeAny_forLoop (fun n s' => n = 0 ∧ St ⟨g, s.heap, [c, e, l], s.heap.objs.size⟩ [("self", .ref x)] ((it₂, .obj (riObj 0 0 (-1))) :: (it, sitK sp tsp 1) :: fHS p (fws, wd) c e l x d width i lines #[.ref p] tl) s') ?_ 0 ⟨rfl, S₁₅.wl (by rfl)⟩
      rintro n s₁₆ ⟨rfl, S₁₆⟩
      refine r_endR S₁₆ mit₂ ar'.hand (by decide) ?_
      intro s₁₇ S₁₇
      (refine opq ?_; intro Q27 c27)
      refine noE ?_
      refine wpAny_execs_cons ?_
      refine wpAny_Continue ?_
      refine c27 _ _ ?_
      refine c17 _ _ ?_
      refine c16 _ _ ?_
      exact ⟨0, by omega, .inr ⟨rfl, S₁₇⟩⟩
    · refine r_endS S₉ mit ar'.hand ?_
      intro s₁₀ S₁₀
      refine wpAny_execs_cons (Assign_Tuple ?_)
      (refine opq ?_; intro Q16 c16)
      refine noE ?_
      refine MethodCall_ ?_
      (refine opq ?_; intro Q17 c17)
      refine Attribute_name ?_
      refine' r_local (by assumption) ?hv ?_; (case hv => rfl)
      refine' r_fLine (by assumption) ?hx ?hd ?_; (case hx => exact mA 4 rfl); (case hd => exact mA 5 rfl); intro _ _
      refine c17 _ _ ?_
      refine' r_accM (by assumption) ?hc ?hd ?hf ?ht ?htv ?hn ?_; (case hc => exact mA 1 rfl); (case hd => exact mA 2 rfl); (case hf => rfl); (case ht => rfl); (case htv => decide +kernel); (case hn => (intro _ _ _ _; rfl))
      refine' r_cwF0 (fn_at (by assumption) ?fo ?fn) ?_; (case fo => rfl); (case fn => decide)
      rename_i s₁₁ S₁₁
      have S₁₂ : St ⟨g, s.heap, [c, e, l], s.heap.objs.size⟩ [("self", .ref x)] ((c, accK e #[.ref p]) :: (p, pairK (fws, wd)) :: (e, acdK i) :: (l, Kd.sl lines) :: (x, Kd.obj (instObj 94 d)) :: (d, fmdK width l c) :: tl) s₁₁ := (by exact S₁₁.pick 6 [1, 0, 2, 3, 4, 5])
      have nd12 := S₁₂.nd; skip
      simp only [List.map_cons, List.nodup_cons, List.mem_cons, not_or] at nd12
      refine pop_spec G (k := k) (ar'.le (by omega)) S₁₂.inv (S₁₂.get (mA 0 rfl)) (S₁₂.low (mA 0 rfl)) (S₁₂.get (mA 2 rfl)) (S₁₂.low (mA 2 rfl)) nd12.1.2.1 (by simp) (fun q => by simp at q) ?_
      intro v us hus s₁₃ I₁₃ E₁₃ H₁₃
      have hus' : us = #[] ∧ v = .ref p := by
        have h1 := congrArg Array.toList hus
        rw [Array.toList_push] at h1
        cases hu : us.toList with
        | nil =>
          rw [hu] at h1
          simp at h1
          exact ⟨Array.toList_inj.mp hu, h1.symm⟩
        | cons a r => rw [hu] at h1; simp at h1
      obtain ⟨rfl, rfl⟩ := hus'
      have S₁₃ := S₁₂.upd I₁₃ E₁₃ (.inl (mA 0 rfl)) H₁₃
      refine c16 _ _ ?_
      refine noE ?_
      refine r_assignP S₁₃ (p := (fws, wd)) (by exact mA 1 rfl) ar'.hand (by rfl) (by rfl) ?_
      intro t₂ u₂ s₁₄ S₁₄
      (refine let fx2 : Fx := _; let hs2 : List (Addr × Kd) := _; have S2x : St fx2 _ hs2 _ := S₁₄; ?_); clear S₁₄; have S₁₄ := S2x; clear S2x
      (refine opq ?_; intro Q18 c18)
      refine noE ?_
      refine wpAny_execs_cons ?_
      (refine opq ?_; intro Q19 c19)
      refine wpAny_If ?_
      (refine opq ?_; intro Q20 c20)
      refine wpAny_isTrue_Compare1 ?_
      (refine opq ?_; intro Q21 c21)
      refine Attribute_any_ ?_
      (refine opq ?_; intro Q22 c22)
      refine Attribute_name ?_
      refine' r_local (by assumption) ?hv ?_; (case hv => rfl)
      refine' r_fLine (by assumption) ?hx ?hd ?_; (case hx => exact mA 4 rfl); (case hd => exact mA 5 rfl); intro _ _
      refine c22 _ _ ?_
      refine' r_initial (by assumption) ?hc ?hd ?_; (case hc => exact mA 0 rfl); (case hd => exact mA 2 rfl); intro _ _ _
      refine c21 _ _ ?_
      refine' r_int (by assumption) ?_; intro _ _ _
      refine P.gt_int ?_
      refine wpAny_truthy_bool ?_
      refine c20 _ _ ?_
      rename_i ti₀ tz₀ s₁₅ S₁₅
      have S₁₆ : St ⟨g, s.heap, [c, e, l], s.heap.objs.size⟩ [("part", .str wd u₂), ("fws", .str fws t₂), ("self", .ref x)] ((c, accK e #[]) :: (e, acdK i) :: (l, Kd.sl lines) :: (x, Kd.obj (instObj 94 d)) :: (d, fmdK width l c) :: tl) s₁₅ := (by exact S₁₅.pick 6 [0, 2, 3, 4, 5])
      clear S₁₅
      by_cases hi0 : 0 < i
      · rw [if_pos (by simpa using hi0)]
        (refine let fx3 : Fx := _; let hs3 : List (Addr × Kd) := _; have S3x : St fx3 _ hs3 _ := S₁₆; ?_); clear S₁₆; have S₁₆ := S3x; clear S3x
        refine wpAny_execs_cons ?_
        (refine opq ?_; intro Q23 c23)
        refine wpAny_Expr ?_
        (refine opq ?_; intro Q24 c24)
        refine MethodCall_ ?_
        refine' r_local (by assumption) ?hv ?_; (case hv => rfl)
        refine' r_fM (by assumption) ?hx ?hd ?hf ?ht ?hn ?_; (case hx => exact mA 3 rfl); (case hd => exact mA 4 rfl); (case hf => rfl); (case ht => rfl); (case hn => (intros; rfl))
        refine' r_cwF0 (fn_at (by assumption) ?fo ?fn) ?_; (case fo => rfl); (case fn => decide)
        have hfin : fin [] = [(em, em)] := rfl
        have hpl0 : plen [(em, em)] = 0 := rfl
        refine newline_spec G (k := k) (ar'.le (by omega)) (ps := []) S₁₆.inv S₁₆.given S₁₆.nd .nil (by simp) (by simp) (by simp) h0 (by rw [hfin, hpl0]; omega) (fun _ => .inl (by omega)) (by omega) ?_
        intro s₁₈ I₁₈ E₁₈ H1 H2 H3
        rw [hfin, hpl0, if_pos (by omega)] at H3
        have S₁₈ : St ⟨g, s.heap, [c, e, l], s.heap.objs.size⟩ [("part", .str wd u₂), ("fws", .str fws t₂), ("self", .ref x)] ((c, accK e #[]) :: (e, acdK 0) :: (l, Kd.sl (lines ++ [pstr [(em, em)]])) :: (x, Kd.obj (instObj 94 d)) :: (d, fmdK width l c) :: tl) s₁₈ := by
          have nd16 := S₁₆.nd; dsimp only [hs3] at nd16
          refine S₁₆.next I₁₈ E₁₈ (by simp; exact ⟨fun q => S₁₆.ne (a := c) (o := accK e #[]) (by exact mA 0 rfl) q.symm, fun q => S₁₆.ne (a := e) (o := acdK i) (by exact mA 1 rfl) q.symm, fun q => S₁₆.ne (a := l) (o := Kd.sl lines) (by exact mA 2 rfl) q.symm⟩) (fun b hb => .inl hb) (fun q hq => ?_) (by simpa using nd16)
          have nd16' := nd16
          simp only [List.map_cons, List.nodup_cons, List.mem_cons, not_or] at nd16'
          have hlow : ∀ (a : Addr) (o o' : Kd), (a, o) ∈ (c, accK e #[]) :: (e, acdK i) :: (l, Kd.sl lines) :: (x, Kd.obj (instObj 94 d)) :: (d, fmdK width l c) :: tl → o'.At s₁₈.heap a → o'.At s₁₈.heap a ∧ g.n ≤ a ∧ a ≠ s.heap.objs.size := fun a o o' hm ho => ⟨ho, S₁₆.low hm, S₁₆.ne hm⟩
          rcases List.mem_cons.mp hq with rfl | hq
          · exact .inr (hlow c (accK e #[]) _ (by exact mA 0 rfl) H1)
          rcases List.mem_cons.mp hq with rfl | hq
          · exact .inr (hlow e (acdK i) _ (by exact mA 1 rfl) H2)
          rcases List.mem_cons.mp hq with rfl | hq
          · exact .inr (hlow l (Kd.sl lines) _ (by exact mA 2 rfl) H3)
          have hmem : q.1 ∈ ((x, Kd.obj (instObj 94 d)) :: (d, fmdK width l c) :: tl).map (·.1) := List.mem_map_of_mem hq
          simp only [List.map_cons, List.mem_cons] at hmem
          refine .inl ⟨mD 3 hq, ?_⟩
          simp only [List.mem_cons, List.not_mem_nil, or_false]
          grind
        refine c24 _ _ ?_
        refine c23 _ _ ?_
        refine wpAny_execs_cons ?_
        (refine opq ?_; intro Q25 c25)
        refine wpAny_If ?_
        (refine opq ?_; intro Q26 c26)
        refine wpAny_isTrue_Not ?_
        (refine opq ?_; intro Q27 c27)
        refine wpAny_isTrue_value ?_
        refine' r_local (by assumption) ?hv ?_; (case hv => rfl)
        refine r_truthS S₁₈ (by omega) ?_
        intro s₁₉ S₁₉
        rcases hf with rfl | rfl
        · rw [show ((em.length : Int) != 0) = false from by rfl]
          refine c27 _ _ ?_
          refine c26 _ _ ?_
          rw [if_pos (by rfl)]
          (refine let fx4 : Fx := _; let hs4 : List (Addr × Kd) := _; have S4x : St fx4 _ hs4 _ := S₁₉; ?_); clear S₁₉; have S₁₉ := S4x; clear S4x
          refine wpAny_execs_cons ?_
          (refine opq ?_; intro Q28 c28)
          refine wpAny_Assign_Name ?_
          refine' r_str (by assumption) ?_; intro _ _ _
          refine' r_storeName (by assumption) ?_; intro _ _
          refine c28 _ _ ?_
          refine wpAny_execs_nil ?_
          refine c25 _ _ ?_
          refine wpAny_execs_nil ?_
          refine c19 _ _ ?_
          refine wpAny_execs_cons ?_
          (refine opq ?_; intro Q29 c29)
          refine wpAny_Expr ?_
          (refine opq ?_; intro Q30 c30)
          refine MethodCall_ ?_
          (refine opq ?_; intro Q31 c31)
          refine Attribute_name ?_
          refine' r_local (by assumption) ?hv ?_; (case hv => rfl)
          refine' r_fLine (by assumption) ?hx ?hd ?_; (case hx => exact mA 3 rfl); (case hd => exact mA 4 rfl); intro _ _
          refine c31 _ _ ?_
          refine' r_accM (by assumption) ?hc ?hd ?hf ?ht ?htv ?hn ?_; (case hc => exact mA 0 rfl); (case hd => exact mA 1 rfl); (case hf => rfl); (case ht => rfl); (case htv => decide +kernel); (case hn => (intro _ _ _ _; rfl))
          refine r_cwF ?_
          (refine opq ?_; intro Q32 c32)
          refine wpAny_items_cons ?_
          refine' r_local (by assumption) ?hv ?_; (case hv => rfl)
          (refine opq ?_; intro Q33 c33)
          refine wpAny_items_cons ?_
          refine' r_local (by assumption) ?hv ?_; (case hv => rfl)
          (refine opq ?_; intro Q34 c34)
          refine wpAny_items_nil ?_
          refine c34 _ _ ?_
          refine c33 _ _ ?_
          refine c32 _ _ ?_
          refine' And.intro (fn_at (by assumption) ?fo ?fn) ?_; (case fo => rfl); (case fn => decide)
          have e2 : chunk width lines [] i em wd = (lines ++ [pstr [(em, em)]], [(sp, wd)], 0) := by unfold chunk; rw [if_pos hw, if_pos rfl, if_pos hi0, if_pos rfl]
          rename_i s₂₀ S₂₀
          have nd20 := S₂₀.nd; dsimp only [hs4] at nd20
          simp only [List.map_cons, List.nodup_cons, List.mem_cons, not_or] at nd20
          refine push_spec G (k := k) (ar'.le (by omega)) S₂₀.inv (S₂₀.get (mA 0 rfl)) (S₂₀.low (mA 0 rfl)) (S₂₀.get (mA 1 rfl)) (S₂₀.low (mA 1 rfl)) nd20.1.1 (by simp) ?_
          intro p' s₃₀ I₃₀ E₃₀ np' H₃₀ H₃₀'
          have S₃₀ : St _ _ ((p', pairK (sp, wd)) :: _) _ := S₂₀.updMore I₃₀ E₃₀ (.inl (mA 0 rfl)) H₃₀' np' ⟨_, H₃₀, _, _, rfl⟩
          refine c30 _ _ ?_
          refine c29 _ _ ?_
          refine wpAny_execs_cons ?_
          (refine opq ?_; intro Q35 c35)
          refine wpAny_Return_none ?_
          rw [e2] at h
          refine c35 _ _ ?_
          refine c18 _ _ ?_
          refine c14 _ _ ?_
          refine c7 _ _ ?_
          refine c0 _ _ ?_
          exact h p' (sp, wd) #[.ref p'] _ S₃₀.inv S₃₀.ext (St.fresh S₂₀ np') (S₃₀.get (mA 0 rfl)) (.cons ⟨p', rfl, .head _⟩ .nil) (S₃₀.get (by exact mA 1 rfl)) (S₃₀.get (by exact mA 2 rfl)) (S₃₀.get (by exact mA 3 rfl))
        · rw [show ((sp.length : Int) != 0) = true from by rfl]
          refine c27 _ _ ?_
          refine c26 _ _ ?_
          rw [if_neg (by decide)]
          (refine let fx4 : Fx := _; let hs4 : List (Addr × Kd) := _; have S4x : St fx4 _ hs4 _ := S₁₉; ?_); clear S₁₉; have S₁₉ := S4x; clear S4x
          refine wpAny_execs_nil ?_
          refine c25 _ _ ?_
          refine wpAny_execs_nil ?_
          refine c19 _ _ ?_
          refine wpAny_execs_cons ?_
          (refine opq ?_; intro Q28 c28)
          refine wpAny_Expr ?_
          (refine opq ?_; intro Q29 c29)
          refine MethodCall_ ?_
          (refine opq ?_; intro Q30 c30)
          refine Attribute_name ?_
          refine' r_local (by assumption) ?hv ?_; (case hv => rfl)
          refine' r_fLine (by assumption) ?hx ?hd ?_; (case hx => exact mA 3 rfl); (case hd => exact mA 4 rfl); intro _ _
          refine c30 _ _ ?_
          refine' r_accM (by assumption) ?hc ?hd ?hf ?ht ?htv ?hn ?_; (case hc => exact mA 0 rfl); (case hd => exact mA 1 rfl); (case hf => rfl); (case ht => rfl); (case htv => decide +kernel); (case hn => (intro _ _ _ _; rfl))
          refine r_cwF ?_
          (refine opq ?_; intro Q31 c31)
          refine wpAny_items_cons ?_
          refine' r_local (by assumption) ?hv ?_; (case hv => rfl)
          (refine opq ?_; intro Q32 c32)
          refine wpAny_items_cons ?_
          refine' r_local (by assumption) ?hv ?_; (case hv => rfl)
          (refine opq ?_; intro Q33 c33)
          refine wpAny_items_nil ?_
          refine c33 _ _ ?_
          refine c32 _ _ ?_
          refine c31 _ _ ?_
          refine' And.intro (fn_at (by assumption) ?fo ?fn) ?_; (case fo => rfl); (case fn => decide)
          have e2 : chunk width lines [] i sp wd = (lines ++ [pstr [(em, em)]], [(sp, wd)], 0) := by
            unfold chunk
            rw [if_pos hw, if_pos rfl, if_pos hi0, if_neg (by decide)]
          rename_i s₂₀ S₂₀
          have nd20 := S₂₀.nd; dsimp only [hs4] at nd20
          simp only [List.map_cons, List.nodup_cons, List.mem_cons, not_or] at nd20
          refine push_spec G (k := k) (ar'.le (by omega)) S₂₀.inv (S₂₀.get (mA 0 rfl)) (S₂₀.low (mA 0 rfl)) (S₂₀.get (mA 1 rfl)) (S₂₀.low (mA 1 rfl)) nd20.1.1 (by simp) ?_
          intro p' s₃₀ I₃₀ E₃₀ np' H₃₀ H₃₀'
          have S₃₀ : St _ _ ((p', pairK (sp, wd)) :: _) _ := S₂₀.updMore I₃₀ E₃₀ (.inl (mA 0 rfl)) H₃₀' np' ⟨_, H₃₀, _, _, rfl⟩
          refine c29 _ _ ?_
          refine c28 _ _ ?_
          refine wpAny_execs_cons ?_
          (refine opq ?_; intro Q34 c34)
          refine wpAny_Return_none ?_
          rw [e2] at h
          refine c34 _ _ ?_
          refine c18 _ _ ?_
          refine c14 _ _ ?_
          refine c7 _ _ ?_
          refine c0 _ _ ?_
          exact h p' (sp, wd) #[.ref p'] _ S₃₀.inv S₃₀.ext (St.fresh S₂₀ np') (S₃₀.get (mA 0 rfl)) (.cons ⟨p', rfl, .head _⟩ .nil) (S₃₀.get (by exact mA 1 rfl)) (S₃₀.get (by exact mA 2 rfl)) (S₃₀.get (by exact mA 3 rfl))
      · rw [if_neg (by simpa using hi0)]
        (refine let fx3 : Fx := _; let hs3 : List (Addr × Kd) := _; have S3x : St fx3 _ hs3 _ := S₁₆; ?_); clear S₁₆; have S₁₆ := S3x; clear S3x
        refine wpAny_execs_nil ?_
        refine c19 _ _ ?_
        refine wpAny_execs_cons ?_
        (refine opq ?_; intro Q23 c23)
        refine wpAny_Expr ?_
        (refine opq ?_; intro Q24 c24)
        refine MethodCall_ ?_
        (refine opq ?_; intro Q25 c25)
        refine Attribute_name ?_
        refine' r_local (by assumption) ?hv ?_; (case hv => rfl)
        refine' r_fLine (by assumption) ?hx ?hd ?_; (case hx => exact mA 3 rfl); (case hd => exact mA 4 rfl); intro _ _
        refine c25 _ _ ?_
        refine' r_accM (by assumption) ?hc ?hd ?hf ?ht ?htv ?hn ?_; (case hc => exact mA 0 rfl); (case hd => exact mA 1 rfl); (case hf => rfl); (case ht => rfl); (case htv => decide +kernel); (case hn => (intro _ _ _ _; rfl))
        refine r_cwF ?_
        (refine opq ?_; intro Q26 c26)
        refine wpAny_items_cons ?_
        refine' r_local (by assumption) ?hv ?_; (case hv => rfl)
        (refine opq ?_; intro Q27 c27)
        refine wpAny_items_cons ?_
        refine' r_local (by assumption) ?hv ?_; (case hv => rfl)
        (refine opq ?_; intro Q28 c28)
        refine wpAny_items_nil ?_
        refine c28 _ _ ?_
        refine c27 _ _ ?_
        refine c26 _ _ ?_
        refine' And.intro (fn_at (by assumption) ?fo ?fn) ?_; (case fo => rfl); (case fn => decide)
        have e1 : chunk width lines [] i fws wd = (lines, [(fws, wd)], i) := by unfold chunk; rw [if_pos hw, if_pos rfl, if_neg hi0]
        rename_i s₁₇ S₁₇
        have nd17 := S₁₇.nd; dsimp only [hs3] at nd17
        simp only [List.map_cons, List.nodup_cons, List.mem_cons, not_or] at nd17
        refine push_spec G (k := k) (ar'.le (by omega)) S₁₇.inv (S₁₇.get (mA 0 rfl)) (S₁₇.low (mA 0 rfl)) (S₁₇.get (mA 1 rfl)) (S₁₇.low (mA 1 rfl)) nd17.1.1 (by simp) ?_
        intro p' s₃₀ I₃₀ E₃₀ np' H₃₀ H₃₀'
        have S₃₀ : St _ _ ((p', pairK (fws, wd)) :: _) _ := S₁₇.updMore I₃₀ E₃₀ (.inl (mA 0 rfl)) H₃₀' np' ⟨_, H₃₀, _, _, rfl⟩
        refine c24 _ _ ?_
        refine c23 _ _ ?_
        refine wpAny_execs_cons ?_
        (refine opq ?_; intro Q29 c29)
        refine wpAny_Return_none ?_
        rw [e1] at h
        refine c29 _ _ ?_
        refine c18 _ _ ?_
        refine c14 _ _ ?_
        refine c7 _ _ ?_
        refine c0 _ _ ?_
        exact h p' (fws, wd) #[.ref p'] _ S₃₀.inv S₃₀.ext (St.fresh S₁₇ np') (S₃₀.get (mA 0 rfl)) (.cons ⟨p', rfl, .head _⟩ .nil) (S₃₀.get (by exact mA 1 rfl)) (S₃₀.get (by exact mA 2 rfl)) (S₃₀.get (by exact mA 3 rfl))
  have hfs : fws = sp := hB hps
  subst hfs
  have hlp : 0 < ps.length := List.length_pos_iff.mpr hps
  refine codeAny_forLoop (fun n s' => n = 1 ∧ St ⟨g, s.heap, [c, e, l], s.heap.objs.size⟩ [("self", .ref x)] ((it, sitK sp tsp 0) :: fHS p (sp, wd) c e l x d width i lines (vs.push (.ref p)) tl) s') ?_ 1 ⟨rfl, S₈.wl (by rfl)⟩
  rintro n s₉ ⟨rfl, S₉⟩
  refine r_nextS S₉ mit ?_
  intro tch s₁₀ S₁₀
  refine noE ?_
  refine wpAny_assign_Name ?_
  refine' r_storeName (by assumption) ?_; intro _ _
  (refine opq ?_; intro Q16 c16)
  refine noE ?_
  refine wpAny_execs_cons ?_
  (refine opq ?_; intro Q17 c17)
  refine wpAny_For ?_
  (refine opq ?_; intro Q18 c18)
  refine r_Call ?_
  refine' r_boot (by assumption) ?hv ?hw ?_; (case hv => rfl); (case hw => boot_by_name)
  refine Pv.callWith_type1 ?_
  (refine opq ?_; intro Q19 c19)
  refine wpAny_items_cons ?_
  (refine opq ?_; intro Q20 c20)
  refine wpAny_BinOp ?_
  (refine opq ?_; intro Q21 c21)
  refine MethodCall_ ?_
  (refine opq ?_; intro Q22 c22)
  refine Attribute_name ?_
  refine' r_local (by assumption) ?hv ?_; (case hv => rfl)
  refine' r_fLine (by assumption) ?hx ?hd ?_; (case hx => exact mA 5 rfl); (case hd => exact mA 6 rfl); intro _ _
  refine c22 _ _ ?_
  refine' r_accM (by assumption) ?hc ?hd ?hf ?ht ?htv ?hn ?_; (case hc => exact mA 2 rfl); (case hd => exact mA 3 rfl); (case hf => rfl); (case ht => rfl); (case htv => decide +kernel); (case hn => (intro _ _ _ _; rfl))
  refine' r_cwF0 (fn_at (by assumption) ?fo ?fn) ?_; (case fo => rfl); (case fn => decide)
  rename_i s₁₁ S₁₁
  refine part_count_spec G (k := k) (ar'.le (by omega)) S₁₁.inv (S₁₁.get (a := c) (o := accK e (vs.push (.ref p))) (by exact mA 2 rfl)) (S₁₁.low (a := c) (o := accK e (vs.push (.ref p))) (by exact mA 2 rfl)) (by simp; omega) ?_
  intro tn s₁₂ I₁₂ E₁₂
  have S₁₂ := S₁₁.stay I₁₂ E₁₂
  refine c21 _ _ ?_
  refine' r_int (by assumption) ?_; intro _ _ _
  refine' r_sub (by assumption) ?_; intro _ _ _
  refine c20 _ _ ?_
  (refine opq ?_; intro Q23 c23)
  refine wpAny_items_cons ?_
  refine' r_int (by assumption) ?_; intro _ _ _
  (refine opq ?_; intro Q24 c24)
  refine wpAny_items_cons ?_
  (refine opq ?_; intro Q25 c25)
  refine wpAny_UnaryOp ?_
  refine' r_int (by assumption) ?_; intro _ _ _
  refine' r_neg (by assumption) ?_; intro _ _ _
  refine c25 _ _ ?_
  (refine opq ?_; intro Q26 c26)
  refine wpAny_items_nil ?_
  refine c26 _ _ ?_
  refine c24 _ _ ?_
  refine c23 _ _ ?_
  refine c19 _ _ ?_
  rename_i s₁₃ S₁₃
  have en : (((vs.push (.ref p)).size : Nat) : Int) - 1 = (ps.length : Int) := by simp; omega
  rw [en]
  refine r_range3 S₁₃ (by decide) (PyProof.noPylong_small (by omega)) ?_
  intro r s₁₄ _ _ _ S₁₄
  refine c18 _ _ ?_
  refine r_iterR S₁₄ (rsm0 _ (by omega)) ?_
  intro it₂ s₁₅ mit₂ S₁₅
  rw [rsz0] at S₁₅
  refine codeAny_forLoop (fun n s' => n = 1 ∧ St ⟨g, s.heap, [c, e, l], s.heap.objs.size⟩ [("ch", .str sp tch), ("self", .ref x)] ((it₂, .obj (riObj (ps.length : Int) (ps.length : Int) (-1))) :: fHS p (sp, wd) c e l x d width i lines (vs.push (.ref p)) tl) s') ?_ 1 ⟨rfl, (by exact S₁₅.pick 8 [0, 2, 3, 4, 5, 6, 7])⟩
  rintro n s₁₆ ⟨rfl, S₁₆⟩
  refine r_nextR S₁₆ mit₂ (by omega) ?_
  intro ti s₁₇ S₁₇
  refine noE ?_
  refine wpAny_assign_Name ?_
  refine' r_storeName (by assumption) ?_; intro _ _
  (refine opq ?_; intro Q27 c27)
  refine noE ?_
  refine wpAny_execs_cons ?_
  (refine opq ?_; intro Q28 c28)
  refine wpAny_If ?_
  (refine opq ?_; intro Q29 c29)
  refine wpAny_isTrue_value ?_
  (refine opq ?_; intro Q30 c30)
  refine MethodCall_ ?_
  refine' r_local (by assumption) ?hv ?_; (case hv => rfl)
  refine GM.isspace ?_
  refine callWith_method0 ?_
  refine SC.isspace ?_
  rw [sp_isspace]
  refine c30 _ _ ?_
  refine wpAny_truthy_bool ?_
  refine c29 _ _ ?_
  rw [if_pos rfl]
  refine wpAny_execs_cons ?_
  (refine opq ?_; intro Q31 c31)
  refine wpAny_Assign_Name ?_
  (refine opq ?_; intro Q32 c32)
  refine Subscript_ ?_
  (refine opq ?_; intro Q33 c33)
  refine Subscript_ ?_
  (refine opq ?_; intro Q34 c34)
  refine Attribute_name ?_
  refine' r_local (by assumption) ?hv ?_; (case hv => rfl)
  refine' r_fLine (by assumption) ?hx ?hd ?_; (case hx => exact mA 5 rfl); (case hd => exact mA 6 rfl); intro _ _
  refine c34 _ _ ?_
  refine' r_local (by assumption) ?hv ?_; (case hv => rfl)
  rename_i s₁₈ S₁₈
  refine acc_tail S₁₈ (vs := vs.push (.ref p)) (d := e) (by exact mA 2 rfl) ?_
  refine acc_itemK S₁₈ (vs := vs.push (.ref p)) (d := e) (v := .ref p) (by exact mA 2 rfl) (by omega) (by rw [Int.toNat_natCast, ← hlen]; simp) (by omega) (by omega) ?_
  refine c33 _ _ ?_
  refine' r_int (by assumption) ?_; intro _ _ _
  rename_i s₁₉ S₁₉
  refine r_pair0 S₁₉ (p := (sp, wd)) (by exact mA 1 rfl) ?_
  intro tf'
  refine c32 _ _ ?_
  refine' r_storeName (by assumption) ?_; intro _ _
  refine c31 _ _ ?_
  refine wpAny_execs_cons ?_
  (refine opq ?_; intro Q35 c35)
  refine wpAny_If ?_
  (refine opq ?_; intro Q36 c36)
  refine wpAny_isTrue_BoolOp ?_
  refine wpAny_allTrue_And_cons ?_
  (refine opq ?_; intro Q37 c37)
  refine wpAny_isTrue_value ?_
  refine' r_local (by assumption) ?hv ?_; (case hv => rfl)
  rename_i s₂₀ S₂₀
  refine r_truthS S₂₀ (by show sp.length < 1000; decide) ?_
  intro s₂₁ S₂₁
  rw [show (((sp, wd).1.length : Int) != 0) = true from by rfl]
  refine c37 _ _ ?_
  rw [if_pos rfl]
  refine wpAny_allTrue_And_cons ?_
  (refine opq ?_; intro Q38 c38)
  refine wpAny_isTrue_Compare1 ?_
  (refine opq ?_; intro Q39 c39)
  refine Subscript_ ?_
  refine' r_local (by assumption) ?hv ?_; (case hv => rfl)
  refine' r_int (by assumption) ?_; intro _ _ _
  rename_i tz s₂₂ S₂₂
  refine r_sp0 S₂₂ ?_
  intro t₀ s₂₃ S₂₃
  refine c39 _ _ ?_
  refine' r_local (by assumption) ?hv ?_; (case hv => rfl)
  refine r_seq ?_
  refine wpAny_truthy_bool ?_
  refine c38 _ _ ?_
  rw [show decide (sp = sp) = true from decide_eq_true rfl]
  rw [if_pos rfl]
  refine wpAny_allTrue_And_nil ?_
  refine c36 _ _ ?_
  rw [if_pos rfl]
  refine wpAny_execs_cons ?_
  refine wpAny_Break ?_
  refine c35 _ _ ?_
  refine c28 _ _ ?_
  refine c27 _ _ ?_
  refine c17 _ _ ?_
  refine wpAny_execs_cons ?_
  refine wpAny_Break ?_
  refine c16 _ _ ?_
  refine c14 _ _ ?_
  refine wpAny_execs_cons ?_
  (refine opq ?_; intro Q40 c40)
  refine wpAny_Assign_Name ?_
  (refine opq ?_; intro Q41 c41)
  refine MethodCall_ ?_
  (refine opq ?_; intro Q42 c42)
  refine Attribute_name ?_
  refine' r_local (by assumption) ?hv ?_; (case hv => rfl)
  refine' r_fLine (by assumption) ?hx ?hd ?_; (case hx => exact mA 5 rfl); (case hd => exact mA 6 rfl); intro _ _
  refine c42 _ _ ?_
  refine' r_accM (by assumption) ?hc ?hd ?hf ?ht ?htv ?hn ?_; (case hc => exact mA 2 rfl); (case hd => exact mA 3 rfl); (case hf => rfl); (case ht => rfl); (case htv => decide +kernel); (case hn => (intro _ _ _ _; rfl))
  refine r_cwF ?_
  (refine opq ?_; intro Q43 c43)
  refine wpAny_items_cons ?_
  refine' r_local (by assumption) ?hv ?_; (case hv => rfl)
  (refine opq ?_; intro Q44 c44)
  refine wpAny_items_nil ?_
  refine c44 _ _ ?_
  refine c43 _ _ ?_
  refine' And.intro (fn_at (by assumption) ?fo ?fn) ?_; (case fo => rfl); (case fn => decide)
  rename_i s₂₄ S₂₄
  have S₂₅ : St ⟨g, s.heap, [c, e, l], s.heap.objs.size⟩ [("self", .ref x)] ((c, accK e (vs.push (.ref p))) :: (p, pairK (sp, wd)) :: (e, acdK i) :: (l, Kd.sl lines) :: (x, Kd.obj (instObj 94 d)) :: (d, fmdK width l c) :: tl) s₂₄ := (by exact S₂₄.pick 7 [2, 1, 3, 4, 5, 6])
  refine pop_from_spec G (k := k) (ar'.le (by omega)) S₂₅.inv (S₂₅.get (mA 0 rfl)) (S₂₅.low (mA 0 rfl)) (by simp; omega) (by simp; omega) ?_
  intro l' s₂₆ I₂₆ E₂₆ nl' Hl' Hc'
  have ex1 : (vs.push (Value.ref p)).extract ps.length (vs.push (Value.ref p)).size = #[.ref p] := by
    rw [← hlen]
    apply Array.toList_inj.mp
    simp
  have ex2 : (vs.push (Value.ref p)).extract 0 ps.length = vs := by
    rw [← hlen]
    apply Array.toList_inj.mp
    simp
  rw [ex1] at Hl'
  rw [ex2] at Hc'
  have S₂₆ := S₂₅.updMore I₂₆ E₂₆ (.inl (mA 0 rfl)) Hc' nl' Hl'
  refine c41 _ _ ?_
  refine' r_storeName (by assumption) ?_; intro _ _
  refine c40 _ _ ?_
  refine wpAny_execs_cons ?_
  (refine opq ?_; intro Q45 c45)
  refine wpAny_Expr ?_
  (refine opq ?_; intro Q46 c46)
  refine MethodCall_ ?_
  (refine opq ?_; intro Q47 c47)
  refine Attribute_name ?_
  refine' r_local (by assumption) ?hv ?_; (case hv => rfl)
  refine' r_fLines (by assumption) ?hx ?hd ?_; (case hx => exact mA 5 rfl); (case hd => exact mA 6 rfl); intro _ _
  refine c47 _ _ ?_
  refine' r_gm (by assumption) ?hm F.slot_list_append F.type_list_append ?_; (case hm => exact mA 4 rfl)
  refine callWith_method1 ?_
  (refine opq ?_; intro Q48 c48)
  refine wpAny_items_cons ?_
  (refine opq ?_; intro Q49 c49)
  refine r_Call ?_
  refine' r_boot (by assumption) ?hv ?hw ?_; (case hv => rfl); (case hw => boot_by_name)
  refine Pv.callWith_type1 ?_
  (refine opq ?_; intro Q50 c50)
  refine wpAny_items_cons ?_
  (refine opq ?_; intro Q51 c51)
  refine Attribute_name ?_
  refine' r_local (by assumption) ?hv ?_; (case hv => rfl)
  refine' r_fLine (by assumption) ?hx ?hd ?_; (case hx => exact mA 5 rfl); (case hd => exact mA 6 rfl); intro _ _
  refine c51 _ _ ?_
  (refine opq ?_; intro Q52 c52)
  refine wpAny_items_nil ?_
  refine c52 _ _ ?_
  refine c50 _ _ ?_
  rename_i s₂₇ S₂₇
  refine r_accStr (k := k) (ar'.le (by omega)) S₂₇ (by exact mA 1 rfl) (by exact mA 3 rfl) (hp.mono (by exact subT 7 [] rfl)) hl (by omega) ?_
  intro t₃ s₂₈ S₂₈
  refine c49 _ _ ?_
  (refine opq ?_; intro Q53 c53)
  refine wpAny_items_nil ?_
  refine c53 _ _ ?_
  refine c48 _ _ ?_
  have S₂₉ : St ⟨g, s.heap, [c, e, l], s.heap.objs.size⟩ [("remainder", .ref l'), ("self", .ref x)] ((l, Kd.sl lines) :: (c, accK e vs) :: (e, acdK i) :: (l', .obj (listOf #[.ref p] 0)) :: (p, pairK (sp, wd)) :: (x, Kd.obj (instObj 94 d)) :: (d, fmdK width l c) :: tl) s₂₈ := (by exact S₂₈.pick 7 [4, 1, 3, 0, 2, 5, 6])
  refine r_append S₂₉ (.inl (by simp)) (by rw [sizeLine_eq]; omega) ?_
  intro s₃₀ S₃₀
  refine c46 _ _ ?_
  refine c45 _ _ ?_
  refine wpAny_execs_cons ?_
  (refine opq ?_; intro Q54 c54)
  refine wpAny_Expr ?_
  (refine opq ?_; intro Q55 c55)
  refine MethodCall_ ?_
  (refine opq ?_; intro Q56 c56)
  refine Attribute_name ?_
  refine' r_local (by assumption) ?hv ?_; (case hv => rfl)
  refine' r_fLine (by assumption) ?hx ?hd ?_; (case hx => exact mA 5 rfl); (case hd => exact mA 6 rfl); intro _ _
  refine c56 _ _ ?_
  refine' r_accM (by assumption) ?hc ?hd ?hf ?ht ?htv ?hn ?_; (case hc => exact mA 1 rfl); (case hd => exact mA 2 rfl); (case hf => rfl); (case ht => rfl); (case htv => decide +kernel); (case hn => (intro _ _ _ _; rfl))
  refine r_cwF ?_
  (refine opq ?_; intro Q57 c57)
  refine wpAny_items_cons ?_
  refine' r_local (by assumption) ?hv ?_; (case hv => rfl)
  (refine opq ?_; intro Q58 c58)
  refine wpAny_items_nil ?_
  refine c58 _ _ ?_
  refine c57 _ _ ?_
  refine' And.intro (fn_at (by assumption) ?fo ?fn) ?_; (case fo => rfl); (case fn => decide)
  rename_i s₃₁ S₃₁
  have nd31 := S₃₁.nd; skip
  have m1 : (c, accK e vs) ∈ (l, Kd.sl (lines ++ [pstr ps])) :: (c, accK e vs) :: (e, acdK i) :: (l', .obj (listOf #[.ref p] 0)) :: (p, pairK (sp, wd)) :: (x, Kd.obj (instObj 94 d)) :: (d, fmdK width l c) :: tl := by exact mA 1 rfl
  simp only [List.map_cons, List.nodup_cons, List.mem_cons, not_or] at nd31
  refine reset_spec G (k := k) (ar'.le (by omega)) S₃₁.inv (S₃₁.get (mA 1 rfl)) (S₃₁.low (mA 1 rfl)) (S₃₁.get (mA 2 rfl)) (S₃₁.low (mA 2 rfl)) (S₃₁.get (mA 3 rfl)) (S₃₁.low (mA 3 rfl)) nd31.2.1.1 nd31.2.1.2.1 nd31.2.2.1.1 (by simp; omega) ?_
  intro s₃₂ I₃₂ E₃₂ H1 H2
  refine c55 _ _ ?_
  refine c54 _ _ ?_
  refine wpAny_execs_nil ?_
  refine c7 _ _ ?_
  refine wpAny_execs_nil ?_
  refine c0 _ _ ?_
  have hl'' := (S₃₁.get (mA 0 rfl)).ext E₃₂ (by simp; exact ⟨nd31.1.1, nd31.1.2.1⟩) (not_tab G (S₃₁.low (mA 0 rfl)))
  have hpp := (S₃₁.get (a := p) (o := pairK (sp, wd)) (by exact mA 4 rfl)).ext E₃₂ (by simp; exact ⟨fun q => nd31.2.1.2.2.1 q.symm, fun q => nd31.2.2.1.2.1 q.symm⟩) (not_tab G (S₃₁.low (a := p) (o := pairK (sp, wd)) (by exact mA 4 rfl)))
  have e : chunk width lines ps i sp wd = (lines ++ [pstr ps], [(sp, wd)], 0) := by unfold chunk; rw [if_pos hw, if_neg hps]
  rw [e] at h
  refine h p (sp, wd) #[.ref p] _ I₃₂ (Ext.trans' (X := [c, _, l]) S₃₁.ext E₃₂ ?_) (St.fresh S₂ np) hpp (.cons ⟨p, rfl, .head _⟩ .nil) H1 H2 hl''
  intro b hb
  refine .inl ?_
  simp only [List.mem_cons, List.not_mem_nil, or_false] at hb ⊢
  rcases hb with rfl | rfl <;> simp
end TH23
section TH24
def doneLines (lines : List Str) (ps : List (Str × Str)) (i : Int) : List Str := if 0 < i + plen (fin ps) then lines ++ [pstr (fin ps)] else lines
theorem fmt_str_spec {g : Gx} (G : g.Ok) {A : Around} {k : Nat} (ar : Ar A (k + 8)) {s : Shared} (I : Inv g s) {x d l c e : Addr} {width i : Int} {lines : List Str} {vs : Array Value} {ps : List (Str × Str)} {tl : List (Addr × Kd)} {nl : Str} {tn : Tok}
    (hh : ∀ p ∈ (c, accK e vs) :: (e, acdK i) :: (l, Kd.sl lines) :: (x, Kd.obj (instObj 94 d)) :: (d, fmdK width l c) :: tl, p.2.At s.heap p.1 ∧ g.n ≤ p.1)
    (nd : (((c, accK e vs) :: (e, acdK i) :: (l, Kd.sl lines) :: (x, Kd.obj (instObj 94 d)) :: (d, fmdK width l c) :: tl).map (·.1)).Nodup)
    (hp : PartsIn tl vs.toList ps) (hl : ∀ p ∈ ps, (p.1.length < 1000 ∧ p.2.length < 1000) ∧ PyData.strOk p.1 = true ∧ PyData.strOk p.2 = true) (hz : ps.length < 400) (hend : ∀ qs p, ps = qs ++ [p] → p ≠ (sp, em)) (h0 : 0 ≤ i) (hi : i + plen (fin ps) < 2 ^ 60)
    (hno : 0 < i + plen (fin ps) → i ≠ 0 ∨ Txt.isspace (pstr (fin ps)) = false) (hlz : lines.length < 150) (hnl : nl.length ≤ 16) (hB : ∀ y ∈ doneLines lines ps i, y.length ≤ 1000)
    {Q E : Value → Shared → Prop} (h : ∀ t s', Inv g s' → Ext [c, e, l] s.heap s'.heap → Q (.str (Txt.join nl (doneLines lines ps i)) t) s') :
    wpAny (model PR g.w) A (call (.ref 42) [.ref x, .str nl tn]) Q E s := by
  refine' r_call G [c, e, l] _ [("self", .ref x), ("linesep", .str nl tn)] I ar ?ho ?hnt ?hcd ?hct ?hbd ?hc ?hlc hh nd ?_ ?c1 ?c2 ?c3
  ((case ho => rfl); (case hnt => decide); (case hcd => rfl); (case hct => decide); (case hbd => exact BindsTo.of_eq rfl); (case hc => decide); (case hlc => exact locs rfl); (case c1 => rfl); (case c2 => rfl); (case c3 => rfl))
  intro s₁ S ar' hg
  refine gA ar' fun A' ar0 => ?_; replace ar' := ar0
  refine let env0 : Env := _; idE env0 ?_
  (refine let fx0 : Fx := _; let ls0 : List (Str × Value) := _; let hs0 : List (Addr × Kd) := _; have S0x : St fx0 ls0 hs0 _ := S; ?_); clear S; have S := S0x; clear S0x
  (refine opq ?_; intro Q0 c0)
  refine noE ?_
  refine wpAny_execs_cons ?_
  (refine opq ?_; intro Q1 c1)
  refine wpAny_Expr ?_
  (refine opq ?_; intro Q2 c2)
  refine MethodCall_ ?_
  refine' r_local (by assumption) ?hv ?_; (case hv => rfl)
  refine' r_fM (by assumption) ?hx ?hd ?hf ?ht ?hn ?_; (case hx => exact mA 3 rfl); (case hd => exact mA 4 rfl); (case hf => rfl); (case ht => rfl); (case hn => (intros; rfl))
  refine' r_cwF0 (fn_at (by assumption) ?fo ?fn) ?_; (case fo => rfl); (case fn => decide)
  refine newline_spec G (k := k) (ar'.le (by omega)) S.inv S.given S.nd hp hl hz hend h0 hi hno (by omega) ?_
  intro s₂ I₂ E₂ H1 H2 H3
  have nd1 := S.nd; dsimp only [hs0] at nd1
  have S₂ : St ⟨g, s.heap, [c, e, l], s.heap.objs.size⟩ [("linesep", .str nl tn), ("self", .ref x)] ((l, Kd.sl (doneLines lines ps i)) :: (x, Kd.obj (instObj 94 d)) :: (d, fmdK width l c) :: []) s₂ := by
    simp only [List.map_cons, List.nodup_cons, List.mem_cons, not_or] at nd1
    refine S.next I₂ E₂ (by simp; exact ⟨fun q => S.ne (a := c) (o := accK e vs) (by exact mA 0 rfl) q.symm, fun q => S.ne (a := e) (o := acdK i) (by exact mA 1 rfl) q.symm, fun q => S.ne (a := l) (o := Kd.sl lines) (by exact mA 2 rfl) q.symm⟩) (fun b hb => .inl hb) (fun q hq => ?_) (by simp; grind)
    rcases List.mem_cons.mp hq with rfl | hq
    · exact .inr ⟨H3, S.low (a := l) (o := Kd.sl lines) (by exact mA 2 rfl), S.ne (a := l) (o := Kd.sl lines) (by exact mA 2 rfl)⟩
    rcases List.mem_cons.mp hq with rfl | hq
    · exact .inl ⟨by exact mA 3 rfl, by simp; grind⟩
    rcases List.mem_cons.mp hq with rfl | hq
    · exact .inl ⟨by exact mA 4 rfl, by simp; grind⟩
    · cases hq
  refine c2 _ _ ?_
  refine c1 _ _ ?_
  refine wpAny_execs_cons ?_
  (refine opq ?_; intro Q3 c3)
  refine wpAny_Return_some ?_
  (refine opq ?_; intro Q4 c4)
  refine MethodCall_ ?_
  refine' r_local (by assumption) ?hv ?_; (case hv => rfl)
  refine GM.join ?_
  refine callWith_method1 ?_
  (refine opq ?_; intro Q5 c5)
  refine wpAny_items_cons ?_
  (refine opq ?_; intro Q6 c6)
  refine Attribute_name ?_
  refine' r_local (by assumption) ?hv ?_; (case hv => rfl)
  refine' r_fLines (by assumption) ?hx ?hd ?_; (case hx => exact mA 1 rfl); (case hd => exact mA 2 rfl); intro _ _
  refine c6 _ _ ?_
  (refine opq ?_; intro Q7 c7)
  refine wpAny_items_nil ?_
  refine c7 _ _ ?_
  refine c5 _ _ ?_
  rename_i s₃ S₃
  have hdz : (doneLines lines ps i).length ≤ 200 := by
    unfold doneLines
    split
    · simp; omega
    · omega
  refine r_join S₃ (mA 0 rfl) hnl hdz hB ?_
  intro t s₄ S₄
  refine c4 _ _ ?_
  refine c3 _ _ ?_
  refine c0 _ _ ?_
  exact h _ _ S₄.inv S₄.ext
end TH24
section TH25
theorem St.moreL {f : Fx} {ls : List (Str × Value)} {hs : List (Addr × Kd)} {s s' : Shared} (new : List (Addr × Kd)) (S : St f ls hs s) (I : Inv f.g s') (e : Ext [] s.heap s'.heap) (hn : ∀ p ∈ new, p.2.At s'.heap p.1 ∧ s.heap.objs.size ≤ p.1) (nd : (new.map (·.1)).Nodup) : St f ls (new ++ hs) s' := by
  refine S.next I e (by simp) (by simp) (fun p hp => ?_) ?_
  · rcases List.mem_append.mp hp with hp | hp
    · have := hn p hp
      exact .inr ⟨this.1, Nat.le_trans S.inv.size this.2, Nat.ne_of_gt (Nat.lt_of_lt_of_le S.ltL this.2)⟩
    · exact .inl ⟨hp, by simp⟩
  · rw [List.map_append, List.nodup_append]
    refine ⟨nd, S.nd, fun u hu v hv q => ?_⟩
    obtain ⟨a, ha, rfl⟩ := List.mem_map.mp hu
    obtain ⟨b, hb, rfl⟩ := List.mem_map.mp hv
    have h1 := (hn a ha).2
    have h2 := (S.has b hb).1.lt
    rw [q] at h1
    exact absurd h2 (Nat.not_lt.mpr h1)
theorem St.fmNext {f : Fx} {ls : List (Str × Value)} {rest : List (Addr × Kd)} {s s' : Shared} {a1 a2 c e l p : Addr} {o1 o2 k1 k2 k3 k1' k2' k3' kp : Kd} (S : St f ls ((a1, o1) :: (a2, o2) :: (c, k1) :: (e, k2) :: (l, k3) :: rest) s) (I : Inv f.g s') (E : Ext [c, e, l] s.heap s'.heap)
    (hm : ∀ b ∈ [c, e, l], f.may b) (H1 : k1'.At s'.heap c) (H2 : k2'.At s'.heap e) (H3 : k3'.At s'.heap l) (hp : s.heap.objs.size ≤ p) (Hp : kp.At s'.heap p) : St f ls ((a1, o1) :: (a2, o2) :: (c, k1') :: (e, k2') :: (l, k3') :: (p, kp) :: rest) s' := by
  have nd := S.nd; skip
  have hpn : ∀ b ∈ ((a1, o1) :: (a2, o2) :: (c, k1) :: (e, k2) :: (l, k3) :: rest).map (·.1), b ≠ p := fun b hb q => by
    obtain ⟨r, hr, rfl⟩ := List.mem_map.mp hb
    have := (S.has r hr).1.lt
    rw [q] at this
    exact absurd this (Nat.not_lt.mpr hp)
  have hpL : p ≠ f.L := Nat.ne_of_gt (Nat.lt_of_lt_of_le S.ltL hp)
  have mc : (c, k1) ∈ (a1, o1) :: (a2, o2) :: (c, k1) :: (e, k2) :: (l, k3) :: rest := by exact mA 2 rfl
  have me : (e, k2) ∈ (a1, o1) :: (a2, o2) :: (c, k1) :: (e, k2) :: (l, k3) :: rest := by exact mA 3 rfl
  have ml : (l, k3) ∈ (a1, o1) :: (a2, o2) :: (c, k1) :: (e, k2) :: (l, k3) :: rest := by exact mA 4 rfl
  simp only [List.map_cons, List.mem_cons, forall_eq_or_imp] at hpn
  simp only [List.map_cons, List.nodup_cons, List.mem_cons, not_or] at nd
  refine S.next I E (by simp; exact ⟨fun q => S.ne mc q.symm, fun q => S.ne me q.symm, fun q => S.ne ml q.symm⟩) hm (fun q hq => ?_) ?_
  · rcases List.mem_cons.mp hq with rfl | hq
    · exact .inl ⟨.head _, by simp; grind⟩
    rcases List.mem_cons.mp hq with rfl | hq
    · exact .inl ⟨mA 1 rfl, by simp; grind⟩
    rcases List.mem_cons.mp hq with rfl | hq
    · exact .inr ⟨H1, S.low mc, S.ne mc⟩
    rcases List.mem_cons.mp hq with rfl | hq
    · exact .inr ⟨H2, S.low me, S.ne me⟩
    rcases List.mem_cons.mp hq with rfl | hq
    · exact .inr ⟨H3, S.low ml, S.ne ml⟩
    rcases List.mem_cons.mp hq with rfl | hq
    · exact .inr ⟨Hp, Nat.le_trans S.inv.size hp, hpL⟩
    · have : q.1 ∈ rest.map (·.1) := List.mem_map_of_mem hq
      exact .inl ⟨mD 5 hq, by simp; grind⟩
  · simp only [List.map_cons, List.nodup_cons, List.mem_cons, not_or]
    grind
/-- a word: short, with a sign that is no space -/
def wok (x : Str) : Prop := x.length ≤ 10 ∧ PyData.strOk x = true ∧ ∃ c ∈ x.cps, Unicode.isSpace c = false
def wst (width head : Int) (ws : List Str) : Nat → List Str × List (Str × Str) × Int
  | 0 => ([], [], head)
  | k + 1 => chunk width (wst width head ws k).1 (wst width head ws k).2.1 (wst width head ws k).2.2 (if 0 < k then sp else em) (ws.getD k em)
structure FI (k : Nat) (st : List Str × List (Str × Str) × Int) : Prop where
  ln : st.1.length ≤ k
  lb : ∀ y ∈ st.1, y.length ≤ 11 * k
  pn : st.2.1.length ≤ k
  ne : 0 < k → st.2.1 ≠ []
  nz : k = 0 → st.2.1 = []
  pw : ∀ q ∈ st.2.1, (q.1 = em ∨ q.1 = sp) ∧ wok q.2
  i0 : 0 ≤ st.2.2
  i3 : st.2.2 ≤ 3
  pl : plen st.2.1 ≤ 11 * k
theorem pstr_len (ps : List (Str × Str)) : ((pstr ps).length : Int) ≤ plen ps := by
  have h := StrLaws.join_length_le em (ps.map pcat)
  have e0 : em.length = 0 := rfl
  rw [e0, Nat.mul_zero, Nat.add_zero] at h
  have e1 : Txt.join em (ps.map pcat) = Str.join em (ps.map pcat) := StrLaws.glued_eq_join ..
  unfold pstr
  rw [e1]
  have e2 : ∀ ps : List (Str × Str), ((((ps.map pcat).map (·.length)).sum : Nat) : Int) = plen ps := by
    intro ps
    have key : ∀ n, ∀ ps : List (Str × Str), ps.length = n → ((((ps.map pcat).map (·.length)).sum : Nat) : Int) = plen ps := by
      intro n
      induction n with
      | zero => intro ps h; rw [List.eq_nil_of_length_eq_zero h]; rfl
      | succ n ih =>
        intro ps h
        rcases List.eq_nil_or_concat ps with rfl | ⟨qs, q, rfl⟩
        · simp at h
        · rw [List.concat_eq_append] at *
          rw [plen_snoc, ← ih qs (by simp at h; omega)]
          simp only [List.map_append, List.map_cons, List.map_nil, List.sum_append, List.sum_cons, List.sum_nil, pcat, str_len_append]
          omega
    exact key _ ps rfl
  have := e2 ps
  omega
theorem fi_step {width : Int} {k : Nat} {st : List Str × List (Str × Str) × Int} {x : Str} (F : FI k st) (hx : wok x) : FI (k + 1) (chunk width st.1 st.2.1 st.2.2 (if 0 < k then sp else em) x) := by
  obtain ⟨ln, lb, pn, ne, nz, pw, i0, i3, pl⟩ := F
  have hf : (if 0 < k then sp else em) = em ∨ (if 0 < k then sp else em) = sp := by split <;> simp
  generalize (if 0 < k then sp else em) = fws at hf
  have hfl : fws.length ≤ 1 := by rcases hf with rfl | rfl <;> decide
  have hs1 : sp.length = 1 := rfl
  have hxl := hx.1
  have p1 : plen [(fws, x)] = ((fws.length + x.length : Nat) : Int) := by rw [show [(fws, x)] = [] ++ [(fws, x)] from rfl, plen_snoc, plen_nil]; simp
  have p2 : plen [(sp, x)] = ((sp.length + x.length : Nat) : Int) := by rw [show [(sp, x)] = [] ++ [(sp, x)] from rfl, plen_snoc, plen_nil]; simp
  have pq : ∀ q ∈ [(fws, x)], (q.1 = em ∨ q.1 = sp) ∧ wok q.2 := by intro q hq; simp only [List.mem_singleton] at hq; subst hq; exact ⟨hf, hx⟩
  unfold chunk
  split
  · split
    · split
      · have e0 : (pstr [(em, em)]).length = 0 := by have := pstr_len [(em, em)]; have e : plen [(em, em)] = 0 := rfl; omega
        have pq' : ∀ q ∈ [((if fws = em then sp else fws), x)], (q.1 = em ∨ q.1 = sp) ∧ wok q.2 := by
          intro q hq
          simp only [List.mem_singleton] at hq
          subst hq
          refine ⟨?_, hx⟩
          show (if fws = em then sp else fws) = em ∨ (if fws = em then sp else fws) = sp
          split
          · exact .inr rfl
          · exact hf
        have pl' : plen [((if fws = em then sp else fws), x)] ≤ 11 * ((k + 1 : Nat) : Int) := by
          split
          · rw [p2]; omega
          · rw [p1]; omega
        refine ⟨by simp; omega, ?_, by simp, fun _ => by simp, fun h => by omega, pq', by simp, by simp, pl'⟩
        intro y hy
        rcases List.mem_append.mp hy with hy | hy
        · have := lb y hy; omega
        · simp only [List.mem_singleton] at hy; subst hy; omega
      · exact ⟨by show st.1.length ≤ k + 1; omega, fun y hy => by have := lb y hy; omega, by simp, fun _ => by simp, fun h => by omega, pq, i0, i3, by show plen [(fws, x)] ≤ _; rw [p1]; omega⟩
    · refine ⟨by simp; omega, ?_, by simp, fun _ => by simp, fun h => by omega, pq, by simp, by simp, by show plen [(fws, x)] ≤ _; rw [p1]; omega⟩
      intro y hy
      rcases List.mem_append.mp hy with hy | hy
      · have := lb y hy; omega
      · simp only [List.mem_singleton] at hy
        subst hy
        have := pstr_len st.2.1
        omega
  · refine ⟨by show st.1.length ≤ k + 1; omega, fun y hy => by have := lb y hy; omega, by simp; omega, fun _ => by simp, fun h => by omega, ?_, i0, i3, ?_⟩
    · intro q hq
      rcases List.mem_append.mp hq with hq | hq
      · exact pw q hq
      · exact pq q hq
    · show plen (st.2.1 ++ [(fws, x)]) ≤ _
      rw [plen_snoc]
      show plen st.2.1 + ((fws.length + x.length : Nat) : Int) ≤ _
      omega
theorem fi_all {width head : Int} {ws : List Str} (h0 : 0 ≤ head) (h3 : head ≤ 3) (hw : ∀ x ∈ ws, wok x) : ∀ k, k ≤ ws.length → FI k (wst width head ws k)
  | 0, _ => ⟨by simp [wst], by simp [wst], by simp [wst], by simp, fun _ => rfl, by simp [wst], h0, h3, by simp [wst, plen_nil]⟩
  | k + 1, hk => by
    have hg : ws.getD k em ∈ ws := by
      rw [List.getD_eq_getElem?_getD, List.getElem?_eq_getElem (by omega)]
      exact List.getElem_mem _
    exact fi_step (fi_all h0 h3 hw k (by omega)) (hw _ hg)
def written (width head : Int) (ws : List Str) : List Str := doneLines (wst width head ws ws.length).1 (wst width head ws ws.length).2.1 (wst width head ws ws.length).2.2
end TH25
section TH26
theorem app_em (x : Str) : x ++ em = x := by
  show (⟨x.cps ++ #[]⟩ : Str) = x
  simp
theorem em_app (x : Str) : em ++ x = x := by
  show (⟨#[] ++ x.cps⟩ : Str) = x
  simp
theorem join_cons (x : Str) : ∀ r : List Str, Txt.join em (x :: r) = x ++ Txt.join em r
  | [] => by
    have e0 : Txt.join em [] = em := by unfold Txt.join; rw [StrLaws.glued_eq_join]; rfl
    rw [e0, app_em]
    unfold Txt.join
    rw [StrLaws.glued_eq_join]; rfl
  | y :: r => by
    unfold Txt.join
    rw [StrLaws.glued_eq_join, StrLaws.glued_eq_join]
    show x ++ em ++ Str.join em (y :: r) = _
    rw [app_em]
theorem pstr_nil : pstr [] = em := by unfold pstr Txt.join; rw [StrLaws.glued_eq_join]; rfl
theorem pstr_cons (q : Str × Str) (r : List (Str × Str)) : pstr (q :: r) = q.1 ++ q.2 ++ pstr r := by
  unfold pstr
  rw [List.map_cons, join_cons]; rfl
theorem nospace {q : Str × Str} {r : List (Str × Str)} (h : wok q.2) : Txt.isspace (pstr (q :: r)) = false := by
  rw [pstr_cons]
  unfold Txt.isspace
  have e : (q.1 ++ q.2 ++ pstr r).cps = q.1.cps ++ q.2.cps ++ (pstr r).cps := rfl
  obtain ⟨_, _, c, hc, hs⟩ := h
  have ha : q.2.cps.all Unicode.isSpace = false := by
    cases hq : q.2.cps.all Unicode.isSpace with
    | false => rfl
    | true => rw [Array.all_eq_true'.mp hq c hc] at hs; cases hs
  rw [e, Array.all_append, Array.all_append, ha]
  simp
theorem rsz1 (n : Nat) : Builtin.Range.rangeSize 0 (n : Int) 1 = n := by rw [rangeSize_one]; split <;> omega
theorem rsm1 (n : Nat) (h : n < 1000) : Builtin.Range.small 0 (n : Int) 1 = true := small_one (by omega) (by omega) (by omega) (by omega)
inductive WrW (f : Fx) (x d l c e a it : Addr) (width head : Int) (ws : List Str) (n : Nat) (s' : Shared) : Prop
  | mk (j : Nat) (vs : Array Value) (tl : List (Addr × Kd)) : n = ws.length - j → j ≤ ws.length → PartsIn tl vs.toList (wst width head ws j).2.1 → St f [("formatter", .ref x), ("words", .ref a)]
    ((it, .obj (riObj (j : Int) ((ws.length : Int) - j) 1)) :: (a, .sl ws) :: (c, accK e vs) :: (e, acdK (wst width head ws j).2.2) :: (l, .sl (wst width head ws j).1) :: (x, .obj (instObj 94 d)) :: (d, fmdK width l c) :: tl) s' → WrW f x d l c e a it width head ws n s'
theorem law_written_spec {g : Gx} (G : g.Ok) {A : Around} {k : Nat} (ar : Ar A (k + 9)) {s : Shared} (I : Inv g s) {a : Addr} {ws : List Str} {width head : Int} {tw th : Tok}
    (hl : (Kd.sl ws).At s.heap a) (ha : g.n ≤ a) (hz : ws.length < 50) (hok : ∀ x ∈ ws, wok x) (h0 : 0 ≤ head) (h3 : head ≤ 3)
    {Q E : Value → Shared → Prop} (h : ∀ t s', Inv g s' → Ext [] s.heap s'.heap → Q (.str (Txt.join (Str.ofString "\n") (written width head ws)) t) s') :
    wpAny (model PR g.w) A (call (.ref 245) [.ref a, .int width tw, .int head th]) Q E s := by
  refine' r_call G [] [(a, .sl ws)] [("words", .ref a), ("width", .int width tw), ("head", .int head th)] I ar ?ho ?hnt ?hcd ?hct ?hbd ?hc ?hlc ?hh ?nd ?_ ?c1 ?c2 ?c3
  ((case ho => rfl); (case hnt => decide); (case hcd => rfl); (case hct => decide); (case hbd => exact BindsTo.of_eq rfl); (case hc => decide); (case hlc => exact locs rfl); (case c1 => rfl); (case c2 => rfl); (case c3 => rfl))
  case hh => simp; exact ⟨hl, ha⟩
  case nd => simp
  intro s₁ S ar' hg
  refine gA ar' fun A' ar0 => ?_; replace ar' := ar0
  refine let env0 : Env := _; idE env0 ?_
  (refine let fx0 : Fx := _; let ls0 : List (Str × Value) := _; have S0x : St fx0 ls0 _ _ := S; ?_); clear S; have S := S0x; clear S0x
  (refine opq ?_; intro Q0 c0)
  refine noE ?_
  refine wpAny_execs_cons ?_
  (refine opq ?_; intro Q1 c1)
  refine wpAny_Assign_Name ?_
  (refine opq ?_; intro Q2 c2)
  refine r_Call ?_
  refine' r_glob (by assumption) ?hv ?_; (case hv => rfl)
  refine' r_cwCS (by assumption) ?ho ?hcd ?hcl ?_; (case ho => rfl); (case hcd => rfl); (case hcl => rfl)
  (refine opq ?_; intro Q3 c3)
  refine wpAny_items_cons ?_
  refine' r_local (by assumption) ?hv ?_; (case hv => rfl)
  (refine opq ?_; intro Q4 c4)
  refine wpAny_items_cons ?_
  refine' r_local (by assumption) ?hv ?_; (case hv => rfl)
  (refine opq ?_; intro Q5 c5)
  refine wpAny_items_cons ?_
  refine' r_str (by assumption) ?_; intro _ _ _
  (refine opq ?_; intro Q6 c6)
  refine wpAny_items_cons ?_
  refine' r_str (by assumption) ?_; intro _ _ _
  (refine opq ?_; intro Q7 c7)
  refine wpAny_items_nil ?_
  refine c7 _ _ ?_
  refine c6 _ _ ?_
  refine c5 _ _ ?_
  refine c4 _ _ ?_
  refine c3 _ _ ?_
  refine And.intro (k2_of (by assumption)) ?_
  rename_i s₂ S₂
  refine make_fmt G (k := k) (ar'.le (by omega)) S₂.inv ?_
  intro x d l c e s₃ I₃ E₃ hlo hnd Hx Hd Hl Hc He
  have S₃ := S₂.moreL [(c, accK e #[]), (e, acdK head), (l, .sl []), (x, .obj (instObj 94 d)), (d, fmdK width l c)] I₃ E₃ (by
    intro p hp
    simp only [List.mem_cons, List.not_mem_nil, or_false] at hp
    rcases hp with rfl | rfl | rfl | rfl | rfl
    · exact ⟨Hc, hlo _ (by simp)⟩
    · exact ⟨He, hlo _ (by simp)⟩
    · exact ⟨Hl, hlo _ (by simp)⟩
    · exact ⟨Hx, hlo _ (by simp)⟩
    · exact ⟨Hd, hlo _ (by simp)⟩) (by simp at hnd ⊢; grind)
  have hfr : ∀ b ∈ [c, e, l], s.heap.objs.size ≤ b := fun b hb => by
    have hb' : b ∈ [x, d, l, c, e] := by simp at hb ⊢; grind
    exact Nat.le_trans S₂.ext.1 (hlo b hb')
  refine c2 _ _ ?_
  refine' r_storeName (by assumption) ?_; intro _ _
  refine c1 _ _ ?_
  refine wpAny_execs_cons ?_
  (refine opq ?_; intro Q8 c8)
  refine wpAny_For ?_
  (refine opq ?_; intro Q9 c9)
  refine r_Call ?_
  refine' r_boot (by assumption) ?hv ?hw ?_; (case hv => rfl); (case hw => boot_by_name)
  refine Pv.callWith_type1 ?_
  (refine opq ?_; intro Q10 c10)
  refine wpAny_items_cons ?_
  (refine opq ?_; intro Q11 c11)
  refine r_Call ?_
  refine' r_boot (by assumption) ?hv ?hw ?_; (case hv => rfl); (case hw => boot_by_name)
  refine PyProof.Rows.callWith_builtin1 ?_
  (refine opq ?_; intro Q12 c12)
  refine wpAny_items_cons ?_
  refine' r_local (by assumption) ?hv ?_; (case hv => rfl)
  (refine opq ?_; intro Q13 c13)
  refine wpAny_items_nil ?_
  refine c13 _ _ ?_
  refine c12 _ _ ?_
  refine' r_len (by assumption) ?hm ?hz ?_; (case hm => exact mA 5 rfl); (case hz => omega); intro _ _ _
  refine c11 _ _ ?_
  (refine opq ?_; intro Q14 c14)
  refine wpAny_items_nil ?_
  refine c14 _ _ ?_
  refine c10 _ _ ?_
  refine' r_range1 (by assumption) ?_; intro _ _ _ _ _ _
  refine c9 _ _ ?_
  rename_i s₄ S₄
  refine r_iterR S₄ (rsm1 _ (by omega)) ?_
  intro it s₅ mit S₅
  rw [rsz1] at S₅
  refine codeAny_forLoop (WrW ⟨g, s.heap, [], s.heap.objs.size⟩ x d l c e a it width head ws) ?_ ws.length
    ⟨0, #[], [], rfl, Nat.zero_le _, .nil, (by exact S₅.pick 1000 [0, 6, 1, 2, 3, 4, 5])⟩
  rintro n s₆ ⟨j, vs, tl, rfl, hj, hP, S₆⟩
  have F := fi_all (width := width) h0 h3 hok j hj
  have hl1 : ∀ p ∈ (wst width head ws j).2.1, p.1.length < 1000 ∧ p.2.length < 1000 := fun p hp => by
    have h1 := F.pw p hp
    have h2 := h1.2.1
    refine ⟨?_, by omega⟩
    rcases h1.1 with e | e <;> rw [e] <;> decide
  have e1 := F.ln
  have e2 := F.pn
  have e3 := F.pl
  have e4 := F.i0
  have e5 := F.i3
  have e6 := F.nz
  rcases Nat.lt_or_eq_of_le hj with hj' | rfl
  · refine r_nextR S₆ mit (by omega) ?_
    intro tk s₇ S₇
    (refine let fx1 : Fx := _; let hs1 : List (Addr × Kd) := _; have S1x : St fx1 _ hs1 _ := S₇; ?_); clear S₇; have S₇ := S1x; clear S1x
    refine noE ?_
    refine wpAny_assign_Name ?_
    refine' r_storeName (by assumption) ?_; intro _ _
    (refine opq ?_; intro Q15 c15)
    refine noE ?_
    refine wpAny_execs_cons ?_
    (refine opq ?_; intro Q16 c16)
    refine wpAny_Expr ?_
    (refine opq ?_; intro Q17 c17)
    refine MethodCall_ ?_
    refine' r_local (by assumption) ?hv ?_; (case hv => rfl)
    refine' r_fM (by assumption) ?hx ?hd ?hf ?ht ?hn ?_; (case hx => exact mA 5 rfl); (case hd => exact mA 6 rfl); (case hf => rfl); (case ht => rfl); (case hn => (intros; rfl))
    refine r_cwF ?_
    (refine opq ?_; intro Q18 c18)
    refine wpAny_items_cons ?_
    refine wpAny_mono (Q := fun v s' => ∃ t, v = .str (if 0 < j then sp else em) t ∧ St ⟨g, s.heap, [], s.heap.objs.size⟩ [("k", .int (j : Int) tk), ("formatter", .ref x), ("words", .ref a)]
      ((it, .obj (riObj ((j : Int) + 1) ((ws.length : Int) - j - 1) 1)) :: (a, .sl ws) :: (c, accK e vs) :: (e, acdK (wst width head ws j).2.2) :: (l, .sl (wst width head ws j).1) :: (x, .obj (instObj 94 d)) :: (d, fmdK width l c) :: tl) s') ?_ ?_ (fun _ _ x => x)
    · (refine opq ?_; intro Q19 c19)
      refine wpAny_IfExp ?_
      (refine opq ?_; intro Q20 c20)
      refine wpAny_isTrue_Compare1 ?_
      refine' r_local (by assumption) ?hv ?_; (case hv => rfl)
      refine' r_int (by assumption) ?_; intro _ _ _
      refine P.gt_int ?_
      refine wpAny_truthy_bool ?_
      refine c20 _ _ ?_
      by_cases hj0 : 0 < j
      · rw [if_pos (decide_eq_true (by omega))]
        refine' r_str (by assumption) ?_; intro _ _ _
        refine c19 _ _ ?_
        exact ⟨_, by rw [if_pos hj0]; rfl, by assumption⟩
      · rw [if_neg (by rw [decide_eq_true_eq]; omega)]
        refine' r_str (by assumption) ?_; intro _ _ _
        refine c19 _ _ ?_
        exact ⟨_, by rw [if_neg hj0]; rfl, by assumption⟩
    rintro v s₈ ⟨tf, rfl, S₈⟩
    (refine let fx2 : Fx := _; let hs2 : List (Addr × Kd) := _; have S2x : St fx2 _ hs2 _ := S₈; ?_); clear S₈; have S₈ := S2x; clear S2x
    (refine opq ?_; intro Q19 c19)
    refine wpAny_items_cons ?_
    (refine opq ?_; intro Q20 c20)
    refine Subscript_ ?_
    refine' r_local (by assumption) ?hv ?_; (case hv => rfl)
    refine' r_local (by assumption) ?hv ?_; (case hv => rfl)
    have hwj : ws.getD j em = ws[j] := by rw [List.getD_eq_getElem?_getD, List.getElem?_eq_getElem hj']; rfl
    have hkj := hok _ (List.getElem_mem hj')
    refine r_itemN S₈ (by exact mA 1 rfl) (List.getElem?_eq_getElem hj') (by omega) ?_
    intro tx
    refine c20 _ _ ?_
    (refine opq ?_; intro Q21 c21)
    refine wpAny_items_nil ?_
    refine c21 _ _ ?_
    refine c19 _ _ ?_
    refine c18 _ _ ?_
    refine' And.intro (fn_at (by assumption) ?fo ?fn) ?_; (case fo => rfl); (case fn => decide)
    refine append_chunk_spec G (k := k) (ar'.le (by omega)) S₈.inv (fun p hp => S₈.given p (mD 2 hp)) ((List.nodup_cons.mp (List.nodup_cons.mp S₈.nd).2).2) hP hl1 (by omega) e4 (by omega) (by omega) ?_ ?_ (by have := hkj.1; omega) hkj.2.1 ?_
    · split <;> simp
    · intro hne
      rw [if_pos (Nat.pos_of_ne_zero fun q => hne (e6 q))]
    intro p q vs' s₉ I₉ E₉ np Hp hP' H1 H2 H3
    have S₉ := S₈.fmNext I₉ E₉ (fun b hb => .inr (hfr b hb)) H1 H2 H3 np Hp
    refine c17 _ _ ?_
    refine c16 _ _ ?_
    refine wpAny_execs_nil ?_
    refine c15 _ _ ?_
    have hst : wst width head ws (j + 1) = chunk width (wst width head ws j).1 (wst width head ws j).2.1 (wst width head ws j).2.2 (if 0 < j then sp else em) ws[j] := by rw [wst, hwj]
    refine ⟨ws.length - (j + 1), by omega, j + 1, vs', (p, pairK q) :: tl, rfl, by omega, by rw [hst]; exact hP', ?_⟩
    rw [hst]
    have er : (ws.length : Int) - j - 1 = (ws.length : Int) - ((j + 1 : Nat) : Int) := by omega
    rw [er] at S₉
    exact (by exact S₉.pick 8 [0, 1, 2, 3, 4, 6, 7, 5])
  · refine r_endR S₆ mit ar'.hand (by omega) ?_
    intro s₇ S₇
    (refine let fx1 : Fx := _; let hs1 : List (Addr × Kd) := _; have S1x : St fx1 _ hs1 _ := S₇; ?_); clear S₇; have S₇ := S1x; clear S1x
    refine noE ?_
    refine wpAny_execs_nil ?_
    refine c8 _ _ ?_
    refine wpAny_execs_cons ?_
    (refine opq ?_; intro Q15 c15)
    refine wpAny_Return_some ?_
    (refine opq ?_; intro Q16 c16)
    refine MethodCall_ ?_
    refine' r_local (by assumption) ?hv ?_; (case hv => rfl)
    refine' r_fM (by assumption) ?hx ?hd ?hf ?ht ?hn ?_; (case hx => exact mA 4 rfl); (case hd => exact mA 5 rfl); (case hf => rfl); (case ht => rfl); (case hn => (intros; rfl))
    refine r_cwF ?_
    (refine opq ?_; intro Q17 c17)
    refine wpAny_items_cons ?_
    refine' r_str (by assumption) ?_; intro _ _ _
    (refine opq ?_; intro Q18 c18)
    refine wpAny_items_nil ?_
    refine c18 _ _ ?_
    refine c17 _ _ ?_
    refine' And.intro (fn_at (by assumption) ?fo ?fn) ?_; (case fo => rfl); (case fn => decide)
    clear S₇
    rename_i s₇ S₇
    have hne : ∀ {y : Str}, wok y → y ≠ em := fun {y} hy q => by
      obtain ⟨_, _, c, hc, _⟩ := hy
      rw [q] at hc
      have : em.cps = #[] := rfl
      rw [this] at hc
      exact absurd hc (by simp)
    have hfp : plen (fin (wst width head ws ws.length).2.1) ≤ 11 * ws.length := by
      unfold fin
      split
      · have : plen [(em, em)] = 0 := rfl
        omega
      · exact F.pl
    refine fmt_str_spec G (k := k) ar' S₇.inv (fun p hp => S₇.given p (mD 1 hp)) (List.nodup_cons.mp S₇.nd).2 hP ?_ (by omega) ?_ e4 (by omega) ?_ (by omega) (by show (Str.ofString "\n").length ≤ 16; decide) ?_ ?_
    · intro p hp
      have h1 := F.pw p hp
      refine ⟨hl1 p hp, ?_, h1.2.2.1⟩
      rcases h1.1 with e | e <;> rw [e]
      · exact em_ok
      · exact sp_ok
    · intro qs p hqs hps
      have h1 := F.pw p (by rw [hqs]; simp)
      exact hne h1.2 (by rw [hps])
    · intro hpos
      cases hps : (wst width head ws ws.length).2.1 with
      | nil =>
        rw [hps] at hpos
        have : plen (fin []) = 0 := rfl
        exact .inl (by omega)
      | cons q r =>
        have h1 := F.pw q (by rw [hps]; exact .head _)
        exact .inr (nospace h1.2)
    · intro y hy
      unfold doneLines at hy
      split at hy
      · rcases List.mem_append.mp hy with hy | hy
        · have := F.lb y hy; omega
        · simp only [List.mem_singleton] at hy
          subst hy
          have := pstr_len (fin (wst width head ws ws.length).2.1)
          omega
      · have := F.lb y hy; omega
    intro t s₈ I₈ E₈
    refine c16 _ _ ?_
    refine c15 _ _ ?_
    refine c0 _ _ ?_
    exact h t s₈ I₈ (S₇.ext.trans' E₈ fun b hb => .inr (hfr b hb))
end TH26
section TF29
theorem ns_obj {h : Heap} {L : Addr} {m : Str → Option Value} (n : h.Ns L m) : ∃ o, h.get? L = some o ∧ ∀ vs, o.data ≠ .fields vs := by
  obtain ⟨o, es, ep, ho, hd, _⟩ := n
  exact ⟨o, ho, fun vs q => by rw [hd] at q; cases q⟩
theorem St.slotNext {f : Fx} {ls : List (Str × Value)} {hs hs' : List (Addr × Kd)} {s s' : Shared} {Y : List Addr} {fr : List (Addr × Obj)} {oL : Obj} (S : St f ls hs s) (I : Inv f.g s') (e : Ext (Y ++ f.L :: fr.map (·.1)) s.heap s'.heap) (hY : ∀ d ∈ Y, f.may d)
    (hin : ∀ p ∈ frK fr, p ∈ hs) (hm : ∀ p ∈ fr, f.may p.1) (hoL : s.heap.get? f.L = some oL) (hL : (Kd.is (slotP oL)).At s'.heap f.L) (hf : ∀ p ∈ frK fr, p.2.At s'.heap p.1)
    (hh : ∀ p ∈ hs', (p ∈ hs ∧ p.1 ∉ Y) ∨ (p.2.At s'.heap p.1 ∧ f.g.n ≤ p.1 ∧ p.1 ≠ f.L)) (nd : (hs'.map (·.1)).Nodup) : St f ls hs' s' := by
  obtain ⟨m, hn, hmm⟩ := S.loc
  refine ⟨S.ok, I, S.ext.trans' e ?_, ⟨m, ?_, hmm⟩, S.lo, S.new, fun p hp => ?_, nd⟩
  · intro d hd
    rcases List.mem_append.mp hd with hd | hd
    · exact hY d hd
    · rcases List.mem_cons.mp hd with rfl | hd
      · exact .inr S.new
      · obtain ⟨p, hp, rfl⟩ := List.mem_map.mp hd
        exact hm p hp
  · refine ns_slots hn fun o ho => ?_
    rw [hoL] at ho
    obtain ⟨o', ho', sl, rfl⟩ := hL
    cases ho
    exact ⟨sl, ho'⟩
  · rcases hh p hp with ⟨h1, h2⟩ | h
    · have := S.has p h1
      refine ⟨?_, this.2⟩
      by_cases hq : p.1 ∈ fr.map (·.1)
      · obtain ⟨q, hqf, eq⟩ := List.mem_map.mp hq
        have h3 := hin _ (mem_frK hqf)
        obtain ⟨a, k⟩ := p
        have e' : q.1 = a := eq
        have h4 := hf _ (mem_frK hqf)
        rw [e'] at h3 h4
        have := S.one h3 h1
        subst this
        exact h4
      · refine this.1.ext e (fun z => ?_) (not_tab S.ok this.2.1)
        rcases List.mem_append.mp z with z | z
        · exact h2 z
        · exact (List.mem_cons.mp z).elim this.2.2 hq
    · exact h
section
variable {f : Fx} {A : Around} {E : Value → Shared → Prop} {s : Shared} {ls : List (Str × Value)} {hs : List (Addr × Kd)} {env : Env}
theorem r_sld {k : Nat} {a b : Addr} {ws us : List Str} {Q : Value → Shared → Prop} (S : St f ls hs s) (ar : Ar A (k + 1)) (B : Below' f A env hs) (m1 : (a, .sl ws) ∈ hs) (m2 : (b, .sl us) ∈ hs) (hz : ws.length + us.length < 500)
    (h : ∀ t m u s', s.heap.objs.size ≤ t → s.heap.objs.size ≤ m → s.heap.objs.size ≤ u → St f ls ((t, .obj (tupObj [.ref m, .ref u])) :: (m, .sl (sld ws us).1) :: (u, .sl (sld ws us).2) :: hs) s' → Q (.ref t) s') : wpAny (model PR f.g.w) A (call (.ref 224) [.ref a, .ref b]) Q E s := by
  obtain ⟨outer, fr, hA, hF, hin, hm⟩ := B.ex
  obtain ⟨mm, hn, hmm⟩ := S.loc
  obtain ⟨oL, hoL, hnf⟩ := ns_obj hn
  refine sld_spec S.ok ar S.inv (fr := (f.L, oL) :: fr) (hs0 := (f.L, .is (slotP oL)) :: hs) hA ⟨by rw [B.fk]; decide, B.fl, hnf, hF⟩ ?_ ?_ (.tail _ m1) (.tail _ m2) ?_ hz ?_
  · intro p hp
    rcases List.mem_cons.mp hp with rfl | hp
    · exact ⟨⟨oL, hoL, oL.slots, rfl⟩, S.lo⟩
    · exact ⟨(S.has p hp).1, (S.has p hp).2.1⟩
  · rw [List.map_cons, List.nodup_cons]
    refine ⟨fun q => ?_, S.nd⟩
    obtain ⟨p, hp, q⟩ := List.mem_map.mp q
    exact (S.has p hp).2.2 q
  · intro p hp
    rcases List.mem_cons.mp hp with rfl | hp
    · exact .head _
    · exact .tail _ (hin p hp)
  · intro t m u s' I' E' hat ht hm' hu hmu Ht Hm Hu
    refine h t m u s' ht hm' hu ?_
    have new : ∀ {x : Addr}, s.heap.objs.size ≤ x → f.g.n ≤ x ∧ x ≠ f.L := fun {x} hx => ⟨Nat.le_trans S.inv.size hx, Nat.ne_of_gt (Nat.lt_of_lt_of_le S.ltL hx)⟩
    have fresh : ∀ {x : Addr}, s.heap.objs.size ≤ x → x ∉ hs.map (·.1) := fun {x} hx q => by
      obtain ⟨p, hp, rfl⟩ := List.mem_map.mp q
      exact absurd (S.has p hp).1.lt (Nat.not_lt.mpr hx)
    have htm : t ≠ m := fun q => by
      subst q
      obtain ⟨v1, n1, h1, _⟩ := Hm
      have h1 : s'.heap.get? t = some (W.listOf v1 n1) := h1
      rw [show s'.heap.get? t = some (tupObj [.ref t, .ref u]) from Ht] at h1
      have := congrArg (fun o => o.map (·.cls)) h1
      simp [tupObj, W.listOf] at this
    have htu : t ≠ u := fun q => by
      subst q
      obtain ⟨v1, n1, h1, _⟩ := Hu
      have h1 : s'.heap.get? t = some (W.listOf v1 n1) := h1
      rw [show s'.heap.get? t = some (tupObj [.ref m, .ref t]) from Ht] at h1
      have := congrArg (fun o => o.map (·.cls)) h1
      simp [tupObj, W.listOf] at this
    refine S.slotNext (Y := []) I' E' (by simp) hin hm hoL (hat _ (.head _)) (fun p hp => hat p (.tail _ (hin p hp))) (fun p hp => ?_) ?_
    · rcases List.mem_cons.mp hp with rfl | hp
      · exact .inr ⟨Ht, new ht⟩
      rcases List.mem_cons.mp hp with rfl | hp
      · exact .inr ⟨Hm, new hm'⟩
      rcases List.mem_cons.mp hp with rfl | hp
      · exact .inr ⟨Hu, new hu⟩
      · exact .inl ⟨hp, by simp⟩
    · simp only [List.map_cons, List.nodup_cons, List.mem_cons, not_or]
      exact ⟨⟨htm, htu, fresh ht⟩, ⟨hmu, fresh hm'⟩, fresh hu, S.nd⟩
theorem r_uld {k : Nat} {a b : Addr} {es bs : List Str} {Q : Value → Shared → Prop} (S : St f ls ((a, .sl es) :: (b, .sl bs) :: hs) s) (ar : Ar A (k + 1)) {outer : List Env} {fr : List (Addr × Obj)} (hA : A.frames = some (env :: outer)) (hF : Frs outer fr) (hin : ∀ p ∈ frK fr, p ∈ hs) (hm : ∀ p ∈ fr, f.may p.1) (hfn : ((frK fr).map (·.1)).Nodup) (fl : env.frame = some f.L) (fk : env.scope.kind = .function) (ma : f.may a) (mb : f.may b) (hz : es.length + bs.length < 500)
    (h : ∀ t m s', s.heap.objs.size ≤ t → s.heap.objs.size ≤ m → St f ls ((t, .obj (tupObj [.ref m, .ref b])) :: (m, .sl (uld es.reverse bs).1) :: (b, .sl (uld es.reverse bs).2) :: hs) s' → Q (.ref t) s') : wpAny (model PR f.g.w) A (call (.ref 231) [.ref a, .ref b]) Q E s := by
  obtain ⟨mm, hn, hmm⟩ := S.loc
  obtain ⟨oL, hoL, hnf⟩ := ns_obj hn
  have nd := S.nd
  simp only [List.map_cons, List.nodup_cons, List.mem_cons, not_or] at nd
  have hfm : ∀ x ∈ (frK fr).map (·.1), x ∈ hs.map (·.1) := fun x hx => by
    obtain ⟨p, hp, rfl⟩ := List.mem_map.mp hx
    exact List.mem_map_of_mem (hin p hp)
  have hLn : f.L ∉ (frK fr).map (·.1) := fun q => by
    obtain ⟨p, hp, q⟩ := List.mem_map.mp q
    exact (S.has p (.tail _ (.tail _ (hin p hp)))).2.2 q
  refine uld_spec S.ok ar S.inv (fr := (f.L, oL) :: fr) hA ⟨by rw [fk]; decide, fl, hnf, hF⟩ ?_ ?_ (S.get (.head _)) (S.low (.head _)) (S.get (.tail _ (.head _))) (S.low (.tail _ (.head _))) hz ?_
  · intro p hp
    rcases List.mem_cons.mp hp with rfl | hp
    · exact ⟨⟨oL, hoL, oL.slots, rfl⟩, S.lo⟩
    · have := S.has p (.tail _ (.tail _ (hin p hp)))
      exact ⟨this.1, this.2.1⟩
  · show (a :: b :: f.L :: (frK fr).map (·.1)).Nodup
    simp only [List.nodup_cons, List.mem_cons, not_or]
    refine ⟨⟨nd.1.1, S.ne (.head _), fun q => nd.1.2 (hfm _ q)⟩, ⟨S.ne (.tail _ (.head _)), fun q => nd.2.1 (hfm _ q)⟩, hLn, hfn⟩
  · intro t m s' I' E' hat ht hm' Ht Hm Hb
    refine h t m s' ht hm' ?_
    have new : ∀ {x : Addr}, s.heap.objs.size ≤ x → f.g.n ≤ x ∧ x ≠ f.L := fun {x} hx => ⟨Nat.le_trans S.inv.size hx, Nat.ne_of_gt (Nat.lt_of_lt_of_le S.ltL hx)⟩
    have fresh : ∀ {x : Addr}, s.heap.objs.size ≤ x → x ∉ hs.map (·.1) := fun {x} hx q => by
      obtain ⟨p, hp, rfl⟩ := List.mem_map.mp q
      exact absurd (S.has p (.tail _ (.tail _ hp))).1.lt (Nat.not_lt.mpr hx)
    have freshb : ∀ {x : Addr}, s.heap.objs.size ≤ x → x ≠ b := fun {x} hx q => absurd (S.get (.tail _ (.head _))).lt (Nat.not_lt.mpr (q ▸ hx))
    have htm : t ≠ m := fun q => by
      subst q
      obtain ⟨v1, n1, h1, _⟩ := Hm
      have h1 : s'.heap.get? t = some (W.listOf v1 n1) := h1
      rw [show s'.heap.get? t = some (tupObj [.ref t, .ref b]) from Ht] at h1
      have := congrArg (fun o => o.map (·.cls)) h1
      simp [tupObj, W.listOf] at this
    refine S.slotNext (Y := [a, b]) I' E' (by simp; exact ⟨ma, mb⟩) (fun p hp => .tail _ (.tail _ (hin p hp))) hm hoL (hat _ (.head _)) (fun p hp => hat p (.tail _ hp)) (fun p hp => ?_) ?_
    · rcases List.mem_cons.mp hp with rfl | hp
      · exact .inr ⟨Ht, new ht⟩
      rcases List.mem_cons.mp hp with rfl | hp
      · exact .inr ⟨Hm, new hm'⟩
      rcases List.mem_cons.mp hp with rfl | hp
      · exact .inr ⟨Hb, S.low (.tail _ (.head _)), S.ne (.tail _ (.head _))⟩
      · refine .inl ⟨.tail _ (.tail _ hp), ?_⟩
        have hmp : p.1 ∈ hs.map (·.1) := List.mem_map_of_mem hp
        simp only [List.mem_cons, List.not_mem_nil, or_false, not_or]
        exact ⟨fun q => nd.1.2 (q ▸ hmp), fun q => nd.2.1 (q ▸ hmp)⟩
    · simp only [List.map_cons, List.nodup_cons, List.mem_cons, not_or]
      exact ⟨⟨htm, freshb ht, fresh ht⟩, ⟨freshb hm', fresh hm'⟩, nd.2.1, nd.2.2⟩
end
end TF29
section TF30
def ilK (ns : List Int) : Kd := .is fun o => ∃ vs n, o = W.listOf vs n ∧ IntsAre vs.toList ns
def rlK (rs : List Addr) : Kd := .is fun o => ∃ n, o = W.listOf (rs.map Value.ref).toArray n
theorem St.re {f : Fx} {ls : List (Str × Value)} {hs hs' : List (Addr × Kd)} {s : Shared} (S : St f ls hs s) (h : ∀ p ∈ hs', p ∈ hs ∨ ∃ k, (p.1, k) ∈ hs ∧ p.2.At s.heap p.1) (nd : (hs'.map (·.1)).Nodup) : St f ls hs' s :=
  ⟨S.ok, S.inv, S.ext, S.loc, S.lo, S.new, fun p hp => (h p hp).elim (S.has p) fun ⟨_, m, q⟩ => ⟨q, S.low m, S.ne m⟩, nd⟩
theorem fr_of {A : Around} {env : Env} {k : Nat} {outer : List Env} (_ar : Ar (A.deeper env) k) (h : A.frames = some outer) : (A.deeper env).frames = some (env :: outer) := Around.frames_deeper h
theorem gF {α : Type} {M : Model} {A : Around} {k : Nat} {es : List Env} {c : Sem α} {Q : α → Shared → Prop} {E : Value → Shared → Prop} {s : Shared} (ar : Ar A k) (hf : A.frames = some es) (h : ∀ A', Ar A' k → A'.frames = some es → wpAny M A' c Q E s) : wpAny M A c Q E s := h A ar hf
theorem St.kind {f : Fx} {ls : List (Str × Value)} {hs : List (Addr × Kd)} {s : Shared} {a : Addr} {k k' : Kd} (S : St f ls ((a, k) :: hs) s) (h : k'.At s.heap a) : St f ls ((a, k') :: hs) s :=
  S.re (fun p hp => by
    rcases List.mem_cons.mp hp with rfl | hp
    · exact .inr ⟨k, .head _, h⟩
    · exact .inl (.tail _ hp)) (by have := S.nd; simpa using this)
section
variable {prog : Program} {w : World} {f : Fx} {A : Around} {E : Value → Shared → Prop} {s : Shared} {ls : List (Str × Value)} {hs : List (Addr × Kd)}
theorem r_iterI {a : Addr} {ns : List Int} {Q : Value → Shared → Prop} (S : St f ls hs s) (hm : (a, ilK ns) ∈ hs) (h : ∀ it s', f.may it → St f ls ((it, .is (liP a 0)) :: hs) s' → Q (.ref it) s') : wpAny (model prog w) A (pyIter (.ref a)) Q E s := by
  obtain ⟨_, ho, vs, n, rfl, hv⟩ := S.get hm
  have hl : IsL s.heap a vs n := ho
  refine wpAny_pyIter_list hl.isList (h _ _ (.inr S.ext.1) (S.push { cls := .type "list_iterator", data := .fields #[.ref a, .int 0 0] } s.toks _ ⟨_, Heap.get?_push_size _ rfl, rfl, rfl⟩))
theorem r_nextI {it a : Addr} {i : Nat} {ns : List Int} {y : Int} {Q : Option Value → Shared → Prop} (S : St f ls ((it, .is (liP a i)) :: hs) s) (hm : (a, ilK ns) ∈ hs) (m : f.may it) (hx : ns[i]? = some y)
    (h : ∀ t s', St f ls ((it, .is (liP a (i + 1))) :: hs) s' → Q (some (.int y t)) s') : wpAny (model prog w) A (pyNext (.ref it)) Q E s := by
  obtain ⟨_, ho', vs, n, rfl, hv⟩ := S.get (.tail _ hm)
  have hl : IsL s.heap a vs n := ho'
  obtain ⟨t, e⟩ := hv.get i y hx
  obtain ⟨o, ho, hp⟩ := S.get (.head _)
  exact wpAny_pyNext_list_item ⟨o, ho, hp⟩ hl.isList (by rw [← Array.getElem?_toList]; exact e) fun h' hi hs => h t _ (S.upd (S.inv.step S.ok (fun b o hb e => (hs.2 b (Nat.ne_of_lt (Nat.lt_of_lt_of_le hb (S.low (.head _))))).trans e) (Nat.le_of_eq hs.1.symm) rfl S.inv.gens) (Ext.same hs) m hi)
theorem r_endI {it a : Addr} {i : Nat} {ns : List Int} {Q : Option Value → Shared → Prop} (S : St f ls ((it, .is (liP a i)) :: hs) s) (hm : (a, ilK ns) ∈ hs) (m : f.may it) (hh : A.handled = none) (hx : ns.length ≤ i) (h : ∀ s', St f ls hs s' → Q none s') :
    wpAny (model prog w) A (pyNext (.ref it)) Q E s := by
  obtain ⟨_, ho', vs, n, rfl, hv⟩ := S.get (.tail _ hm)
  have hl : IsL s.heap a vs n := ho'
  obtain ⟨o, ho, hp⟩ := S.get (.head _)
  have hx' : vs[i]? = none := by
    have := hv.length
    simp at this
    rw [Array.getElem?_eq_none_iff]; omega
  exact wpAny_size (wpAny_pyNext_list_end hh ⟨o, ho, hp⟩ hl.isList hx' fun h' e z => h _ (S.gone e z m s.toks))
theorem r_addR {a b c : Addr} {rs : List Addr} {Q : Value → Shared → Prop} (S : St f ls hs s) (ha : (a, rlK rs) ∈ hs) (hb : (b, .obj (W.listOf #[.ref c] 0)) ∈ hs) (hz : rs.length < 1000)
    (h : ∀ q s', s.heap.objs.size ≤ q → St f ls ((q, rlK (rs ++ [c])) :: hs) s' → Q (.ref q) s') : wpAny (model prog w) A (binaryOp .Add (.ref a) (.ref b)) Q E s := by
  obtain ⟨_, ho, n, rfl⟩ := S.get ha
  have hl : IsL s.heap a (rs.map Value.ref).toArray n := ho
  have hl' : IsL s.heap b #[.ref c] 0 := S.get hb
  refine P.add_list hl hl' (h _ _ (Nat.le_refl _) (S.push _ s.toks _ ⟨_, Heap.get?_push_size _ rfl, 0, ?_⟩)) (by rw [sizeLine_eq]; simp; omega)
  show _ = W.listOf _ 0
  unfold W.listOf
  congr 2
  simp
theorem r_itemR {value slice : Expr} {a : Addr} {rs : List Addr} {y : Addr} {k : Int} {u : Tok} {Q : Value → Shared → Prop} (S : St f ls hs s) (hm : (a, rlK rs) ∈ hs) (hk : k = -3) (h3 : 3 ≤ rs.length) (hz : rs.length < 1000) (hx : rs[rs.length - 3]? = some y)
    (h : Q (.ref y) s) (hsl : subscripted slice false (.ref a) (.int k u) = operate [.ref a, .int k u] (getItem (.ref a) (.int k u)) := by with_unfolding_all rfl) :
    wpAny (model prog w) A (subscriptTail value slice (.ref a) (.int k u)) Q E s := by
  obtain ⟨_, ho, n, rfl⟩ := S.get hm
  have hl : IsL s.heap a (rs.map Value.ref).toArray n := ho
  refine tail_any hl.isList.typeIs slot_list_getitem.lookup ?_ hsl
  refine wpAny_getItem_list_neg hl.isList (by omega) (by simp; omega) (by omega) (x := .ref y) ?_ h
  rw [show (k + ((rs.map Value.ref).toArray.size : Int)).toNat = rs.length - 3 by simp; omega]
  simp [hx]
theorem reads_tup {h : Heap} {t p q : Addr} {ws us : List Str} (ht : h.get? t = some (tupObj [.ref p, .ref q])) (hp : (Kd.sl ws).At h p) (hq : (Kd.sl us).At h q) : Reads h (.ref t) (.tuple [.list (ws.map .str), .list (us.map .str)]) ([p] ++ ([q] ++ [])) :=
  .tuple ht rfl rfl (.cons (reads_sl hp) (.cons (reads_sl hq) .nil))
theorem shaped_tup {ws us : List Str} (h1 : okw ws) (h2 : okw us) : SeqAt.shaped (.tuple [.list (ws.map .str), .list (us.map .str)]) = true := by
  unfold SeqAt.shaped
  simp only [PyData.canLay0, PyData.canLayAll0, canLay_strs h1, canLay_strs h2, PyData.depth, PyData.depthAll, depth_strs]
  rfl
theorem eqv_tup (ws us : List Str) : PyData.eqv (.tuple [.list (ws.map .str), .list (us.map .str)]) (.tuple [.list (ws.map .str), .list (us.map .str)]) = true := by
  simp only [PyData.eqv, PyData.eqvAll, eqv_strs, decide_true, Bool.and_true]
theorem r_neT {t t' p q p' q' : Addr} {ws us : List Str} {Q : Value → Shared → Prop} (S : St f ls hs s) (h1 : (t, .obj (tupObj [.ref p, .ref q])) ∈ hs) (h2 : (t', .obj (tupObj [.ref p', .ref q'])) ∈ hs) (hp : (p, .sl ws) ∈ hs) (hq : (q, .sl us) ∈ hs) (hp' : (p', .sl ws) ∈ hs) (hq' : (q', .sl us) ∈ hs)
    (o1 : okw ws) (o2 : okw us) (hA : A.units + 64 < cLine) (h : Q (.bool false) s) : wpAny (model prog w) A (compareOp .NotEq (.ref t) (.ref t')) Q E s := by
  refine SeqAt.compareNe_shaped (reads_tup (S.get h1) (S.get hp) (S.get hq)) (reads_tup (S.get h2) (S.get hp') (S.get hq')) (shaped_tup o1 o2) (shaped_tup o1 o2) hA ?_
  rw [eqv_tup]
  exact h
theorem r_neTold {l l' t1 t2 t1' t2' a b c d a' b' : Addr} {x : Str} {u u' : Tok} {ws us : List Str} {Q : Value → Shared → Prop} (S : St f ls hs s)
    (hl : (l, .obj (W.listOf #[.str x u, .ref t1, .ref t2] 0)) ∈ hs) (hl' : (l', .obj (W.listOf #[.str x u', .ref t1', .ref t2'] 0)) ∈ hs)
    (h1 : (t1, .obj (tupObj [.ref a, .ref b])) ∈ hs) (h2 : (t2, .obj (tupObj [.ref c, .ref d])) ∈ hs) (h1' : (t1', .obj (tupObj [.ref a', .ref b'])) ∈ hs) (h2' : (t2', .obj (tupObj [.ref b', .ref a'])) ∈ hs)
    (ha : (a, .sl ws) ∈ hs) (hb : (b, .sl us) ∈ hs) (hc : (c, .sl us) ∈ hs) (hd : (d, .sl ws) ∈ hs) (ha' : (a', .sl ws) ∈ hs) (hb' : (b', .sl us) ∈ hs)
    (ox : PyData.strOk x = true) (o1 : okw ws) (o2 : okw us) (hA : A.units + 64 < cLine) (h : Q (.bool false) s) : wpAny (model prog w) A (compareOp .NotEq (.ref l) (.ref l')) Q E s := by
  have R1 : Reads s.heap (.ref l) (.list [.str x, .tuple [.list (ws.map .str), .list (us.map .str)], .tuple [.list (us.map .str), .list (ws.map .str)]]) _ :=
    .list (S.get hl) rfl rfl (.cons (.str _ _) (.cons (reads_tup (S.get h1) (S.get ha) (S.get hb)) (.cons (reads_tup (S.get h2) (S.get hc) (S.get hd)) .nil)))
  have R2 : Reads s.heap (.ref l') (.list [.str x, .tuple [.list (ws.map .str), .list (us.map .str)], .tuple [.list (us.map .str), .list (ws.map .str)]]) _ :=
    .list (S.get hl') rfl rfl (.cons (.str _ _) (.cons (reads_tup (S.get h1') (S.get ha') (S.get hb')) (.cons (reads_tup (S.get h2') (S.get hb') (S.get ha')) .nil)))
  have sh : SeqAt.shaped (.list [.str x, .tuple [.list (ws.map .str), .list (us.map .str)], .tuple [.list (us.map .str), .list (ws.map .str)]]) = true := by
    unfold SeqAt.shaped
    simp only [PyData.canLay0, PyData.canLayAll0, canLay_strs o1, canLay_strs o2, ox, PyData.depth, PyData.depthAll, depth_strs]
    rfl
  refine SeqAt.compareNe_shaped R1 R2 sh sh hA ?_
  have e : PyData.eqv (.list [.str x, .tuple [.list (ws.map .str), .list (us.map .str)], .tuple [.list (us.map .str), .list (ws.map .str)]]) (.list [.str x, .tuple [.list (ws.map .str), .list (us.map .str)], .tuple [.list (us.map .str), .list (ws.map .str)]]) = true := by
    simp only [PyData.eqv, PyData.eqvAll, eqv_strs, decide_true, Bool.and_true, beq_self_eq_true]
  rw [e]
  exact h
end
end TF30
section TF31
def Hp (ws : List Str) : Prop := ∀ i, 0 < i → ∀ x y, ws[i]? = some x → ws[(i - 1) / 2]? = some y → slt x y = false
def Srt (ws : List Str) : Prop := ws.Pairwise fun a b => slt b a = false
end TF31
section TP1
theorem slt_irr (x : Str) : slt x x = false := by
  unfold slt
  rw [decide_eq_false_iff_not]
  exact List.lt_irrefl _
theorem le_of_slt {x y : Str} : slt x y = false ↔ y.cps.toList ≤ x.cps.toList := by
  unfold slt
  rw [decide_eq_false_iff_not]
  exact List.not_lt
theorem sle_trans {x y z : Str} (h1 : slt y x = false) (h2 : slt z y = false) : slt z x = false := by
  rw [le_of_slt] at *
  exact List.le_trans h1 h2
theorem sle_antisymm {x y : Str} (h1 : slt y x = false) (h2 : slt x y = false) : x = y := by
  rw [le_of_slt] at *
  have h : x.cps.toList = y.cps.toList := List.le_antisymm h1 h2
  cases x; cases y
  simp at h
  rw [h]
theorem slt_asymm {x y : Str} (h : slt x y = true) : slt y x = false := by
  unfold slt at *
  rw [decide_eq_true_eq] at h
  rw [decide_eq_false_iff_not]
  exact List.lt_asymm h
theorem slt_le_trans {x y z : Str} (h1 : slt x y = true) (h2 : slt z y = false) : slt x z = true := by
  cases h : slt x z with
  | true => rfl
  | false => rw [sle_trans h2 h] at h1; cases h1
theorem rising_pw : ∀ (p : Str) (us : List Str), risingS p us = true → (∀ x ∈ us, slt x p = false) ∧ Srt us
  | p, [], _ => ⟨by simp, .nil⟩
  | p, x :: r, h => by
    rw [risingS, Bool.and_eq_true, ltCps_eq] at h
    obtain ⟨h1, h2⟩ := h
    have hx : slt x p = false := by
      have : (!slt x p) = true := h1
      simpa using this
    obtain ⟨h3, h4⟩ := rising_pw x r h2
    refine ⟨?_, .cons (fun y hy => h3 y hy) h4⟩
    intro y hy
    rcases List.mem_cons.mp hy with rfl | hy
    · exact hx
    · exact sle_trans hx (h3 y hy)
theorem srt_of' {us : List Str} (h : sortedS us = true) : Srt us := by
  cases us with
  | nil => exact .nil
  | cons x r =>
    obtain ⟨h1, h2⟩ := rising_pw x r h
    exact .cons (fun y hy => h1 y hy) h2
-- permutations
theorem hole_perm {ws : List Str} {i j : Nat} {x : Str} (hi : i < ws.length) (hj : j < ws.length) (hij : i ≠ j) (d : Str) : ((ws.set i (ws.getD j d)).set j x).Perm (ws.set i x) := by
  have h := List.set_set_perm (as := ws.set i x) (i := i) (j := j) (by simpa using hi) (by simpa using hj)
  have e1 : (ws.set i x)[i]'(by simpa using hi) = x := by simp
  have e2 : (ws.set i x)[j]'(by simpa using hj) = ws.getD j d := by
    rw [List.getElem_set_ne hij, List.getD_eq_getElem?_getD, List.getElem?_eq_getElem hj]; rfl
  rw [e1, e2, List.set_set] at h
  exact h
theorem sdn_perm (x : Str) (sp : Nat) : ∀ (k : Nat) (ws : List Str) (pos : Nat), pos = k → pos < ws.length → (sdn x sp ws pos).Perm (ws.set pos x) := by
  intro k
  induction k using Nat.strongRecOn with
  | ind k ih =>
    intro ws pos hk hp
    rw [sdn]
    by_cases h : sp < pos
    · rw [dif_pos h]
      split
      · exact (ih _ (by omega) _ _ rfl (by simp; omega)).trans (hole_perm hp (by omega) (by omega) x)
      · exact .refl _
    · rw [dif_neg h]
theorem sup_perm (x : Str) : ∀ (k : Nat) (ws : List Str) (pos : Nat), ws.length - pos = k → pos < ws.length → (sup x ws pos).1.Perm (ws.set pos x) := by
  intro k
  induction k using Nat.strongRecOn with
  | ind k ih =>
    intro ws pos hk hp
    rw [sup]
    by_cases h : 2 * pos + 1 < ws.length
    · rw [dif_pos h]
      split
      · rename_i hc
        exact (ih _ (by simp; omega) (ws.set pos (ws.getD (2 * pos + 2) x)) (2 * pos + 2) rfl (by simp; omega)).trans (hole_perm hp (by omega) (by omega) x)
      · exact (ih _ (by simp; omega) (ws.set pos (ws.getD (2 * pos + 1) x)) (2 * pos + 1) rfl (by simp; omega)).trans (hole_perm hp (by omega) (by omega) x)
    · rw [dif_neg h]
theorem set_self {ws : List Str} {i : Nat} {x : Str} (h : ws[i]? = some x) : ws.set i x = ws := by
  obtain ⟨hi, e⟩ := List.getElem?_eq_some_iff.mp h
  rw [← e]; simp
theorem siftup_perm {x : Str} {ws : List Str} {pos : Nat} (hp : pos < ws.length) : (siftup x ws pos).Perm (ws.set pos x) := by
  unfold siftup
  obtain ⟨h1, h2⟩ := sup_pos x _ ws pos rfl hp
  refine (sdn_perm x pos _ _ _ rfl (by rw [sup_len x _ _ _ rfl]; exact h1)).trans ?_
  rw [set_self h2]
  exact sup_perm x _ ws pos rfl hp
theorem push_perm' (x : Str) (hp : List Str) : (sdn x 0 (hp ++ [x]) hp.length).Perm (hp ++ [x]) := by
  refine (sdn_perm x 0 _ _ _ rfl (by simp)).trans ?_
  rw [set_self (by simp)]
theorem hfy_perm' : ∀ (n : Nat) (ws : List Str), n ≤ ws.length → (hfy n ws).Perm ws
  | 0, _, _ => .refl _
  | n + 1, ws, h => by
    rw [hfy]
    have e : ws[n]? = some (ws.getD n ⟨#[]⟩) := by rw [List.getD_eq_getElem?_getD, List.getElem?_eq_getElem (by omega)]; rfl
    refine (hfy_perm' n _ (by rw [siftup_len]; omega)).trans ((siftup_perm (by omega)).trans ?_)
    rw [set_self e]
-- heaps
def HpF (s : Nat) (ws : List Str) : Prop := ∀ i x y, 0 < i → s ≤ (i - 1) / 2 → ws[i]? = some x → ws[(i - 1) / 2]? = some y → slt x y = false
def HpX (s pos : Nat) (ws : List Str) : Prop := ∀ i x y, 0 < i → s ≤ (i - 1) / 2 → i ≠ pos → (i - 1) / 2 ≠ pos → ws[i]? = some x → ws[(i - 1) / 2]? = some y → slt x y = false
def HpB (s pos : Nat) (ws : List Str) : Prop := s < pos → ∀ i x y, 0 < i → (i - 1) / 2 = pos → ws[i]? = some x → ws[(pos - 1) / 2]? = some y → slt x y = false
def HpC (pos : Nat) (x : Str) (ws : List Str) : Prop := ∀ i z, 0 < i → (i - 1) / 2 = pos → ws[i]? = some z → slt z x = false
inductive Desc (s : Nat) : Nat → Prop
  | refl : Desc s s
  | step {p : Nat} : s < p → Desc s ((p - 1) / 2) → Desc s p
theorem Desc.ge {s p : Nat} (h : Desc s p) : s ≤ p := by
  induction h with
  | refl => exact Nat.le_refl _
  | step a _ _ => omega
theorem Desc.par {s p : Nat} (h : Desc s p) (q : s < p) : Desc s ((p - 1) / 2) := by
  cases h with
  | refl => omega
  | step _ b => exact b
theorem gset {ws : List Str} {i j : Nat} {v y : Str} (h : (ws.set i v)[j]? = some y) : (j = i ∧ y = v) ∨ (j ≠ i ∧ ws[j]? = some y) := by
  rw [List.getElem?_set] at h
  split at h
  · rename_i e
    subst e
    split at h
    · cases h; exact .inl ⟨rfl, rfl⟩
    · cases h
  · rename_i e
    exact .inr ⟨fun q => e q.symm, h⟩
theorem getD_of {ws : List Str} {i : Nat} {d : Str} (h : i < ws.length) : ws[i]? = some (ws.getD i d) := by rw [List.getD_eq_getElem?_getD, List.getElem?_eq_getElem h]; rfl
theorem sdn_heap (x : Str) (s : Nat) : ∀ (k : Nat) (ws : List Str) (pos : Nat), pos = k → pos < ws.length → HpX s pos ws → HpB s pos ws → HpC pos x ws → Desc s pos → HpF s (sdn x s ws pos) := by
  intro k
  induction k using Nat.strongRecOn with
  | ind k ih =>
    intro ws pos hk hp hX hB hC hD
    have done : (s < pos → ∀ y, ws[(pos - 1) / 2]? = some y → slt x y = false) → HpF s (ws.set pos x) := by
      intro hpar i u v hi hs hu hv
      rcases gset hu with ⟨rfl, rfl⟩ | ⟨h1, hw⟩
      · rcases gset hv with ⟨e, _⟩ | ⟨_, hv⟩
        · omega
        · have := hD.ge
          exact hpar (by omega) _ hv
      · rcases gset hv with ⟨e, rfl⟩ | ⟨h2, hv⟩
        · exact hC i u hi e hw
        · exact hX i u v hi hs h1 h2 hw hv
    rw [sdn]
    by_cases h : s < pos
    · rw [dif_pos h]
      have hpp : (pos - 1) / 2 < ws.length := by omega
      have hge := (hD.par h).ge
      have hpe := getD_of (d := x) hpp
      generalize hP : ws.getD ((pos - 1) / 2) x = P at *
      by_cases hc : slt x P = true
      · rw [if_pos hc]
        refine ih _ (by omega) _ _ rfl (by simp; omega) ?_ ?_ ?_ (hD.par h)
        · intro i u v hi hs h1 h2 hu hv
          rcases gset hu with ⟨rfl, rfl⟩ | ⟨h3, hw⟩
          · exact absurd rfl h2
          · rcases gset hv with ⟨e, rfl⟩ | ⟨h4, hv'⟩
            · exact hB h i u v hi e hw hpe
            · exact hX i u v hi hs h3 h4 hw hv'
        · intro hs2 i u v hi hpi hu hv
          rcases gset hv with ⟨e, rfl⟩ | ⟨h4, hv'⟩
          · omega
          have hgp := ((hD.par h).par hs2).ge
          have hPv : slt P v = false := hX _ _ _ (by omega) hgp (by omega) (by omega) hpe hv'
          rcases gset hu with ⟨rfl, rfl⟩ | ⟨h3, hw⟩
          · exact hPv
          · have hu2 : slt u P = false := hX i u P hi (by omega) h3 (by omega) hw (by rw [hpi]; exact hpe)
            exact sle_trans hPv hu2
        · intro i z hi hpi hz
          rcases gset hz with ⟨rfl, rfl⟩ | ⟨h3, hz⟩
          · exact slt_asymm hc
          · have hz2 : slt z P = false := hX i z P hi (by omega) h3 (by omega) hz (by rw [hpi]; exact hpe)
            exact sle_trans (slt_asymm hc) hz2
      · rw [if_neg hc]
        refine done fun _ y hy => ?_
        rw [hpe] at hy
        cases hy
        simpa using hc
    · rw [dif_neg h]
      exact done fun q => absurd q h
theorem desc0 : ∀ (k pos : Nat), pos = k → Desc 0 pos := by
  intro k
  induction k using Nat.strongRecOn with
  | ind k ih =>
    intro pos hk
    cases pos with
    | zero => exact .refl
    | succ p => exact .step (by omega) (ih _ (by omega) _ rfl)
theorem push_heap' {x : Str} {hp : List Str} (h : Hp hp) : Hp (sdn x 0 (hp ++ [x]) hp.length) := by
  have key : HpF 0 (sdn x 0 (hp ++ [x]) hp.length) := by
    refine sdn_heap x 0 _ _ _ rfl (by simp) ?_ ?_ ?_ (desc0 _ _ rfl)
    · intro i u v hi _ h1 h2 hu hv
      have hl := (List.getElem?_eq_some_iff.mp hu).1
      simp at hl
      rw [List.getElem?_append_left (by omega)] at hu hv
      exact h i hi u v hu hv
    · intro _ i u v hi hpi hu
      have hl := (List.getElem?_eq_some_iff.mp hu).1
      simp at hl
      omega
    · intro i z hi hpi hz
      have hl := (List.getElem?_eq_some_iff.mp hz).1
      simp at hl
      omega
  exact fun i hi u v hu hv => key i u v hi (Nat.zero_le _) hu hv
theorem sup_heap (x : Str) (s : Nat) : ∀ (k : Nat) (ws : List Str) (pos : Nat), ws.length - pos = k → pos < ws.length → HpX s pos ws → HpB s pos ws → Desc s pos →
    HpX s (sup x ws pos).2 (sup x ws pos).1 ∧ Desc s (sup x ws pos).2 ∧ ws.length ≤ 2 * (sup x ws pos).2 + 1 := by
  intro k
  induction k using Nat.strongRecOn with
  | ind k ih =>
    intro ws pos hk hp hX hB hD
    have hge := hD.ge
    have go : ∀ c, c < ws.length → (c = 2 * pos + 1 ∨ c = 2 * pos + 2) → (∀ i u, 0 < i → (i - 1) / 2 = pos → i ≠ c → ws[i]? = some u → slt u (ws.getD c x) = false) →
        HpX s c (ws.set pos (ws.getD c x)) ∧ HpB s c (ws.set pos (ws.getD c x)) ∧ Desc s c := by
      intro c hcl hc hsib
      have hce := getD_of (d := x) hcl
      generalize ws.getD c x = C at *
      have hcp : (c - 1) / 2 = pos := by omega
      refine ⟨?_, ?_, .step (by omega) (by rw [hcp]; exact hD)⟩
      · intro i u v hi hs h1 h2 hu hv
        rcases gset hu with ⟨rfl, rfl⟩ | ⟨h3, hw⟩
        · rcases gset hv with ⟨e, _⟩ | ⟨_, hv⟩
          · omega
          · exact hB (by omega) c u v (by omega) hcp hce hv
        · rcases gset hv with ⟨e, rfl⟩ | ⟨h4, hv'⟩
          · exact hsib i u hi e h1 hw
          · exact hX i u v hi hs h3 h4 hw hv'
      · intro _ i u v hi hpi hu hv
        rw [hcp] at hv
        rcases gset hv with ⟨_, rfl⟩ | ⟨h4, _⟩
        · rcases gset hu with ⟨e, _⟩ | ⟨h3, hw⟩
          · omega
          · exact hX i u v hi (by omega) h3 (by omega) hw (by rw [hpi]; exact hce)
        · exact absurd rfl h4
    rw [sup]
    by_cases h : 2 * pos + 1 < ws.length
    · rw [dif_pos h]
      have e1 := getD_of (d := x) h
      split
      · rename_i hc
        obtain ⟨a1, a2, a3⟩ := go (2 * pos + 2) hc.1 (.inr rfl) (fun i u hi hpi hne hu => by
          have : i = 2 * pos + 1 := by omega
          subst this
          rw [e1] at hu
          cases hu
          exact hc.2)
        have := ih _ (by simp; omega) (ws.set pos (ws.getD (2 * pos + 2) x)) (2 * pos + 2) rfl (by simp; omega) a1 a2 a3
        simpa using this
      · rename_i hc
        obtain ⟨a1, a2, a3⟩ := go (2 * pos + 1) h (.inl rfl) (fun i u hi hpi hne hu => by
          have : i = 2 * pos + 2 := by omega
          subst this
          have hl := (List.getElem?_eq_some_iff.mp hu).1
          rw [getD_of (d := x) hl] at hu
          cases hu
          cases hq : slt (ws.getD (2 * pos + 1) x) (ws.getD (2 * pos + 2) x) with
          | true => exact slt_asymm hq
          | false => exact absurd ⟨hl, hq⟩ hc)
        have := ih _ (by simp; omega) (ws.set pos (ws.getD (2 * pos + 1) x)) (2 * pos + 1) rfl (by simp; omega) a1 a2 a3
        simpa using this
    · rw [dif_neg h]
      refine ⟨?_, hD, by simp; omega⟩
      intro i u v hi hs h1 h2 hu hv
      rcases gset hu with ⟨e, _⟩ | ⟨h3, hw⟩
      · exact absurd e h1
      · rcases gset hv with ⟨e, _⟩ | ⟨h4, hv'⟩
        · exact absurd e h2
        · exact hX i u v hi hs h3 h4 hw hv'
theorem siftup_heap {x : Str} {ws : List Str} {s : Nat} (hp : s < ws.length) (h : HpX s s ws) : HpF s (siftup x ws s) := by
  unfold siftup
  obtain ⟨a, b, c⟩ := sup_heap x s _ ws s rfl hp h (fun q => absurd q (Nat.lt_irrefl _)) .refl
  have hl := sup_len x _ ws s rfl
  have hq := (sup_pos x _ ws s rfl hp).1
  refine sdn_heap x s _ _ _ rfl (by rw [hl]; exact hq) a ?_ ?_ b
  · intro _ i u v hi hpi hu
    have := (List.getElem?_eq_some_iff.mp hu).1
    omega
  · intro i z hi hpi hz
    have := (List.getElem?_eq_some_iff.mp hz).1
    omega
theorem hfy_F : ∀ (n : Nat) (ws : List Str), n ≤ ws.length → HpF n ws → HpF 0 (hfy n ws)
  | 0, _, _, h => h
  | n + 1, ws, hn, h => by
    rw [hfy]
    refine hfy_F n _ (by rw [siftup_len]; omega) (siftup_heap (by omega) ?_)
    intro i u v hi hs h1 h2 hu hv
    exact h i u v hi (by omega) hu hv
theorem hfy_heap' (ws : List Str) : Hp (hfy (ws.length / 2) ws) := by
  have key := hfy_F (ws.length / 2) ws (by omega) (fun i u v hi hs hu _ => by
    have := (List.getElem?_eq_some_iff.mp hu).1
    omega)
  exact fun i hi u v hu hv => key i u v hi (Nat.zero_le _) hu hv
theorem root_min {ws : List Str} (h : Hp ws) {r : Str} (hr : ws[0]? = some r) : ∀ (k i : Nat), i = k → ∀ x, ws[i]? = some x → slt x r = false := by
  intro k
  induction k using Nat.strongRecOn with
  | ind k ih =>
    intro i hk x hx
    cases i with
    | zero => rw [hr] at hx; cases hx; exact slt_irr _
    | succ i =>
      have hl := (List.getElem?_eq_some_iff.mp hx).1
      have hp : i / 2 < ws.length := by omega
      have he : ws[(i + 1 - 1) / 2]? = some (ws[i / 2]) := by simp [hp]
      exact sle_trans (ih _ (by omega) _ rfl _ he) (h (i + 1) (by omega) x _ hx he)
theorem hpop_facts {ws : List Str} (h : Hp ws) (hne : ws ≠ []) : Hp (hpop ws).2 ∧ ((hpop ws).1 :: (hpop ws).2).Perm ws ∧ ws[0]? = some (hpop ws).1 := by
  rcases List.eq_nil_or_concat ws with rfl | ⟨r, y, rfl⟩
  · exact absurd rfl hne
  rw [List.concat_eq_append] at *
  rw [hpop_snoc]
  cases r with
  | nil => exact ⟨by intro i hi u v hu; simp at hu, .refl _, rfl⟩
  | cons z q =>
    refine ⟨?_, ?_, rfl⟩
    · have key : HpF 0 (siftup y (y :: q) 0) := by
        refine siftup_heap (by simp) ?_
        intro i u v hi _ h1 h2 hu hv
        have hl := (List.getElem?_eq_some_iff.mp hu).1
        obtain ⟨i, rfl⟩ : ∃ j, i = j + 1 := ⟨i - 1, by omega⟩
        obtain ⟨j, hj⟩ : ∃ j, (i + 1 - 1) / 2 = j + 1 := ⟨(i + 1 - 1) / 2 - 1, by omega⟩
        rw [hj] at hv
        simp at hu hv hl
        refine h (i + 1) (by omega) u v ?_ ?_
        · simp [List.getElem?_append_left hl, hu]
        · rw [hj]
          simp
          rw [List.getElem?_append_left (by omega)]
          exact hv
      exact fun i hi u v hu hv => key i u v hi (Nat.zero_le _) hu hv
    · have p1 : (siftup y (y :: q) 0).Perm (y :: q) := siftup_perm (by simp)
      refine (List.Perm.cons _ p1).trans ?_
      show (z :: y :: q).Perm (z :: q ++ [y])
      refine List.Perm.cons _ ?_
      exact List.perm_append_comm (l₁ := [y]) (l₂ := q)
theorem offs_srt' : ∀ (n : Nat) {hp kept : List Str}, hp.length = n → Hp hp → hp.Perm kept → Srt kept → offs n hp = kept
  | 0, hp, kept, hn, _, p, _ => by
    have : hp = [] := List.eq_nil_of_length_eq_zero hn
    subst this
    rw [List.nil_perm.mp p]; rfl
  | n + 1, hp, kept, hn, h, p, s => by
    have hne : hp ≠ [] := fun q => by rw [q] at hn; simp at hn
    obtain ⟨f1, f2, f3⟩ := hpop_facts h hne
    cases kept with
    | nil => exact absurd (List.perm_nil.mp p) hne
    | cons k kr =>
      rw [offs]
      have s' : (∀ y ∈ kr, slt y k = false) ∧ kr.Pairwise fun a b => slt b a = false := List.pairwise_cons.mp s
      have hk : k ∈ hp := p.mem_iff.mpr (.head _)
      obtain ⟨i, hi⟩ := List.getElem?_of_mem hk
      have h1 : slt k (hpop hp).1 = false := root_min h f3 _ i rfl k hi
      have ht : (hpop hp).1 ∈ k :: kr := p.mem_iff.mp (List.mem_of_getElem? f3)
      have h2 : slt (hpop hp).1 k = false := by
        rcases List.mem_cons.mp ht with e | e
        · rw [e]; exact slt_irr _
        · exact s'.1 _ e
      have e := sle_antisymm h1 h2
      rw [e] at f2
      have p2 : (hpop hp).2.Perm kr := (List.perm_cons _).mp (f2.trans p)
      rw [e, offs_srt' n (by rw [hpop_len, hn]; rfl) f1 p2 s'.2]
end TP1
section TP2
-- uld is lacksN and keepsN
def er (k l : List Str) : List Str := l.foldl List.erase k
theorem er_count (a : Str) : ∀ (l k : List Str), (er k l).count a = k.count a - l.count a
  | [], k => by simp [er]
  | x :: l, k => by
    show (er (k.erase x) l).count a = _
    rw [er_count a l, List.count_erase, List.count_cons]
    split <;> omega
theorem er_append (k l m : List Str) : er k (l ++ m) = er (er k l) m := by simp [er]
theorem uld_snd : ∀ (l k : List Str), (uld l k).2 = er k l
  | [], k => rfl
  | x :: l, k => by
    rw [uld]
    by_cases h : x ∈ k
    · rw [if_pos h, uld_snd l]; rfl
    · rw [if_neg h]
      show (uld l k).2 = er (k.erase x) l
      rw [List.erase_of_not_mem h, uld_snd l]
theorem uld_fst (x : Str) (l k : List Str) : (uld (x :: l) k).1 = (if x ∈ k then [] else [x]) ++ (uld l (k.erase x)).1 := by
  rw [uld]
  by_cases h : x ∈ k
  · rw [if_pos h, if_pos h]; rfl
  · rw [if_neg h, if_neg h, List.erase_of_not_mem h]; rfl
theorem lacks_eq (e k : List Str) : ∀ n, n ≤ e.length → lacksN e k n = (uld (e.take n).reverse (er k (e.drop n).reverse)).1
  | 0, _ => by simp [lacksN, uld]
  | n + 1, h => by
    have hn : n < e.length := h
    have eD : e.getD n ⟨#[]⟩ = e[n] := by rw [List.getD_eq_getElem?_getD, List.getElem?_eq_getElem hn]; rfl
    have eR : er k (e.drop n).reverse = (er k (e.drop (n + 1)).reverse).erase e[n] := by
      rw [List.drop_eq_getElem_cons hn, List.reverse_cons, er_append]; rfl
    rw [lacksN, eD, lacks_eq e k n (by omega), List.take_succ_eq_append_getElem hn, List.reverse_append, List.reverse_singleton, List.singleton_append, uld_fst, eR]
    congr 1
    have c1 := er_count e[n] (e.drop (n + 1)).reverse k
    rw [List.count_reverse] at c1
    have c2 : e.count e[n] = (e.take n).count e[n] + (1 + (e.drop (n + 1)).count e[n]) := by
      have h0 := congrArg (List.count e[n]) (List.take_append_drop n e)
      rw [List.count_append, List.drop_eq_getElem_cons hn, List.count_cons_self] at h0
      omega
    by_cases hm : e[n] ∈ er k (e.drop (n + 1)).reverse
    · have := List.count_pos_iff.mpr hm
      rw [if_pos hm, if_neg (by omega)]
    · have := List.count_eq_zero.mpr hm
      rw [if_neg hm, if_pos (by omega)]
def kf (f : Str → Nat) : List Str → List Str
  | [] => []
  | y :: r => if f y = 0 then y :: kf f r else kf (fun z => if z = y then f z - 1 else f z) r
theorem kf_snoc (y : Str) : ∀ (l : List Str) (f : Str → Nat), kf f (l ++ [y]) = kf f l ++ (if f y ≤ l.count y then [y] else [])
  | [], f => by simp [kf]
  | z :: r, f => by
    rw [List.cons_append, kf, kf, List.count_cons]
    by_cases h : f z = 0
    · rw [if_pos h, if_pos h, kf_snoc y r, List.cons_append]
      congr 2
      by_cases hz : z = y
      · subst hz; simp [h]
      · have : (z == y) = false := by simpa using hz
        simp [this]
    · rw [if_neg h, if_neg h, kf_snoc y r]
      congr 1
      by_cases hz : z = y
      · subst hz; simp
      · have h1 : (z == y) = false := by simpa using hz
        have h2 : ¬ y = z := fun q => hz q.symm
        simp [h1, h2]
theorem kf_erase (x : Str) : ∀ (k : List Str) (f : Str → Nat), kf (fun z => if z = x then f z + 1 else f z) k = kf f (k.erase x)
  | [], f => rfl
  | y :: r, f => by
    by_cases h : y = x
    · subst h
      rw [List.erase_cons_head, kf]
      simp only [if_true, Nat.add_one_ne_zero, if_false]
      congr 1
      funext z
      split <;> simp
    · have h1 : (y == x) = false := by simpa using h
      rw [List.erase_cons_tail (by simpa using h), kf, kf]
      simp only [if_neg h]
      by_cases h2 : f y = 0
      · rw [if_pos h2, if_pos h2, kf_erase x r]
      · rw [if_neg h2, if_neg h2, ← kf_erase x r]
        congr 1
        funext z
        by_cases hz : z = y
        · subst hz; simp [h]
        · simp [hz]
theorem er_kf : ∀ (l k : List Str), er k l = kf (fun z => l.count z) k
  | [], k => by
    show k = _
    induction k with
    | nil => rfl
    | cons y r ih => rw [kf]; simp; simpa using ih
  | x :: l, k => by
    show er (k.erase x) l = _
    rw [er_kf l, ← kf_erase x k]
    congr 1
    funext z
    rw [List.count_cons]
    by_cases h : z = x
    · subst h; simp
    · have : (x == z) = false := by simpa using fun q => h q.symm
      simp [h, this]
theorem keeps_eq (e k : List Str) : ∀ n, n ≤ k.length → keepsN e k n = kf (fun z => e.count z) (k.take n)
  | 0, _ => by simp [keepsN, kf]
  | n + 1, h => by
    have hn : n < k.length := h
    have eD : k.getD n ⟨#[]⟩ = k[n] := by rw [List.getD_eq_getElem?_getD, List.getElem?_eq_getElem hn]; rfl
    rw [keepsN, eD, keeps_eq e k n (by omega), List.take_succ_eq_append_getElem hn, kf_snoc]
theorem uld_bags' (e k : List Str) : uld e.reverse k = (lacksN e k e.length, keepsN e k k.length) := by
  refine Prod.ext ?_ ?_
  · rw [lacks_eq e k _ (Nat.le_refl _)]
    simp [er]
  · rw [uld_snd, keeps_eq e k _ (Nat.le_refl _), List.take_length, er_kf]
    congr 1
    funext z
    rw [List.count_reverse]
-- sld is alone, both ways
theorem frame1 {two : List Str} : ∀ (ws a0 al : List Str), (∀ z ∈ ws, z ∉ a0) → ws.foldl (alone1 two) (a0 ++ al) = a0 ++ ws.foldl (alone1 two) al
  | [], _, _, _ => rfl
  | z :: r, a0, al, h => by
    rw [List.foldl_cons, List.foldl_cons]
    have hz := h z (.head _)
    have e : alone1 two (a0 ++ al) z = a0 ++ alone1 two al z := by
      unfold alone1
      have : (z ∉ a0 ++ al) ↔ z ∉ al := by simp [hz]
      by_cases c : z ∉ two ∧ (two = [] ∨ slt (two.getLastD ⟨#[]⟩) z = true ∨ z ∉ al)
      · rw [if_pos c, if_pos ⟨c.1, c.2.imp id (Or.imp id this.mpr)⟩, List.append_assoc]
      · rw [if_neg c, if_neg (fun q => c ⟨q.1, q.2.imp id (Or.imp id this.mp)⟩)]
    rw [e, frame1 r a0 _ fun y hy => h y (.tail _ hy)]
theorem fold_congr {one two : List Str} : ∀ (ws al : List Str), (∀ z ∈ ws, ∀ al, alone1 one al z = alone1 two al z) → ws.foldl (alone1 one) al = ws.foldl (alone1 two) al
  | [], _, _ => rfl
  | z :: r, al, h => by
    rw [List.foldl_cons, List.foldl_cons, h z (.head _), fold_congr r _ fun y hy => h y (.tail _ hy)]
theorem dw_sub (x : Str) : ∀ us : List Str, us.takeWhile (· == x) ++ us.dropWhile (· == x) = us := fun us => List.takeWhile_append_dropWhile
theorem tw_all (x : Str) : ∀ (us : List Str), ∀ z ∈ us.takeWhile (· == x), z = x
  | [], z, hz => by simp at hz
  | y :: r, z, hz => by
    rw [List.takeWhile_cons] at hz
    split at hz
    · rename_i e
      rcases List.mem_cons.mp hz with rfl | hz
      · simpa using e
      · exact tw_all x r z hz
    · cases hz
theorem dw_srt {x : Str} {us : List Str} (h : Srt us) : Srt (us.dropWhile (· == x)) := h.sublist (List.dropWhile_sublist _)
theorem dw_gt {x : Str} : ∀ {us : List Str}, Srt (x :: us) → ∀ z ∈ us.dropWhile (· == x), slt x z = true
  | [], _, z, hz => by simp at hz
  | y :: r, h, z, hz => by
    have h' := List.pairwise_cons.mp h
    have h2 := List.pairwise_cons.mp h'.2
    rw [List.dropWhile_cons] at hz
    split at hz
    · rename_i e
      have e : y = x := by simpa using e
      subst e
      exact dw_gt h'.2 z hz
    · rename_i e
      have hy : slt x y = true := by
        cases q : slt x y with
        | true => rfl
        | false => exact absurd (by simpa using sle_antisymm q (h'.1 y (.head _))) (by simpa using fun p : y = x => e (by simpa using p))
      rcases List.mem_cons.mp hz with rfl | hz
      · exact hy
      · exact slt_le_trans hy (h2.1 z hz)
theorem step_dw {x z : Str} {us al : List Str} (h : slt x z = true) : alone1 (x :: us) al z = alone1 (us.dropWhile (· == x)) al z := by
  have hne : z ≠ x := fun q => by rw [q, slt_irr] at h; cases h
  have hm : z ∈ x :: us ↔ z ∈ us.dropWhile (· == x) := by
    rw [List.mem_cons]
    constructor
    · rintro (q | q)
      · exact absurd q hne
      · rw [← dw_sub x us] at q
        rcases List.mem_append.mp q with q | q
        · exact absurd (tw_all x us z q) hne
        · exact q
    · exact fun q => .inr (List.dropWhile_subset _ q)
  have hl : (slt ((x :: us).getLastD ⟨#[]⟩) z = true) ↔ (us.dropWhile (· == x) = [] ∨ slt ((us.dropWhile (· == x)).getLastD ⟨#[]⟩) z = true) := by
    by_cases hd : us.dropWhile (· == x) = []
    · have e : us = us.takeWhile (· == x) := by
        have := dw_sub x us
        rw [hd, List.append_nil] at this
        exact this.symm
      have hall : ∀ y ∈ x :: us, y = x := fun y hy => by
        rcases List.mem_cons.mp hy with q | q
        · exact q
        · rw [e] at q; exact tw_all x us y q
      have hlast : (x :: us).getLastD ⟨#[]⟩ = x := by
        rw [List.getLastD_eq_getLast?, List.getLast?_eq_some_getLast (by simp)]
        exact hall _ (List.getLast_mem _)
      rw [hlast]
      exact ⟨fun _ => .inl hd, fun _ => h⟩
    · have hlast : (x :: us).getLastD ⟨#[]⟩ = (us.dropWhile (· == x)).getLastD ⟨#[]⟩ := by
        conv => lhs; rw [← dw_sub x us, ← List.cons_append]
        rw [List.getLastD_eq_getLast?, List.getLastD_eq_getLast?, List.getLast?_append, List.getLast?_eq_some_getLast hd]
        rfl
      rw [hlast]
      exact ⟨.inr, fun q => q.resolve_left hd⟩
  unfold alone1
  have key : (z ∉ x :: us ∧ (x :: us = [] ∨ slt ((x :: us).getLastD ⟨#[]⟩) z = true ∨ z ∉ al)) ↔ (z ∉ us.dropWhile (· == x) ∧ (us.dropWhile (· == x) = [] ∨ slt ((us.dropWhile (· == x)).getLastD ⟨#[]⟩) z = true ∨ z ∉ al)) := by
    rw [hm, hl]
    simp only [List.cons_ne_nil, false_or, or_assoc]
  by_cases c : z ∉ x :: us ∧ (x :: us = [] ∨ slt ((x :: us).getLastD ⟨#[]⟩) z = true ∨ z ∉ al)
  · rw [if_pos c, if_pos (key.mp c)]
  · rw [if_neg c, if_neg (fun q => c (key.mpr q))]
theorem alone_dw {x : Str} {us ws : List Str} (h : ∀ z ∈ ws, slt x z = true) : alone ws (x :: us) = alone ws (us.dropWhile (· == x)) :=
  fold_congr ws [] fun z hz al => step_dw (h z hz)
theorem skip_all {two : List Str} {x : Str} {al : List Str} (h : alone1 two al x = al) : ∀ ws : List Str, (∀ z ∈ ws, z = x) → ws.foldl (alone1 two) al = al
  | [], _ => rfl
  | z :: r, hw => by rw [List.foldl_cons, hw z (.head _), h, skip_all h r fun y hy => hw y (.tail _ hy)]
theorem alone_skip {two ws : List Str} {x : Str} (h : x ∈ two) : alone (x :: ws) two = alone (ws.dropWhile (· == x)) two := by
  unfold alone
  have e : ∀ al, alone1 two al x = al := fun al => by unfold alone1; rw [if_neg (fun q => q.1 h)]
  rw [List.foldl_cons, e]
  conv => lhs; rw [← dw_sub x ws]
  rw [List.foldl_append, skip_all (e _) _ (tw_all x ws)]
theorem alone_take {two ws : List Str} {x : Str} (h : x ∉ two) (h2 : two ≠ []) (h3 : slt (two.getLastD ⟨#[]⟩) x = false) (h4 : ∀ z ∈ ws.dropWhile (· == x), z ≠ x) : alone (x :: ws) two = x :: alone (ws.dropWhile (· == x)) two := by
  unfold alone
  have e1 : alone1 two [] x = [x] := by unfold alone1; rw [if_pos ⟨h, .inr (.inr (by simp))⟩]; rfl
  have e2 : alone1 two [x] x = [x] := by
    unfold alone1
    rw [if_neg]
    rintro ⟨_, q | q | q⟩
    · exact h2 q
    · rw [h3] at q; cases q
    · exact q (.head _)
  rw [List.foldl_cons, e1]
  conv => lhs; rw [← dw_sub x ws]
  rw [List.foldl_append, skip_all e2 _ (tw_all x ws)]
  have := frame1 (two := two) (ws.dropWhile (· == x)) [x] [] (fun z hz q => h4 z hz (by simpa using q))
  simpa using this
theorem alone_nil2 : ∀ (ws al : List Str), ws.foldl (alone1 []) al = al ++ ws
  | [], al => by simp
  | x :: r, al => by
    rw [List.foldl_cons]
    have e : alone1 [] al x = al ++ [x] := by unfold alone1; rw [if_pos ⟨by simp, .inl rfl⟩]
    rw [e, alone_nil2 r, List.append_assoc]; rfl
theorem lt_facts {x y : Str} {us : List Str} (h : slt x y = true) (hs : Srt (y :: us)) : x ∉ y :: us ∧ slt ((y :: us).getLastD ⟨#[]⟩) x = false ∧ ∀ z ∈ y :: us, slt x z = true := by
  have h' := List.pairwise_cons.mp hs
  have hall : ∀ z ∈ y :: us, slt x z = true := fun z hz => by
    rcases List.mem_cons.mp hz with rfl | hz
    · exact h
    · exact slt_le_trans h (h'.1 z hz)
  refine ⟨fun q => ?_, ?_, hall⟩
  · have := hall x q
    rw [slt_irr] at this; cases this
  · rw [List.getLastD_eq_getLast?, List.getLast?_eq_some_getLast (by simp)]
    exact slt_asymm (hall _ (List.getLast_mem _))
theorem sld_alone' : ∀ (n : Nat) (e k : List Str), e.length + k.length = n → Srt e → Srt k → sld e k = (alone e k, alone k e) := by
  intro n
  induction n using Nat.strongRecOn with
  | ind n ih =>
    intro e k hn h1 h2
    cases e with
    | nil =>
      rw [sld]
      refine Prod.ext rfl ?_
      have := alone_nil2 k []
      simpa [alone] using this.symm
    | cons x ws =>
      cases k with
      | nil =>
        rw [sld]
        refine Prod.ext ?_ rfl
        have := alone_nil2 (x :: ws) []
        simpa [alone] using this.symm
      | cons y us =>
        rw [sld]
        have l1 := (List.dropWhile_sublist (· == x) (l := ws)).length_le
        have l2 := (List.dropWhile_sublist (· == y) (l := us)).length_le
        simp only [List.length_cons] at hn
        have s1 := (List.pairwise_cons.mp h1).2
        have s2 := (List.pairwise_cons.mp h2).2
        have g1 := dw_gt h1
        have g2 := dw_gt h2
        by_cases c1 : slt x y = true
        · rw [if_pos c1]
          obtain ⟨f1, f2, f3⟩ := lt_facts c1 h2
          rw [ih _ (by simp only [List.length_cons]; omega) _ _ rfl (dw_srt s1) h2]
          refine Prod.ext ?_ ?_
          · exact (alone_take f1 (by simp) f2 (fun z hz q => by have := g1 z hz; rw [q, slt_irr] at this; cases this)).symm
          · exact (alone_dw f3).symm
        · rw [if_neg c1]
          by_cases c2 : slt y x = true
          · rw [if_pos c2]
            obtain ⟨f1, f2, f3⟩ := lt_facts c2 h1
            rw [ih _ (by simp only [List.length_cons]; omega) _ _ rfl h1 (dw_srt s2)]
            refine Prod.ext ?_ ?_
            · exact (alone_dw f3).symm
            · exact (alone_take f1 (by simp) f2 (fun z hz q => by have := g2 z hz; rw [q, slt_irr] at this; cases this)).symm
          · rw [if_neg c2]
            have exy : x = y := sle_antisymm (by simpa using c2) (by simpa using c1)
            subst exy
            rw [ih _ (by omega) _ _ rfl (dw_srt s1) (dw_srt s2)]
            refine Prod.ext ?_ ?_
            · rw [alone_skip (.head _)]
              exact (alone_dw g1).symm
            · show _ = alone (x :: us) (x :: ws)
              rw [alone_skip (.head _)]
              exact (alone_dw g2).symm
end TP2
section TP3
theorem pstr_snoc (q : Str × Str) : ∀ ps : List (Str × Str), pstr (ps ++ [q]) = pstr ps ++ q.1 ++ q.2
  | [] => by rw [List.nil_append, pstr_cons, pstr_nil, app_em, em_app]
  | p :: r => by
    rw [List.cons_append, pstr_cons, pstr_snoc q r, pstr_cons]
    simp only [Str.append_assoc]
theorem pstr_len_eq (ps : List (Str × Str)) : ((pstr ps).length : Int) = plen ps := by
  have key : ∀ n, ∀ ps : List (Str × Str), ps.length = n → ((pstr ps).length : Int) = plen ps := by
    intro n
    induction n with
    | zero => intro ps h; rw [List.eq_nil_of_length_eq_zero h, pstr_nil]; rfl
    | succ n ih =>
      intro ps h
      rcases List.eq_nil_or_concat ps with rfl | ⟨qs, q, rfl⟩
      · simp at h
      · rw [List.concat_eq_append] at *
        rw [plen_snoc, pstr_snoc, str_len_append, str_len_append, ← ih qs (by simp at h; omega)]
        omega
  exact key _ ps rfl
theorem wok_pos {x : Str} (h : wok x) : 0 < x.length := by
  obtain ⟨_, _, c, hc, _⟩ := h
  show 0 < x.cps.size
  exact Array.size_pos_of_mem hc
structure RR (head : Int) (rows : List Str) (st : List Str × List (Str × Str) × Int) : Prop where
  rows : rows = st.1 ++ [pstr st.2.1]
  i : st.2.2 = if st.1 = [] then head else 0
theorem rr_first {width head : Int} {x : Str} (h0 : 0 ≤ head) : RR head (rows1 width head [] x) (chunk width [] [] head em x) := by
  have p1 : plen [(em, x)] = (x.length : Int) := by rw [show [(em, x)] = [] ++ [(em, x)] from rfl, plen_snoc, plen_nil]; show (0 : Int) + ((0 + x.length : Nat) : Int) = _; omega
  have q1 : pstr [(em, x)] = x := by rw [pstr_cons, pstr_nil, app_em, em_app]
  have q2 : pstr [(sp, x)] = sp ++ x := by rw [pstr_cons, pstr_nil, app_em]
  have q3 : pstr [(em, em)] = em := by rw [pstr_cons, pstr_nil, app_em, em_app]
  unfold chunk rows1
  rw [if_pos rfl, List.nil_append, p1]
  by_cases c1 : width < head + x.length
  · rw [if_pos c1, if_pos rfl]
    by_cases c2 : 0 < head
    · rw [if_pos c2, if_pos rfl, if_neg (by omega)]
      refine ⟨?_, ?_⟩
      · show _ = ([] ++ [pstr [(em, em)]]) ++ [pstr [(sp, x)]]
        rw [q2, q3]; rfl
      · show (0 : Int) = if [] ++ [pstr [(em, em)]] = [] then head else 0
        rw [if_neg (by simp)]
    · rw [if_neg c2, if_pos (by omega)]
      exact ⟨by show _ = [] ++ [pstr [(em, x)]]; rw [q1]; rfl, by show head = if ([] : List Str) = [] then head else 0; rw [if_pos rfl]⟩
  · rw [if_neg c1, if_pos (by omega)]
    exact ⟨by show _ = [] ++ [pstr [(em, x)]]; rw [q1]; rfl, by show head = if ([] : List Str) = [] then head else 0; rw [if_pos rfl]⟩
theorem rr_step {width head : Int} {x : Str} {rows : List Str} {st : List Str × List (Str × Str) × Int} (R : RR head rows st) (hne : st.2.1 ≠ []) : RR head (rows1 width head rows x) (chunk width st.1 st.2.1 st.2.2 sp x) := by
  obtain ⟨lines, ps, i⟩ := st
  obtain ⟨hr, hi⟩ := R
  simp only at hr hi hne
  subst hr
  have q2 : pstr [(sp, x)] = sp ++ x := by rw [pstr_cons, pstr_nil, app_em]
  have hl : (lines ++ [pstr ps]).getLastD em = pstr ps := by simp [List.getLastD_eq_getLast?]
  have hd : (lines ++ [pstr ps]).dropLast = lines := List.dropLast_concat
  have hroom : (if (lines ++ [pstr ps]).length < 2 then width - head else width) = width - i := by
    rw [hi]
    cases lines with
    | nil => simp
    | cons a r => simp; intro h; omega
  have hpl := pstr_len_eq ps
  have hs1 : sp.length = 1 := rfl
  unfold chunk rows1
  rw [if_neg (by simp), hroom, hl, hd, plen_snoc]
  simp only
  by_cases c1 : width < i + (plen ps + ((sp.length + x.length : Nat) : Int))
  · rw [if_pos c1, if_neg hne, if_pos (by omega)]
    refine ⟨?_, ?_⟩
    · show _ = (lines ++ [pstr ps]) ++ [pstr [(sp, x)]]
      rw [q2]
    · show (0 : Int) = if lines ++ [pstr ps] = [] then head else 0
      rw [if_neg (by simp)]
  · rw [if_neg c1, if_neg (by omega)]
    refine ⟨?_, hi⟩
    show _ = lines ++ [pstr (ps ++ [(sp, x)])]
    rw [pstr_snoc]
theorem rr_all {width head : Int} {ws : List Str} (h0 : 0 ≤ head) (h3 : head ≤ 3) (hw : ∀ x ∈ ws, wok x) : ∀ k, k < ws.length → RR head ((ws.take (k + 1)).foldl (rows1 width head) []) (wst width head ws (k + 1))
  | 0, h => by
    have eD : ws.getD 0 em = ws[0] := by rw [List.getD_eq_getElem?_getD, List.getElem?_eq_getElem h]; rfl
    rw [List.take_succ_eq_append_getElem h]
    show RR head (rows1 width head [] ws[0]) (chunk width [] [] head em (ws.getD 0 em))
    rw [eD]
    exact rr_first h0
  | k + 1, h => by
    have eD : ws.getD (k + 1) em = ws[k + 1] := by rw [List.getD_eq_getElem?_getD, List.getElem?_eq_getElem h]; rfl
    have F := fi_all (width := width) h0 h3 hw (k + 1) (by omega)
    rw [List.take_succ_eq_append_getElem h, List.foldl_append, wst, eD, if_pos (Nat.succ_pos k)]
    exact rr_step (rr_all h0 h3 hw k (by omega)) (F.ne (by omega))
theorem written_rows' {width head : Int} {ws : List Str} (h0 : 0 ≤ head) (h3 : head ≤ 3) (hw : ∀ x ∈ ws, wok x) : Txt.join (Str.ofString "\n") (written width head ws) = Txt.join (Str.ofString "\n") (rowsOf width head ws) := by
  cases ws with
  | nil =>
    have e1 : ∀ x : Str, Txt.join x [] = em := fun x => by unfold Txt.join; rw [StrLaws.glued_eq_join]; rfl
    have e2 : ∀ x : Str, Txt.join x [em] = em := fun x => by unfold Txt.join; rw [StrLaws.glued_eq_join]; rfl
    have q3 : pstr [(em, em)] = em := by rw [pstr_cons, pstr_nil, app_em, em_app]
    show Txt.join _ (doneLines [] [] head) = Txt.join _ []
    unfold doneLines
    have hf : fin [] = [(em, em)] := rfl
    rw [e1, hf, q3]
    split
    · rw [List.nil_append, e2]
    · rw [e1]
  | cons x r =>
    congr 1
    have hl : (x :: r).length = r.length + 1 := rfl
    have R := rr_all (width := width) h0 h3 hw r.length (by rw [hl]; omega)
    rw [← hl, List.take_length] at R
    have F := fi_all (width := width) h0 h3 hw (x :: r).length (Nat.le_refl _)
    unfold written rowsOf
    generalize hst : wst width head (x :: r) (x :: r).length = st at *
    have hne := F.ne (by simp)
    rw [R.rows]
    unfold doneLines
    have hf : fin st.2.1 = st.2.1 := if_neg hne
    rw [hf, if_pos]
    obtain ⟨qs, q, hq⟩ : ∃ qs q, st.2.1 = qs ++ [q] := by
      rcases List.eq_nil_or_concat st.2.1 with e | ⟨qs, q, e⟩
      · exact absurd e hne
      · exact ⟨qs, q, by rw [e, List.concat_eq_append]⟩
    have h1 := F.pw q (by rw [hq]; simp)
    have h2 := wok_pos h1.2
    have h4 := F.i0
    rw [hq, plen_snoc]
    have := plen_nonneg qs
    omega
theorem menu_ok' : ∀ x ∈ [Str.ofString "a", Str.ofString "bb", Str.ofString "ccc", Str.ofString "dddd", Str.ofString "ee", Str.ofString "aaaaaaaaaa"], wok x := by
  intro x hx
  simp only [List.mem_cons, List.not_mem_nil, or_false] at hx
  rcases hx with rfl | rfl | rfl | rfl | rfl | rfl
  · exact ⟨by decide, by unfold PyData.strOk; rw [← Array.all_toList]; rfl, 97, Array.mem_toList_iff.mp (List.Mem.head _), by decide +kernel⟩
  · exact ⟨by decide, by unfold PyData.strOk; rw [← Array.all_toList]; rfl, 98, Array.mem_toList_iff.mp (List.Mem.head _), by decide +kernel⟩
  · exact ⟨by decide, by unfold PyData.strOk; rw [← Array.all_toList]; rfl, 99, Array.mem_toList_iff.mp (List.Mem.head _), by decide +kernel⟩
  · exact ⟨by decide, by unfold PyData.strOk; rw [← Array.all_toList]; rfl, 100, Array.mem_toList_iff.mp (List.Mem.head _), by decide +kernel⟩
  · exact ⟨by decide, by unfold PyData.strOk; rw [← Array.all_toList]; rfl, 101, Array.mem_toList_iff.mp (List.Mem.head _), by decide +kernel⟩
  · exact ⟨by decide, by unfold PyData.strOk; rw [← Array.all_toList]; rfl, 97, Array.mem_toList_iff.mp (List.Mem.head _), by decide +kernel⟩
end TP3
section TP4
theorem push_heap {x : Str} {hp : List Str} (h : Hp hp) : Hp (sdn x 0 (hp ++ [x]) hp.length) := push_heap' h
theorem push_perm (x : Str) (hp : List Str) : (sdn x 0 (hp ++ [x]) hp.length).Perm (hp ++ [x]) := push_perm' x hp
theorem hfy_heap (ws : List Str) : Hp (hfy (ws.length / 2) ws) := hfy_heap' ws
theorem hfy_perm (ws : List Str) : (hfy (ws.length / 2) ws).Perm ws := hfy_perm' _ ws (by omega)
theorem offs_srt {hp kept : List Str} (h : Hp hp) (p : hp.Perm kept) (s : Srt kept) : offs hp.length hp = kept := offs_srt' _ rfl h p s
theorem written_rows {width head : Int} {ws : List Str} (_h6 : 6 ≤ width) (h0 : 0 ≤ head) (h3 : head ≤ 3) (hw : ∀ x ∈ ws, wok x) : Txt.join (Str.ofString "\n") (written width head ws) = Txt.join (Str.ofString "\n") (rowsOf width head ws) := written_rows' h0 h3 hw
theorem sld_alone {e k : List Str} (h1 : Srt e) (h2 : Srt k) : sld e k = (alone e k, alone k e) := sld_alone' _ e k rfl h1 h2
theorem uld_bags (e k : List Str) : uld e.reverse k = (lacksN e k e.length, keepsN e k k.length) := uld_bags' e k
end TP4
section TH27
def menu : List Str := [Str.ofString "a", Str.ofString "bb", Str.ofString "ccc", Str.ofString "dddd", Str.ofString "ee", Str.ofString "aaaaaaaaaa"]
structure KI (j : Nat) (hp kept : List Str) : Prop where
  heap : Hp hp
  perm : hp.Perm kept
  srt : Srt kept
  len : kept.length ≤ j
  mn : ∀ x ∈ kept, x ∈ menu
theorem srt_of {us : List Str} (h : sortedS us = true) : Srt us := srt_of' h
theorem ki_push {j : Nat} {hp kept us : List Str} {x : Str} (K : KI j hp kept) (hx : x ∈ menu) (p : us.Perm (kept ++ [x])) (s : sortedS us = true) : KI (j + 1) (sdn x 0 (hp ++ [x]) hp.length) us :=
  ⟨push_heap K.heap, (push_perm x hp).trans ((K.perm.append_right [x]).trans p.symm), srt_of s, by rw [p.length_eq]; simp; exact K.len, fun y hy => (List.mem_append.mp (p.mem_iff.mp hy)).elim (K.mn y) fun q => by simp only [List.mem_singleton] at q; exact q ▸ hx⟩
theorem srt_erase {us : List Str} (h : Srt us) (x : Str) : Srt (us.erase x) := h.sublist List.erase_sublist
theorem ki_out {j : Nat} {hp kept : List Str} {x : Str} (K : KI j hp kept) : KI j (hfy ((hp.erase x).length / 2) (hp.erase x)) (kept.erase x) :=
  ⟨hfy_heap _, (hfy_perm _).trans (K.perm.erase x), srt_erase K.srt x, Nat.le_trans List.erase_sublist.length_le K.len, fun y hy => K.mn y (List.mem_of_mem_erase hy)⟩
theorem take_drop_idx (x : Str) : ∀ us : List Str, us.take (us.idxOf x) ++ us.drop (us.idxOf x + 1) = us.erase x
  | [] => rfl
  | y :: r => by
    by_cases h : y = x
    · subst h; simp [List.idxOf_cons, List.erase_cons]
    · have : (y == x) = false := by simpa using h
      simp [List.idxOf_cons, List.erase_cons, this, take_drop_idx x r]
structure PI (j : Nat) (hp kept : List Str) (ks : List (Addr × List Str)) : Prop where
  heap : Hp hp
  perm : hp.Perm kept
  srt : Srt kept
  len : kept.length ≤ j
  mn : ∀ x ∈ kept, x ∈ menu
  n3 : ks.length = j + 3
  kS : ∀ q ∈ ks, Srt q.2 ∧ (∀ x ∈ q.2, x ∈ menu) ∧ q.2.length ≤ j
theorem sub_ok {x : Int} : 0 ≤ (x.fdiv 3).fmod 6 ∧ (x.fdiv 3).fmod 6 < 6 := ⟨Int.fmod_nonneg_of_pos _ (by decide), Int.fmod_lt_of_pos _ (by decide)⟩
theorem menu_at {x : Int} : ∃ wd, menu[((x.fdiv 3).fmod 6).toNat]? = some wd ∧ wd ∈ menu := by
  have h := sub_ok (x := x)
  have hlt : ((x.fdiv 3).fmod 6).toNat < menu.length := by show _ < 6; omega
  exact ⟨_, List.getElem?_eq_getElem hlt, List.getElem_mem hlt⟩
theorem menu_ok : ∀ x ∈ menu, wok x := menu_ok'
theorem rows_all {width head : Int} {ws : List Str} (h10 : ∀ x ∈ ws, x.length ≤ 10) (hok : okw ws) : ∀ n, n ≤ ws.length → ((ws.take n).foldl (rows1 width head) []).length ≤ 2 * n ∧ (∀ r ∈ (ws.take n).foldl (rows1 width head) [], r.length ≤ 11 * n) ∧ okw ((ws.take n).foldl (rows1 width head) [])
  | 0, _ => by simp; intro x hx; cases hx
  | n + 1, h => by
    obtain ⟨a, b, c⟩ := rows_all (width := width) (head := head) h10 hok n (by omega)
    rw [List.take_succ_eq_append_getElem (by omega), List.foldl_append]
    exact rows1_ok a b c (h10 _ (List.getElem_mem _)) (hok _ (List.getElem_mem _))
theorem rowsOf_ok {width head : Int} {ws : List Str} (h10 : ∀ x ∈ ws, x.length ≤ 10) (hok : okw ws) : okw (rowsOf width head ws) := by
  have := (rows_all (width := width) (head := head) h10 hok ws.length (Nat.le_refl _)).2.2
  rwa [List.take_length] at this
theorem join_ok {x : Str} (hx : PyData.strOk x = true) : ∀ ws : List Str, okw ws → PyData.strOk (Txt.join x ws) = true := by
  intro ws h
  unfold Txt.join
  rw [StrLaws.glued_eq_join]
  have key : ∀ ws : List Str, okw ws → PyData.strOk (Str.join x ws) = true := by
    intro ws
    induction ws with
    | nil => intro _; exact em_ok
    | cons y r ih =>
      intro h
      cases r with
      | nil => exact h y (mA 0 rfl)
      | cons z r => exact strOk_append (strOk_append (h y (mA 0 rfl)) hx) (ih fun w hw => h w (mD 1 hw))
  exact key ws h
theorem alone_sub {us : List Str} : ∀ (ws al : List Str) (x : Str), x ∈ ws.foldl (alone1 us) al → x ∈ al ∨ x ∈ ws
  | [], al, x, h => .inl h
  | w :: r, al, x, h => by
    rcases alone_sub r _ x h with h | h
    · unfold alone1 at h
      split at h
      · rcases List.mem_append.mp h with h | h
        · exact .inl h
        · simp only [List.mem_singleton] at h
          exact .inr (h ▸ .head _)
      · exact .inl h
    · exact .inr (mD 1 h)
theorem alone_ok {ws us : List Str} (h : okw ws) : okw (alone ws us) := fun x hx => h x ((alone_sub ws [] x hx).elim (fun q => nomatch q) id)
theorem lacksN_ok {ws us : List Str} (h : okw ws) : ∀ n, n ≤ ws.length → okw (lacksN ws us n)
  | 0, _ => by intro x hx; cases hx
  | n + 1, hn => by
    intro x hx
    rw [lacksN] at hx
    rcases List.mem_append.mp hx with hx | hx
    · split at hx
      · simp only [List.mem_singleton] at hx
        subst hx
        rw [List.getD_eq_getElem?_getD, List.getElem?_eq_getElem (by omega)]
        exact h _ (List.getElem_mem _)
      · cases hx
    · exact lacksN_ok h n (by omega) x hx
theorem keepsN_ok {ws us : List Str} (h : okw us) : ∀ n, n ≤ us.length → okw (keepsN ws us n)
  | 0, _ => by intro x hx; cases hx
  | n + 1, hn => by
    intro x hx
    rw [keepsN] at hx
    rcases List.mem_append.mp hx with hx | hx
    · exact keepsN_ok h n (by omega) x hx
    · split at hx
      · simp only [List.mem_singleton] at hx
        subst hx
        rw [List.getD_eq_getElem?_getD, List.getElem?_eq_getElem (by omega)]
        exact h _ (List.getElem_mem _)
      · cases hx
theorem nl_ok : PyData.strOk (Str.ofString "\n") = true := by unfold PyData.strOk; rw [← Array.all_toList]; rfl
inductive AgW (f : Fx) (frk : List (Addr × Kd)) (ns : List Int) (nl it hl : Addr) (width head : Int) (tw th : Tok) (n : Nat) (s' : Shared) : Prop
  | mk (j : Nat) (hp kept : List Str) (ka kl : Addr) (ks : List (Addr × List Str)) (fz : List (Addr × Kd)) : n = ns.length - j → j ≤ ns.length → PI j hp kept ks → (∀ p ∈ frk, p ∈ fz) → (nl, ilK ns) ∈ fz → (ka, Kd.sl kept) ∈ fz → (∀ q ∈ ks, (q.1, Kd.sl q.2) ∈ fz) →
    St f [("heap", .ref hl), ("kept", .ref ka), ("keeps", .ref kl), ("numbers", .ref nl), ("width", .int width tw), ("head", .int head th)]
      ((it, .is (liP nl j)) :: (hl, .sl hp) :: (kl, rlK (ks.map (·.1))) :: fz) s' → AgW f frk ns nl it hl width head tw th n s'
inductive AgN (f : Fx) (frk : List (Addr × Kd)) (ns : List Int) (nl it hl kl : Addr) (width head : Int) (tw th : Tok) (j : Nat) (ks : List (Addr × List Str)) (wd : Str) (twd : Tok) (x : Int) (kept : List Str) (fl : Flow) (s' : Shared) : Prop
  | mk : fl = .next → (hp' kept' : List Str) → (ka' : Addr) → (fz' : List (Addr × Kd)) → (x.fmod 3 = 2 → kept' = kept) → KI (j + 1) hp' kept' → (∀ p ∈ frk, p ∈ fz') → (nl, ilK ns) ∈ fz' → (ka', Kd.sl kept') ∈ fz' → (∀ q ∈ ks, (q.1, Kd.sl q.2) ∈ fz') →
      St f [("went", .bool (decide (x.fmod 3 = 2 ∧ wd ∈ kept))), ("word", .str wd twd), ("heap", .ref hl), ("kept", .ref ka'), ("keeps", .ref kl), ("numbers", .ref nl), ("width", .int width tw), ("head", .int head th)]
        ((it, .is (liP nl (j + 1))) :: (hl, .sl hp') :: (kl, rlK (ks.map (·.1))) :: fz') s' → AgN f frk ns nl it hl kl width head tw th j ks wd twd x kept fl s'
inductive AgO (f : Fx) (frk : List (Addr × Kd)) (ns : List Int) (nl it hl kl : Addr) (width head : Int) (tw th : Tok) (j : Nat) (ks : List (Addr × List Str)) (fl : Flow) (s' : Shared) : Prop
  | mk : fl = .next → (hp' kept' : List Str) → (ka' : Addr) → (fz' : List (Addr × Kd)) → KI (j + 1) hp' kept' → (∀ p ∈ frk, p ∈ fz') → (nl, ilK ns) ∈ fz' → (ka', Kd.sl kept') ∈ fz' → (∀ q ∈ ks, (q.1, Kd.sl q.2) ∈ fz') →
      St f [("heap", .ref hl), ("kept", .ref ka'), ("keeps", .ref kl), ("numbers", .ref nl), ("width", .int width tw), ("head", .int head th)]
        ((it, .is (liP nl (j + 1))) :: (hl, .sl hp') :: (kl, rlK (ks.map (·.1))) :: fz') s' → AgO f frk ns nl it hl kl width head tw th j ks fl s'
theorem law_agree_spec {g : Gx} (G : g.Ok) {A : Around} {k : Nat} (ar : Ar A (k + 12)) {s : Shared} (I : Inv g s) {nl : Addr} {ns : List Int} {width head : Int} {tw th : Tok} {outer : List Env} {fr : List (Addr × Obj)} {hs0 : List (Addr × Kd)}
    (hfr : A.frames = some outer) (hF : Frs outer fr) (hfn : ((frK fr).map (·.1)).Nodup) (hh : ∀ p ∈ hs0, p.2.At s.heap p.1 ∧ g.n ≤ p.1) (nd : (hs0.map (·.1)).Nodup) (m1 : (nl, ilK ns) ∈ hs0) (m3 : ∀ p ∈ frK fr, p ∈ hs0)
    (hz : ns.length ≤ 15) (h6 : 6 ≤ width) (h11 : width ≤ 11) (h0 : 0 ≤ head) (h3 : head ≤ 3)
    {Q E : Value → Shared → Prop} (h : ∀ s', Inv g s' → Ext (fr.map (·.1)) s.heap s'.heap → Q (.bool true) s') :
    wpAny (model PR g.w) A (call (.ref 271) [.ref nl, .int width tw, .int head th]) Q E s := by
  refine' r_call G (fr.map (·.1)) hs0 [("numbers", .ref nl), ("width", .int width tw), ("head", .int head th)] I ar ?ho ?hnt ?hcd ?hct ?hbd ?hc ?hlc ?hh ?nd ?_ ?c1 ?c2 ?c3
  ((case ho => rfl); (case hnt => decide); (case hcd => rfl); (case hct => decide); (case hbd => exact BindsTo.of_eq rfl); (case hc => decide); (case hlc => exact locs rfl); (case c1 => rfl); (case c2 => rfl); (case c3 => rfl))
  case hh => exact hh
  case nd => exact nd
  intro s₁ S ar' hg
  have hA0 := fr_of ar' hfr
  with_reducible refine gF ar' hA0 ?_
  clear hA0 ar'
  intro A' ar' hA'
  have B : Below' ⟨g, s.heap, fr.map (·.1), s.heap.objs.size⟩ A' _ hs0 := ⟨⟨outer, fr, hA', hF, m3, fun p hp => .inl (List.mem_map_of_mem hp)⟩, rfl, rfl⟩
  refine let env0 : Env := _; idE env0 ?_
  (refine let fx1 : Fx := _; let ls1 : List (Str × Value) := _; have S1x : St fx1 ls1 _ _ := S; ?_); clear S; have S := S1x; clear S1x
  (refine opq ?_; intro Q0 c0)
  refine noE ?_
  refine wpAny_execs_cons ?_
  (refine opq ?_; intro Q1 c1)
  refine' Assign_Tuple_swapped (names := ["heap", "kept", "keeps"]) ?h1 ?h2 ?h3
  case h2 => rfl
  case h3 => kernel_rfl
  (refine opq ?_; intro Q2 c2)
  refine r_Tuple ?_
  (refine opq ?_; intro Q3 c3)
  refine wpAny_items_cons ?_
  (refine opq ?_; intro Q4 c4)
  refine r_List ?_
  (refine opq ?_; intro Q5 c5)
  refine wpAny_items_nil ?_
  refine c5 _ _ ?_
  refine' r_dispS (by assumption) ?sv (Nat.le_of_ble_eq_true rfl) ?_; (case sv => (repeat (first | exact StrsAre.nil | apply StrsAre.cons))); intro _ _ _ _
  refine c4 _ _ ?_
  (refine opq ?_; intro Q6 c6)
  refine wpAny_items_cons ?_
  (refine opq ?_; intro Q7 c7)
  refine r_List ?_
  (refine opq ?_; intro Q8 c8)
  refine wpAny_items_nil ?_
  refine c8 _ _ ?_
  refine' r_dispS (by assumption) ?sv (Nat.le_of_ble_eq_true rfl) ?_; (case sv => (repeat (first | exact StrsAre.nil | apply StrsAre.cons))); intro _ _ _ _
  refine c7 _ _ ?_
  (refine opq ?_; intro Q9 c9)
  refine wpAny_items_cons ?_
  (refine opq ?_; intro Q10 c10)
  refine r_List ?_
  (refine opq ?_; intro Q11 c11)
  refine wpAny_items_cons ?_
  (refine opq ?_; intro Q12 c12)
  refine r_List ?_
  (refine opq ?_; intro Q13 c13)
  refine wpAny_items_nil ?_
  refine c13 _ _ ?_
  refine' r_dispS (by assumption) ?sv (Nat.le_of_ble_eq_true rfl) ?_; (case sv => (repeat (first | exact StrsAre.nil | apply StrsAre.cons))); intro _ _ _ _
  refine c12 _ _ ?_
  (refine opq ?_; intro Q14 c14)
  refine wpAny_items_cons ?_
  (refine opq ?_; intro Q15 c15)
  refine r_List ?_
  (refine opq ?_; intro Q16 c16)
  refine wpAny_items_nil ?_
  refine c16 _ _ ?_
  refine' r_dispS (by assumption) ?sv (Nat.le_of_ble_eq_true rfl) ?_; (case sv => (repeat (first | exact StrsAre.nil | apply StrsAre.cons))); intro _ _ _ _
  refine c15 _ _ ?_
  (refine opq ?_; intro Q17 c17)
  refine wpAny_items_cons ?_
  (refine opq ?_; intro Q18 c18)
  refine r_List ?_
  (refine opq ?_; intro Q19 c19)
  refine wpAny_items_nil ?_
  refine c19 _ _ ?_
  refine' r_dispS (by assumption) ?sv (Nat.le_of_ble_eq_true rfl) ?_; (case sv => (repeat (first | exact StrsAre.nil | apply StrsAre.cons))); intro _ _ _ _
  refine c18 _ _ ?_
  (refine opq ?_; intro Q20 c20)
  refine wpAny_items_nil ?_
  refine c20 _ _ ?_
  refine c17 _ _ ?_
  refine c14 _ _ ?_
  refine c11 _ _ ?_
  refine' r_dispL (by assumption) (Nat.le_of_ble_eq_true rfl) ?_; intro _ _ _ _
  refine c10 _ _ ?_
  (refine opq ?_; intro Q21 c21)
  refine wpAny_items_nil ?_
  refine c21 _ _ ?_
  refine c9 _ _ ?_
  refine c6 _ _ ?_
  refine c3 _ _ ?_
  refine' r_dispT (by assumption) (Nat.le_of_ble_eq_true rfl) ?_; intro _ _ _ _
  refine c2 _ _ ?_
  refine' r_unpack (by assumption) ?hm ?hn (Ar.hand (by assumption)) ?_; (case hm => exact mA 0 rfl); (case hn => rfl); intro _ _
  (refine opq ?_; intro Q22 c22)
  first | refine r_aio_cons ?_ | refine r_aio_nil ?_
  dsimp only [List.nil_append, List.cons_append]
  refine wpAny_bindName ?_
  refine' r_storeName (by assumption) ?_; intro _ _
  first | refine r_aio_cons ?_ | refine r_aio_nil ?_
  dsimp only [List.nil_append, List.cons_append]
  refine wpAny_bindName ?_
  refine' r_storeName (by assumption) ?_; intro _ _
  first | refine r_aio_cons ?_ | refine r_aio_nil ?_
  dsimp only [List.nil_append, List.cons_append]
  refine wpAny_bindName ?_
  refine' r_storeName (by assumption) ?_; intro _ _
  first | refine r_aio_cons ?_ | refine r_aio_nil ?_
  refine c22 _ _ ?_
  refine c1 _ _ ?_
  refine wpAny_execs_cons ?_
  (refine opq ?_; intro Q23 c23)
  refine wpAny_For ?_
  refine' r_local (by assumption) ?hv ?_; (case hv => rfl)
  rename_i hl _ zh Sh ka _ _ _ k1 _ _ _ k2 _ _ _ k3 _ _ _ kl _ _ _ tp _ _ _ _ _ _ _ _ _ s₁₂ S12
  have zh' : s.heap.objs.size ≤ hl := Nat.le_trans S.ext.1 zh
  refine r_iterI S12 (mD 7 m1) ?_
  intro it s₁₃ mit S13
  have S14 : St ⟨g, s.heap, fr.map (·.1), s.heap.objs.size⟩ [("heap", .ref hl), ("kept", .ref ka), ("keeps", .ref kl), ("numbers", .ref nl), ("width", .int width tw), ("head", .int head th)]
      ((it, .is (liP nl 0)) :: (hl, .sl []) :: (kl, rlK [k1, k2, k3]) :: (ka, .sl []) :: (k1, .sl []) :: (k2, .sl []) :: (k3, .sl []) :: hs0) s₁₃ := by
    exact ((S13.ph 8 [2, 0, 7, 6, 5, 4, 3]).kind (k' := rlK [k1, k2, k3]) ⟨_, S13.get (mA 2 rfl), 0, rfl⟩).pick 7 [1, 2, 0, 3, 4, 5, 6]
  refine codeAny_forLoop (AgW ⟨g, s.heap, fr.map (·.1), s.heap.objs.size⟩ (frK fr) ns nl it hl width head tw th) ?_ ns.length ⟨0, [], [], ka, kl, [(k1, []), (k2, []), (k3, [])], (ka, .sl []) :: (k1, .sl []) :: (k2, .sl []) :: (k3, .sl []) :: hs0, rfl, Nat.zero_le _, ⟨by intro i hi x y hx; simp at hx, .nil, .nil, Nat.le_refl _, by simp, rfl, by intro q hq; simp only [List.mem_cons, List.not_mem_nil, or_false] at hq; rcases hq with rfl | rfl | rfl <;> exact ⟨.nil, by simp, by simp⟩⟩, fun p hp => mD 4 (m3 p hp), mD 4 m1, .head _, by intro q hq; simp only [List.mem_cons, List.not_mem_nil, or_false] at hq; rcases hq with rfl | rfl | rfl <;> simp, S14⟩
  rintro n s₁₅ ⟨j, hp, kept, ka, kl, ks, fz, rfl, hj, P, f1, f2, f3, f4, S15⟩
  rcases Nat.lt_or_eq_of_le hj with hj' | rfl
  · obtain ⟨x, hx⟩ : ∃ x, ns[j]? = some x := ⟨_, List.getElem?_eq_getElem hj'⟩
    refine r_nextI S15 (mD 2 f2) mit hx ?_
    intro tx s₁₆ S16
    obtain ⟨wd, hwd, hwm⟩ := menu_at (x := x)
    have hidx := sub_ok (x := x)
    (refine let fx2 : Fx := _; let ls2 : List (Str × Value) := _; have S2x : St fx2 ls2 _ _ := S16; ?_); clear S16; have S16 := S2x; clear S2x
    refine noE ?_
    refine wpAny_assign_Name ?_
    refine' r_storeName (by assumption) ?_; intro _ _
    (refine opq ?_; intro Q24 c24)
    refine noE ?_
    refine wpAny_execs_cons ?_
    (refine opq ?_; intro Q25 c25)
    refine wpAny_Assign_Name ?_
    (refine opq ?_; intro Q26 c26)
    refine Subscript_ ?_
    (refine opq ?_; intro Q27 c27)
    refine r_List ?_
    (refine opq ?_; intro Q28 c28)
    refine wpAny_items_cons ?_
    refine' r_str (by assumption) ?_; intro _ _ _
    (refine opq ?_; intro Q29 c29)
    refine wpAny_items_cons ?_
    refine' r_str (by assumption) ?_; intro _ _ _
    (refine opq ?_; intro Q30 c30)
    refine wpAny_items_cons ?_
    refine' r_str (by assumption) ?_; intro _ _ _
    (refine opq ?_; intro Q31 c31)
    refine wpAny_items_cons ?_
    refine' r_str (by assumption) ?_; intro _ _ _
    (refine opq ?_; intro Q32 c32)
    refine wpAny_items_cons ?_
    refine' r_str (by assumption) ?_; intro _ _ _
    (refine opq ?_; intro Q33 c33)
    refine wpAny_items_cons ?_
    refine' r_str (by assumption) ?_; intro _ _ _
    (refine opq ?_; intro Q34 c34)
    refine wpAny_items_nil ?_
    refine c34 _ _ ?_
    refine c33 _ _ ?_
    refine c32 _ _ ?_
    refine c31 _ _ ?_
    refine c30 _ _ ?_
    refine c29 _ _ ?_
    refine c28 _ _ ?_
    refine' r_dispS (by assumption) ?sv (Nat.le_of_ble_eq_true rfl) ?_; (case sv => (repeat (first | exact StrsAre.nil | apply StrsAre.cons))); intro _ _ _ _
    refine c27 _ _ ?_
    (refine opq ?_; intro Q35 c35)
    refine wpAny_BinOp ?_
    (refine opq ?_; intro Q36 c36)
    refine wpAny_BinOp ?_
    refine' r_local (by assumption) ?hv ?_; (case hv => rfl)
    refine' r_int (by assumption) ?_; intro _ _ _
    refine' r_fdiv (by assumption) (by decide) (PyProof.noPylong_of_log2 (by decide +kernel)) ?_; intro _ _ _
    refine c36 _ _ ?_
    refine' r_int (by assumption) ?_; intro _ _ _
    refine' r_mod (by assumption) (by decide) ?_; intro _ _ _
    refine c35 _ _ ?_
    rename_i s₁₇ S17
    refine r_item S17 (ws := menu) (y := wd) (by exact mA 0 rfl) hidx.1 hwd (by omega) ?_
    intro twd
    refine c26 _ _ ?_
    refine' r_storeName (by assumption) ?_; intro _ _
    refine c25 _ _ ?_
    refine wpAny_execs_cons ?_
    (refine opq ?_; intro Q37 c37)
    clear S17
    rename_i s₁₈ S18
    have T1 : St ⟨g, s.heap, fr.map (·.1), s.heap.objs.size⟩ [("word", .str wd twd), ("x", .int x tx), ("heap", .ref hl), ("kept", .ref ka), ("keeps", .ref kl), ("numbers", .ref nl), ("width", .int width tw), ("head", .int head th)]
      ((it, .is (liP nl (j + 1))) :: (hl, .sl hp) :: (kl, rlK (ks.map (·.1))) :: fz) s₁₈ := (by exact S18.pick 4 [1, 2, 3])
    clear S18
    refine Assign_Tuple_swapped (names := ["came", "went"]) ?_ (by rfl) (by kernel_rfl)
    (refine let fx3 : Fx := _; let ls3 : List (Str × Value) := _; have S3x : St fx3 ls3 _ _ := T1; ?_); clear T1; have T1 := S3x; clear S3x
    (refine opq ?_; intro Q38 c38)
    refine r_Tuple ?_
    (refine opq ?_; intro Q39 c39)
    refine wpAny_items_cons ?_
    (refine opq ?_; intro Q40 c40)
    refine wpAny_Compare1 ?_
    (refine opq ?_; intro Q41 c41)
    refine wpAny_BinOp ?_
    refine' r_local (by assumption) ?hv ?_; (case hv => rfl)
    refine' r_int (by assumption) ?_; intro _ _ _
    refine' r_mod (by assumption) (by decide) ?_; intro _ _ _
    refine c41 _ _ ?_
    refine' r_int (by assumption) ?_; intro _ _ _
    refine PySem.P.lt_int ?_
    refine c40 _ _ ?_
    (refine opq ?_; intro Q42 c42)
    refine wpAny_items_cons ?_
    (refine opq ?_; intro Q43 c43)
    refine wpAny_mono (Q := fun v s' => v = .bool (decide (x.fmod 3 = 2 ∧ wd ∈ kept)) ∧ St ⟨g, s.heap, fr.map (·.1), s.heap.objs.size⟩ [("word", .str wd twd), ("x", .int x tx), ("heap", .ref hl), ("kept", .ref ka), ("keeps", .ref kl), ("numbers", .ref nl), ("width", .int width tw), ("head", .int head th)]
      ((it, .is (liP nl (j + 1))) :: (hl, .sl hp) :: (kl, rlK (ks.map (·.1))) :: fz) s') ?_ ?_ (fun _ _ x => x)
    · refine BoolOp_and ?_
      (refine opq ?_; intro Q44 c44)
      refine wpAny_Compare1 ?_
      (refine opq ?_; intro Q45 c45)
      refine wpAny_BinOp ?_
      refine' r_local (by assumption) ?hv ?_; (case hv => rfl)
      refine' r_int (by assumption) ?_; intro _ _ _
      refine' r_mod (by assumption) (by decide) ?_; intro _ _ _
      refine c45 _ _ ?_
      refine' r_int (by assumption) ?_; intro _ _ _
      refine PySem.P.eq_int ?_
      refine c44 _ _ ?_
      refine wpAny_truthy_bool ?_
      by_cases c1 : x.fmod 3 = 2
      · rw [if_pos (by simpa using c1)]
        refine BoolOp_one ?_
        (refine opq ?_; intro Q46 c46)
        refine wpAny_Compare1 ?_
        refine' r_local (by assumption) ?hv ?_; (case hv => rfl)
        refine' r_local (by assumption) ?hv ?_; (case hv => rfl)
        refine' r_in (by assumption) ?hm ?_; (case hm => exact mD 3 (by assumption))
        refine c46 _ _ ?_
        exact ⟨by rw [decide_eq_decide.mpr (show wd ∈ kept ↔ x.fmod 3 = 2 ∧ wd ∈ kept from ⟨fun q => ⟨c1, q⟩, fun q => q.2⟩)], by assumption⟩
      · rw [if_neg (by simpa using c1)]
        exact ⟨by rw [show decide (x.fmod 3 = 2 ∧ wd ∈ kept) = false from decide_eq_false fun q => c1 q.1]; congr 1; simpa using c1, by assumption⟩
    rintro v s₁₉ ⟨rfl, T2⟩
    refine c43 _ _ ?_
    (refine opq ?_; intro Q44 c44)
    refine wpAny_items_nil ?_
    refine c44 _ _ ?_
    refine c42 _ _ ?_
    refine c39 _ _ ?_
    refine' r_dispT (by assumption) (Nat.le_of_ble_eq_true rfl) ?_; intro _ _ _ _
    refine c38 _ _ ?_
    refine' r_unpack (by assumption) ?hm ?hn (Ar.hand (by assumption)) ?_; (case hm => exact mA 0 rfl); (case hn => rfl); intro _ _
    (refine opq ?_; intro Q45 c45)
    first | refine r_aio_cons ?_ | refine r_aio_nil ?_
    dsimp only [List.nil_append, List.cons_append]
    refine wpAny_bindName ?_
    refine' r_storeName (by assumption) ?_; intro _ _
    first | refine r_aio_cons ?_ | refine r_aio_nil ?_
    dsimp only [List.nil_append, List.cons_append]
    refine wpAny_bindName ?_
    refine' r_storeName (by assumption) ?_; intro _ _
    first | refine r_aio_cons ?_ | refine r_aio_nil ?_
    refine c45 _ _ ?_
    refine c37 _ _ ?_
    refine wpAny_execs_cons ?_
    clear T1
    rename_i s₂₀ S20
    have T3 : St ⟨g, s.heap, fr.map (·.1), s.heap.objs.size⟩ [("went", .bool (decide (x.fmod 3 = 2 ∧ wd ∈ kept))), ("came", .bool (decide (x.fmod 3 < 2))), ("word", .str wd twd), ("heap", .ref hl), ("kept", .ref ka), ("keeps", .ref kl), ("numbers", .ref nl), ("width", .int width tw), ("head", .int head th)]
      ((it, .is (liP nl (j + 1))) :: (hl, .sl hp) :: (kl, rlK (ks.map (·.1))) :: fz) s₂₀ := (by exact S20.pick 4 [1, 2, 3])
    clear S20 T2
    have K : KI j hp kept := ⟨P.heap, P.perm, P.srt, P.len, P.mn⟩
    have hpl := K.perm.length_eq
    have hkl := K.len
    refine wpAny_mono (Q := AgN ⟨g, s.heap, fr.map (·.1), s.heap.objs.size⟩ (frK fr) ns nl it hl kl width head tw th j ks wd twd x kept) ?_ ?_ (fun _ _ x => x)
    · (refine let fx4 : Fx := _; let ls4 : List (Str × Value) := _; have S4x : St fx4 ls4 _ _ := T3; ?_); clear T3; have T3 := S4x; clear S4x
      (refine opq ?_; intro Q46 c46)
      refine wpAny_If ?_
      (refine opq ?_; intro Q47 c47)
      refine wpAny_isTrue_value ?_
      refine' r_local (by assumption) ?hv ?_; (case hv => rfl)
      refine wpAny_truthy_bool ?_
      refine c47 _ _ ?_
      by_cases c1 : x.fmod 3 < 2
      · rw [if_pos (by simpa using c1)]
        refine wpAny_execs_cons ?_
        (refine opq ?_; intro Q48 c48)
        refine wpAny_Expr ?_
        (refine opq ?_; intro Q49 c49)
        refine r_Call ?_
        refine' r_glob (by assumption) ?hv ?_; (case hv => rfl)
        refine r_cwF ?_
        (refine opq ?_; intro Q50 c50)
        refine wpAny_items_cons ?_
        refine' r_local (by assumption) ?hv ?_; (case hv => rfl)
        (refine opq ?_; intro Q51 c51)
        refine wpAny_items_cons ?_
        refine' r_local (by assumption) ?hv ?_; (case hv => rfl)
        (refine opq ?_; intro Q52 c52)
        refine wpAny_items_nil ?_
        refine c52 _ _ ?_
        refine c51 _ _ ?_
        refine c50 _ _ ?_
        refine' And.intro (fn_at (by assumption) ?fo ?fn) ?_; (case fo => rfl); (case fn => decide)
        have T5 : St _ _ ((hl, .sl hp) :: (it, .is (liP nl (j + 1))) :: (kl, rlK (ks.map (·.1))) :: fz) _ := T3.swap
        refine heappush_spec G (k := k) (ar'.le (by omega)) T5.inv (T5.get (mA 0 rfl)) (T5.low (mA 0 rfl)) (by omega) ?_
        intro s₂₁ I21 E21 H21
        have T6 := T5.upd I21 E21 (.inr zh') H21
        refine c49 _ _ ?_
        refine c48 _ _ ?_
        refine wpAny_execs_cons ?_
        (refine opq ?_; intro Q53 c53)
        refine wpAny_Assign_Name ?_
        (refine opq ?_; intro Q54 c54)
        refine r_Call ?_
        refine' r_boot (by assumption) ?hv ?hw ?_; (case hv => rfl); (case hw => boot_by_name)
        refine PyProof.Rows.callWith_builtin1 ?_
        (refine opq ?_; intro Q55 c55)
        refine wpAny_items_cons ?_
        (refine opq ?_; intro Q56 c56)
        refine wpAny_BinOp ?_
        refine' r_local (by assumption) ?hv ?_; (case hv => rfl)
        (refine opq ?_; intro Q57 c57)
        refine r_List ?_
        (refine opq ?_; intro Q58 c58)
        refine wpAny_items_cons ?_
        refine' r_local (by assumption) ?hv ?_; (case hv => rfl)
        (refine opq ?_; intro Q59 c59)
        refine wpAny_items_nil ?_
        refine c59 _ _ ?_
        refine c58 _ _ ?_
        refine' r_dispS (by assumption) ?sv (Nat.le_of_ble_eq_true rfl) ?_; (case sv => (repeat (first | exact StrsAre.nil | apply StrsAre.cons))); intro _ _ _ _
        refine c57 _ _ ?_
        rename_i s₂₂ T7
        refine r_addL T7 (a := ka) (ws := kept) (mD 4 f3) (mA 0 rfl) (by rw [sizeLine_eq]; simp; omega) ?_
        intro q₁ s₂₃ _ T8
        refine c56 _ _ ?_
        (refine opq ?_; intro Q60 c60)
        refine wpAny_items_nil ?_
        refine c60 _ _ ?_
        refine c55 _ _ ?_
        refine r_sorted T8 (mA 0 rfl) (by simp; omega) ?_
        intro q₂ us s₂₄ _ hpm hss T9
        refine c54 _ _ ?_
        refine' r_storeName (by assumption) ?_; intro _ _
        refine c53 _ _ ?_
        refine wpAny_execs_nil ?_
        refine c46 _ _ ?_
        rename_i s₂₅ T10
        refine ⟨rfl, sdn wd 0 (hp ++ [wd]) hp.length, us, q₂, (q₂, .sl us) :: fz, fun q => by omega, ki_push K hwm hpm hss, fun p hp => mD 1 (f1 p hp), mD 1 f2, .head _, fun q hq => mD 1 (f4 q hq), ?_⟩
        exact (by exact T10.pick 6 [4, 3, 5, 0])
      · rw [if_neg (by simpa using c1)]
        refine wpAny_execs_nil ?_
        refine c46 _ _ ?_
        exact ⟨rfl, hp, kept, ka, fz, fun _ => rfl, ⟨K.heap, K.perm, K.srt, by omega, K.mn⟩, f1, f2, f3, f4, T3.wl (by rfl)⟩
    rintro fl s₂₁ ⟨rfl, hp', kept', ka', fz', e1, K', f1', f2', f3', f4', T4⟩
    (refine let fx4 : Fx := _; let ls4 : List (Str × Value) := _; have S4x : St fx4 ls4 _ _ := T4; ?_); clear T4; have T4 := S4x; clear S4x
    refine wpAny_execs_cons ?_
    clear T3
    have hpl := K'.perm.length_eq
    have hkl := K'.len
    refine wpAny_mono (Q := AgO ⟨g, s.heap, fr.map (·.1), s.heap.objs.size⟩ (frK fr) ns nl it hl kl width head tw th j ks) ?_ ?_ (fun _ _ x => x)
    · (refine opq ?_; intro Q46 c46)
      refine wpAny_If ?_
      (refine opq ?_; intro Q47 c47)
      refine wpAny_isTrue_value ?_
      refine' r_local (by assumption) ?hv ?_; (case hv => rfl)
      refine wpAny_truthy_bool ?_
      refine c47 _ _ ?_
      by_cases c2 : x.fmod 3 = 2 ∧ wd ∈ kept
      · rw [if_pos (by simpa using c2)]
        have ek := e1 c2.1
        subst ek
        refine wpAny_execs_cons ?_
        (refine opq ?_; intro Q48 c48)
        refine wpAny_Expr ?_
        (refine opq ?_; intro Q49 c49)
        refine MethodCall_ ?_
        refine' r_local (by assumption) ?hv ?_; (case hv => rfl)
        refine' r_gm (by assumption) ?hm PySem.F.slot_list_remove PySem.F.type_list_remove ?_; (case hm => exact mA 1 rfl)
        refine callWith_method1 ?_
        (refine opq ?_; intro Q50 c50)
        refine wpAny_items_cons ?_
        refine' r_local (by assumption) ?hv ?_; (case hv => rfl)
        (refine opq ?_; intro Q51 c51)
        refine wpAny_items_nil ?_
        refine c51 _ _ ?_
        refine c50 _ _ ?_
        have T5 : St _ _ ((hl, .sl hp') :: (it, .is (liP nl (j + 1))) :: (kl, rlK (ks.map (·.1))) :: fz') _ := T4.swap
        refine r_remove T5 (.inr zh') (K'.perm.mem_iff.mpr c2.2) (by rw [sizeLine_eq]; omega) ?_
        intro s₂₂ T6
        refine c49 _ _ ?_
        refine c48 _ _ ?_
        refine wpAny_execs_cons ?_
        (refine opq ?_; intro Q52 c52)
        refine wpAny_Expr ?_
        (refine opq ?_; intro Q53 c53)
        refine r_Call ?_
        refine' r_glob (by assumption) ?hv ?_; (case hv => rfl)
        refine r_cwF ?_
        (refine opq ?_; intro Q54 c54)
        refine wpAny_items_cons ?_
        refine' r_local (by assumption) ?hv ?_; (case hv => rfl)
        (refine opq ?_; intro Q55 c55)
        refine wpAny_items_nil ?_
        refine c55 _ _ ?_
        refine c54 _ _ ?_
        refine' And.intro (fn_at (by assumption) ?fo ?fn) ?_; (case fo => rfl); (case fn => decide)
        have hel : (hp'.erase wd).length ≤ hp'.length := List.erase_sublist.length_le
        refine heapify_spec G (k := k) (ar'.le (by omega)) T6.inv (T6.get (mA 0 rfl)) (T6.low (mA 0 rfl)) (by omega) ?_
        intro s₂₃ I23 E23 H23
        have T7 := T6.upd I23 E23 (.inr zh') H23
        have T8 : St _ _ ((it, .is (liP nl (j + 1))) :: (hl, .sl (hfy ((hp'.erase wd).length / 2) (hp'.erase wd))) :: (kl, rlK (ks.map (·.1))) :: fz') _ := T7.swap
        refine c53 _ _ ?_
        refine c52 _ _ ?_
        refine wpAny_execs_cons ?_
        (refine opq ?_; intro Q56 c56)
        refine wpAny_Assign_Name ?_
        (refine opq ?_; intro Q57 c57)
        refine MethodCall_ ?_
        refine' r_local (by assumption) ?hv ?_; (case hv => rfl)
        refine' r_gm (by assumption) ?hm PySem.F.slot_list_index PySem.F.type_list_index ?_; (case hm => exact mD 3 (by assumption))
        refine callWith_method1 ?_
        (refine opq ?_; intro Q58 c58)
        refine wpAny_items_cons ?_
        refine' r_local (by assumption) ?hv ?_; (case hv => rfl)
        (refine opq ?_; intro Q59 c59)
        refine wpAny_items_nil ?_
        refine c59 _ _ ?_
        refine c58 _ _ ?_
        refine r_index T8 (a := ka') (ws := kept') (mD 3 f3') c2.2 (by omega) ?_
        intro tp s₂₄ T9
        have hix : kept'.idxOf wd < kept'.length := List.idxOf_lt_length_of_mem c2.2
        refine c57 _ _ ?_
        refine' r_storeName (by assumption) ?_; intro _ _
        refine c56 _ _ ?_
        refine wpAny_execs_cons ?_
        (refine opq ?_; intro Q60 c60)
        refine wpAny_Assign_Name ?_
        (refine opq ?_; intro Q61 c61)
        refine wpAny_BinOp ?_
        (refine opq ?_; intro Q62 c62)
        refine Subscript_ ?_
        refine' r_local (by assumption) ?hv ?_; (case hv => rfl)
        (refine opq ?_; intro Q63 c63)
        refine r_Slice ?_
        (refine opq ?_; intro Q64 c64)
        refine r_partN ?_
        refine c64 _ _ ?_
        (refine opq ?_; intro Q65 c65)
        refine r_partS ?_
        refine' r_local (by assumption) ?hv ?_; (case hv => rfl)
        refine c65 _ _ ?_
        refine' r_slnext (by assumption) ?_; intro _ _ _
        refine c63 _ _ ?_
        rename_i b₁ s₂₅ T10
        refine r_sliceTail T10 (a := ka') (ws := kept') (mD 3 f3') .none (.int _ _) (by rw [sizeLine_eq]; omega) ?_
        intro q₁ s₂₆ _ T11
        rw [pk_upto] at T11
        refine c62 _ _ ?_
        (refine opq ?_; intro Q66 c66)
        refine Subscript_ ?_
        refine' r_local (by assumption) ?hv ?_; (case hv => rfl)
        (refine opq ?_; intro Q67 c67)
        refine r_Slice ?_
        (refine opq ?_; intro Q68 c68)
        refine r_partS ?_
        refine wpAny_BinOp ?_
        refine' r_local (by assumption) ?hv ?_; (case hv => rfl)
        refine' r_int (by assumption) ?_; intro _ _ _
        refine' r_add (by assumption) ?_; intro _ _ _
        refine c68 _ _ ?_
        (refine opq ?_; intro Q69 c69)
        refine r_partN ?_
        refine c69 _ _ ?_
        refine' r_slnext (by assumption) ?_; intro _ _ _
        refine c67 _ _ ?_
        rename_i b₂ s₂₇ T12
        refine r_sliceTail T12 (a := ka') (ws := kept') (mD 4 f3') (.int _ _) .none (by rw [sizeLine_eq]; omega) ?_
        intro q₂ s₂₈ _ T13
        have ei : ((kept'.idxOf wd : Nat) : Int) + 1 = ((kept'.idxOf wd + 1 : Nat) : Int) := by omega
        rw [ei, pk_from] at T13
        refine c66 _ _ ?_
        refine r_addL T13 (mA 1 rfl) (mA 0 rfl) (by rw [sizeLine_eq]; simp; omega) ?_
        intro q₃ s₂₉ _ T14
        rw [take_drop_idx] at T14
        refine c61 _ _ ?_
        refine' r_storeName (by assumption) ?_; intro _ _
        refine c60 _ _ ?_
        refine wpAny_execs_nil ?_
        refine c46 _ _ ?_
        rename_i s₃₀ T15
        refine ⟨rfl, _, kept'.erase wd, q₃, (q₃, .sl (kept'.erase wd)) :: fz', ki_out K', fun p hp => mD 1 (f1' p hp), mD 1 f2', .head _, fun q hq => mD 1 (f4' q hq), ?_⟩
        exact (by exact T15.pick 6 [3, 4, 5, 0])
      · rw [if_neg (by simpa using c2)]
        refine wpAny_execs_nil ?_
        refine c46 _ _ ?_
        exact ⟨rfl, hp', kept', ka', fz', K', f1', f2', f3', f4', T4.wl (by rfl)⟩
    rintro fl s₂₂ ⟨rfl, hp'', kept'', ka'', fz'', K'', f1'', f2'', f3'', f4'', T5⟩
    clear T4
    (refine let fx5 : Fx := _; let ls5 : List (Str × Value) := _; have S5x : St fx5 ls5 _ _ := T5; ?_); clear T5; have T5 := S5x; clear S5x
    refine wpAny_execs_cons ?_
    (refine opq ?_; intro Q46 c46)
    clear hpl hkl K
    have hpl := K''.perm.length_eq
    have hkl := K''.len
    have hn3 := P.n3
    obtain ⟨⟨ke, el⟩, hke⟩ : ∃ q, ks[j]? = some q := ⟨_, List.getElem?_eq_getElem (by omega)⟩
    have hkm : (ke, el) ∈ ks := List.mem_of_getElem? hke
    have hel := P.kS _ hkm
    have m4 := f4'' _ hkm
    simp only at hel m4
    have hmk : ∀ x ∈ menu, wok x := menu_ok
    have okk : okw kept'' := fun x hx => (hmk x (K''.mn x hx)).2.1
    have oke : okw el := fun x hx => (hmk x (hel.2.1 x hx)).2.1
    have hrs : (ks.map (·.1))[(ks.map (·.1)).length - 3]? = some ke := by
      rw [List.length_map, hn3, show j + 3 - 3 = j by omega, List.getElem?_map, hke]; rfl
    refine Assign_Tuple_swapped (names := ["elder", "gone", "new"]) ?_ (by rfl) (by kernel_rfl)
    (refine opq ?_; intro Q47 c47)
    refine r_Tuple ?_
    (refine opq ?_; intro Q48 c48)
    refine wpAny_items_cons ?_
    (refine opq ?_; intro Q49 c49)
    refine Subscript_ ?_
    refine' r_local (by assumption) ?hv ?_; (case hv => rfl)
    (refine opq ?_; intro Q50 c50)
    refine wpAny_UnaryOp ?_
    refine' r_int (by assumption) ?_; intro _ _ _
    refine' r_neg (by assumption) ?_; intro _ _ _
    refine c50 _ _ ?_
    rename_i s₂₃ T6
    refine r_itemR T6 (by exact mA 2 rfl) rfl (by simp; omega) (by simp; omega) hrs ?_
    refine c49 _ _ ?_
    (refine opq ?_; intro Q51 c51)
    refine wpAny_items_cons ?_
    (refine opq ?_; intro Q52 c52)
    refine r_Call ?_
    refine' r_glob (by assumption) ?hv ?_; (case hv => rfl)
    refine r_cwF ?_
    (refine opq ?_; intro Q53 c53)
    refine wpAny_items_cons ?_
    (refine opq ?_; intro Q54 c54)
    refine Subscript_ ?_
    refine' r_local (by assumption) ?hv ?_; (case hv => rfl)
    (refine opq ?_; intro Q55 c55)
    refine wpAny_UnaryOp ?_
    refine' r_int (by assumption) ?_; intro _ _ _
    refine' r_neg (by assumption) ?_; intro _ _ _
    refine c55 _ _ ?_
    rename_i s₂₄ T7
    refine r_itemR T7 (by exact mA 2 rfl) rfl (by simp; omega) (by simp; omega) hrs ?_
    refine c54 _ _ ?_
    (refine opq ?_; intro Q56 c56)
    refine wpAny_items_cons ?_
    refine' r_local (by assumption) ?hv ?_; (case hv => rfl)
    (refine opq ?_; intro Q57 c57)
    refine wpAny_items_nil ?_
    refine c57 _ _ ?_
    refine c56 _ _ ?_
    refine c53 _ _ ?_
    refine' And.intro (fn_at (by assumption) ?fo ?fn) ?_; (case fo => rfl); (case fn => decide)
    refine law_alone_spec G (k := k) (ar'.le (by omega)) T7.inv T7.given T7.nd (by exact mD 3 (by assumption)) (by exact mD 3 (by assumption)) (by omega) okk ?_
    intro qg s₂₅ I25 E25 ng Hg
    have T8 := T7.more I25 E25 ng Hg
    refine c52 _ _ ?_
    (refine opq ?_; intro Q58 c58)
    refine wpAny_items_cons ?_
    (refine opq ?_; intro Q59 c59)
    refine r_Call ?_
    refine' r_glob (by assumption) ?hv ?_; (case hv => rfl)
    refine r_cwF ?_
    (refine opq ?_; intro Q60 c60)
    refine wpAny_items_cons ?_
    refine' r_local (by assumption) ?hv ?_; (case hv => rfl)
    (refine opq ?_; intro Q61 c61)
    refine wpAny_items_cons ?_
    (refine opq ?_; intro Q62 c62)
    refine Subscript_ ?_
    refine' r_local (by assumption) ?hv ?_; (case hv => rfl)
    (refine opq ?_; intro Q63 c63)
    refine wpAny_UnaryOp ?_
    refine' r_int (by assumption) ?_; intro _ _ _
    refine' r_neg (by assumption) ?_; intro _ _ _
    refine c63 _ _ ?_
    rename_i s₂₆ T9
    refine r_itemR T9 (by exact mA 3 rfl) rfl (by simp; omega) (by simp; omega) hrs ?_
    refine c62 _ _ ?_
    (refine opq ?_; intro Q64 c64)
    refine wpAny_items_nil ?_
    refine c64 _ _ ?_
    refine c61 _ _ ?_
    refine c60 _ _ ?_
    refine' And.intro (fn_at (by assumption) ?fo ?fn) ?_; (case fo => rfl); (case fn => decide)
    refine law_alone_spec G (k := k) (ar'.le (by omega)) T9.inv T9.given T9.nd (by exact mD 4 (by assumption)) (by exact mD 4 (by assumption)) (by omega) oke ?_
    intro qn s₂₇ I27 E27 nn Hn
    have T10 := T9.more I27 E27 nn Hn
    refine c59 _ _ ?_
    (refine opq ?_; intro Q65 c65)
    refine wpAny_items_nil ?_
    refine c65 _ _ ?_
    refine c58 _ _ ?_
    refine c51 _ _ ?_
    refine c48 _ _ ?_
    refine' r_dispT (by assumption) (Nat.le_of_ble_eq_true rfl) ?_; intro _ _ _ _
    refine c47 _ _ ?_
    refine' r_unpack (by assumption) ?hm ?hn (Ar.hand (by assumption)) ?_; (case hm => exact mA 0 rfl); (case hn => rfl); intro _ _
    (refine opq ?_; intro Q66 c66)
    first | refine r_aio_cons ?_ | refine r_aio_nil ?_
    dsimp only [List.nil_append, List.cons_append]
    refine wpAny_bindName ?_
    refine' r_storeName (by assumption) ?_; intro _ _
    first | refine r_aio_cons ?_ | refine r_aio_nil ?_
    dsimp only [List.nil_append, List.cons_append]
    refine wpAny_bindName ?_
    refine' r_storeName (by assumption) ?_; intro _ _
    first | refine r_aio_cons ?_ | refine r_aio_nil ?_
    dsimp only [List.nil_append, List.cons_append]
    refine wpAny_bindName ?_
    refine' r_storeName (by assumption) ?_; intro _ _
    first | refine r_aio_cons ?_ | refine r_aio_nil ?_
    refine c66 _ _ ?_
    refine c46 _ _ ?_
    refine wpAny_execs_cons ?_
    (refine opq ?_; intro Q67 c67)
    refine wpAny_Assign_Name ?_
    (refine opq ?_; intro Q68 c68)
    refine r_List ?_
    (refine opq ?_; intro Q69 c69)
    refine wpAny_items_cons ?_
    (refine opq ?_; intro Q70 c70)
    refine r_Call ?_
    refine' r_glob (by assumption) ?hv ?_; (case hv => rfl)
    refine r_cwF ?_
    (refine opq ?_; intro Q71 c71)
    refine wpAny_items_cons ?_
    (refine opq ?_; intro Q72 c72)
    refine r_Call ?_
    refine' r_glob (by assumption) ?hv ?_; (case hv => rfl)
    refine r_cwF ?_
    (refine opq ?_; intro Q73 c73)
    refine wpAny_items_cons ?_
    refine' r_local (by assumption) ?hv ?_; (case hv => rfl)
    (refine opq ?_; intro Q74 c74)
    refine wpAny_items_nil ?_
    refine c74 _ _ ?_
    refine c73 _ _ ?_
    refine' And.intro (fn_at (by assumption) ?fo ?fn) ?_; (case fo => rfl); (case fn => decide)
    clear T6 T7 T8 T9 T10 Hg Hn
    rename_i s₂₈ T11
    have T12 : St ⟨g, s.heap, fr.map (·.1), s.heap.objs.size⟩ [("elder", .ref ke), ("gone", .ref qg), ("new", .ref qn), ("heap", .ref hl), ("kept", .ref ka''), ("keeps", .ref kl), ("numbers", .ref nl), ("width", .int width tw), ("head", .int head th)]
        ((qn, .sl (alone kept'' el)) :: (qg, .sl (alone el kept'')) :: (it, .is (liP nl (j + 1))) :: (hl, .sl hp'') :: (kl, rlK (ks.map (·.1))) :: fz'') s₂₈ := (by exact T11.pick 6 [1, 2, 3, 4, 5])
    clear T11
    have Bf := fun (hs : List (Addr × Kd)) (hm : ∀ p ∈ frK fr, p ∈ hs) => (⟨⟨outer, fr, hA', hF, hm, fun p hp => .inl (List.mem_map_of_mem hp)⟩, rfl, rfl⟩ : Below' ⟨g, s.heap, fr.map (·.1), s.heap.objs.size⟩ A' _ hs)
    have okh : okw hp'' := fun x hx => okk x (K''.perm.mem_iff.mp hx)
    refine law_off_spec G (k := k) (ar'.le (by omega)) T12.inv (T12.get (a := hl) (o := .sl hp'') (by exact mA 3 rfl)) (T12.low (a := hl) (o := .sl hp'') (by exact mA 3 rfl)) (by omega) okh ?_
    intro qo s₂₉ I29 E29 no Ho
    rw [offs_srt K''.heap K''.perm K''.srt] at Ho
    have T13 := T12.more I29 E29 no Ho
    refine c72 _ _ ?_
    (refine opq ?_; intro Q75 c75)
    refine wpAny_items_cons ?_
    refine' r_local (by assumption) ?hv ?_; (case hv => rfl)
    (refine opq ?_; intro Q76 c76)
    refine wpAny_items_cons ?_
    refine' r_local (by assumption) ?hv ?_; (case hv => rfl)
    (refine opq ?_; intro Q77 c77)
    refine wpAny_items_nil ?_
    refine c77 _ _ ?_
    refine c76 _ _ ?_
    refine c75 _ _ ?_
    refine c71 _ _ ?_
    refine' And.intro (fn_at (by assumption) ?fo ?fn) ?_; (case fo => rfl); (case fn => decide)
    refine law_written_spec G (k := k) (ar'.le (by omega)) T13.inv (T13.get (mA 0 rfl)) (T13.low (mA 0 rfl)) (by omega) (fun x hx => hmk x (K''.mn x hx)) h0 h3 ?_
    intro tr s₃₀ I30 E30
    rw [written_rows h6 h0 h3 (fun x hx => hmk x (K''.mn x hx))]
    have T14 := T13.stay I30 E30
    refine c70 _ _ ?_
    (refine opq ?_; intro Q78 c78)
    refine wpAny_items_cons ?_
    (refine opq ?_; intro Q79 c79)
    refine r_Call ?_
    refine' r_glob (by assumption) ?hv ?_; (case hv => rfl)
    refine r_cwF ?_
    (refine opq ?_; intro Q80 c80)
    refine wpAny_items_cons ?_
    refine' r_local (by assumption) ?hv ?_; (case hv => rfl)
    (refine opq ?_; intro Q81 c81)
    refine wpAny_items_cons ?_
    refine' r_local (by assumption) ?hv ?_; (case hv => rfl)
    (refine opq ?_; intro Q82 c82)
    refine wpAny_items_nil ?_
    refine c82 _ _ ?_
    refine c81 _ _ ?_
    refine c80 _ _ ?_
    refine' And.intro (fn_at (by assumption) ?fo ?fn) ?_; (case fo => rfl); (case fn => decide)
    refine r_sld (k := k) T14 (ar'.le (by omega)) (Bf _ (fun p hp => by exact mD 6 (f1'' p hp))) (by exact mD 6 (by assumption)) (by exact mD 6 (by assumption)) (by omega) ?_
    intro t1 a1 b1 s₃₁ nt1 na1 nb1 T15
    rw [sld_alone hel.1 K''.srt] at T15
    refine c79 _ _ ?_
    (refine opq ?_; intro Q83 c83)
    refine wpAny_items_cons ?_
    (refine opq ?_; intro Q84 c84)
    refine r_Call ?_
    refine' r_glob (by assumption) ?hv ?_; (case hv => rfl)
    refine r_cwF ?_
    (refine opq ?_; intro Q85 c85)
    refine wpAny_items_cons ?_
    refine' r_local (by assumption) ?hv ?_; (case hv => rfl)
    (refine opq ?_; intro Q86 c86)
    refine wpAny_items_cons ?_
    refine' r_local (by assumption) ?hv ?_; (case hv => rfl)
    (refine opq ?_; intro Q87 c87)
    refine wpAny_items_nil ?_
    refine c87 _ _ ?_
    refine c86 _ _ ?_
    refine c85 _ _ ?_
    refine' And.intro (fn_at (by assumption) ?fo ?fn) ?_; (case fo => rfl); (case fn => decide)
    refine r_sld (k := k) T15 (ar'.le (by omega)) (Bf _ (fun p hp => by exact mD 9 (f1'' p hp))) (a := ka'') (b := ke) (by exact mD 9 (by assumption)) (by exact mD 9 (by assumption)) (by omega) ?_
    intro t2 a2 b2 s₃₂ nt2 na2 nb2 T16
    rw [sld_alone K''.srt hel.1] at T16
    refine c84 _ _ ?_
    (refine opq ?_; intro Q88 c88)
    refine wpAny_items_nil ?_
    refine c88 _ _ ?_
    refine c83 _ _ ?_
    refine c78 _ _ ?_
    refine c69 _ _ ?_
    refine' r_dispL (by assumption) (Nat.le_of_ble_eq_true rfl) ?_; intro _ _ _ _
    refine c68 _ _ ?_
    refine' r_storeName (by assumption) ?_; intro _ _
    refine c67 _ _ ?_
    refine wpAny_execs_cons ?_
    rename_i ltd _ _ _ s₃₃ T17
    (refine let fx6 : Fx := _; let ls6 : List (Str × Value) := _; let hs6 : List (Addr × Kd) := _; have S6x : St fx6 ls6 hs6 _ := T17; ?_); clear T17; have T17 := S6x; clear S6x
    (refine opq ?_; intro Q89 c89)
    refine wpAny_If ?_
    (refine opq ?_; intro Q90 c90)
    refine wpAny_isTrue_Compare1 ?_
    refine' r_local (by assumption) ?hv ?_; (case hv => rfl)
    (refine opq ?_; intro Q91 c91)
    refine r_List ?_
    (refine opq ?_; intro Q92 c92)
    refine wpAny_items_cons ?_
    (refine opq ?_; intro Q93 c93)
    refine r_Call ?_
    refine' r_glob (by assumption) ?hv ?_; (case hv => rfl)
    refine r_cwF ?_
    (refine opq ?_; intro Q94 c94)
    refine wpAny_items_cons ?_
    refine' r_local (by assumption) ?hv ?_; (case hv => rfl)
    (refine opq ?_; intro Q95 c95)
    refine wpAny_items_cons ?_
    refine' r_local (by assumption) ?hv ?_; (case hv => rfl)
    (refine opq ?_; intro Q96 c96)
    refine wpAny_items_cons ?_
    refine' r_local (by assumption) ?hv ?_; (case hv => rfl)
    (refine opq ?_; intro Q97 c97)
    refine wpAny_items_nil ?_
    refine c97 _ _ ?_
    refine c96 _ _ ?_
    refine c95 _ _ ?_
    refine c94 _ _ ?_
    refine' And.intro (fn_at (by assumption) ?fo ?fn) ?_; (case fo => rfl); (case fn => decide)
    refine law_rows_spec G (k := k) (ar'.le (by omega)) T17.inv (T17.get (a := ka'') (o := .sl kept'') (by exact mD 13 (by assumption))) (T17.low (a := ka'') (o := .sl kept'') (by exact mD 13 (by assumption))) (by omega) okk (fun x hx => (hmk x (K''.mn x hx)).1) ?_
    intro trw s₃₄ I34 E34
    have T18 := T17.stay I34 E34
    refine c93 _ _ ?_
    (refine opq ?_; intro Q98 c98)
    refine wpAny_items_cons ?_
    (refine opq ?_; intro Q99 c99)
    refine r_Tuple ?_
    (refine opq ?_; intro Q100 c100)
    refine wpAny_items_cons ?_
    refine' r_local (by assumption) ?hv ?_; (case hv => rfl)
    (refine opq ?_; intro Q101 c101)
    refine wpAny_items_cons ?_
    refine' r_local (by assumption) ?hv ?_; (case hv => rfl)
    (refine opq ?_; intro Q102 c102)
    refine wpAny_items_nil ?_
    refine c102 _ _ ?_
    refine c101 _ _ ?_
    refine c100 _ _ ?_
    refine' r_dispT (by assumption) (Nat.le_of_ble_eq_true rfl) ?_; intro _ _ _ _
    refine c99 _ _ ?_
    (refine opq ?_; intro Q103 c103)
    refine wpAny_items_cons ?_
    (refine opq ?_; intro Q104 c104)
    refine r_Tuple ?_
    (refine opq ?_; intro Q105 c105)
    refine wpAny_items_cons ?_
    refine' r_local (by assumption) ?hv ?_; (case hv => rfl)
    (refine opq ?_; intro Q106 c106)
    refine wpAny_items_cons ?_
    refine' r_local (by assumption) ?hv ?_; (case hv => rfl)
    (refine opq ?_; intro Q107 c107)
    refine wpAny_items_nil ?_
    refine c107 _ _ ?_
    refine c106 _ _ ?_
    refine c105 _ _ ?_
    refine' r_dispT (by assumption) (Nat.le_of_ble_eq_true rfl) ?_; intro _ _ _ _
    refine c104 _ _ ?_
    (refine opq ?_; intro Q108 c108)
    refine wpAny_items_nil ?_
    refine c108 _ _ ?_
    refine c103 _ _ ?_
    refine c98 _ _ ?_
    refine c92 _ _ ?_
    refine' r_dispL (by assumption) (Nat.le_of_ble_eq_true rfl) ?_; intro _ _ _ _
    refine c91 _ _ ?_
    rename_i ltw s₃₅ _ T19
    refine r_neTold (a := a1) (b := b1) (c := a2) (d := b2) (a' := qg) (b' := qn) (ws := alone el kept'') (us := alone kept'' el) T19 (by exact mA 3 rfl) (by exact mA 0 rfl) (by exact mA 7 rfl) (by exact mA 4 rfl) (by exact mA 2 rfl) (by exact mA 1 rfl) (by exact mA 8 rfl) (by exact mA 9 rfl) (by exact mA 5 rfl) (by exact mA 6 rfl) (by exact mA 12 rfl) (by exact mA 11 rfl)
      (join_ok nl_ok _ (rowsOf_ok (fun x hx => (hmk x (K''.mn x hx)).1) okk)) (alone_ok oke) (alone_ok okk) ar'.u64 ?_
    refine wpAny_truthy_bool ?_
    refine c90 _ _ ?_
    rw [if_neg Bool.false_ne_true]
    refine wpAny_execs_nil ?_
    refine c89 _ _ ?_
    refine wpAny_execs_cons ?_
    have T20 : St ⟨g, s.heap, fr.map (·.1), s.heap.objs.size⟩ [("elder", .ref ke), ("heap", .ref hl), ("kept", .ref ka''), ("keeps", .ref kl), ("numbers", .ref nl), ("width", .int width tw), ("head", .int head th)]
        ((it, .is (liP nl (j + 1))) :: (hl, .sl hp'') :: (kl, rlK (ks.map (·.1))) :: fz'') s₃₅ := (by exact T19.pick 16 [13, 14, 15])
    clear T12 T13 T14 T15 T16 T17 T18 T19
    (refine let fx7 : Fx := _; let ls7 : List (Str × Value) := _; have S7x : St fx7 ls7 _ _ := T20; ?_); clear T20; have T20 := S7x; clear S7x
    (refine opq ?_; intro Q109 c109)
    refine wpAny_If ?_
    (refine opq ?_; intro Q110 c110)
    refine wpAny_isTrue_Compare1 ?_
    (refine opq ?_; intro Q111 c111)
    refine r_Call ?_
    refine' r_glob (by assumption) ?hv ?_; (case hv => rfl)
    refine r_cwF ?_
    (refine opq ?_; intro Q112 c112)
    refine wpAny_items_cons ?_
    (refine opq ?_; intro Q113 c113)
    refine Subscript_ ?_
    refine' r_local (by assumption) ?hv ?_; (case hv => rfl)
    (refine opq ?_; intro Q114 c114)
    refine r_Slice ?_
    (refine opq ?_; intro Q115 c115)
    refine r_partN ?_
    refine c115 _ _ ?_
    (refine opq ?_; intro Q116 c116)
    refine r_partN ?_
    refine c116 _ _ ?_
    refine' r_slnext (by assumption) ?_; intro _ _ _
    refine c114 _ _ ?_
    rename_i bb₁ s₃₆ T21
    refine r_sliceTail T21 (a := ke) (ws := el) (by exact mD 3 (by assumption)) .none .none (by rw [sizeLine_eq]; omega) ?_
    intro qa s₃₇ na T22
    rw [pk_all] at T22
    have hqa : s.heap.objs.size ≤ qa := Nat.le_trans T21.ext.1 na
    refine c113 _ _ ?_
    (refine opq ?_; intro Q117 c117)
    refine wpAny_items_cons ?_
    (refine opq ?_; intro Q118 c118)
    refine Subscript_ ?_
    refine' r_local (by assumption) ?hv ?_; (case hv => rfl)
    (refine opq ?_; intro Q119 c119)
    refine r_Slice ?_
    (refine opq ?_; intro Q120 c120)
    refine r_partN ?_
    refine c120 _ _ ?_
    (refine opq ?_; intro Q121 c121)
    refine r_partN ?_
    refine c121 _ _ ?_
    refine' r_slnext (by assumption) ?_; intro _ _ _
    refine c119 _ _ ?_
    rename_i bb₂ s₃₈ T23
    refine r_sliceTail T23 (a := ka'') (ws := kept'') (by exact mD 4 (by assumption)) .none .none (by rw [sizeLine_eq]; omega) ?_
    intro qb s₃₉ nb T24
    rw [pk_all] at T24
    have hqb : s.heap.objs.size ≤ qb := Nat.le_trans T23.ext.1 nb
    refine c118 _ _ ?_
    (refine opq ?_; intro Q122 c122)
    refine wpAny_items_nil ?_
    refine c122 _ _ ?_
    refine c117 _ _ ?_
    refine c112 _ _ ?_
    refine' And.intro (fn_at (by assumption) ?fo ?fn) ?_; (case fo => rfl); (case fn => decide)
    have T25 : St ⟨g, s.heap, fr.map (·.1), s.heap.objs.size⟩ [("elder", .ref ke), ("heap", .ref hl), ("kept", .ref ka''), ("keeps", .ref kl), ("numbers", .ref nl), ("width", .int width tw), ("head", .int head th)]
        ((qa, .sl el) :: (qb, .sl kept'') :: (it, .is (liP nl (j + 1))) :: (hl, .sl hp'') :: (kl, rlK (ks.map (·.1))) :: fz'') s₃₉ := (by exact T24.pick 5 [1, 0, 2, 3, 4])
    clear T20 T21 T22 T23 T24
    refine r_uld (k := k) T25 (ar'.le (by omega)) hA' hF (fun p hp => mD 3 (f1'' p hp)) (fun p hp => .inl (List.mem_map_of_mem hp)) hfn rfl rfl (.inr hqa) (.inr hqb) (by omega) ?_
    intro t1 m1 s₄₀ nt1 nm1 T26
    rw [uld_bags] at T26
    refine c111 _ _ ?_
    (refine opq ?_; intro Q123 c123)
    refine r_Call ?_
    refine' r_glob (by assumption) ?hv ?_; (case hv => rfl)
    refine r_cwF ?_
    (refine opq ?_; intro Q124 c124)
    refine wpAny_items_cons ?_
    refine' r_local (by assumption) ?hv ?_; (case hv => rfl)
    (refine opq ?_; intro Q125 c125)
    refine wpAny_items_cons ?_
    refine' r_local (by assumption) ?hv ?_; (case hv => rfl)
    (refine opq ?_; intro Q126 c126)
    refine wpAny_items_nil ?_
    refine c126 _ _ ?_
    refine c125 _ _ ?_
    refine c124 _ _ ?_
    refine' And.intro (fn_at (by assumption) ?fo ?fn) ?_; (case fo => rfl); (case fn => decide)
    refine law_bags_spec G (k := k) (ar'.le (by omega)) T26.inv T26.given T26.nd (a := ke) (b := ka'') (ws := el) (us := kept'') (by exact mD 6 (by assumption)) (by exact mD 6 (by assumption)) (by omega) ?_
    intro t2 c2 d2 s₄₁ I41 E41 nt2 nc2 nd2 hcd Ht2 Hc2 Hd2
    have htc : t2 ≠ c2 := fun q => by
      subst q
      obtain ⟨v1, n1, h1, _⟩ := Hc2
      have h1 : s₄₁.heap.get? t2 = some (W.listOf v1 n1) := h1
      rw [show s₄₁.heap.get? t2 = some (tupObj [.ref t2, .ref d2]) from Ht2] at h1
      have := congrArg (fun o => o.map (·.cls)) h1
      simp [tupObj, W.listOf] at this
    have htd : t2 ≠ d2 := fun q => by
      subst q
      obtain ⟨v1, n1, h1, _⟩ := Hd2
      have h1 : s₄₁.heap.get? t2 = some (W.listOf v1 n1) := h1
      rw [show s₄₁.heap.get? t2 = some (tupObj [.ref c2, .ref t2]) from Ht2] at h1
      have := congrArg (fun o => o.map (·.cls)) h1
      simp [tupObj, W.listOf] at this
    have T27 := T26.moreL [(t2, .obj (tupObj [.ref c2, .ref d2])), (c2, .sl (lacksN el kept'' el.length)), (d2, .sl (keepsN el kept'' kept''.length))] I41 E41 (by
      intro p hp
      simp only [List.mem_cons, List.not_mem_nil, or_false] at hp
      rcases hp with rfl | rfl | rfl
      · exact ⟨Ht2, nt2⟩
      · exact ⟨Hc2, nc2⟩
      · exact ⟨Hd2, nd2⟩) (by simp; exact ⟨⟨htc, htd⟩, hcd⟩)
    simp only [List.cons_append, List.nil_append] at T27
    refine c123 _ _ ?_
    refine r_neT (p := m1) (q := qb) (p' := c2) (q' := d2) (ws := lacksN el kept'' el.length) (us := keepsN el kept'' kept''.length) T27 (by exact mA 3 rfl) (by exact mA 0 rfl) (by exact mA 4 rfl) (by exact mA 5 rfl) (by exact mA 1 rfl) (by exact mA 2 rfl) (lacksN_ok oke _ (Nat.le_refl _)) (keepsN_ok okk _ (Nat.le_refl _)) ar'.u64 ?_
    (refine let fx8 : Fx := _; let ls8 : List (Str × Value) := _; let hs8 : List (Addr × Kd) := _; have S8x : St fx8 ls8 hs8 _ := T27; ?_); clear T27; have T27 := S8x; clear S8x
    refine wpAny_truthy_bool ?_
    refine c110 _ _ ?_
    rw [if_neg Bool.false_ne_true]
    refine wpAny_execs_nil ?_
    refine c109 _ _ ?_
    refine wpAny_execs_cons ?_
    (refine opq ?_; intro Q127 c127)
    refine wpAny_Assign_Name ?_
    (refine opq ?_; intro Q128 c128)
    refine wpAny_BinOp ?_
    refine' r_local (by assumption) ?hv ?_; (case hv => rfl)
    (refine opq ?_; intro Q129 c129)
    refine r_List ?_
    (refine opq ?_; intro Q130 c130)
    refine wpAny_items_cons ?_
    refine' r_local (by assumption) ?hv ?_; (case hv => rfl)
    (refine opq ?_; intro Q131 c131)
    refine wpAny_items_nil ?_
    refine c131 _ _ ?_
    refine c130 _ _ ?_
    refine' r_dispL (by assumption) (Nat.le_of_ble_eq_true rfl) ?_; intro _ _ _ _
    refine c129 _ _ ?_
    rename_i lk s₄₂ _ T28
    refine r_addR T28 (a := kl) (b := lk) (c := ka'') (rs := ks.map (·.1)) (by exact mA 9 rfl) (mA 0 rfl) (by simp; omega) ?_
    intro qk s₄₃ _ T29
    refine c128 _ _ ?_
    refine' r_storeName (by assumption) ?_; intro _ _
    refine c127 _ _ ?_
    refine wpAny_execs_nil ?_
    refine c24 _ _ ?_
    rename_i s₄₄ T30
    refine ⟨ns.length - (j + 1), by omega, j + 1, hp'', kept'', ka'', qk, ks ++ [(ka'', kept'')], fz'', rfl, by omega, ⟨K''.heap, K''.perm, K''.srt, K''.len, K''.mn, by simp; omega, ?_⟩, f1'', f2'', f3'', ?_, ?_⟩
    · intro q hq
      rcases List.mem_append.mp hq with hq | hq
      · have := P.kS q hq
        exact ⟨this.1, this.2.1, by omega⟩
      · simp only [List.mem_singleton] at hq
        subst hq
        exact ⟨K''.srt, K''.mn, K''.len⟩
    · intro q hq
      rcases List.mem_append.mp hq with hq | hq
      · exact f4'' q hq
      · simp only [List.mem_singleton] at hq
        subst hq
        exact f3''
    · rw [List.map_append, List.map_singleton]
      exact (by exact T30.pick 11 [8, 9, 0])
  · refine r_endI S15 (by exact mD 2 (by assumption)) mit ar'.hand (Nat.le_refl _) ?_
    intro s₁₆ S16
    (refine let fx2 : Fx := _; let ls2 : List (Str × Value) := _; have S2x : St fx2 ls2 _ _ := S16; ?_); clear S16; have S16 := S2x; clear S2x
    refine noE ?_
    refine wpAny_execs_nil ?_
    refine c23 _ _ ?_
    refine wpAny_execs_cons ?_
    (refine opq ?_; intro Q24 c24)
    refine wpAny_Return_some ?_
    refine wpAny_Constant_bool ?_
    refine c24 _ _ ?_
    refine c0 _ _ ?_
    exact h _ S16.inv S16.ext
end TH27
section TH28
section
variable {prog : Program} {w : World} {f : Fx} {A : Around} {E : Value → Shared → Prop} {s : Shared} {ls : List (Str × Value)} {hs : List (Addr × Kd)}
theorem r_addI {a b : Addr} {ns ms : List Int} {Q : Value → Shared → Prop} (S : St f ls hs s) (ha : (a, ilK ns) ∈ hs) (hb : (b, ilK ms) ∈ hs) (hz : ns.length + ms.length < 1000)
    (h : ∀ q s', s.heap.objs.size ≤ q → St f ls ((q, ilK (ns ++ ms)) :: hs) s' → Q (.ref q) s') : wpAny (model prog w) A (binaryOp .Add (.ref a) (.ref b)) Q E s := by
  obtain ⟨_, ho, v1, n1, rfl, i1⟩ := S.get ha
  obtain ⟨_, ho2, v2, n2, rfl, i2⟩ := S.get hb
  have hl : IsL s.heap a v1 n1 := ho
  have hl' : IsL s.heap b v2 n2 := ho2
  have e1 := i1.length
  have e2 := i2.length
  simp at e1 e2
  refine P.add_list hl hl' (h _ _ (Nat.le_refl _) (S.push _ s.toks _ ⟨_, Heap.get?_push_size _ rfl, v1 ++ v2, 0, rfl, ?_⟩)) (by rw [sizeLine_eq]; omega)
  simpa using i1.append i2
/-- a list of ints below: the law's own argument -/
theorem r_sliceB {value slice : Expr} {a b : Addr} {vs : Array Value} {k : Nat} {ns : List Int} {t : Tok} {ops : List Value} {Q : Value → Shared → Prop} (S : St f ls ((b, .obj (slObj .none (.int (k : Int) t))) :: hs) s) (hl : s.heap.IsList a vs) (hi : IntsAre vs.toList ns) (hz : ns.length < 1000)
    (h : ∀ c s', s.heap.objs.size ≤ c → St f ls ((c, ilK (ns.take k)) :: hs) s' → Q (.ref c) s')
    (hsl : subscripted slice false (.ref a) (.ref b) = operate ops (getItem (.ref a) (.ref b)) := by with_unfolding_all rfl) :
    wpAny (model prog w) A (subscriptTail value slice (.ref a) (.ref b)) Q E s := by
  have hb : s.heap.get? b = some (slObj .none (.int (k : Int) t)) := S.get (mA 0 rfl)
  have e := hi.length
  simp at e
  refine tail_any hl.typeIs slot_list_getitem.lookup (wpAny_getItem_list_slice hl ⟨_, hb, rfl, rfl⟩ .none (.int _ _) .none (by simp) ?_ (by rw [sizeLine_eq]; omega)) hsl
  refine h _ _ (Nat.le_refl _) (S.drop.push _ s.toks _ ⟨_, Heap.get?_push_size _ rfl, slicePick vs none (some (k : Int)) none, 0, rfl, ?_⟩)
  rw [slicePick_plain, e]
  simp only [Option.elim, List.drop_zero, Nat.sub_zero, clip_nat]
  have h2 := hi.take k
  have : vs.toList.take (min k ns.length) = vs.toList.take k := by
    simp [List.take_eq_take_iff]; omega
  simpa [this] using h2
theorem r_sumI {a : Addr} {ns : List Int} {Q : Value → Shared → Prop} (S : St f ls hs s) (hm : (a, ilK ns) ∈ hs) (hh : A.handled = none) (h : ∀ t s', St f ls hs s' → Q (.int (preSum (fun j => ns.getD j 0) ns.length) t) s') : wpAny (model prog w) A (call (.builtin "sum") [.ref a]) Q E s := by
  obtain ⟨_, ho, vs, n, rfl, hi⟩ := S.get hm
  have hl : IsL s.heap a vs n := ho
  have e := hi.length
  simp at e
  have S₂ : St f ls hs { s with heap := s.heap.push { cls := .type "list_iterator", data := .fields #[.ref a, .int 0 0] } } := S.pushed s.toks
  have hlt : a < s.heap.objs.size := (S.get hm).lt
  refine call_sum_walkAnyS (wpAny_pyIter_list hl.isList ?_)
  refine ⟨s.heap.objs.size, _, _, _, vs.size, _, _, fun j => ns.getD j 0, rfl, (Walks.list (A := A.in1) hh s.heap.objs.size a (Nat.ne_of_lt hlt) vs).toS, ⟨⟨_, Heap.get?_push_size _ rfl, rfl, rfl⟩, ?_⟩, ?_, ?_, ?_⟩
  · exact IsL.isList (show IsL (s.heap.push _) a vs n from Heap.get?_push_of_some _ hl)
  · intro b hb
    show b < (s.heap.push _).objs.size
    rw [Heap.size_push]
    simp only [List.mem_cons, List.not_mem_nil, or_false] at hb
    rcases hb with rfl | rfl
    · exact Nat.lt_succ_self _
    · exact Nat.lt_succ_of_lt hlt
  · intro i v hv
    obtain ⟨m, t, rfl, q⟩ := hi.at i v (by rw [Array.getElem?_toList]; exact hv)
    exact ⟨t, by simp [List.getD, q]⟩
  · intro s' t' hmv
    rw [e]
    refine h t' s' (S₂.moved (gi := 0) (wr := [s.heap.objs.size]) ⟨hmv.heap, .inl hmv.gens, hmv.drawn, hmv.os, hmv.toks⟩ ?_)
    intro b hb
    simp only [List.mem_singleton] at hb
    subst hb
    exact ⟨S.inv.size, S.ext.1, Nat.ne_of_gt S.ltL, fun p hp => Nat.ne_of_lt (S.has p hp).1.lt⟩
end
theorem mod6 (z : Int) : 0 ≤ z.fmod 6 ∧ z.fmod 6 < 6 := ⟨Int.fmod_nonneg_of_pos _ (by decide), Int.fmod_lt_of_pos _ (by decide)⟩
theorem mod4 (z : Int) : 0 ≤ z.fmod 4 ∧ z.fmod 4 < 4 := ⟨Int.fmod_nonneg_of_pos _ (by decide), Int.fmod_lt_of_pos _ (by decide)⟩
theorem law_spec {g : Gx} (G : g.Ok) {A : Around} {k : Nat} (ar : Ar A (k + 14)) (hfr : A.frames = some []) {s : Shared} (I : Inv g s) {a : Addr} {vs : Array Value} {ns : List Int}
    (hl : g.B.IsList a vs) (hi : IntsAre vs.toList ns) (hz : ns.length < 1000)
    {Q E : Value → Shared → Prop} (h : ∀ s', Inv g s' → Ext [] s.heap s'.heap → Q (.bool true) s') :
    wpAny (model PR g.w) A (call (.ref 278) [.ref a]) Q E s := by
  refine' r_call G [] [] [("script", .ref a)] I ar ?ho ?hnt ?hcd ?hct ?hbd ?hc ?hlc ?hh ?nd ?_ ?c1 ?c2 ?c3
  ((case ho => rfl); (case hnt => decide); (case hcd => rfl); (case hct => decide); (case hbd => exact BindsTo.of_eq rfl); (case hc => decide); (case hlc => exact locs rfl); (case c1 => rfl); (case c2 => rfl); (case c3 => rfl))
  case hh => intro p hp; cases hp
  case nd => exact .nil
  intro s₁ S ar' hg
  have hA0 := fr_of ar' hfr
  with_reducible refine gF ar' hA0 ?_
  clear hA0 ar'
  intro A' ar' hA'
  refine let env0 : Env := _; idE env0 ?_
  (refine let fx0 : Fx := _; let ls0 : List (Str × Value) := _; have S0x : St fx0 ls0 _ _ := S; ?_); clear S; have S := S0x; clear S0x
  (refine opq ?_; intro Q0 c0)
  refine noE ?_
  refine wpAny_execs_cons ?_
  (refine opq ?_; intro Q1 c1)
  refine wpAny_Assign_Name ?_
  (refine opq ?_; intro Q2 c2)
  refine Subscript_ ?_
  refine' r_local (by assumption) ?hv ?_; (case hv => rfl)
  (refine opq ?_; intro Q3 c3)
  refine r_Slice ?_
  (refine opq ?_; intro Q4 c4)
  refine r_partN ?_
  refine c4 _ _ ?_
  (refine opq ?_; intro Q5 c5)
  refine r_partS ?_
  refine' r_int (by assumption) ?_; intro _ _ _
  refine c5 _ _ ?_
  refine' r_slnext (by assumption) ?_; intro _ _ _
  refine c3 _ _ ?_
  rename_i b s₂ S₂
  refine r_sliceB (k := 6) S₂ (let ⟨o, ho, hc, n, hd⟩ := hl; ⟨o, S₂.inv.base _ _ ho, hc, n, hd⟩) hi hz ?_
  intro c s₃ nc S₃
  refine c2 _ _ ?_
  refine' r_storeName (by assumption) ?_; intro _ _
  refine c1 _ _ ?_
  refine wpAny_execs_cons ?_
  (refine opq ?_; intro Q6 c6)
  refine wpAny_Return_some ?_
  (refine opq ?_; intro Q7 c7)
  refine r_Call ?_
  refine' r_glob (by assumption) ?hv ?_; (case hv => rfl)
  refine r_cwF ?_
  (refine opq ?_; intro Q8 c8)
  refine wpAny_items_cons ?_
  (refine opq ?_; intro Q9 c9)
  refine wpAny_BinOp ?_
  (refine opq ?_; intro Q10 c10)
  refine r_List ?_
  (refine opq ?_; intro Q11 c11)
  refine wpAny_items_cons ?_
  refine' r_int (by assumption) ?_; intro _ _ _
  (refine opq ?_; intro Q12 c12)
  refine wpAny_items_cons ?_
  refine' r_int (by assumption) ?_; intro _ _ _
  (refine opq ?_; intro Q13 c13)
  refine wpAny_items_cons ?_
  refine' r_int (by assumption) ?_; intro _ _ _
  (refine opq ?_; intro Q14 c14)
  refine wpAny_items_cons ?_
  refine' r_int (by assumption) ?_; intro _ _ _
  (refine opq ?_; intro Q15 c15)
  refine wpAny_items_cons ?_
  refine' r_int (by assumption) ?_; intro _ _ _
  (refine opq ?_; intro Q16 c16)
  refine wpAny_items_cons ?_
  refine' r_int (by assumption) ?_; intro _ _ _
  (refine opq ?_; intro Q17 c17)
  refine wpAny_items_cons ?_
  refine' r_int (by assumption) ?_; intro _ _ _
  (refine opq ?_; intro Q18 c18)
  refine wpAny_items_cons ?_
  refine' r_int (by assumption) ?_; intro _ _ _
  (refine opq ?_; intro Q19 c19)
  refine wpAny_items_cons ?_
  refine' r_int (by assumption) ?_; intro _ _ _
  (refine opq ?_; intro Q20 c20)
  refine wpAny_items_nil ?_
  refine c20 _ _ ?_
  refine c19 _ _ ?_
  refine c18 _ _ ?_
  refine c17 _ _ ?_
  refine c16 _ _ ?_
  refine c15 _ _ ?_
  refine c14 _ _ ?_
  refine c13 _ _ ?_
  refine c12 _ _ ?_
  refine c11 _ _ ?_
  refine' r_dispL (by assumption) (Nat.le_of_ble_eq_true rfl) ?_; intro _ _ _ _
  refine c10 _ _ ?_
  refine' r_local (by assumption) ?hv ?_; (case hv => rfl)
  rename_i q s₄ _ S₄
  have nd4 := S₄.nd; skip
  have S₅ : St ⟨g, s.heap, [], s.heap.objs.size⟩ [("cut", .ref c), ("script", .ref a)] [(q, ilK [15, 17, 0, 3, 0, 2, 11, 4, 7]), (c, ilK (ns.take 6))] s₄ := by
    refine (S₄.wl (by rfl)).re (fun p hp => ?_) (by simp at nd4 ⊢; grind)
    rcases List.mem_cons.mp hp with rfl | hp
    · exact .inr ⟨_, .head _, ⟨_, S₄.get (mA 0 rfl), _, _, rfl, by repeat constructor⟩⟩
    · exact .inl (mD 1 hp)
  have ht6 : (ns.take 6).length ≤ 6 := by simp; omega
  refine r_addI S₅ (mA 0 rfl) (mA 1 rfl) (by simp; omega) ?_
  intro nl s₆ _ S₆
  clear S₂ S₃ S₄ S₅ nd4
  refine c9 _ _ ?_
  (refine opq ?_; intro Q21 c21)
  refine wpAny_items_cons ?_
  (refine opq ?_; intro Q22 c22)
  refine wpAny_BinOp ?_
  refine' r_int (by assumption) ?_; intro _ _ _
  (refine opq ?_; intro Q23 c23)
  refine wpAny_BinOp ?_
  (refine opq ?_; intro Q24 c24)
  refine r_Call ?_
  refine' r_boot (by assumption) ?hv ?hw ?_; (case hv => rfl); (case hw => boot_by_name)
  refine PyProof.Rows.callWith_builtin1 ?_
  (refine opq ?_; intro Q25 c25)
  refine wpAny_items_cons ?_
  refine' r_local (by assumption) ?hv ?_; (case hv => rfl)
  (refine opq ?_; intro Q26 c26)
  refine wpAny_items_nil ?_
  refine c26 _ _ ?_
  refine c25 _ _ ?_
  rename_i s₇ S₇
  refine r_sumI S₇ (a := c) (ns := ns.take 6) (by exact mA 2 rfl) ar'.hand ?_
  intro t₁ s₈ S₈
  generalize preSum (fun j => (ns.take 6).getD j 0) (ns.take 6).length = z
  refine c24 _ _ ?_
  refine' r_int (by assumption) ?_; intro _ _ _
  refine' r_mod (by assumption) (by decide) ?_; intro _ _ _
  refine c23 _ _ ?_
  refine' r_add (by assumption) ?_; intro _ _ _
  refine c22 _ _ ?_
  (refine opq ?_; intro Q27 c27)
  refine wpAny_items_cons ?_
  (refine opq ?_; intro Q28 c28)
  refine wpAny_BinOp ?_
  (refine opq ?_; intro Q29 c29)
  refine wpAny_BinOp ?_
  refine' r_int (by assumption) ?_; intro _ _ _
  (refine opq ?_; intro Q30 c30)
  refine wpAny_BinOp ?_
  (refine opq ?_; intro Q31 c31)
  refine r_Call ?_
  refine' r_boot (by assumption) ?hv ?hw ?_; (case hv => rfl); (case hw => boot_by_name)
  refine PyProof.Rows.callWith_builtin1 ?_
  (refine opq ?_; intro Q32 c32)
  refine wpAny_items_cons ?_
  refine' r_local (by assumption) ?hv ?_; (case hv => rfl)
  (refine opq ?_; intro Q33 c33)
  refine wpAny_items_nil ?_
  refine c33 _ _ ?_
  refine c32 _ _ ?_
  rename_i s₉ S₉
  refine r_sumI S₉ (a := c) (ns := ns.take 6) (by exact mA 2 rfl) ar'.hand ?_
  intro t₂ s₁₀ S₁₀
  generalize preSum (fun j => (ns.take 6).getD j 0) (ns.take 6).length = z'
  refine c31 _ _ ?_
  refine' r_int (by assumption) ?_; intro _ _ _
  refine' r_fdiv (by assumption) (by decide) (PyProof.noPylong_of_log2 (by decide +kernel)) ?_; intro _ _ _
  refine c30 _ _ ?_
  refine' r_add (by assumption) ?_; intro _ _ _
  refine c29 _ _ ?_
  refine' r_int (by assumption) ?_; intro _ _ _
  refine' r_mod (by assumption) (by decide) ?_; intro _ _ _
  refine c28 _ _ ?_
  (refine opq ?_; intro Q34 c34)
  refine wpAny_items_nil ?_
  refine c34 _ _ ?_
  refine c27 _ _ ?_
  refine c21 _ _ ?_
  refine c8 _ _ ?_
  refine' And.intro (fn_at (by assumption) ?fo ?fn) ?_; (case fo => rfl); (case fn => decide)
  rename_i s₁₁ S₁₁
  obtain ⟨mm, hn, _⟩ := S₁₁.loc
  obtain ⟨oL, hoL, hnf⟩ := ns_obj hn
  have b6 := mod6 z
  have b4 := mod4 (2 + z'.fdiv 6)
  refine law_agree_spec G (k := k) (ar'.le (by omega)) S₁₁.inv (fr := [(s.heap.objs.size, oL)]) (hs0 := [(s.heap.objs.size, .is (slotP oL)), (nl, ilK ([15, 17, 0, 3, 0, 2, 11, 4, 7] ++ ns.take 6))]) hA' ⟨(fun q => nomatch q), rfl, hnf, trivial⟩ (by simp [frK]) ?_ ?_ (mA 1 rfl) ?_ (by simp; omega) (by omega) (by omega) (by omega) (by omega) ?_
  · intro p hp
    rcases List.mem_cons.mp hp with rfl | hp
    · exact ⟨⟨oL, hoL, oL.slots, rfl⟩, S₁₁.lo⟩
    rcases List.mem_cons.mp hp with rfl | hp
    · exact ⟨S₁₁.get (by exact mA 0 rfl), S₁₁.low (a := nl) (o := ilK ([15, 17, 0, 3, 0, 2, 11, 4, 7] ++ ns.take 6)) (by exact mA 0 rfl)⟩
    · cases hp
  · have := S₁₁.ne (a := nl) (o := ilK ([15, 17, 0, 3, 0, 2, 11, 4, 7] ++ ns.take 6)) (by exact mA 0 rfl)
    simp
    exact fun q => this q.symm
  · intro p hp
    simp only [frK, List.map_cons, List.map_nil, List.mem_singleton] at hp
    subst hp
    exact .head _
  intro s₁₂ I12 E12
  refine c7 _ _ ?_
  refine c6 _ _ ?_
  refine c0 _ _ ?_
  exact h s₁₂ I12 (S₁₁.ext.trans' E12 fun d hd => .inr (by simp only [List.map_cons, List.map_nil, List.mem_singleton] at hd; subst hd; exact Nat.le_refl _))
end TH28
section TJ1
theorem agrees : PySem.Challenge.rw_oy0244_01.Holds := by
  refine hd ?_
  intro w s₀ s₁ mg mb Gd Y fa o pm cd doc dV kV ho hod hcd hD hmg hgens args vals as hpre hlay hrd hwl hlo
  have hbare : AllBare s₁.gens := by rw [hgens]; intro x hx; simp at hx
  have KX := kIn_of Y
  refine Ground.open Gd ?_
  intro T B D TE TW
  have G : Gx.Ok ⟨w, s₁.heap, s₁.os, mg, mb⟩ := ⟨KX, T.g, T.b, T.builtins, T.nolimit⟩
  have e278 : mg (Str.ofString "law") = some (.ref 278) := mg_of KX T.g (by rfl)
  have hfa : fa = 278 := by
    rw [show mg (Str.ofString "law") = _ from hmg] at e278
    exact Value.ref.inj (Option.some.inj e278)
  subst hfa
  wrow_args hpre hlay hrd hwl hlo
  clear hod hcd hD ho Gd Y hmg
  rename_i ns _ _ _ _ _ _ _ a vals _ hL _ _ _ hI _ hc1 _
  have k140 : s₁.heap.get? 140 = some ⟨.none, none, .fields #[], #[]⟩ := KX 140 _ (by rfl)
  have k147 : s₁.heap.get? 147 = some ⟨.none, none, .fields #[], #[]⟩ := KX 147 _ (by rfl)
  have t144 : s₁.heap.TableAt 144 140 #[] := ⟨⟨_, _, KX 144 _ (by rfl), rfl, rfl, rfl⟩, k140⟩
  have t151 : s₁.heap.TableAt 151 147 #[] := ⟨⟨_, _, KX 151 _ (by rfl), rfl, rfl, rfl⟩, k147⟩
  have c144 : s₁.heap.IsCode 144 140 #[] := ⟨_, _, _, _, _, _, _, _, _, _, KX 144 _ (by rfl), rfl, rfl, rfl, rfl, rfl, rfl, k140, rfl, trivial, by decide⟩
  have c151 : s₁.heap.IsCode 151 147 #[] := ⟨_, _, _, _, _, _, _, _, _, _, KX 151 _ (by rfl), rfl, rfl, rfl, rfl, rfl, rfl, k147, rfl, trivial, by decide⟩
  have I : Inv ⟨w, s₁.heap, s₁.os, mg, mb⟩ s₁ := ⟨fun b o e => of_B e, Nat.le_refl _, ⟨_, _, c144, t144, c151, t151⟩, rfl, hbare⟩
  have ha : a ∉ tabs := fun q => by
    obtain ⟨o, ho, hc, _⟩ := hL
    simp only [tabs, List.mem_cons, List.not_mem_nil, or_false] at q
    rcases q with rfl | rfl
    · rw [k140] at ho; cases ho; cases hc
    · rw [k147] at ho; cases ho; cases hc
  refine law_spec G (k := 20) ⟨rfl, by decide, by decide⟩ rfl I (vs := vals.toArray) (ns := ns) (let ⟨o, ho, r⟩ := hL; ⟨o, B_get ho ha, r⟩) (by simpa using hI) (by omega) ?_
  intro s' I' E'
  refine ⟨.inl ⟨_, .bool true, [], rfl, fun _ => rfl, .bool true, ?_, fun _ => ⟨List.nodup_nil, by simp⟩⟩, ⟨fun b o e => ?_, fun b o e => ?_⟩, I'.os, I'.gens⟩
  · have h1 : Challenge.rw_oy0244_01.row.claim.post = fun args d ds => PySem.W.WShape.has Challenge.rw_oy0244_01.row.records d Challenge.rw_oy0244_01.row.returns && Challenge.rw_oy0244_01.row.post.holds Challenge.rw_oy0244_01.row.records { args := args, res := some d, after := ds } := by rfl
    rw [h1]
    show (PySem.W.WShape.has Challenge.rw_oy0244_01.row.records (WData.bool true) .bool && WTm.holds Challenge.rw_oy0244_01.row.records (.eq .res (.lit (.bool true))) _) = true
    simp [WTm.holds, WTm.value, WShape.has, WShape.arms]
    have e : same (WData.bool true) (WData.bool true) = true := by first | rfl | simp [same] | decide +kernel
    rw [e]
  · obtain ⟨p, q, _, a2, _, a4⟩ := I'.tab
    by_cases hb : b ∈ tabs
    · simp only [tabs, List.mem_cons, List.not_mem_nil, or_false] at hb
      rcases hb with rfl | rfl
      · rw [k140] at e
        cases e
        exact .inr (.inl ⟨t144.isCodeTable, rfl, #[], p, rfl, by rw [a2.2]; simp⟩)
      · rw [k147] at e
        cases e
        exact .inr (.inl ⟨t151.isCodeTable, rfl, #[], q, rfl, by rw [a4.2]; simp⟩)
    · exact .inl (I'.base b o (B_get e hb))
  · obtain ⟨p, q, _, a2, _, a4⟩ := I'.tab
    by_cases hb : b ∈ tabs
    · simp only [tabs, List.mem_cons, List.not_mem_nil, or_false] at hb
      rcases hb with rfl | rfl
      · exact ⟨_, a2.2⟩
      · exact ⟨_, a4.2⟩
    · exact ⟨o, I'.base b o (B_get e hb)⟩
end TJ1
end Mine
theorem PySem.Challenge.cw_oy0244_01_holds : PySem.Challenge.rw_oy0244_01.Holds := by
  exact Mine.agrees
