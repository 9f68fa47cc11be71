import PyProof.Rows.All
import Wide.All
import OpenK.AllK
import Wide.FinOn
import KE.KTypeName
import KE.KTypeOf
import KE.KIsNot
import KE.KTupTruth
import KE.KOpsOwn
import PySem.Challenge.RW_bl0029_01
set_option Elab.async false
set_option linter.all false
section
open PySem PySem.W PySem.Calls PyProof.Rows
set_option maxRecDepth 100000
namespace Mine

/-- clean values -/
inductive CV where
  | none | bool (b : Bool) | int (i : Int) | str (x : Str) | raw (v : Value)
  | tup (l : List CV) | lst (l : List CV)
  | acc (C : Addr) (p : Bool) (l : List CV)
  | rng (k : Nat)

mutual
def Rp (V : List Addr) (h : Heap) : CV → Value → Prop
  | .none, v => v = .none
  | .bool b, v => v = .bool b
  | .int i, v => ∃ t, v = .int i t
  | .str x, v => ∃ t, v = .str x t
  | .raw u, v => v = u
  | .tup l, v => ∃ a vs n, v = .ref a ∧ a ∉ V ∧ h.get? a = some (seqObj "tuple" (List.toArray vs) n) ∧ Rps V h l vs
  | .lst l, v => ∃ a vs n, v = .ref a ∧ a ∉ V ∧ h.get? a = some (seqObj "list" (List.toArray vs) n) ∧ Rps V h l vs
  | .acc C p l, v => ∃ a d vs n m, v = .ref a ∧ a ∉ V ∧ d ∉ V ∧ h.get? a = some ⟨.ref C, some d, .seq (List.toArray vs) n, #[]⟩ ∧ h.Ns d m ∧
      (∀ y, m y = if y = ("provided" : Str) then some (.bool p) else none) ∧ Rps V h l vs
  | .rng k, v => ∃ a t u z, v = .ref a ∧ a ∉ V ∧ h.get? a = some { cls := .type "range", data := .fields #[.int 0 t, .int k u, .int 1 z] }
def Rps (V : List Addr) (h : Heap) : List CV → List Value → Prop
  | [], vs => vs = []
  | c :: cs, vs => ∃ v us, vs = v :: us ∧ Rp V h c v ∧ Rps V h cs us
end

theorem Rps.length {V : List Addr} {h : Heap} : ∀ {cs : List CV} {vs : List Value}, Rps V h cs vs → vs.length = cs.length
  | [], _, e => by cases e; rfl
  | _ :: _, _, ⟨_, _, e, _, r⟩ => by cases e; simp [Rps.length r]


/-- an object that a frame may change -/
def Mut (h : Heap) (a : Addr) : Prop := (∃ v, h.IsCell a v) ∨ ∃ m, h.Ns a m ∧ m ("provided" : Str) = Option.none

/-- kept where a clean value looks -/
def KeepsV (V : List Addr) (h h' : Heap) : Prop := ∀ b o, h.get? b = some o → b ∉ V → (∀ vs, o.data = .fields vs → o.cls = .type "range") → ¬ Mut h b → h'.get? b = some o

theorem not_mut_seq {h : Heap} {a : Addr} {o : Obj} {vs : Array Value} {n : Nat} (e : h.get? a = some o) (d : o.data = .seq vs n) : ¬ Mut h a := by
  rintro (⟨v, o', e', d'⟩ | ⟨m, ⟨o', es, ep, e', d', _⟩, _⟩) <;> rw [e] at e' <;> cases e' <;> rw [d] at d' <;> cases d'
theorem not_mut_fields {h : Heap} {a : Addr} {o : Obj} {vs : Array Value} (e : h.get? a = some o) (d : o.data = .fields vs) : ¬ Mut h a := by
  rintro (⟨v, o', e', d'⟩ | ⟨m, ⟨o', es, ep, e', d', _⟩, _⟩) <;> rw [e] at e' <;> cases e' <;> rw [d] at d' <;> cases d'
theorem not_mut_prov {h : Heap} {a : Addr} {m : Str → Option Value} {v : Value} (n : h.Ns a m) (p : m ("provided" : Str) = some v) : ¬ Mut h a := by
  obtain ⟨o, es, ep, e, d, _, hf⟩ := n
  rintro (⟨v, o', e', d'⟩ | ⟨m', ⟨o', es', ep', e', d', _, hf'⟩, p'⟩)
  · rw [e] at e'; cases e'; rw [d] at d'; cases d'
  · rw [e] at e'; cases e'; rw [d] at d'; cases d'
    rw [← hf, hf', p'] at p; cases p

theorem avoid_ {V : List Addr} {h : Heap} {a b : Addr} {o : Obj} (hb : h.get? b = none) (e : h.get? a = some o) (n : a ∉ V) : a ∉ b :: V := fun q => by
  rcases List.mem_cons.mp q with rfl | q
  · rw [hb] at e; cases e
  · exact n q
mutual
theorem Rp.mono {V : List Addr} {h h' : Heap} (k : KeepsV V h h') : ∀ {c : CV} {v : Value}, Rp V h c v → Rp V h' c v
  | .none, _, e => e
  | .bool _, _, e => e
  | .int _, _, e => e
  | .str _, _, e => e
  | .raw _, _, e => e
  | .tup _, _, ⟨a, vs, n, e, nv, o, r⟩ => ⟨a, vs, n, e, nv, k _ _ o nv (fun _ q => by cases q) (not_mut_seq o rfl), Rps.mono k r⟩
  | .lst _, _, ⟨a, vs, n, e, nv, o, r⟩ => ⟨a, vs, n, e, nv, k _ _ o nv (fun _ q => by cases q) (not_mut_seq o rfl), Rps.mono k r⟩
  | .acc _ _ _, _, ⟨a, d, vs, n, m, e, na, nd, o, hn, hm, r⟩ => by
    refine ⟨a, d, vs, n, m, e, na, nd, k _ _ o na (fun _ q => by cases q) (not_mut_seq o rfl), ?_, hm, Rps.mono k r⟩
    have nm := not_mut_prov hn (by rw [hm, if_pos rfl])
    obtain ⟨od, es, ep, e1, e2, e3, e4⟩ := hn
    exact ⟨od, es, ep, k _ _ e1 nd (fun _ q => by rw [e2] at q; cases q) nm, e2, e3, e4⟩
  | .rng _, _, ⟨a, t, u, z, e, nv, o⟩ => ⟨a, t, u, z, e, nv, k _ _ o nv (fun _ _ => rfl) (not_mut_fields o rfl)⟩
theorem Rps.mono {V : List Addr} {h h' : Heap} (k : KeepsV V h h') : ∀ {cs : List CV} {vs : List Value}, Rps V h cs vs → Rps V h' cs vs
  | [], _, e => e
  | _ :: _, _, ⟨v, us, e, r, rs⟩ => ⟨v, us, e, Rp.mono k r, Rps.mono k rs⟩
end
mutual
/-- what is not there is nowhere looked at -/
theorem Rp.avoid {V : List Addr} {h : Heap} {b : Addr} (hb : h.get? b = none) : ∀ {c : CV} {v : Value}, Rp V h c v → Rp (b :: V) h c v
  | .none, _, e => e
  | .bool _, _, e => e
  | .int _, _, e => e
  | .str _, _, e => e
  | .raw _, _, e => e
  | .tup _, _, ⟨a, vs, n, e, nv, o, r⟩ => ⟨a, vs, n, e, avoid_ hb o nv, o, Rps.avoid hb r⟩
  | .lst _, _, ⟨a, vs, n, e, nv, o, r⟩ => ⟨a, vs, n, e, avoid_ hb o nv, o, Rps.avoid hb r⟩
  | .acc _ _ _, _, ⟨a, d, vs, n, m, e, na, nd, o, hn, hm, r⟩ => by
    refine ⟨a, d, vs, n, m, e, avoid_ hb o na, ?_, o, hn, hm, Rps.avoid hb r⟩
    obtain ⟨od, es, ep, e1, e2, e3, e4⟩ := hn
    exact avoid_ hb e1 nd
  | .rng _, _, ⟨a, t, u, z, e, nv, o⟩ => ⟨a, t, u, z, e, avoid_ hb o nv, o⟩
theorem Rps.avoid {V : List Addr} {h : Heap} {b : Addr} (hb : h.get? b = none) : ∀ {cs : List CV} {vs : List Value}, Rps V h cs vs → Rps (b :: V) h cs vs
  | [], _, e => e
  | _ :: _, _, ⟨v, us, e, r, rs⟩ => ⟨v, us, e, Rp.avoid hb r, Rps.avoid hb rs⟩
end
mutual
theorem Rp.less {V W : List Addr} {h : Heap} (s : ∀ a ∈ W, a ∈ V) : ∀ {c : CV} {v : Value}, Rp V h c v → Rp W h c v
  | .none, _, e => e
  | .bool _, _, e => e
  | .int _, _, e => e
  | .str _, _, e => e
  | .raw _, _, e => e
  | .tup _, _, ⟨a, vs, n, e, nv, o, r⟩ => ⟨a, vs, n, e, fun q => nv (s _ q), o, Rps.less s r⟩
  | .lst _, _, ⟨a, vs, n, e, nv, o, r⟩ => ⟨a, vs, n, e, fun q => nv (s _ q), o, Rps.less s r⟩
  | .acc _ _ _, _, ⟨a, d, vs, n, m, e, na, nd, o, hn, hm, r⟩ => ⟨a, d, vs, n, m, e, fun q => na (s _ q), fun q => nd (s _ q), o, hn, hm, Rps.less s r⟩
  | .rng _, _, ⟨a, t, u, z, e, nv, o⟩ => ⟨a, t, u, z, e, fun q => nv (s _ q), o⟩
theorem Rps.less {V W : List Addr} {h : Heap} (s : ∀ a ∈ W, a ∈ V) : ∀ {cs : List CV} {vs : List Value}, Rps V h cs vs → Rps W h cs vs
  | [], _, e => e
  | _ :: _, _, ⟨v, us, e, r, rs⟩ => ⟨v, us, e, Rp.less s r, Rps.less s rs⟩
end

/-- the ground: what stood before the law's call -/
structure Gr where
  hB : Heap
  mg : Str → Option Value
  mb : Str → Option Value
  T : List Addr
  TabOk : Heap → Prop
  /-- lists under way: nobody looks at them -/
  V : List Addr
  /-- the frames under way -/
  fr : List Env := []
  /-- the exception that a handler handles -/
  hd : Option Addr := none
  /-- the least count of values made -/
  p0 : Nat := 1
abbrev Gr.F (g : Gr) : List Addr := g.fr.filterMap (·.frame)

/-- what a table of code may rest on: a record with a text at place 1, or one of no class -/
def Held (o : Obj) : Prop := (∃ vs q t, o.data = .fields vs ∧ vs[1]? = some (.str q t)) ∨ (o.cls = .none ∧ ∃ vs, o.data = .fields vs)
theorem Held.fields {o : Obj} (h : Held o) : ∃ vs, o.data = .fields vs := by
  rcases h with ⟨vs, _, _, h, _⟩ | ⟨_, h⟩
  · exact ⟨vs, h⟩
  · exact h
theorem not_held {o : Obj} {vs : Array Value} (d : o.data = .fields vs) (h1 : ∀ q t, vs[1]? ≠ some (.str q t)) (c : o.cls ≠ .none) : ¬ Held o := by
  rintro (⟨vs', q, t, d', e⟩ | ⟨c', _⟩)
  · rw [d] at d'; cases d'; exact h1 q t e
  · exact c c'
structure GrOk (g : Gr) : Prop where
  glob : g.hB.Ns mainGlobals g.mg
  blt : g.hB.Ns builtinsNs g.mb
  gT : mainGlobals ∉ g.T
  bT : builtinsNs ∉ g.T
  lim : g.hB.NoLimit
  limT : cStatics ∉ g.T
  tabF : ∀ h a, a ∈ g.T → g.TabOk h → ∃ o vs, h.get? a = some o ∧ o.data = .fields vs ∧ o.cls = .none
  tabK : ∀ h h', (∀ b o, h.get? b = some o → Held o → h'.get? b = some o) → g.TabOk h → g.TabOk h'

/-- a namespace that a frame owns -/
def FrNs (h : Heap) (L : Addr) : Prop := ∃ m, h.Ns L m ∧ m ("provided" : Str) = none

structure At (g : Gr) (s : Shared) : Prop where
  keep : ∀ b o, b ∉ g.T → g.hB.get? b = some o → s.heap.get? b = some o
  tab : g.TabOk s.heap
  vol : ∀ a ∈ g.V, (a ∉ g.T ∧ g.hB.get? a = none) ∧ ∃ o, s.heap.get? a = some o
  pos : g.p0 ≤ s.toks
  frs : ∀ e ∈ g.fr, e.scope.kind ≠ .module ∧ ∃ L, e.frame = some L ∧ g.hB.get? L = none ∧ FrNs s.heap L
  hdv : ∀ e, g.hd = some e → e ∈ g.V ∧ ∃ o vs, s.heap.get? e = some o ∧ o.data = .fields vs ∧ vs[2]? = some .none ∧ o.cls ≠ .type "code" ∧ o.cls ≠ .none ∧ ∀ q t, vs[1]? ≠ some (.str q t)

/-- a step of the run that leaves all but the tables, and of the frames under way all but what the machine notes -/
structure Step (g : Gr) (s s' : Shared) : Prop where
  keep : ∀ b o, b ∉ g.T → b ∉ g.F → s.heap.get? b = some o → s'.heap.get? b = some o
  keepF : ∀ b o, b ∈ g.F → s.heap.get? b = some o → ∃ sl, s'.heap.get? b = some { o with slots := sl }
  tab : g.TabOk s.heap → g.TabOk s'.heap
  gens : ∃ l, s'.gens = s.gens ++ l ∧ AllBare l
  drawn : s'.drawn = s.drawn
  os : s'.os = s.os
  tk : s.toks ≤ s'.toks

theorem Step.refl {g : Gr} {s : Shared} : Step g s s := ⟨fun _ _ _ _ e => e, fun _ o _ e => ⟨o.slots, e⟩, id, ⟨#[], by simp, AllBare.empty⟩, rfl, rfl, Nat.le_refl _⟩
theorem Step.trans {g : Gr} {a b c : Shared} (x : Step g a b) (y : Step g b c) : Step g a c := by
  obtain ⟨l, e, hl⟩ := x.gens
  obtain ⟨l', e', hl'⟩ := y.gens
  refine ⟨fun q o n f e => y.keep q o n f (x.keep q o n f e), fun q o f e => ?_, fun h => y.tab (x.tab h), ⟨l ++ l', by rw [e', e, Array.append_assoc], fun q hq => ?_⟩, y.drawn.trans x.drawn, y.os.trans x.os, Nat.le_trans x.tk y.tk⟩
  · obtain ⟨sl, e1⟩ := x.keepF q o f e
    obtain ⟨sl', e2⟩ := y.keepF q _ f e1
    exact ⟨sl', e2⟩
  rcases Array.mem_append.mp hq with q' | q'
  · exact hl _ q'
  · exact hl' _ q'
theorem Step.tok {g : Gr} {s : Shared} {t : Nat} (ht : s.toks ≤ t := by first | exact Nat.le_refl _ | exact Nat.le_succ _ | assumption | omega) : Step g s { s with toks := t } := ⟨fun _ _ _ _ e => e, fun _ o _ e => ⟨o.slots, e⟩, id, ⟨#[], by simp, AllBare.empty⟩, rfl, rfl, ht⟩
theorem Step.grow {g : Gr} (G : GrOk g) {s : Shared} {h' : Heap} {t : Nat} (k : ∀ b o, s.heap.get? b = some o → h'.get? b = some o) (ht : s.toks ≤ t := by first | exact Nat.le_refl _ | exact Nat.le_succ _ | assumption | omega) : Step g s { s with heap := h', toks := t } :=
  ⟨fun b o _ _ e => k b o e, fun b o _ e => ⟨o.slots, k b o e⟩, fun x => G.tabK _ _ (fun b o e _ => k b o e) x, ⟨#[], by simp, AllBare.empty⟩, rfl, rfl, ht⟩
theorem Step.push {g : Gr} (G : GrOk g) {s : Shared} {o : Obj} {t : Nat} (ht : s.toks ≤ t := by first | exact Nat.le_refl _ | exact Nat.le_succ _ | assumption | omega) : Step g s { s with heap := s.heap.push o, toks := t } :=
  Step.grow G (fun _ _ e => Heap.get?_push_of_some _ e) ht
theorem Step.push0 {g : Gr} (G : GrOk g) {s : Shared} {o : Obj} : Step g s { s with heap := s.heap.push o } :=
  Step.grow G (t := s.toks) fun _ _ e => Heap.get?_push_of_some _ e
theorem Step.grow0 {g : Gr} (G : GrOk g) {s : Shared} {h' : Heap} (k : ∀ b o, s.heap.get? b = some o → h'.get? b = some o) : Step g s { s with heap := h' } := Step.grow G (t := s.toks) k
/-- every object is still there, and keeps its class and its data -/
theorem Step.keepD {g : Gr} {s s' : Shared} (x : Step g s s') {b : Addr} {o : Obj} (n : b ∉ g.T) (e : s.heap.get? b = some o) : ∃ sl, s'.heap.get? b = some { o with slots := sl } := by
  by_cases f : b ∈ g.F
  · exact x.keepF b o f e
  · exact ⟨o.slots, x.keep b o n f e⟩

theorem At.mutF {g : Gr} {s : Shared} (a : At g s) {b : Addr} (h : b ∈ g.F) : FrNs s.heap b ∧ g.hB.get? b = none := by
  obtain ⟨e, he, hf⟩ := List.mem_filterMap.mp h
  obtain ⟨_, L, hL, hB, n⟩ := a.frs e he
  rw [hf] at hL; cases hL
  exact ⟨n, hB⟩
theorem At.notF {g : Gr} {s : Shared} (a : At g s) {b : Addr} {o : Obj} (e : s.heap.get? b = some o) (d : ∀ es ep, o.data ≠ .dict es ep) : b ∉ g.F := fun h => by
  obtain ⟨m, ⟨o', es, ep, e', d', _⟩, _⟩ := (a.mutF h).1
  rw [e] at e'; cases e'; exact d _ _ d'
theorem At.notFs {g : Gr} {s : Shared} (a : At g s) {b : Addr} {o : Obj} {vs : Array Value} {m : Nat} (e : s.heap.get? b = some o) (d : o.data = .seq vs m) : b ∉ g.F := a.notF e fun _ _ h => by rw [d] at h; cases h
theorem At.notFB {g : Gr} {s : Shared} (a : At g s) {b : Addr} {o : Obj} (e : g.hB.get? b = some o) : b ∉ g.F := fun h => by rw [(a.mutF h).2] at e; cases e
theorem At.notFn {g : Gr} {s : Shared} (a : At g s) {b : Addr} (e : s.heap.get? b = none) : b ∉ g.F := fun h => by
  obtain ⟨m, ⟨o', es, ep, e', d', _⟩, _⟩ := (a.mutF h).1
  rw [e] at e'; cases e'
theorem FrNs.data {h h' : Heap} {L : Addr} (f : FrNs h L) (k : ∀ o, h.get? L = some o → ∃ sl, h'.get? L = some { o with slots := sl }) : FrNs h' L := by
  obtain ⟨m, ⟨o, es, ep, e, d, r⟩, p⟩ := f
  obtain ⟨sl, e'⟩ := k o e
  exact ⟨m, ⟨_, es, ep, e', d, r⟩, p⟩
theorem At.step {g : Gr} {s s' : Shared} (a : At g s) (x : Step g s s') : At g s' := ⟨fun b o n e => x.keep b o n (a.notFB e) (a.keep b o n e), x.tab a.tab, fun b hb => ⟨(a.vol b hb).1, by
  obtain ⟨o, e⟩ := (a.vol b hb).2
  obtain ⟨sl, e'⟩ := x.keepD (a.vol b hb).1.1 e
  exact ⟨_, e'⟩⟩, Nat.le_trans a.pos x.tk, fun e he => by
  obtain ⟨k, L, hL, hB, n⟩ := a.frs e he
  exact ⟨k, L, hL, hB, n.data fun o eo => x.keepF L o (List.mem_filterMap.mpr ⟨e, he, hL⟩) eo⟩, fun e he => by
  obtain ⟨hV, o, vs, eo, d, v2⟩ := a.hdv e he
  exact ⟨hV, o, vs, x.keep e o (a.vol e hV).1.1 (a.notF eo fun _ _ h => by rw [d] at h; cases h) eo, d, v2⟩⟩

theorem no_range {c : Value} (h : c = .type "range") (q : c = .none) : False := by rw [h] at q; cases q
theorem Step.v {g : Gr} (G : GrOk g) {s s' : Shared} (a : At g s) (x : Step g s s') : KeepsV g.V s.heap s'.heap := fun b o e _ nf nm => x.keep b o (fun hb => by
  obtain ⟨o', vs, e', d, cl⟩ := G.tabF _ b hb a.tab
  rw [e] at e'; cases e'; exact no_range (nf vs d) cl) (fun hF => nm (.inr (a.mutF hF).1)) e
theorem At.vB {g : Gr} (G : GrOk g) {s : Shared} (a : At g s) (t0 : g.TabOk g.hB) : KeepsV g.V g.hB s.heap := fun b o e _ nf _ => a.keep b o (fun hb => by
  obtain ⟨o', vs, e', d, cl⟩ := G.tabF _ b hb t0
  rw [e] at e'; cases e'; exact no_range (nf vs d) cl) e

section
variable {g : Gr} (G : GrOk g) {s s' : Shared}
include G
theorem At.glob (a : At g s) : s.heap.Ns mainGlobals g.mg := by
  obtain ⟨o, es, ep, e, r⟩ := G.glob
  exact ⟨o, es, ep, a.keep _ _ G.gT e, r⟩
theorem At.blt (a : At g s) : s.heap.Ns builtinsNs g.mb := by
  obtain ⟨o, es, ep, e, r⟩ := G.blt
  exact ⟨o, es, ep, a.keep _ _ G.bT e, r⟩
theorem Rp.step (a : At g s) (x : Step g s s') {c : CV} {v : Value} (r : Rp g.V s.heap c v) : Rp g.V s'.heap c v := r.mono (x.v G a)
theorem Rps.step (a : At g s) (x : Step g s s') {c : List CV} {v : List Value} (r : Rps g.V s.heap c v) : Rps g.V s'.heap c v := r.mono (x.v G a)
omit G in
theorem At.out (a : At g s) : s.heap.objs.size ∉ g.V := fun h => by
  obtain ⟨o, e⟩ := (a.vol _ h).2
  exact Nat.lt_irrefl _ (Heap.lt_size e)
end

end Mine
end
section
open PySem PySem.W PySem.Calls PyProof.Rows
set_option maxRecDepth 100000
namespace Mine

def OkA (fr : List Env) (hd : Option Addr) (A : Around) (n : Nat) : Prop := A.depth + n ≤ 980 ∧ A.units + 40 * n ≤ 9800 ∧ A.handled = hd.map Value.ref ∧ A.frames = some fr
theorem OkA.le {fr : List Env} {hd : Option Addr} {A : Around} {n m : Nat} (h : OkA fr hd A n) (l : m ≤ n) : OkA fr hd A m := ⟨by have := h.1; omega, by have := h.2.1; omega, h.2.2⟩
theorem OkA.deep {fr : List Env} {hd : Option Addr} {A : Around} {n : Nat} (h : OkA fr hd A (n + 1)) (env : Env) : OkA (env :: fr) hd (A.deeper env) n := ⟨by have := h.1; show A.depth + 1 + n ≤ 980; omega, by have := h.2.1; show A.units + 3 + 40 * n ≤ 9800; omega, h.2.2.1, by show A.frames.map (env :: ·) = _; rw [h.2.2.2]; rfl⟩
theorem OkA.in1 {fr : List Env} {hd : Option Addr} {A : Around} {n : Nat} (h : OkA fr hd A (n + 1)) : OkA fr hd A.in1 n := ⟨by have := h.1; show A.depth + n ≤ 980; omega, by have := h.2.1; show A.units + 1 + 40 * n ≤ 9800; omega, h.2.2⟩
theorem OkA.mark {fr : List Env} {hd : Option Addr} {A : Around} {n : Nat} (h : OkA fr hd A n) : OkA fr hd (A.mark none) n := ⟨h.1, h.2.1, by show none.or A.handled = _; rw [h.2.2.1]; rfl, h.2.2.2⟩
theorem OkA.room {fr : List Env} {hd : Option Addr} {A : Around} {n : Nat} (h : OkA fr hd A n) : A.depth < recursionLimit := by have := h.1; show A.depth < 1000; omega
theorem OkA.units {fr : List Env} {hd : Option Addr} {A : Around} {n : Nat} (h : OkA fr hd A n) : A.units < cLine := by have := h.2.1; show A.units < 9900; omega
theorem OkA.hh {fr : List Env} {hd : Option Addr} {A : Around} {n : Nat} (h : OkA fr hd A n) (h0 : hd = none) : A.handled = none := by rw [h.2.2.1, h0]; rfl

structure FI where
  scope : Scope
  qual : Str
  func : Option Addr
  code : Value
  mine : Bool := true

abbrev Loc := List (Str × CV)

def Has (V : List Addr) (fi : FI) (env : Env) (h : Heap) (m : Str → Option Value) (p : Str × CV) : Prop :=
  ∃ v, Rp V h p.2 v ∧ ((fi.scope.names.lookup p.1 = some .local ∧ m p.1 = some v) ∨
    ((fi.scope.names.lookup p.1 = some .cell ∨ fi.scope.names.lookup p.1 = some .free) ∧ ∃ c, env.cells.lookup p.1 = some c ∧ h.IsCell c (some v)))

def Own (fi : FI) (env : Env) (a : Addr) : Prop := a = env.locals ∨ ∃ x, fi.mine = true ∧ fi.scope.names.lookup x = some .cell ∧ env.cells.lookup x = some a

structure Fm (g : Gr) (fi : FI) (env : Env) (s : Shared) (σ : Loc) : Prop where
  sc : env.scope = fi.scope
  fk : fi.scope.kind = .function
  gl : env.globals = mainGlobals
  bi : env.builtins = builtinsNs
  fn : env.func = fi.func
  cd : env.code = fi.code
  ql : env.qual = fi.qual
  own : ∀ a, Own fi env a → g.hB.get? a = none
  out : ∀ a, Own fi env a → a ∉ g.V
  inj : ∀ x y c, env.cells.lookup x = some c → env.cells.lookup y = some c → x = y
  ns : ∃ m, s.heap.Ns env.locals m ∧ m ("provided" : Str) = none ∧ ∀ p ∈ σ, Has g.V fi env s.heap m p
  cells : ∀ x, fi.mine = true → fi.scope.names.lookup x = some .cell → ∃ c v, env.cells.lookup x = some c ∧ s.heap.IsCell c v
  at_ : At g s
  top : fi.mine = true → (∃ outer, g.fr = env :: outer) ∧ env.frame = some env.locals

theorem isCell_keeps {g : Gr} (G : GrOk g) {s s' : Shared} (a : At g s) (x : Step g s s') {c : Addr} {v : Option Value} (i : s.heap.IsCell c v) : s'.heap.IsCell c v := by
  obtain ⟨o, e, d⟩ := i
  obtain ⟨sl, e1⟩ := x.keepD (fun hb => by
    obtain ⟨o', vs, e', d', cl⟩ := G.tabF _ _ hb a.tab
    rw [e] at e'; cases e'; rw [d] at d'; cases d') e
  exact ⟨_, e1, d⟩
theorem ns_keeps {g : Gr} (G : GrOk g) {s s' : Shared} (a : At g s) (x : Step g s s') {b : Addr} {m : Str → Option Value} (i : s.heap.Ns b m) : s'.heap.Ns b m := by
  obtain ⟨o, es, ep, e, d, r⟩ := i
  obtain ⟨sl, e1⟩ := x.keepD (fun hb => by
    obtain ⟨o', vs, e', d', cl⟩ := G.tabF _ _ hb a.tab
    rw [e] at e'; cases e'; rw [d] at d'; cases d') e
  exact ⟨_, es, ep, e1, d, r⟩

theorem Fm.step {g : Gr} (G : GrOk g) {fi : FI} {env : Env} {s s' : Shared} {σ : Loc} (F : Fm g fi env s σ) (x : Step g s s') : Fm g fi env s' σ := by
  obtain ⟨m, hn, hp, hs⟩ := F.ns
  refine { F with ns := ⟨m, ns_keeps G F.at_ x hn, hp, fun p hm => ?_⟩, cells := fun y hm hy => ?_, at_ := F.at_.step x }
  · obtain ⟨v, r, k⟩ := hs p hm
    exact ⟨v, Rp.step G F.at_ x r, k.imp id fun ⟨k1, c, k2, k3⟩ => ⟨k1, c, k2, isCell_keeps G F.at_ x k3⟩⟩
  · obtain ⟨c, v, e, i⟩ := F.cells y hm hy
    exact ⟨c, v, e, isCell_keeps G F.at_ x i⟩
theorem Fm.sub {g : Gr} {fi : FI} {env : Env} {s : Shared} {σ σ' : Loc} (F : Fm g fi env s σ) (h : ∀ p ∈ σ', p ∈ σ) : Fm g fi env s σ' := by
  obtain ⟨m, hn, hp, hs⟩ := F.ns
  exact { F with ns := ⟨m, hn, hp, fun p hm => hs p (h p hm)⟩ }

section
variable (prog : Program) (w : World) (g : Gr) (fi : FI) (n : Nat) (σ : Loc)

def EV (e : Expr) (c : CV) : Prop := ∀ A env s Q E, OkA g.fr g.hd A n → Fm g fi env s σ → (∀ v s', Step g s s' → Rp g.V s'.heap c v → Q v s') → wpAny (model prog w) A (eval e env) Q E s
def ET (e : Expr) (b : Bool) : Prop := ∀ A env s Q E, OkA g.fr g.hd A n → Fm g fi env s σ → (∀ s', Step g s s' → Q b s') → wpAny (model prog w) A (isTrue e env (eval e env)) Q E s
/-- a list of items, evaluated from the left -/
def EVs (es : List Expr) (cs : List CV) : Prop := ∀ A env s pos Q E, OkA g.fr g.hd A n → Fm g fi env s σ → (∀ vs s', Step g s s' → Rps g.V s'.heap cs vs → Q vs s') →
  wpAny (model prog w) A (spliced (backTo pos (starEach es env))) Q E s
end

section
variable {prog : Program} {w : World} {g : Gr} (G : GrOk g) {fi : FI} {n : Nat} {σ : Loc}

theorem EV.name {x : Str} {c : CV} {pos : Pos} (h : (x, c) ∈ σ) (hd : (x == ("__debug__" : Str)) = false := by decide) (hc : (x == ("__classdict__" : Str)) = false := by decide) : EV prog w g fi n σ (.Name x pos) c := by
  intro A env s Q E _ F q
  obtain ⟨m, hn, _, hs⟩ := F.ns
  obtain ⟨v, r, k⟩ := hs _ h
  have hk : env.scope.kind = .function := by rw [F.sc]; exact F.fk
  refine wpAny_Name ?_ hd
  rcases k with ⟨k, e⟩ | ⟨k, a, e, i⟩
  · exact wpAny_loadName_local hk (by rw [Env.kindOf, F.sc]; exact k) hn e (q _ _ .refl r)
  · rcases k with k | k
    · exact wpAny_loadName_cell hk (by rw [Env.kindOf, F.sc]; exact k) e i (q _ _ .refl r)
    · exact wpAny_loadName_free hk (by rw [Env.kindOf, F.sc]; exact k) e i (q _ _ .refl r) hc
include G
theorem EV.glob {x : Str} {v : Value} {pos : Pos} (h : fi.scope.names.lookup x = some .globalImplicit) (hv : g.mg x = some v) (hd : (x == ("__debug__" : Str)) = false := by decide) : EV prog w g fi n σ (.Name x pos) (.raw v) := by
  intro A env s Q E _ F q
  exact Name_function_global (by rw [F.sc]; exact F.fk) (by rw [Env.kindOf, F.sc]; exact h) (loadGlobal_global (by rw [F.gl]; exact F.at_.glob G) hv (q _ _ .refl rfl)) hd
theorem EV.blt {x : Str} {v : Value} {pos : Pos} (h : fi.scope.names.lookup x = some .globalImplicit) (hg : g.mg x = none) (hv : g.mb x = some v) (hd : (x == ("__debug__" : Str)) = false := by decide) : EV prog w g fi n σ (.Name x pos) (.raw v) := by
  intro A env s Q E _ F q
  exact Name_function_global (by rw [F.sc]; exact F.fk) (by rw [Env.kindOf, F.sc]; exact h) (loadGlobal_builtin (by rw [F.gl]; exact F.at_.glob G) hg (by rw [F.bi]; exact F.at_.blt G) hv (q _ _ .refl rfl)) hd
omit G
theorem EV.int {i : Int} {k : Nat} {pos : Pos} : EV prog w g fi n σ (.Constant (.int i) k pos) (.int i) := fun _ _ _ _ _ _ _ q => wpAny_Constant_int (q _ _ .tok ⟨_, rfl⟩)
theorem EV.str {x : Str} {k : Nat} {pos : Pos} : EV prog w g fi n σ (.Constant (.str x) k pos) (.str x) := fun _ _ _ _ _ _ _ q => wpAny_Constant_str (q _ _ .tok ⟨_, rfl⟩)
theorem EV.none {k : Nat} {pos : Pos} : EV prog w g fi n σ (.Constant .none k pos) .none := fun _ _ _ _ _ _ _ q => wpAny_Constant_none (q _ _ .refl rfl)
theorem EV.bool {b : Bool} {k : Nat} {pos : Pos} : EV prog w g fi n σ (.Constant (.bool b) k pos) (.bool b) := fun _ _ _ _ _ _ _ q => wpAny_Constant_bool (q _ _ .refl rfl)
theorem EVs.nil : EVs prog w g fi n σ [] [] := fun _ _ _ _ _ _ _ _ q => spliced_nil (q _ _ .refl rfl)
include G
theorem EVs.cons {e : Expr} {es : List Expr} {c : CV} {cs : List CV} (h : EV prog w g fi n σ e c) (t : EVs prog w g fi n σ es cs) (hs : ∀ env, starEach (e :: es) env = (false, eval e env) :: starEach es env := by intro env; rfl) : EVs prog w g fi n σ (e :: es) (c :: cs) := by
  intro A env s pos Q E a F q
  rw [hs]
  refine spliced_cons (h A env s _ E a F fun v s' x r => ?_)
  refine t A env s' pos _ E a (F.step G x) fun vs s'' y rs => ?_
  exact q _ _ (x.trans y) ⟨v, vs, rfl, Rp.step G (F.at_.step x) y r, rs⟩
theorem EV.tuple {es : List Expr} {cs : List CV} {k : Nat} {pos : Pos} (h : EVs prog w g fi n σ es cs) (hl : cs.length ≤ 10000) : EV prog w g fi n σ (.Tuple es k pos) (.tup cs) := by
  intro A env s Q E a F q
  refine wpAny_Tuple_spliced (h A env s pos _ E a F fun vs s' x r => ⟨?_, q _ _ (x.trans (Step.push0 G)) ?_⟩)
  · rw [r.length]; exact Nat.le_trans hl (by decide)
  · have r' := Rps.step G (F.at_.step x) (Step.push0 G (o := seqObj "tuple" vs.toArray 0)) r
    exact ⟨_, vs, 0, rfl, At.out (F.at_.step x), Heap.get?_push_size _ rfl, r'⟩
theorem EV.list {es : List Expr} {cs : List CV} {pos : Pos} (h : EVs prog w g fi n σ es cs) (hl : cs.length ≤ 10000) : EV prog w g fi n σ (.List es pos) (.lst cs) := by
  intro A env s Q E a F q
  refine wpAny_List_spliced (h A env s pos _ E a F fun vs s' x r => ⟨?_, q _ _ (x.trans (Step.push0 G)) ?_⟩)
  · rw [r.length]; exact Nat.le_trans hl (by decide)
  · have r' := Rps.step G (F.at_.step x) (Step.push0 G (o := seqObj "list" vs.toArray 0)) r
    exact ⟨_, vs, 0, rfl, At.out (F.at_.step x), Heap.get?_push_size _ rfl, r'⟩

/-- a two-place operation on clean values -/
def Bin (prog : Program) (w : World) (g : Gr) (n : Nat) (f : Value → Value → Sem Value) (a b c : CV) : Prop :=
  ∀ A s u v Q E, OkA g.fr g.hd A n → At g s → Rp g.V s.heap a u → Rp g.V s.heap b v → (∀ r s', Step g s s' → Rp g.V s'.heap c r → Q r s') → wpAny (model prog w) A (f u v) Q E s
def Un (prog : Program) (w : World) (g : Gr) (n : Nat) (f : Value → Sem Value) (a c : CV) : Prop :=
  ∀ A s u Q E, OkA g.fr g.hd A n → At g s → Rp g.V s.heap a u → (∀ r s', Step g s s' → Rp g.V s'.heap c r → Q r s') → wpAny (model prog w) A (f u) Q E s
def Tru (prog : Program) (w : World) (g : Gr) (n : Nat) (a : CV) (b : Bool) : Prop :=
  ∀ A s u Q E, OkA g.fr g.hd A n → At g s → Rp g.V s.heap a u → (∀ s', Step g s s' → Q b s') → wpAny (model prog w) A (truthy u) Q E s

theorem EV.bin {l r : Expr} {op : Operator} {pos : Pos} {a b c : CV} (hl : EV prog w g fi n σ l a) (hr : EV prog w g fi n σ r b) (o : Bin prog w g n (binaryOp op) a b c) : EV prog w g fi n σ (.BinOp l op r pos) c := by
  intro A env s Q E k F q
  refine wpAny_BinOp (hl A env s _ E k F fun u s₁ x ru => hr A env s₁ _ E k (F.step G x) fun v s₂ y rv => ?_)
  exact o A s₂ u v Q E k ((F.at_.step x).step y) (Rp.step G (F.at_.step x) y ru) rv fun r s₃ z rr => q _ _ ((x.trans y).trans z) rr
theorem EV.cmp {l r : Expr} {op : CmpOp} {pos : Pos} {a b c : CV} (hl : EV prog w g fi n σ l a) (hr : EV prog w g fi n σ r b) (o : Bin prog w g n (compareOp op) a b c) (hm : behindInMarks op r = false := by with_unfolding_all rfl) : EV prog w g fi n σ (.Compare l [op] [r] pos) c := by
  intro A env s Q E k F q
  refine wpAny_Compare1 (hl A env s _ E k F fun u s₁ x ru => hr A env s₁ _ E k (F.step G x) fun v s₂ y rv => ?_) hm
  exact o A s₂ u v Q E k ((F.at_.step x).step y) (Rp.step G (F.at_.step x) y ru) rv fun r s₃ z rr => q _ _ ((x.trans y).trans z) rr
theorem EV.un {e : Expr} {op : UnaryOp} {pos : Pos} {a c : CV} (h : EV prog w g fi n σ e a) (o : Un prog w g n (unaryOp op) a c) : EV prog w g fi n σ (.UnaryOp op e pos) c := by
  intro A env s Q E k F q
  refine wpAny_UnaryOp (h A env s _ E k F fun u s₁ x ru => o A s₁ u _ E k (F.at_.step x) ru fun r s₂ y rr => q _ _ (x.trans y) rr)
theorem ET.val {e : Expr} {a : CV} {b : Bool} (h : EV prog w g fi n σ e a) (t : Tru prog w g n a b) (he : ∀ env whole, isTrue e env whole = (do let v ← whole; standAt e.pos; holding [v] (truthy v)) := by intro env whole; rfl) : ET prog w g fi n σ e b := by
  intro A env s Q E k F q
  refine wpAny_isTrue_value (h A env s _ E k F fun u s₁ x ru => t A s₁ u _ E k (F.at_.step x) ru fun s₂ y => q _ (x.trans y)) (he _ _)
theorem ET.cmp {l r : Expr} {op : CmpOp} {pos : Pos} {a b : CV} {c : Bool} (hl : EV prog w g fi n σ l a) (hr : EV prog w g fi n σ r b) (o : Bin prog w g n (compareOp op) a b (.bool c)) (hm : behindInMarks op r = false := by with_unfolding_all rfl) : ET prog w g fi n σ (.Compare l [op] [r] pos) c := by
  intro A env s Q E k F q
  refine wpAny_isTrue_Compare1 (hl A env s _ E k F fun u s₁ x ru => hr A env s₁ _ E k (F.step G x) fun v s₂ y rv => ?_) hm
  exact o A s₂ u v _ E k ((F.at_.step x).step y) (Rp.step G (F.at_.step x) y ru) rv fun r s₃ z rr => by cases rr; exact wpAny_truthy_bool (q _ ((x.trans y).trans z))
theorem ET.not {e : Expr} {pos : Pos} {b : Bool} (h : ET prog w g fi n σ e b) : ET prog w g fi n σ (.UnaryOp .Not e pos) (!b) := by
  intro A env s Q E k F q
  exact wpAny_isTrue_Not (h A env s _ E k F fun s' x => q _ x)
theorem EV.ite {t b o : Expr} {pos : Pos} {z : Bool} {c : CV} (h : ET prog w g fi n σ t z) (h1 : z = true → EV prog w g fi n σ b c) (h2 : z = false → EV prog w g fi n σ o c) : EV prog w g fi n σ (.IfExp t b o pos) c := by
  intro A env s Q E k F q
  refine wpAny_IfExp (h A env s _ E k F fun s' x => ?_)
  cases z with
  | true => exact h1 rfl A env s' Q E k (F.step G x) fun v s'' y r => q _ _ (x.trans y) r
  | false => exact h2 rfl A env s' Q E k (F.step G x) fun v s'' y r => q _ _ (x.trans y) r

/-- and | or as tests -/
def EA (prog : Program) (w : World) (g : Gr) (fi : FI) (n : Nat) (σ : Loc) (op : BoolOp) (es : List Expr) (b : Bool) : Prop :=
  ∀ A env s Q E, OkA g.fr g.hd A n → Fm g fi env s σ → (∀ s', Step g s s' → Q b s') → wpAny (model prog w) A (allTrue op es env) Q E s
theorem EA.and_nil : EA prog w g fi n σ .And [] true := fun _ _ _ _ _ _ _ q => wpAny_allTrue_And_nil (q _ .refl)
theorem EA.or_nil : EA prog w g fi n σ .Or [] false := fun _ _ _ _ _ _ _ q => wpAny_allTrue_Or_nil (q _ .refl)
theorem EA.and_cons {e : Expr} {es : List Expr} {b c : Bool} (h : ET prog w g fi n σ e b) (t : b = true → EA prog w g fi n σ .And es c) : EA prog w g fi n σ .And (e :: es) (b && c) := by
  intro A env s Q E k F q
  refine wpAny_allTrue_And_cons (h A env s _ E k F fun s' x => ?_)
  cases b with
  | true => exact t rfl A env s' Q E k (F.step G x) fun s'' y => q _ (x.trans y)
  | false => exact q _ x
theorem EA.or_cons {e : Expr} {es : List Expr} {b c : Bool} (h : ET prog w g fi n σ e b) (t : b = false → EA prog w g fi n σ .Or es c) : EA prog w g fi n σ .Or (e :: es) (b || c) := by
  intro A env s Q E k F q
  refine wpAny_allTrue_Or_cons (h A env s _ E k F fun s' x => ?_)
  cases b with
  | false => exact t rfl A env s' Q E k (F.step G x) fun s'' y => q _ (x.trans y)
  | true => exact q _ x
theorem ET.op {op : BoolOp} {es : List Expr} {pos : Pos} {b : Bool} (h : EA prog w g fi n σ op es b) : ET prog w g fi n σ (.BoolOp op es pos) b :=
  fun A env s Q E k F q => wpAny_isTrue_BoolOp (h A env s Q E k F q)

/-- and | or as values: of bools -/
theorem EV.and2 {x y : Expr} {pos : Pos} {b c : Bool} (h : EV prog w g fi n σ x (.bool b)) (t : b = true → EV prog w g fi n σ y (.bool c)) : EV prog w g fi n σ (.BoolOp .And [x, y] pos) (.bool (b && c)) := by
  intro A env s Q E k F q
  refine wpAny_And2 (h A env s _ E k F fun v s' z r => ?_)
  cases r
  refine wpAny_truthy_bool ?_
  cases b with
  | true => exact t rfl A env s' Q E k (F.step G z) fun v s'' y r => q _ _ (z.trans y) r
  | false => exact q _ _ z rfl
theorem EV.or2 {x y : Expr} {pos : Pos} {b c : Bool} (h : EV prog w g fi n σ x (.bool b)) (t : b = false → EV prog w g fi n σ y (.bool c)) : EV prog w g fi n σ (.BoolOp .Or [x, y] pos) (.bool (b || c)) := by
  intro A env s Q E k F q
  refine wpAny_Or2 (h A env s _ E k F fun v s' z r => ?_)
  cases r
  refine wpAny_truthy_bool ?_
  cases b with
  | false => exact t rfl A env s' Q E k (F.step G z) fun v s'' y r => q _ _ (z.trans y) r
  | true => exact q _ _ z rfl
omit G
theorem Tru.bool {b : Bool} : Tru prog w g n (.bool b) b := fun _ _ _ _ _ _ _ r q => by cases r; exact wpAny_truthy_bool (q _ .refl)
theorem Tru.none : Tru prog w g n .none false := fun _ _ _ _ _ _ _ r q => by cases r; exact wpAny_pure (q _ .refl)
end
end Mine
end
section
open PySem PySem.W PySem.Calls PyProof.Rows
set_option maxRecDepth 100000
namespace Mine

/-- a step that may change what X names -/
structure WStep (g : Gr) (X : Addr → Prop) (s s' : Shared) : Prop where
  keep : ∀ b o, b ∉ g.T → b ∉ g.F → ¬ X b → s.heap.get? b = some o → s'.heap.get? b = some o
  keepF : ∀ b o, b ∈ g.F → ¬ X b → s.heap.get? b = some o → ∃ sl, s'.heap.get? b = some { o with slots := sl }
  frs : ∀ L, L ∈ g.F → FrNs s.heap L → FrNs s'.heap L
  tab : g.TabOk s.heap → g.TabOk s'.heap
  gens : ∃ l, s'.gens = s.gens ++ l ∧ AllBare l
  drawn : s'.drawn = s.drawn
  os : s'.os = s.os
  tk : s.toks ≤ s'.toks

theorem Step.w {g : Gr} {X : Addr → Prop} {s s' : Shared} (x : Step g s s') : WStep g X s s' := ⟨fun b o n f _ e => x.keep b o n f e, fun b o f _ e => x.keepF b o f e, fun _ hL f => f.data fun o e => x.keepF _ o hL e, x.tab, x.gens, x.drawn, x.os, x.tk⟩
theorem WStep.mono {g : Gr} {X Y : Addr → Prop} {s s' : Shared} (x : WStep g X s s') (h : ∀ a, X a → Y a) : WStep g Y s s' := ⟨fun b o n f y e => x.keep b o n f (fun q => y (h _ q)) e, fun b o f y e => x.keepF b o f (fun q => y (h _ q)) e, x.frs, x.tab, x.gens, x.drawn, x.os, x.tk⟩
theorem WStep.keepD {g : Gr} {X : Addr → Prop} {s s' : Shared} (x : WStep g X s s') {b : Addr} {o : Obj} (n : b ∉ g.T) (nx : ¬ X b) (e : s.heap.get? b = some o) : ∃ sl, s'.heap.get? b = some { o with slots := sl } := by
  by_cases f : b ∈ g.F
  · exact x.keepF b o f nx e
  · exact ⟨o.slots, x.keep b o n f nx e⟩
/-- a step, told from an earlier state -/
theorem WStep.back {g : Gr} {X Y : Addr → Prop} {a b c : Shared} (x : WStep g X a b) (y : WStep g Y b c) (h : ∀ q o, a.heap.get? q = some o → Y q → X q) : WStep g X a c := by
  obtain ⟨l, e, hl⟩ := x.gens
  obtain ⟨l', e', hl'⟩ := y.gens
  refine ⟨fun q o n f z e => y.keep q o n f (fun hy => z (h q o e hy)) (x.keep q o n f z e), fun q o f z e => ?_, fun L hL f => y.frs L hL (x.frs L hL f), fun h => y.tab (x.tab h), ⟨l ++ l', by rw [e', e, Array.append_assoc], fun q hq => ?_⟩, y.drawn.trans x.drawn, y.os.trans x.os, Nat.le_trans x.tk y.tk⟩
  · obtain ⟨sl, e1⟩ := x.keepF q o f z e
    obtain ⟨sl', e2⟩ := y.keepF q _ f (fun hy => z (h q o e hy)) e1
    exact ⟨sl', e2⟩
  rcases Array.mem_append.mp hq with q' | q'
  · exact hl _ q'
  · exact hl' _ q'
theorem WStep.trans {g : Gr} {X : Addr → Prop} {a b c : Shared} (x : WStep g X a b) (y : WStep g X b c) : WStep g X a c := x.back y fun _ _ _ h => h
theorem WStep.refl {g : Gr} {X : Addr → Prop} {s : Shared} : WStep g X s s := Step.refl.w
/-- what is changed stood not before -/
theorem WStep.step {g : Gr} {X : Addr → Prop} {s s' : Shared} (x : WStep g X s s') (h : ∀ a o, s.heap.get? a = some o → ¬ X a) : Step g s s' := ⟨fun b o n f e => x.keep b o n f (h b o e) e, fun b o f e => x.keepF b o f (h b o e) e, x.tab, x.gens, x.drawn, x.os, x.tk⟩

/-- the ground holds tables where it says -/
structure Gr2 (g : Gr) : Prop extends GrOk g where
  tB : ∀ a ∈ g.T, ∃ o, g.hB.get? a = some o
  tab0 : g.TabOk g.hB

section
variable {g : Gr} (G : Gr2 g) {fi : FI} {env : Env} {s s' : Shared} {σ : Loc}
include G

/-- a change of iterators and the like: of fields alone -/
theorem WStep.v' {X : Addr → Prop} (t : g.TabOk s.heap) (mutF : ∀ b, b ∈ g.F → FrNs s.heap b) (x : WStep g X s s') (hX : ∀ a o, X a → s.heap.get? a = some o → ((∃ vs, o.data = .fields vs) ∧ o.cls ≠ .type "range") ∨ Mut s.heap a ∨ a ∈ g.V) : KeepsV g.V s.heap s'.heap := fun b o e nv nf nm => x.keep b o (fun hb => by
  obtain ⟨o', vs, e', d, cl⟩ := G.tabF _ b hb t
  rw [e] at e'; cases e'; exact no_range (nf vs d) cl) (fun hF => nm (.inr (mutF _ hF))) (fun hb => by
  rcases hX b o hb e with ⟨⟨vs, d⟩, nr⟩ | m
  · exact nr (nf vs d)
  · rcases m with m | m
    · exact nm m
    · exact nv m) e
theorem WStep.v {X : Addr → Prop} (a : At g s) (x : WStep g X s s') (hX : ∀ a o, X a → s.heap.get? a = some o → ((∃ vs, o.data = .fields vs) ∧ o.cls ≠ .type "range") ∨ Mut s.heap a ∨ a ∈ g.V) : KeepsV g.V s.heap s'.heap := WStep.v' G a.tab (fun b h => (a.mutF h).1) x hX
theorem notT_new {b : Addr} (hB : g.hB.get? b = none) : b ∉ g.T := fun hT => by
  obtain ⟨o, e⟩ := G.tB b hT
  rw [hB] at e; cases e
theorem Step.none {b : Addr} (x : Step g s s') (hB : g.hB.get? b = none) (e : s'.heap.get? b = Option.none) : s.heap.get? b = Option.none := by
  cases e1 : s.heap.get? b with
  | none => rfl
  | some o =>
    obtain ⟨sl, e2⟩ := x.keepD (notT_new G hB) e1
    rw [e] at e2; cases e2
theorem At.w {X : Addr → Prop} (a : At g s) (x : WStep g X s s') (hX : ∀ b, X b → g.hB.get? b = none) (hV : ∀ b, X b → b ∉ g.V) : At g s' := ⟨fun b o n e => x.keep b o n (a.notFB e) (fun q => by rw [hX b q] at e; cases e) (a.keep b o n e), x.tab a.tab, fun b hb => ⟨(a.vol b hb).1, by
  obtain ⟨o, e⟩ := (a.vol b hb).2
  obtain ⟨sl, e'⟩ := x.keepD (a.vol b hb).1.1 (fun q => hV b q hb) e
  exact ⟨_, e'⟩⟩, Nat.le_trans a.pos x.tk, fun e he => by
  obtain ⟨k, L, hL, hB, n⟩ := a.frs e he
  exact ⟨k, L, hL, hB, x.frs L (List.mem_filterMap.mpr ⟨e, he, hL⟩) n⟩, fun e he => by
  obtain ⟨hv, o, vs, eo, d, v2⟩ := a.hdv e he
  exact ⟨hv, o, vs, x.keep e o (a.vol e hv).1.1 (a.notF eo fun _ _ h => by rw [d] at h; cases h) (fun q => hV e q hv) eo, d, v2⟩⟩

theorem Fm.fields {X : Addr → Prop} (F : Fm g fi env s σ) (x : WStep g X s s') (hX : ∀ b, X b → g.hB.get? b = none) (hV : ∀ b, X b → b ∉ g.V) (hf : ∀ a o, X a → s.heap.get? a = some o → (∃ vs, o.data = .fields vs) ∧ o.cls ≠ .type "range") : Fm g fi env s' σ := by
  obtain ⟨m, hn, hp, hs⟩ := F.ns
  have kv := WStep.v G F.at_ x fun a o q e => .inl (hf a o q e)
  have ki : ∀ {c v}, s.heap.IsCell c v → s'.heap.IsCell c v := fun {c v} ⟨o, e, d⟩ => by
    obtain ⟨sl, e1⟩ := x.keepD (fun hb => by
      obtain ⟨o', vs, e', d', cl⟩ := G.tabF _ _ hb F.at_.tab
      rw [e] at e'; cases e'; rw [d] at d'; cases d') (fun q => by obtain ⟨⟨vs, d'⟩, _⟩ := hf _ _ q e; rw [d] at d'; cases d') e
    exact ⟨_, e1, d⟩
  refine { F with ns := ⟨m, ?_, hp, fun p hm => ?_⟩, cells := fun y hm hy => ?_, at_ := At.w G F.at_ x hX hV }
  · obtain ⟨o, es, ep, e, d, r⟩ := hn
    obtain ⟨sl, e1⟩ := x.keepD (fun hb => by
      obtain ⟨o', vs, e', d', cl⟩ := G.tabF _ _ hb F.at_.tab
      rw [e] at e'; cases e'; rw [d] at d'; cases d') (fun q => by obtain ⟨⟨vs, d'⟩, _⟩ := hf _ _ q e; rw [d] at d'; cases d') e
    exact ⟨_, es, ep, e1, d, r⟩
  · obtain ⟨v, r, k⟩ := hs p hm
    exact ⟨v, r.mono kv, k.imp id fun ⟨k1, c, k2, k3⟩ => ⟨k1, c, k2, ki k3⟩⟩
  · obtain ⟨c, v, e, i⟩ := F.cells y hm hy
    exact ⟨c, v, e, ki i⟩
end

/-- a name's old facts go -/
inductive Del (x : Str) : Loc → Loc → Prop
  | nil : Del x [] []
  | hit {c : CV} {σ σ' : Loc} (h : Del x σ σ') : Del x ((x, c) :: σ) σ'
  | skip {p : Str × CV} {σ σ' : Loc} (h : Del x σ σ') : Del x (p :: σ) σ'
  | keep {y : Str} {c : CV} {σ σ' : Loc} (n : y ≠ x) (h : Del x σ σ') : Del x ((y, c) :: σ) ((y, c) :: σ')
theorem Del.mem {x : Str} {σ σ' : Loc} (d : Del x σ σ') : ∀ p ∈ σ', p ∈ σ ∧ p.1 ≠ x := by
  induction d with
  | nil => intro p h; cases h
  | hit h ih => intro p hp; exact ⟨.tail _ (ih p hp).1, (ih p hp).2⟩
  | skip h ih => intro p hp; exact ⟨.tail _ (ih p hp).1, (ih p hp).2⟩
  | keep n h ih =>
    intro p hp
    cases hp with
    | head => exact ⟨.head _, n⟩
    | tail _ hp => exact ⟨.tail _ (ih p hp).1, (ih p hp).2⟩

section
variable {g : Gr} (G : Gr2 g) {fi : FI} {env : Env} {s s' : Shared} {σ σ' : Loc} {M : Model} {A : Around}
include G

/-- a store into a local name or a cell of the frame's own -/
theorem store_ok {x : Str} {c : CV} {v : Value} {Q : Unit → Shared → Prop} {E : Value → Shared → Prop} (F : Fm g fi env s σ) (r : Rp g.V s.heap c v) (d : Del x σ σ')
    (hx : fi.scope.names.lookup x = some .local ∨ (fi.mine = true ∧ fi.scope.names.lookup x = some .cell)) (np : x ≠ ("provided" : Str))
    (q : ∀ s', WStep g (Own fi env) s s' → Fm g fi env s' ((x, c) :: σ') → Q () s') : wpAny M A (storeName env x v) Q E s := by
  obtain ⟨m, hn, hp, hs⟩ := F.ns
  have hk : env.scope.kind = .function := by rw [F.sc]; exact F.fk
  have notT : ∀ a, Own fi env a → a ∉ g.T := fun a ha hT => by
    obtain ⟨o, e⟩ := G.tB a hT
    rw [F.own a ha] at e; cases e
  -- a step that changes one address of the frame's own
  have mk : ∀ {a : Addr} {h' : Heap} {t : Nat}, s.toks ≤ t → Own fi env a → Heap.SameBut a s.heap h' → (FrNs s.heap a → FrNs h' a) → WStep g (Own fi env) s { s with heap := h', toks := t } := fun {a h' t} htk ha hs hfr => by
    refine ⟨fun b o _ _ nb e => ?_, fun b o _ nb e => ⟨o.slots, (hs.2 b fun q => nb (q ▸ ha)).trans e⟩, fun L _ f => ?_, fun ht => G.tabK _ _ (fun b o e hk => have hf := hk.fields; ?_) ht, ⟨#[], by simp, AllBare.empty⟩, rfl, rfl, htk⟩
    · exact (hs.2 b fun q => nb (q ▸ ha)).trans e
    · by_cases q : L = a
      · subst q; exact hfr f
      · exact f.data fun o e => ⟨o.slots, (hs.2 L q).trans e⟩
    · refine (hs.2 b fun q => ?_).trans e
      subst q
      obtain ⟨vs, hf⟩ := hf
      rcases ha with rfl | ⟨y, hm, hy, hl⟩
      · obtain ⟨o', es, ep, e', d', _⟩ := hn
        rw [e] at e'; cases e'; rw [hf] at d'; cases d'
      · obtain ⟨c', v', e', o', i, d'⟩ := F.cells y hm hy
        rw [hl] at e'; cases e'
        rw [e] at i; cases i; rw [hf] at d'; cases d'
  have kv : ∀ {a : Addr} {h' : Heap}, Own fi env a → Mut s.heap a → Heap.SameBut a s.heap h' → KeepsV g.V s.heap h' := fun {a h'} ha hm hs b o e _ _ nm => (hs.2 b fun q => nm (q ▸ hm)).trans e
  rcases hx with hx | ⟨hmine, hx⟩
  · refine wpAny_storeName_local (by rw [Env.kindOf, F.sc]; exact hx) hn (fun h' hn' hsb => ?_) (by rw [F.sc, F.fk]; rfl)
    have kk := kv (h' := h') (.inl rfl) (.inr ⟨m, hn, hp⟩) hsb
    have ww := mk (t := s.toks + 1) (Nat.le_succ _) (.inl rfl) hsb (fun _ => ⟨_, hn', by rw [if_neg (fun e => np e.symm)]; exact hp⟩)
    have ncell : ∀ {a v}, s.heap.IsCell a v → a ≠ env.locals := fun {a v} ⟨o, e, d⟩ q => by
      obtain ⟨o', es, ep, e', d', _⟩ := hn
      rw [q, e'] at e; cases e; rw [d'] at d; cases d
    refine q _ ww { F with ns := ⟨_, hn', ?_, fun p hm => ?_⟩, cells := fun y hm hy => ?_, at_ := At.w G F.at_ ww F.own F.out }
    · rw [if_neg (fun e => np e.symm)]; exact hp
    · cases hm with
      | head => exact ⟨v, r.mono kk, .inl ⟨hx, if_pos rfl⟩⟩
      | tail _ hm =>
        obtain ⟨hm, ne⟩ := d.mem p hm
        obtain ⟨u, ru, k⟩ := hs p hm
        refine ⟨u, ru.mono kk, k.imp (fun k => ⟨k.1, (if_neg ne).trans k.2⟩) fun ⟨k1, a, k2, o, e, dd⟩ => ⟨k1, a, k2, o, (hsb.2 a (ncell ⟨o, e, dd⟩)).trans e, dd⟩⟩
    · obtain ⟨a, v', e, o, e', dd⟩ := F.cells y hm hy
      exact ⟨a, v', e, o, (hsb.2 a (ncell ⟨o, e', dd⟩)).trans e', dd⟩
  · obtain ⟨a, v₀, hl, i⟩ := F.cells x hmine hx
    refine wpAny_storeName_cell hk (by rw [Env.kindOf, F.sc]; exact hx) hl i (fun h' hi hsb => ?_)
    have ha : Own fi env a := .inr ⟨x, hmine, hx, hl⟩
    have kk := kv (h' := h') ha (.inl ⟨_, i⟩) hsb
    have ww := mk (t := s.toks) (Nat.le_refl _) ha hsb (fun f => by
      obtain ⟨m', ⟨o', es, ep, e', d', _⟩, _⟩ := f
      obtain ⟨o, e, d⟩ := i
      rw [e'] at e; cases e; rw [d'] at d; cases d)
    have nl : env.locals ≠ a := fun q => by
      obtain ⟨o', es, ep, e', d', _⟩ := hn
      obtain ⟨o, e, d⟩ := i
      rw [← q, e'] at e; cases e; rw [d'] at d; cases d
    refine q _ ww { F with ns := ⟨m, hn.sameBut hsb nl, hp, fun p hm => ?_⟩, cells := fun y hm hy => ?_, at_ := At.w G F.at_ ww F.own F.out }
    · cases hm with
      | head => exact ⟨v, r.mono kk, .inr ⟨.inl hx, a, hl, hi⟩⟩
      | tail _ hm =>
        obtain ⟨hm, ne⟩ := d.mem p hm
        obtain ⟨u, ru, k⟩ := hs p hm
        refine ⟨u, ru.mono kk, k.imp id fun ⟨k1, b, k2, o, e, dd⟩ => ⟨k1, b, k2, o, (hsb.2 b fun q => ?_).trans e, dd⟩⟩
        exact ne (F.inj _ _ _ (q ▸ k2) hl)
    · by_cases hyx : y = x
      · subst hyx
        exact ⟨a, _, hl, hi⟩
      · obtain ⟨b, v', e, o, e', dd⟩ := F.cells y hm hy
        exact ⟨b, v', e, o, (hsb.2 b fun q => hyx (F.inj _ _ _ (q ▸ e) hl)).trans e', dd⟩
end
end Mine
end
section
open PySem PySem.W PySem.Calls PyProof.Rows Builtin Builtin.Str Builtin.Int
set_option maxRecDepth 100000
namespace Mine

/-- an exception under way, made after h₀; fl: what its traceback says of the frame it is in -/
def ExcR (h₀ h : Heap) (e : Addr) (T : String) (fl : Option Value) : Prop := h₀.get? e = none ∧ T ≠ "code" ∧ ∃ oe vs, h.get? e = some oe ∧ oe.cls = .type T ∧ oe.data = .fields vs ∧ vs[2]? = some .none ∧ (match fl with
  | none => vs[1]? = some .none
  | some v => ∃ Tb oT ts, vs[1]? = some (.ref Tb) ∧ Tb ≠ e ∧ h₀.get? Tb = none ∧ h.get? Tb = some oT ∧ (oT.cls = .type "traceback" ∧ ∀ q t, ts[1]? ≠ some (.str q t)) ∧ oT.data = .fields ts ∧ ts[3]? = some v)
/-- where the exception says it is: nowhere, left a call, or here -/
def Fl (env : Env) (fl : Option Value) : Prop := fl = none ∨ fl = some .none ∨ ∃ L, env.frame = some L ∧ fl = some (rawInt L)
/-- what came after h₀ -/
abbrev After (h₀ : Heap) (b : Addr) : Prop := h₀.get? b = none

theorem after_hB {g : Gr} (G : Gr2 g) {s₀ : Shared} (a : At g s₀) {b : Addr} (h : After s₀.heap b) : g.hB.get? b = none := by
  cases e : g.hB.get? b with
  | none => rfl
  | some o =>
    exfalso
    by_cases hT : b ∈ g.T
    · obtain ⟨o', vs, e', _⟩ := G.tabF _ b hT a.tab
      have h' : s₀.heap.get? b = none := h
      rw [h'] at e'; cases e'
    · have h' : s₀.heap.get? b = none := h
      rw [a.keep b o hT e] at h'; cases h'
theorem after_V {g : Gr} {s₀ : Shared} (a : At g s₀) {b : Addr} (h : After s₀.heap b) : b ∉ g.V := fun hV => by
  obtain ⟨o, e⟩ := (a.vol b hV).2
  have h' : s₀.heap.get? b = none := h
  rw [h'] at e; cases e
/-- what lived lives -/
def Lives (h h' : Heap) : Prop := ∀ b o, h.get? b = some o → ∃ o', h'.get? b = some o'
theorem Lives.trans {a b c : Heap} (x : Lives a b) (y : Lives b c) : Lives a c := fun q o e => by obtain ⟨o', e'⟩ := x q o e; exact y q o' e'
theorem ExcR.back {h₀ h₁ h : Heap} {e : Addr} {T : String} {fl : Option Value} (l : Lives h₀ h₁) (x : ExcR h₁ h e T fl) : ExcR h₀ h e T fl := by
  have up : ∀ {b}, h₁.get? b = none → h₀.get? b = none := fun {b} h => by
    cases e : h₀.get? b with
    | none => rfl
    | some o =>
      obtain ⟨o', e'⟩ := l b o e
      rw [h] at e'; cases e'
  obtain ⟨h0, hT, oe, vs, he, hc, hd, h2, hm⟩ := x
  refine ⟨up h0, hT, oe, vs, he, hc, hd, h2, ?_⟩
  cases fl with
  | none => exact hm
  | some v =>
    obtain ⟨Tb, oT, ts, h1, hTe, hT0, r⟩ := hm
    exact ⟨Tb, oT, ts, h1, hTe, up hT0, r⟩
theorem funFrames {g : Gr} {s : Shared} : ∀ {l : List Env}, (∀ e ∈ l, e.scope.kind ≠ .module ∧ ∃ L, e.frame = some L ∧ g.hB.get? L = none ∧ FrNs s.heap L) → s.heap.FunFrames {} l
  | [], _ => trivial
  | e :: l, h => by
    obtain ⟨k, L, hL, _, m, ⟨o, es, ep, eo, d, _⟩, _⟩ := h e (.head _)
    exact ⟨k, ⟨L, o, hL, rfl, eo, fun vs q => by rw [d] at q; cases q⟩, funFrames fun e he => h e (.tail _ he)⟩

section
variable {prog : Program} {w : World} {g : Gr} (G : Gr2 g)
include G
theorem WStep.lives {X : Addr → Prop} {s s' : Shared} (a : At g s) (x : WStep g X s s') (hX : ∀ b, X b → ∃ o, s'.heap.get? b = some o) : Lives s.heap s'.heap := fun b o e => by
  by_cases hT : b ∈ g.T
  · obtain ⟨o', vs, e', _⟩ := G.tabF _ b hT (x.tab a.tab)
    exact ⟨o', e'⟩
  · by_cases h : X b
    · exact hX b h
    · obtain ⟨sl, e'⟩ := x.keepD hT h e
      exact ⟨_, e'⟩
theorem Step.lives {s s' : Shared} (a : At g s) (x : Step g s s') : Lives s.heap s'.heap := WStep.lives G a (x.w (X := fun _ => False)) fun _ h => h.elim
theorem after_at {s₀ s s' : Shared} (a₀ : At g s₀) (a : At g s) (x : WStep g (After s₀.heap) s s') : At g s' := At.w G a x (fun _ h => after_hB G a₀ h) (fun _ h => after_V a₀ h)
/-- changes to things that came later, and the frames' notes -/
theorem late_step {s₀ s : Shared} {h' : Heap} (a : At g s) (k : ∀ b o, b ∉ g.F → ¬ After s₀.heap b → s.heap.get? b = some o → h'.get? b = some o) (kF : ∀ b o, b ∈ g.F → s.heap.get? b = some o → ∃ sl, h'.get? b = some { o with slots := sl })
    (kc : ∀ b o, s.heap.get? b = some o → Held o → h'.get? b = some o) : WStep g (After s₀.heap) s { s with heap := h' } :=
  ⟨fun b o _ nF na e => k b o nF na e, fun b o hF _ e => kF b o hF e, fun L hL f => f.data fun o e => kF L o hL e, fun ht => G.tabK _ _ kc ht, ⟨#[], by simp, AllBare.empty⟩, rfl, rfl, Nat.le_refl _⟩

theorem note_ok {A : Around} {env : Env} {outer : List Env} {L e : Addr} {T : String} {fl : Option Value} {s₀ s : Shared} {Q : Unit → Shared → Prop} {E : Value → Shared → Prop} (hA : A.frames = some g.fr) (hg : g.fr = env :: outer) (hL : env.frame = some L) (a₀ : At g s₀) (at_ : At g s) (live : Lives s₀.heap s.heap) (x : ExcR s₀.heap s.heap e T fl) (hfl : Fl env fl)
    (q : ∀ s', WStep g (After s₀.heap) s s' → Lives s.heap s'.heap → ExcR s₀.heap s'.heap e T (some (rawInt L)) → Q () s') : wpAny (model prog w) A (noteFrame (.ref e) env) Q E s := by
  obtain ⟨h0, hT, oe, vs, he, hc, hd, h2, hm⟩ := x
  have h1sz : ∀ {v}, vs[1]? = some v → 1 < vs.size := fun h => (Array.getElem?_eq_some_iff.mp h).1
  -- a new entry, put before what there is
  have entry : ∀ (s1 : Shared) (oe1 : Obj) (vs1 : Array Value) (head : Value) (b : Bool), At g s1 → s1.heap.get? e = some oe1 → oe1.cls = .type T → oe1.data = .fields vs1 → vs1[2]? = some .none → (∀ q t, vs1[1]? ≠ some (.str q t)) → 1 < vs1.size → Lives s₀.heap s1.heap →
      (∀ s', WStep g (After s₀.heap) s1 s' → Lives s1.heap s'.heap → ExcR s₀.heap s'.heap e T (some (rawInt L)) → Q () s') →
      wpAny (model prog w) A (do setField (.ref e) 1 (← EntryCells.newEntry head (← frameOf env) .none (rawInt L) .none (← entryPlaceOf L b))) Q E s1 := by
    intro s1 oe1 vs1 head b a1 e1 c1 d1 v2 n1 sz live q
    have ff := funFrames (g := g) (s := s1) a1.frs
    rw [hg] at ff
    have eF : e ∉ g.F := a1.notF e1 fun _ _ h => by rw [d1] at h; cases h
    refine wpAny_bind (wpAny_frameOf_fun (by rw [hA, hg]) ff hL fun h₁ hs₁ => ?_)
    refine wpAny_bind (wpAny_entryPlaceOf fun pl hpl => ?_)
    unfold EntryCells.newEntry newFields
    refine wpAny_bind (wpAny_newObj_type ?_ (hpl.sizeOk5 _ _ _ _ _))
    have hF : (env :: outer).filterMap (·.frame) = g.F := by rw [← hg]
    rw [hF] at hs₁
    have he₁ : h₁.get? e = some oe1 := (hs₁.2.1 e eF).trans e1
    have he₂ := Heap.get?_push_of_some (h := h₁) { cls := .type "traceback", dict := none, data := .fields ([head, .ref L, .none, rawInt L, .none] ++ (if pl.isEmpty then List.replicate 6 Value.none else pl)).toArray } he₁
    refine wpAny_setField he₂ d1 sz ?_
    have hTe : h₁.objs.size ≠ e := Nat.ne_of_gt (Heap.lt_size he₁)
    have hd₃ := Obj.data_mapFields d1 (·.setIfInBounds 1 (Value.ref h₁.objs.size))
    have he₃ := Heap.get?_update_self (Obj.mapFields (·.setIfInBounds 1 (Value.ref h₁.objs.size))) he₂ (Obj.isFreed_of_fields hd₃)
    have hT₃ := (Heap.get?_update_other (h₁.push { cls := .type "traceback", dict := none, data := .fields ([head, .ref L, .none, rawInt L, .none] ++ (if pl.isEmpty then List.replicate 6 Value.none else pl)).toArray })
      (Obj.mapFields (·.setIfInBounds 1 (Value.ref h₁.objs.size))) (Ne.symm hTe)).trans (Heap.get?_push_size h₁ rfl)
    have keep : ∀ b o, b ≠ e → h₁.get? b = some o → ((h₁.push { cls := .type "traceback", dict := none, data := .fields ([head, .ref L, .none, rawInt L, .none] ++ (if pl.isEmpty then List.replicate 6 Value.none else pl)).toArray }).update e (Obj.mapFields (·.setIfInBounds 1 (Value.ref h₁.objs.size)))).get? b = some o := fun b o hbe hb => by
      rw [Heap.get?_update_other _ _ (Ne.symm hbe)]
      exact Heap.get?_push_of_some _ hb
    have newT : s₀.heap.get? h₁.objs.size = none := by
      cases e9 : s₀.heap.get? h₁.objs.size with
      | none => rfl
      | some o =>
        obtain ⟨o', e'⟩ := live _ o e9
        have := Heap.lt_size e'
        rw [hs₁.1] at this
        exact absurd this (Nat.lt_irrefl _)
    refine q _ (late_step G a1 (fun b o nF na eb => keep b o (fun h => na (h ▸ h0)) ((hs₁.2.1 b nF).trans eb)) (fun b o hbF eb => ?_) (fun b o eb cl => keep b o (fun h => ?_) ((hs₁.2.1 b (a1.notF eb fun _ _ h => by obtain ⟨vs, fd⟩ := cl.fields; rw [fd] at h; cases h)).trans eb))) (fun b o eb => ?_) ⟨h0, hT, _, _, he₃, (Obj.cls_mapFields _ _).trans c1, hd₃, by simp [v2], h₁.objs.size, _, _, by simp [sz], hTe, ?_, hT₃, ⟨rfl, fun q t h => by simp at h⟩, rfl, by first | (simp; done) | (rcases hpl with rfl | ⟨_, _, _, _, _, _, _, rfl⟩ <;> simp)⟩
    · obtain ⟨sl, e2⟩ := hs₁.2.2 b o eb
      exact ⟨sl, keep b _ (fun h => by subst h; exact eF hbF) e2⟩
    · subst h
      rw [e1] at eb; cases eb
      exact not_held d1 n1 (by rw [c1]; simp) cl
    · by_cases h : b = e
      · subst h; exact ⟨_, he₃⟩
      · obtain ⟨sl, e2⟩ := hs₁.2.2 b o eb
        exact ⟨_, keep b _ h e2⟩
    · exact newT
  unfold noteFrame
  simp only [hL]
  cases fl with
  | none =>
    refine wpAny_bind (wpAny_field he hd hm ?_)
    rw [if_neg (by decide)]
    exact entry s oe vs _ _ at_ he hc hd h2 (fun q t h => by rw [hm] at h; cases h) (h1sz hm) live q
  | some v =>
    obtain ⟨Tb, oT, ts, h1, hTe, hT0, hTb, hTc, hTd, h3⟩ := hm
    refine wpAny_bind (wpAny_field he hd h1 ?_)
    rw [if_pos (show (Value.ref Tb != Value.none) = true from by simp)]
    refine wpAny_bind (wpAny_field hTb hTd h3 ?_)
    rcases hfl with h | h | ⟨L', hL', h⟩
    · cases h
    · cases h
      rw [if_neg (show ¬ ((Value.none == rawInt L) = true) from by simp [rawInt])]
      refine wpAny_bind (wpAny_setField hTb hTd (Array.getElem?_eq_some_iff.mp h3).1 ?_)
      have other : ∀ b, b ≠ Tb → (s.heap.update Tb (Obj.mapFields (·.setIfInBounds 3 Value.none))).get? b = s.heap.get? b := fun b hb => Heap.get?_update_other _ _ (Ne.symm hb)
      have TF : Tb ∉ g.F := at_.notF hTb fun _ _ h => by rw [hTd] at h; cases h
      have ww : WStep g (After s₀.heap) s { s with heap := s.heap.update Tb (Obj.mapFields (·.setIfInBounds 3 Value.none)) } := late_step G at_ (fun b o _ na eb => (other b fun h => na (h ▸ hT0)).trans eb) (fun b o hbF eb => ⟨o.slots, (other b fun h => TF (h ▸ hbF)).trans eb⟩) (fun b o eb cl => (other b fun h => by
        subst h
        rw [hTb] at eb; cases eb
        exact not_held hTd hTc.2 (by rw [hTc.1]; simp) cl).trans eb)
      have a1 := after_at G a₀ at_ ww
      have he1 := (other e (Ne.symm hTe)).trans he
      have liveT : Lives s.heap (s.heap.update Tb (Obj.mapFields (·.setIfInBounds 3 Value.none))) := fun b o eb => by
        by_cases h : b = Tb
        · subst h; exact ⟨_, Heap.get?_update_self _ eb (Obj.isFreed_of_fields (Obj.data_mapFields (by rw [hTb] at eb; cases eb; exact hTd) _))⟩
        · exact ⟨o, (other b h).trans eb⟩
      exact entry _ oe vs _ _ a1 he1 hc hd h2 (fun q t h => by rw [h1] at h; cases h) (h1sz h1) (live.trans liveT) fun s' w2 l2 x' => q s' (ww.trans w2) (liveT.trans l2) x'
    · rw [hL] at hL'; cases hL'
      cases h
      rw [if_pos (show (rawInt L == rawInt L) = true from beq_self_eq_true _)]
      exact wpAny_pure (q s .refl (fun _ o e => ⟨o, e⟩) ⟨h0, hT, oe, vs, he, hc, hd, h2, Tb, oT, ts, h1, hTe, hT0, hTb, hTc, hTd, h3⟩)
/-- the flight's mark is set -/
theorem flight_ok {A : Around} {e : Addr} {T : String} {v : Value} {L : Option Addr} {s₀ s : Shared} {Q : Unit → Shared → Prop} {E : Value → Shared → Prop} (a₀ : At g s₀) (at_ : At g s) (x : ExcR s₀.heap s.heap e T (some v))
    (q : ∀ s', WStep g (After s₀.heap) s s' → Lives s.heap s'.heap → ExcR s₀.heap s'.heap e T (some (L.elim .none fun f => rawInt f)) → Q () s') : wpAny (model prog w) A (setFlight (.ref e) L) Q E s := by
  obtain ⟨h0, hT, oe, vs, he, hc, hd, h2, Tb, oT, ts, h1, hTe, hT0, hTb, hTc, hTd, h3⟩ := x
  unfold setFlight
  refine wpAny_bind (wpAny_field he hd h1 ?_)
  rw [if_pos (show (Value.ref Tb != Value.none) = true from by simp)]
  refine wpAny_setField hTb hTd (Array.getElem?_eq_some_iff.mp h3).1 ?_
  have other : ∀ b, b ≠ Tb → (s.heap.update Tb (Obj.mapFields (·.setIfInBounds 3 (L.elim Value.none fun f => rawInt f)))).get? b = s.heap.get? b := fun b hb => Heap.get?_update_other _ _ (Ne.symm hb)
  have TF : Tb ∉ g.F := at_.notF hTb fun _ _ h => by rw [hTd] at h; cases h
  have sz := (Array.getElem?_eq_some_iff.mp h3).1
  refine q _ (late_step G at_ (fun b o _ na eb => (other b fun h => na (h ▸ hT0)).trans eb) (fun b o hbF eb => ⟨o.slots, (other b fun h => TF (h ▸ hbF)).trans eb⟩) (fun b o eb cl => (other b fun h => by
        subst h
        rw [hTb] at eb; cases eb
        exact not_held hTd hTc.2 (by rw [hTc.1]; simp) cl).trans eb)) (fun b o eb => by
    by_cases h : b = Tb
    · subst h; exact ⟨_, Heap.get?_update_self _ eb (Obj.isFreed_of_fields (Obj.data_mapFields (by rw [hTb] at eb; cases eb; exact hTd) _))⟩
    · exact ⟨o, (other b h).trans eb⟩) ⟨h0, hT, oe, vs, (other e (Ne.symm hTe)).trans he, hc, hd, h2, Tb, _, _, h1, hTe, hT0, Heap.get?_update_self _ hTb (Obj.isFreed_of_fields (Obj.data_mapFields hTd _)), ⟨(Obj.cls_mapFields _ _).trans hTc.1, fun q t h => hTc.2 q t (by rw [← h, Array.getElem?_setIfInBounds_ne (by decide)])⟩, Obj.data_mapFields hTd _, by simp [sz]⟩
end
end Mine
end
section
open PySem PySem.W PySem.Calls PyProof.Rows
set_option maxRecDepth 100000
namespace Mine

inductive AF where
  | next (σ : Loc) | ret (c : CV) | brk (σ : Loc) | cont (σ : Loc) | exc (T : String)

def Out (g : Gr) (fi : FI) (env : Env) (fl : Flow) (s : Shared) : AF → Prop
  | .next σ => fl = .next ∧ Fm g fi env s σ
  | .brk σ => fl = .brk ∧ Fm g fi env s σ
  | .cont σ => fl = .cont ∧ Fm g fi env s σ
  | .ret c => ∃ v, fl = .ret v ∧ Rp g.V s.heap c v
  | .exc _ => False
/-- what an exception leaves behind -/
def Rz (g : Gr) (X : Addr → Prop) (env : Env) (Φ : AF → Prop) (s : Shared) (E : Value → Shared → Prop) : Prop := ∀ x s' T fl, Φ (.exc T) → WStep g X s s' → At g s' → Lives s.heap s'.heap → ExcR s.heap s'.heap x T fl → Fl env fl → E (.ref x) s'
theorem Rz.from {g : Gr} {X : Addr → Prop} {env : Env} {Φ Ψ : AF → Prop} {s s₁ : Shared} {E : Value → Shared → Prop} (z : Rz g X env Φ s E) (x : WStep g X s s₁) (l : Lives s.heap s₁.heap) (h : ∀ T, Ψ (.exc T) → Φ (.exc T)) : Rz g X env Ψ s₁ E :=
  fun e s' T fl hT y a l' r f => z e s' T fl (h T hT) (x.trans y) a (l.trans l') (r.back l) f

section
variable (prog : Program) (w : World) (g : Gr) (fi : FI) (n : Nat) (σ : Loc)
def EX (ss : List Stmt) (Φ : AF → Prop) : Prop := ∀ A env s Q E, OkA g.fr g.hd A n → Fm g fi env s σ →
  (∀ fl s' af, Φ af → WStep g (Own fi env) s s' → At g s' → Out g fi env fl s' af → Q fl s') → Rz g (Own fi env) env Φ s E → wpAny (model prog w) A (execs ss env) Q E s
def EX1 (st : Stmt) (Φ : AF → Prop) : Prop := ∀ A env s Q E, OkA g.fr g.hd A n → Fm g fi env s σ →
  (∀ fl s' af, Φ af → WStep g (Own fi env) s s' → At g s' → Out g fi env fl s' af → Q fl s') → Rz g (Own fi env) env Φ s E → wpAny (model prog w) A (exec st env) Q E s
/-- a target takes a value -/
def AS (t : Expr) (c : CV) (σ' : Loc) : Prop := ∀ A env s v Q E, OkA g.fr g.hd A n → Fm g fi env s σ → Rp g.V s.heap c v →
  (∀ s', WStep g (Own fi env) s s' → Fm g fi env s' σ' → Q () s') → wpAny (model prog w) A (assign t env v) Q E s
end

/-- a target of several names -/
def TupT (t : Expr) : Prop := ∃ elts k pos, t = .Tuple elts k pos
/-- the items that an iterator has left, and how it hands them out -/
structure Iter (prog : Program) (w : World) (g : Gr) (n : Nat) (it : Value) (X : Addr → Prop) (J : Shared → List CV → Prop) (b : Bool := false) : Prop where
  turn : ∀ A s c cs target (Q : Value → Shared → Prop) E, (b = true → TupT target) → OkA g.fr g.hd A n → At g s → J s (c :: cs) → (∀ v s', WStep g X s s' → J s' cs → Rp g.V s'.heap c v → Q v s') →
    wpAny (model prog w) A (pyNext it) (fun r s₁ => match r with
      | none => False
      | some v => wpAny (model prog w) A (letOwnedTupleGo target it v) (fun _ s₂ => Q v s₂) E s₁) E s
  fin : ∀ A s (Q : Shared → Prop) E, OkA g.fr g.hd A n → At g s → J s [] → (∀ s', WStep g X s s' → Q s') → wpAny (model prog w) A (pyNext it) (fun r s₁ => match r with
      | none => Q s₁
      | some _ => False) E s
  again : ∀ A s cs (Q : Value → Shared → Prop) E, OkA g.fr g.hd A n → At g s → J s cs → Q it s → wpAny (model prog w) A (pyIter it) Q E s
  grow : ∀ s s' cs, J s cs → (∀ b o, s.heap.get? b = some o → s'.heap.get? b = some o) → J s' cs
  keep : ∀ s s' cs Y, At g s → WStep g Y s s' → (∀ a o, Y a → s.heap.get? a = some o → Mut s.heap a ∨ (a ∈ g.V ∧ ∃ vs m, o.data = .seq vs m)) → J s cs → J s' cs
  fld : ∀ s cs a o, J s cs → X a → s.heap.get? a = some o → (∃ vs, o.data = .fields vs) ∧ o.cls ≠ .type "range"
  new : ∀ a, X a → g.hB.get? a = none
  out : ∀ a, X a → a ∉ g.V
  live : ∀ s cs a, J s cs → X a → ∃ o, s.heap.get? a = some o

abbrev Gr.wV (g : Gr) (V : List Addr) : Gr := { g with V := V }
/-- a container hands out an iterator -/
def Over (prog : Program) (w : World) (g : Gr) (n : Nat) (c : CV) (cs : List CV) : Prop :=
  ∀ A s v (Q : Value → Shared → Prop) E, OkA g.fr g.hd A n → At g s → Rp g.V s.heap c v → (∀ it s' (X : Addr → Prop) (J : List Addr → Shared → List CV → Prop), Step g s s' → (∀ V, (∀ a, X a → a ∉ V) → Iter prog w (g.wV V) n it X (J V)) → J g.V s' cs → (∀ a, X a → s.heap.get? a = none ∧ ∃ o, s'.heap.get? a = some o) → (∀ V a s cs, s.heap.get? a = none → J V s cs → J (a :: V) s cs) → Q it s') → wpAny (model prog w) A (pyIter v) Q E s

section
variable (prog : Program) (w : World) (g : Gr) (fi : FI) (n : Nat)
/-- a loop's turns over the items that are left -/
def Loop (target : Expr) (body : List Stmt) (Φ : AF → Prop) : List CV → Loc → Prop
  | [], σ => Φ (.next σ)
  | c :: cs, σ => ∃ σ₁, AS prog w g fi n σ target c σ₁ ∧ EX prog w g fi n σ₁ body fun af => match af with
    | .next σ' | .cont σ' => Loop target body Φ cs σ'
    | .brk σ' => Φ (.next σ')
    | .ret c => Φ (.ret c)
    | .exc T => Φ (.exc T)
end

section
variable {prog : Program} {w : World} {g : Gr} (G : Gr2 g) {fi : FI} {n : Nat} {σ : Loc}
include G

theorem own_mut {env : Env} {s : Shared} (F : Fm g fi env s σ) : ∀ a, Own fi env a → Mut s.heap a := by
  obtain ⟨m, hn, hp, _⟩ := F.ns
  rintro a (rfl | ⟨x, hm, hx, hl⟩)
  · exact .inr ⟨m, hn, hp⟩
  · obtain ⟨c, v, e, i⟩ := F.cells x hm hx
    rw [hl] at e; cases e
    exact .inl ⟨_, i⟩

/-- a frame's own cells and names live on -/
theorem own_lives {env : Env} {s s' : Shared} {σ' : Loc} (F : Fm g fi env s σ) (F' : Fm g fi env s' σ') (x : WStep g (Own fi env) s s') : Lives s.heap s'.heap := WStep.lives G F.at_ x fun b hb => by
  obtain ⟨m, ⟨o, _, _, e, _⟩, _⟩ := F'.ns
  rcases hb with rfl | ⟨y, hm, hy, hl⟩
  · exact ⟨o, e⟩
  · obtain ⟨c, v, e', o', e2, _⟩ := F'.cells y hm hy
    rw [hl] at e'; cases e'
    exact ⟨o', e2⟩
omit G in
theorem EX.nil {Φ : AF → Prop} (h : Φ (.next σ)) : EX prog w g fi n σ [] Φ := fun _ _ _ _ _ _ F q _ => wpAny_execs_nil (q _ _ _ h .refl F.at_ ⟨rfl, F⟩)
omit G in
theorem EX.cons {st : Stmt} {rest : List Stmt} {Φ : AF → Prop} (h : EX1 prog w g fi n σ st fun af => match af with | .next σ' => EX prog w g fi n σ' rest Φ | af => Φ af) (G : Gr2 g) : EX prog w g fi n σ (st :: rest) Φ := by
  intro A env s Q E a F q qe
  refine wpAny_execs_cons (h A env s _ E a F (fun fl s' af hf x ha o => ?_) fun x s' T fl hT y ha l r f => qe x s' T fl hT y ha l r f)
  cases af with
  | next σ' =>
    obtain ⟨rfl, F'⟩ := o
    exact hf A env s' Q E a F' (fun fl s'' af hf' y ha' o' => q _ _ af hf' (x.trans y) ha' o') (qe.from x (own_lives G F F' x) fun _ h => h)
  | ret c => obtain ⟨v, rfl, r⟩ := o; exact q _ _ _ hf x ha ⟨v, rfl, r⟩
  | brk σ' => obtain ⟨rfl, F'⟩ := o; exact q _ _ _ hf x ha ⟨rfl, F'⟩
  | cont σ' => obtain ⟨rfl, F'⟩ := o; exact q _ _ _ hf x ha ⟨rfl, F'⟩
  | exc T => exact o.elim
omit G in
theorem EX.mono {ss : List Stmt} {Φ Ψ : AF → Prop} (h : EX prog w g fi n σ ss Φ) (m : ∀ af, Φ af → Ψ af) : EX prog w g fi n σ ss Ψ :=
  fun A env s Q E a F q qe => h A env s Q E a F (fun fl s' af hf => q fl s' af (m _ hf)) fun x s' T fl hT => qe x s' T fl (m _ hT)
theorem EX1.assign {x : Str} {p' pos : Pos} {e : Expr} {c : CV} {σ' : Loc} {Φ : AF → Prop} (h : EV prog w g fi n σ e c) (d : Del x σ σ')
    (hx : fi.scope.names.lookup x = some .local ∨ (fi.mine = true ∧ fi.scope.names.lookup x = some .cell)) (np : x ≠ ("provided" : Str)) (k : Φ (.next ((x, c) :: σ')))
    (hs : ∀ env, swapsWith e (some (.Name x p')) pos.line env = pure false := by intro env; rfl) : EX1 prog w g fi n σ (.Assign [.Name x p'] e pos) Φ := by
  intro A env s Q E a F q _
  refine wpAny_Assign_Name (h A env s _ E a F fun v s₁ x₁ r => ?_) (hs env)
  exact store_ok G (F.step G.toGrOk x₁) r d hx np fun s₂ x₂ F₂ => q _ _ _ k (x₁.w.trans x₂) F₂.at_ ⟨rfl, F₂⟩
omit G in
theorem EX1.ite {t : Expr} {b o : List Stmt} {pos : Pos} {z : Bool} {Φ : AF → Prop} (h : ET prog w g fi n σ t z) (h1 : z = true → EX prog w g fi n σ b Φ) (h2 : z = false → EX prog w g fi n σ o Φ) (G : Gr2 g) : EX1 prog w g fi n σ (.If t b o pos) Φ := by
  intro A env s Q E a F q qe
  refine wpAny_If (h A env s _ E a F fun s' x => ?_)
  have z' := qe.from (Ψ := Φ) x.w (x.lives G F.at_) fun _ h => h
  cases z with
  | true => exact h1 rfl A env s' Q E a (F.step G.toGrOk x) (fun fl s'' af hf y ha o => q _ _ af hf (x.w.trans y) ha o) z'
  | false => exact h2 rfl A env s' Q E a (F.step G.toGrOk x) (fun fl s'' af hf y ha o => q _ _ af hf (x.w.trans y) ha o) z'
theorem EX1.ret {e : Expr} {pos : Pos} {c : CV} {Φ : AF → Prop} (h : EV prog w g fi n σ e c) (k : Φ (.ret c)) : EX1 prog w g fi n σ (.Return (some e) pos) Φ := by
  intro A env s Q E a F q _
  exact wpAny_Return_some (h A env s _ E a F fun v s' x r => q _ _ _ k x.w (F.at_.step x) ⟨v, rfl, r⟩)
omit G in
theorem EX1.cont {pos : Pos} {Φ : AF → Prop} (k : Φ (.cont σ)) : EX1 prog w g fi n σ (.Continue pos) Φ := by
  intro A env s Q E a F q _
  exact wpAny_Continue (q _ _ _ k .refl F.at_ ⟨rfl, F⟩)
omit G in
theorem EX1.expr {e : Expr} {pos : Pos} {Φ : AF → Prop} (h : EV prog w g fi n σ e .none) (k : Φ (.next σ)) (hi : ∀ env, env.scope = fi.scope → interactive env = false := by intro env h; unfold interactive; rw [h]; rfl) (hs : ∀ env, swapsWith e none pos.line env = pure false := by intro env; rfl) (G : GrOk g) : EX1 prog w g fi n σ (.Expr e pos) Φ := by
  intro A env s Q E a F q _
  refine wpAny_Expr (h A env s _ E a F fun v s' x r => ?_) (hi env F.sc) (hs env)
  cases r
  exact q _ _ _ k x.w (F.at_.step x) ⟨rfl, F.step G x⟩
theorem AS.name {x : Str} {pos : Pos} {c : CV} {σ' : Loc} (d : Del x σ σ') (hx : fi.scope.names.lookup x = some .local ∨ (fi.mine = true ∧ fi.scope.names.lookup x = some .cell)) (np : x ≠ ("provided" : Str)) : AS prog w g fi n σ (.Name x pos) c ((x, c) :: σ') := by
  intro A env s v Q E a F r q
  exact wpAny_assign_Name (store_ok G F r d hx np q)

/-- the loop's own code -/
theorem forLoop_ok {it : Value} {X : Addr → Prop} {J : Shared → List CV → Prop} {b : Bool} (I : Iter prog w g n it X J b) {target : Expr} (hb : b = true → TupT target) {body : List Stmt} {Φ : AF → Prop} {env : Env} {A : Around} (a : OkA g.fr g.hd A n) (hm : fi.mine = true) :
    ∀ (cs : List CV) (σ : Loc) (s : Shared) (R : Result → Shared → Prop), Loop prog w g fi n target body Φ cs σ → Fm g fi env s σ → J s cs →
      (∀ fl s' af, Φ af → WStep g (fun q => Own fi env q ∨ X q) s s' → At g s' → Out g fi env fl s' af → R (.ok fl) s') →
      (∀ x s' T, Φ (.exc T) → WStep g (fun q => Own fi env q ∨ X q) s s' → At g s' → Lives s.heap s'.heap → ExcR s.heap s'.heap x T (some (rawInt env.locals)) → R (.error (.ref x)) s') → codeAny (model prog w) A (.forLoop target it body [] env) R s := by
  intro cs
  induction cs with
  | nil =>
    intro σ s R L F j q qe
    refine codeAny_of_tree ?_
    show wpAny _ A ((forTurn target it body [] env).onRaise (fun x => do noteFrame x env; theTreesLotGoes x)) _ _ s
    refine wpAny_onRaise ?_
    simp only [forTurn]
    refine wpAny_bind (wpAny_standAt (wpAny_bind (wpAny_onRaise ?_)))
    refine wpAny_mono (I.fin A s (fun s' => WStep g X s s') (fun _ _ => False) a F.at_ j fun s' x => x) (fun r s₁ h => ?_) fun _ _ h => h.elim
    cases r with
    | some v => exact h.elim
    | none =>
      have F₁ := Fm.fields G F h I.new I.out fun b o hx e => I.fld _ _ _ _ j hx e
      refine wpAny_pure ⟨rfl, codeAny_block (wpAny_execs_nil ?_)⟩
      exact q _ _ _ L (h.mono fun _ z => .inr z) F₁.at_ ⟨rfl, F₁⟩
  | cons c cs ih =>
    intro σ s R L F j q qe
    obtain ⟨σ₁, hA, hB⟩ := L
    refine codeAny_of_tree ?_
    show wpAny _ A ((forTurn target it body [] env).onRaise (fun x => do noteFrame x env; theTreesLotGoes x)) _ _ s
    refine wpAny_onRaise ?_
    simp only [forTurn]
    refine wpAny_bind (wpAny_standAt (wpAny_bind (wpAny_onRaise ?_)))
    refine wpAny_mono (I.turn A s c cs target (fun v s' => WStep g X s s' ∧ J s' cs ∧ Rp g.V s'.heap c v) (fun _ _ => False) hb a F.at_ j fun v s' x j' r => ⟨x, j', r⟩) (fun r s₁ h => ?_) fun _ _ h => h.elim
    cases r with
    | none => exact h.elim
    | some v =>
      refine wpAny_bind (wpAny_mono h (fun _ s₂ h₂ => ?_) fun _ _ h => h.elim)
      obtain ⟨x, j', r⟩ := h₂
      have F₁ := Fm.fields G F x I.new I.out fun b o hx e => I.fld _ _ _ _ j hx e
      refine wpAny_bind (hA A env s₂ v _ _ a F₁ r fun s₃ x₃ F₃ => ?_)
      have w₂ : WStep g (fun q => Own fi env q ∨ X q) s s₂ := x.mono fun _ z => .inr z
      have j₃ := I.keep _ _ _ _ F₁.at_ x₃ (fun b o hb _ => .inl (own_mut G F₁ b hb)) j'
      have l₁ : Lives s.heap s₂.heap := WStep.lives G F.at_ x fun b hb => I.live _ _ b j' hb
      have l₃ := l₁.trans (own_lives G F₁ F₃ x₃)
      obtain ⟨⟨outer, top⟩, tl⟩ := F.top hm
      refine wpAny_bind (hB A env s₃ _ _ a F₃ (fun fl s₄ af hf x₄ a₄ o => ?_) (fun x s₄ T fl hT x₄ a₄ l₄ r₄ f₄ => ?_))
      rotate_left
      · refine wpAny_bind (note_ok G a.2.2.2 top tl F₃.at_ a₄ l₄ r₄ f₄ fun s₅ w₅ l₅ r₅ => ?_)
        refine wpAny_theTreesLotGoes (qe x s₅ T hT ?_ (after_at G F₃.at_ a₄ w₅) (l₃.trans (l₄.trans l₅)) (r₅.back l₃))
        refine (w₂.trans ((x₃.trans x₄).mono fun _ z => .inl z)).back w₅ fun b o e hb => ?_
        obtain ⟨o', e'⟩ := l₃ b o e
        have hb' : s₃.heap.get? b = none := hb
        rw [e'] at hb'; cases hb'
      have w₃ : WStep g (fun q => Own fi env q ∨ X q) s₂ s₄ := (x₃.trans x₄).mono fun _ z => .inl z
      have ww := w₂.trans w₃
      have j₄ := I.keep _ _ _ _ F₃.at_ x₄ (fun b o hb _ => .inl (own_mut G F₃ b hb)) j₃
      cases af with
      | next σ' =>
        obtain ⟨rfl, F₄⟩ := o
        exact wpAny_pure ⟨rfl, ih σ' s₄ R hf F₄ j₄ (fun fl s' af hf' y a' o' => q fl s' af hf' (ww.trans y) a' o') (fun x s' T hT y a' l' r' => qe x s' T hT (ww.trans y) a' ((l₃.trans (own_lives G F₃ F₄ x₄)).trans l') (r'.back (l₃.trans (own_lives G F₃ F₄ x₄))))⟩
      | cont σ' =>
        obtain ⟨rfl, F₄⟩ := o
        exact wpAny_pure ⟨rfl, ih σ' s₄ R hf F₄ j₄ (fun fl s' af hf' y a' o' => q fl s' af hf' (ww.trans y) a' o') (fun x s' T hT y a' l' r' => qe x s' T hT (ww.trans y) a' ((l₃.trans (own_lives G F₃ F₄ x₄)).trans l') (r'.back (l₃.trans (own_lives G F₃ F₄ x₄))))⟩
      | brk σ' =>
        obtain ⟨rfl, F₄⟩ := o
        exact wpAny_pure (q _ _ _ hf ww a₄ ⟨rfl, F₄⟩)
      | ret c =>
        obtain ⟨v, rfl, r⟩ := o
        exact wpAny_pure (q _ _ _ hf ww a₄ ⟨v, rfl, r⟩)
      | exc T => exact o.elim

/-- an expression whose value hands out items -/
def EO (prog : Program) (w : World) (g : Gr) (fi : FI) (n : Nat) (σ : Loc) (iter : Expr) (cs : List CV) (b : Bool := false) : Prop := ∀ A env s (Q : Value → Shared → Prop) E, OkA g.fr g.hd A n → Fm g fi env s σ →
  (∀ v s₁, Step g s s₁ → (∀ A' (Q' : Value → Shared → Prop) E', OkA g.fr g.hd A' n → (∀ it s' (X : Addr → Prop) (J : List Addr → Shared → List CV → Prop), Step g s s' → (∀ V, (∀ a, X a → a ∉ V) → Iter prog w (g.wV V) n it X (J V) b) → J g.V s' cs → (∀ a, X a → s.heap.get? a = none ∧ ∃ o, s'.heap.get? a = some o) → (∀ V a s cs, s.heap.get? a = none → J V s cs → J (a :: V) s cs) → Q' it s') → wpAny (model prog w) A' (pyIter v) Q' E' s₁) → Q v s₁) →
  wpAny (model prog w) A (eval iter env) Q E s
theorem EO.of {iter : Expr} {c : CV} {cs : List CV} (h : EV prog w g fi n σ iter c) (o : Over prog w g n c cs) : EO prog w g fi n σ iter cs := by
  intro A env s Q E a F q
  refine h A env s _ E a F fun v s₁ x₁ r => q v s₁ x₁ fun A' Q' E' a' q' => ?_
  refine o A' s₁ v Q' E' a' (F.at_.step x₁) r fun it s' X J x₂ I j hX lift => q' it s' X J (x₁.trans x₂) I j (fun b hb => ⟨?_, (hX b hb).2⟩) lift
  have I := I g.V fun b hb hV => by
    obtain ⟨o, e⟩ := ((F.at_.step x₁).vol b hV).2
    rw [(hX b hb).1] at e; cases e
  exact x₁.none G (I.new b hb) (hX b hb).1
theorem EX1.forO {target iter : Expr} {body : List Stmt} {pos : Pos} {cs : List CV} {Φ : AF → Prop} {b : Bool} (h : EO prog w g fi n σ iter cs b) (hb : b = true → TupT target) (L : Loop prog w g fi n target body Φ cs σ) (hm : fi.mine = true := by rfl)
    (hs : ∀ env x, foldedSetIterable iter env x = pure x := by intro _ _; rfl) : EX1 prog w g fi n σ (.For target iter body [] pos) Φ := by
  intro A env s Q E a F q qe
  refine wpAny_For (h A env s _ E a F fun v s₁ x₁ ov => ?_) (hs env)
  refine ov A _ E a fun it s₂ X J x₂ I j hX _ => ?_
  have F₂ := F.step G.toGrOk x₂
  have I := I g.V fun b hb hV => by
    obtain ⟨o, e⟩ := (F.at_.vol b hV).2
    rw [(hX b hb).1] at e; cases e
  have bk : ∀ {s' : Shared}, WStep g (fun q => Own fi env q ∨ X q) s₂ s' → WStep g (Own fi env) s s' := fun x => (Step.w (X := Own fi env) x₂).back x fun b o e hb => by
    rcases hb with hb | hb
    · exact hb
    · rw [(hX b hb).1] at e; cases e
  have l₂ := x₂.lives G F.at_
  refine forLoop_ok G I hb a.mark hm cs σ s₂ _ L F₂ j (fun fl s' af hf x a' o' => q fl s' af hf (bk x) a' o') (fun x s' T hT y a' l' r' => ?_)
  have r2 := r'.back l₂
  obtain ⟨⟨outer, top⟩, tl⟩ := F.top hm
  unfold cameBackBy
  obtain ⟨h0, hTc, oe, vs, he, hc, hd, h2, Tb, oT, ts, h1, r9⟩ := id r2
  refine wpAny_bind (wpAny_field he hd h1 ?_)
  rw [if_neg (show ¬ ((Value.ref Tb == Value.none) = true) from by simp)]
  refine flight_ok (s₀ := s) G F.at_ a' r2 fun s₅ w₅ l₅ r₅ => ?_
  rw [tl] at r₅
  refine qe x s₅ T (some (rawInt env.locals)) hT ((bk y).back w₅ fun b o e hb => ?_) (after_at G F.at_ a' w₅) ((l₂.trans l').trans l₅) r₅ (.inr (.inr ⟨_, tl, rfl⟩))
  have hb' : s.heap.get? b = none := hb
  rw [hb'] at e; cases e
theorem EX1.for_ {target iter : Expr} {body : List Stmt} {pos : Pos} {c : CV} {cs : List CV} {Φ : AF → Prop} (h : EV prog w g fi n σ iter c) (o : Over prog w g n c cs) (L : Loop prog w g fi n target body Φ cs σ) (hm : fi.mine = true := by rfl)
    (hs : ∀ env x, foldedSetIterable iter env x = pure x := by intro _ _; rfl) : EX1 prog w g fi n σ (.For target iter body [] pos) Φ := EX1.forO G (EO.of G h o) (fun h => nomatch h) L hm hs
end
end Mine
end
section
open PySem PySem.W PySem.Calls PyProof.Rows
set_option maxRecDepth 100000
namespace Mine

theorem cells_mem : ∀ (names : List (Str × NameKind)) (n : Nat) (acc : List (Str × Addr)) (x : Str) (c : Addr), (x, c) ∈ cellsFrom n names acc → (x, c) ∈ acc ∨ n ≤ c
  | [], _, _, _, _, h => .inl h
  | (y, k) :: r, n, acc, x, c, h => by
    unfold cellsFrom at h
    split at h
    · rcases cells_mem r (n + 1) _ x c h with h | h
      · rcases List.mem_cons.mp h with e | h
        · cases e; exact .inr (Nat.le_refl _)
        · exact .inl h
      · exact .inr (by omega)
    · exact cells_mem r n acc x c h
theorem cells_apart : ∀ (names : List (Str × NameKind)) (n : Nat) (acc : List (Str × Addr)), (∀ p ∈ acc, p.2 < n) → (acc.Pairwise fun x y => x.2 ≠ y.2) → (cellsFrom n names acc).Pairwise fun x y => x.2 ≠ y.2
  | [], _, _, _, h => h
  | (y, k) :: r, n, acc, hl, h => by
    unfold cellsFrom
    split
    · refine cells_apart r (n + 1) _ (fun p hp => ?_) (List.pairwise_cons.mpr ⟨fun p hp e => ?_, h⟩)
      · rcases List.mem_cons.mp hp with rfl | hp
        · exact Nat.lt_succ_self _
        · exact Nat.lt_succ_of_lt (hl p hp)
      · have h1 := hl p hp
        have e' : n = p.2 := e
        exact Nat.lt_irrefl _ (e' ▸ h1)
    · exact cells_apart r n acc hl h
theorem cells_new : ∀ (names : List (Str × NameKind)) (h : Heap) (acc : List (Str × Addr)) (x : Str) (c : Addr), (x, c) ∈ cellsFrom h.objs.size names acc → (x, c) ∈ acc ∨ (pushCells h names).IsCell c none
  | [], _, _, _, _, h => .inl h
  | (y, k) :: r, h, acc, x, c, hm => by
    unfold cellsFrom at hm
    unfold pushCells
    split at hm
    · rename_i hk
      rw [if_pos hk]
      have := cells_new r (h.push { cls := .type "cell", data := .cell none }) ((y, h.objs.size) :: acc) x c (by rw [Heap.size_push]; exact hm)
      rcases this with q | q
      · rcases List.mem_cons.mp q with e | q
        · cases e
          exact .inr ⟨_, pushCells_keeps r _ _ _ (Heap.get?_push_size _ rfl), rfl⟩
        · exact .inl q
      · exact .inr q
    · rename_i hk
      rw [if_neg hk]
      exact cells_new r h acc x c hm

/-- what a def's own cells hold -/
def Closed (g : Gr) (scope : Scope) (cl : List (Str × Addr)) (σ : Loc) : Prop :=
  (cl.Pairwise fun x y => x.2 ≠ y.2) ∧ (∀ p ∈ cl, ∃ v, g.hB.IsCell p.2 v) ∧ (∀ x, scope.names.lookup x = some .cell → ∀ c, (x, c) ∉ cl) ∧
    ∀ p ∈ σ, scope.names.lookup p.1 = some .free ∧ ∃ c v, (∀ n, (cellsFrom n scope.names cl).lookup p.1 = some c) ∧ g.hB.IsCell c (some v) ∧ Rp g.V g.hB p.2 v

inductive Bnd (scope : Scope) : Loc → List (Str × CV) → Loc → Prop
  | nil {σ : Loc} : Bnd scope σ [] σ
  | cons {σ σ₁ σ' : Loc} {x : Str} {c : CV} {r : List (Str × CV)} (d : Del x σ σ₁) (k : scope.names.lookup x = some .local ∨ (true = true ∧ scope.names.lookup x = some .cell)) (np : x ≠ ("provided" : Str)) (h : Bnd scope ((x, c) :: σ₁) r σ') : Bnd scope σ ((x, c) :: r) σ'

inductive BndV (V : List Addr) (h : Heap) : List (Str × Value) → List (Str × CV) → Prop
  | nil : BndV V h [] []
  | cons {x : Str} {v : Value} {c : CV} {bs : List (Str × Value)} {cb : List (Str × CV)} (r : Rp V h c v) (t : BndV V h bs cb) : BndV V h ((x, v) :: bs) ((x, c) :: cb)
theorem BndV.mono {V : List Addr} {h h' : Heap} (k : KeepsV V h h') {bs : List (Str × Value)} {cb : List (Str × CV)} (b : BndV V h bs cb) : BndV V h' bs cb := by
  induction b with
  | nil => exact .nil
  | cons r _ ih => exact .cons (r.mono k) ih

section
variable {g : Gr} (G : Gr2 g) {fi : FI} {M : Model} {A : Around} {E : Value → Shared → Prop}
include G

theorem At.old {s : Shared} (a : At g s) {b : Addr} {o : Obj} (e : g.hB.get? b = some o) : b < s.heap.objs.size := by
  by_cases hb : b ∈ g.T
  · obtain ⟨o', vs, e', _, cl⟩ := G.tabF _ b hb a.tab
    exact Heap.lt_size e'
  · exact Heap.lt_size (a.keep b o hb e)
theorem At.fresh {s : Shared} (a : At g s) {b : Addr} (h : s.heap.objs.size ≤ b) : g.hB.get? b = none := by
  cases e : g.hB.get? b with
  | none => rfl
  | some o => exact absurd (At.old G a e) (Nat.not_lt_of_le h)

theorem bind_all {env : Env} (f : Str × Value → PUnit → Sem (ForInStep PUnit)) (hf : ∀ n v u, f (n, v) u = (do storeName env n v; pure (.yield ⟨⟩))) :
    ∀ (bs : List (Str × Value)) (cb : List (Str × CV)) (σ σ' : Loc) (s : Shared) (Q : PUnit → Shared → Prop), Fm g fi env s σ → BndV g.V s.heap bs cb → Bnd fi.scope σ cb σ' → fi.mine = true →
      (∀ s', WStep g (Own fi env) s s' → Fm g fi env s' σ' → Q ⟨⟩ s') → wpAny M A (forIn bs ⟨⟩ f) Q E s
  | [], _, σ, σ', s, Q, F, .nil, B, hm, q => by
    cases B
    rw [List.forIn_nil]; exact wpAny_pure (q s .refl F)
  | (x, v) :: r, _, σ, σ', s, Q, F, .cons rv t, B, hm, q => by
    cases B with
    | cons d k np hB =>
      rw [List.forIn_cons, hf]
      refine wpAny_bind (wpAny_bind (store_ok G F rv d (k.imp id fun z => ⟨hm, z.2⟩) np fun s₁ x₁ F₁ => wpAny_pure ?_))
      have kv := WStep.v G F.at_ x₁ fun a o ha e => .inr (.inl (own_mut G F a ha))
      exact bind_all f hf r _ _ σ' s₁ Q F₁ (t.mono kv) hB hm fun s' y F' => q s' (x₁.trans y) F'

/-- the ground with one frame more -/
abbrev _root_.Mine.Gr.push (g : Gr) (env : Env) : Gr := { g with fr := env :: g.fr }
omit G in
theorem g2F (G : Gr2 g) (l : List Env) : Gr2 { g with fr := l } := { glob := G.glob, blt := G.blt, gT := G.gT, bT := G.bT, lim := G.lim, limT := G.limT, tabF := G.tabF, tabK := G.tabK, tB := G.tB, tab0 := G.tab0 }
omit G in
theorem WStep.pop {env : Env} {L : Addr} (hL : env.frame = some L) {X : Addr → Prop} {s s' : Shared} (x : WStep (g.push env) X s s') : WStep g (fun q => X q ∨ q = L) s s' := by
  have hF : ∀ b, b ∈ (g.push env).F ↔ b = L ∨ b ∈ g.F := fun b => by
    show b ∈ List.filterMap (·.frame) (env :: g.fr) ↔ _
    rw [List.filterMap_cons, hL]; simp
  refine ⟨fun b o n f nx e => x.keep b o n (fun h => ((hF b).mp h).elim (fun q => nx (.inr q)) f) (fun q => nx (.inl q)) e, fun b o f nx e => x.keepF b o ((hF b).mpr (.inr f)) (fun q => nx (.inl q)) e, fun M hM f => x.frs M ((hF M).mpr (.inr hM)) f, x.tab, x.gens, x.drawn, x.os, x.tk⟩

theorem newEnv_ok {scope : Scope} {cl : List (Str × Addr)} {bs : List (Str × Value)} {cb : List (Str × CV)} {qual : Str} {func : Option Addr} {code : Value} {σ₀ σ : Loc} {s : Shared} {Q : Env → Shared → Prop}
    (hk : scope.kind = .function) (a : At g s) (C : Closed g scope cl σ₀) (B : Bnd scope σ₀ cb σ) (V : BndV g.V s.heap bs cb)
    (q : ∀ env s', Step g s s' → Fm (g.push env) ⟨scope, qual, func, code, true⟩ env s' σ → env.cells = cellsFrom (s.heap.objs.size + 1) scope.names cl → (∀ a, Own ⟨scope, qual, func, code, true⟩ env a → s.heap.get? a = none) → env.frame = some env.locals → Q env s') :
    wpAny M A (newFunctionEnv scope mainGlobals cl bs qual func code none builtinsNs) Q E s := by
  simp only [newFunctionEnv, Option.isSome_none, Bool.false_eq_true, if_false]
  refine wpAny_bind (wpAny_alloc ?_)
  refine wpAny_bind (wpAny_layCells _ (fun name kind cells => by cases hkc : kind == NameKind.cell <;> simp [hkc]) _ _ _ _ ?_)
  rw [show ({ s with heap := s.heap.push { cls := .type "frame", data := .dict #[] } } : Shared).heap.objs.size = s.heap.objs.size + 1 from Heap.size_push ..]
  have x1 : Step g s { s with heap := pushCells (s.heap.push { cls := .type "frame", data := .dict #[] }) scope.names } :=
    Step.grow0 G.toGrOk fun b o e => pushCells_keeps _ _ b o (Heap.get?_push_of_some _ e)
  obtain ⟨c1, c2, c3, c4⟩ := C
  have oldCl : ∀ p ∈ cl, p.2 < s.heap.objs.size := fun p hp => by
    obtain ⟨v, o, e, _⟩ := c2 p hp
    exact At.old G a e
  have hfr : (newEnv scope s.heap.objs.size mainGlobals (cellsFrom (s.heap.objs.size + 1) scope.names cl) qual func code none builtinsNs).frame = some s.heap.objs.size := rfl
  have nsL : (pushCells (s.heap.push { cls := .type "frame", data := .dict #[] }) scope.names).Ns s.heap.objs.size _ := (Heap.Ns.new s.heap (.type "frame")).keeps (pushCells_keeps _ _)
  have G' := g2F G (newEnv scope s.heap.objs.size mainGlobals (cellsFrom (s.heap.objs.size + 1) scope.names cl) qual func code none builtinsNs :: g.fr)
  have a1 := a.step x1
  have a' : At (g.push (newEnv scope s.heap.objs.size mainGlobals (cellsFrom (s.heap.objs.size + 1) scope.names cl) qual func code none builtinsNs)) { s with heap := pushCells (s.heap.push { cls := .type "frame", data := .dict #[] }) scope.names } := by
    refine ⟨a1.keep, a1.tab, a1.vol, a1.pos, fun e he => ?_, a1.hdv⟩
    rcases List.mem_cons.mp he with rfl | he
    · exact ⟨by show scope.kind ≠ _; rw [hk]; decide, _, rfl, At.fresh G a (Nat.le_refl _), _, nsL, rfl⟩
    · exact a1.frs e he
  have F : Fm (g.push (newEnv scope s.heap.objs.size mainGlobals (cellsFrom (s.heap.objs.size + 1) scope.names cl) qual func code none builtinsNs)) ⟨scope, qual, func, code, true⟩ (newEnv scope s.heap.objs.size mainGlobals (cellsFrom (s.heap.objs.size + 1) scope.names cl) qual func code none builtinsNs)
      { s with heap := pushCells (s.heap.push { cls := .type "frame", data := .dict #[] }) scope.names } σ₀ := by
    refine ⟨rfl, hk, rfl, rfl, rfl, rfl, rfl, fun b hb => ?_, fun b hb => ?_, fun x y c hx hy => ?_, ⟨_, nsL, rfl, fun p hp => ?_⟩, fun x _ hx => ?_, a', fun _ => ⟨⟨_, rfl⟩, rfl⟩⟩
    · rcases hb with rfl | ⟨x, _, hx, hl⟩
      · exact At.fresh G a (Nat.le_refl _)
      · have hm := mem_of_lookup hl
        rcases cells_mem _ _ _ _ _ hm with hm | hm
        · exact absurd hm (c3 x hx b)
        · exact At.fresh G a (Nat.le_of_succ_le hm)
    · have nv : ∀ {b : Nat}, s.heap.objs.size ≤ b → b ∉ g.V := fun {b} h q => by
        obtain ⟨o, e⟩ := (a.vol b q).2
        exact absurd (Heap.lt_size e) (Nat.not_lt_of_le h)
      rcases hb with rfl | ⟨x, _, hx, hl⟩
      · exact nv (Nat.le_refl _)
      · have hm := mem_of_lookup hl
        rcases cells_mem _ _ _ _ _ hm with hm | hm
        · exact absurd hm (c3 x hx b)
        · exact nv (Nat.le_of_succ_le hm)
    · exact name_of_addr (cells_apart _ _ _ (fun p hp => Nat.lt_succ_of_lt (oldCl p hp)) c1) (mem_of_lookup hx) (mem_of_lookup hy)
    · obtain ⟨k, c, v, h1, ⟨o, e2, d2⟩, h3⟩ := c4 p hp
      refine ⟨v, h3.mono (At.vB G.toGrOk a1 G.tab0), .inr ⟨.inr k, c, h1 _, o, a1.keep _ _ (fun hb => ?_) e2, d2⟩⟩
      obtain ⟨o', vs, e', d', cl⟩ := G.tabF _ _ hb G.tab0
      rw [e2] at e'; cases e'; rw [d2] at d'; cases d'
    · obtain ⟨c, hl⟩ := Option.isSome_iff_exists.mp (cellsFrom_some scope.names (s.heap.objs.size + 1) cl (.inl hx))
      refine ⟨c, none, hl, ?_⟩
      rcases cells_new scope.names (s.heap.push { cls := .type "frame", data := .dict #[] }) cl x c (by rw [Heap.size_push]; exact mem_of_lookup hl) with hm | hm
      · exact absurd hm (c3 x hx c)
      · exact hm
  have kv0 := x1.v G.toGrOk a
  refine wpAny_bind (bind_all G' (fi := ⟨scope, qual, func, code, true⟩) (env := newEnv scope s.heap.objs.size mainGlobals (cellsFrom (s.heap.objs.size + 1) scope.names cl) qual func code none builtinsNs)
    _ (fun _ _ _ => rfl) bs cb σ₀ σ _ _ F (V.mono kv0) B rfl fun s' y F' => wpAny_pure ?_)
  have own : ∀ b, Own ⟨scope, qual, func, code, true⟩ (newEnv scope s.heap.objs.size mainGlobals (cellsFrom (s.heap.objs.size + 1) scope.names cl) qual func code none builtinsNs) b → s.heap.get? b = none := fun b hb => by
    cases e : s.heap.get? b with
    | none => rfl
    | some o =>
      have hlt := Heap.lt_size e
      rcases hb with rfl | ⟨x, _, hx, hl⟩
      · exact absurd hlt (Nat.lt_irrefl _)
      · have hm := mem_of_lookup hl
        rcases cells_mem _ _ _ _ _ hm with hm | hm
        · exact absurd hm (c3 x hx b)
        · exact absurd hlt (Nat.not_lt_of_le (Nat.le_of_succ_le hm))
  refine q _ s' ?_ F' rfl own rfl
  exact ((Step.w (X := fun _ => False) x1).back (WStep.pop hfr y) fun b o e hb => by
    rcases hb with hb | hb
    · rw [own b hb] at e; cases e
    · rw [own b (.inl hb)] at e; cases e).step fun _ _ _ => id
end
end Mine
end
section
open PySem PySem.W PySem.Calls PyProof.Rows
set_option maxRecDepth 100000
namespace Mine

section
variable (prog : Program) (w : World) (g : Gr) (n : Nat)
/-- a call by places: what it gives back -/
def FN (f : Value) (args : List CV) (c : CV) : Prop := ∀ A s vs (R : Result → Shared → Prop), OkA g.fr g.hd A n → At g s → Rps g.V s.heap args vs →
  (∀ v s', Step g s s' → Rp g.V s'.heap c v → R (.ok (.ret v)) s') → codeAny (model prog w) A (.call f ⟨vs, []⟩) R s
def FW (f : Value) (args : List CV) (c : CV) : Prop := ∀ A s vs (Q : Value → Shared → Prop) E, OkA g.fr g.hd A n → At g s → Rps g.V s.heap args vs →
  (∀ v s', Step g s s' → Rp g.V s'.heap c v → Q v s') → wpAny (model prog w) A (PySem.call f vs []) Q E s
end
theorem FN.w {prog : Program} {w : World} {g : Gr} {n : Nat} {f : Value} {args : List CV} {c : CV} (h : FN prog w g n f args c) : FW prog w g n f args c :=
  fun A s vs _ _ k a r q => wpAny_call (h A s vs _ k a r q)
theorem FW.le {prog : Program} {w : World} {g : Gr} {n m : Nat} {f : Value} {args : List CV} {c : CV} (h : FW prog w g n f args c) (l : n ≤ m) : FW prog w g m f args c :=
  fun A s vs Q E k a r q => h A s vs Q E (k.le l) a r q

/-- a def of the text, as it stands in the ground -/
structure Def (g : Gr) (f : Addr) (fd : FuncData) (body : List Stmt) : Prop where
  obj : ∃ o, g.hB.get? f = some o ∧ o.data = .func fd
  code : ∃ c oc vs tq, fd.code = .ref c ∧ c ∉ g.T ∧ g.hB.get? c = some oc ∧ oc.data = .fields vs ∧ vs[1]? = some (.str fd.qualname tq)
  body : fd.body = .stmts body
  gl : fd.globals = mainGlobals
  bi : fd.builtins = builtinsNs
  co : fd.scope.isCoroutine = false
  kind : fd.scope.kind = .function

abbrev FuncData.fi (fd : FuncData) (f : Addr) : FI := ⟨fd.scope, fd.qualname ++ ".<locals>.", some f, fd.code, true⟩

theorem At.fn {g : Gr} (G : Gr2 g) {s : Shared} (a : At g s) {f : Addr} {o : Obj} {fd : FuncData} (e : g.hB.get? f = some o) (d : o.data = .func fd) : s.heap.get? f = some o :=
  a.keep f o (fun hT => by
    obtain ⟨o', vs, e', d', cl⟩ := G.tabF g.hB f hT G.tab0
    rw [e] at e'; cases e'; rw [d] at d'; cases d') e
theorem At.codeRec {g : Gr} {s : Shared} (a : At g s) {f : Addr} {fd : FuncData} {body : List Stmt} (D : Def g f fd body) : s.heap.CodeRec fd.code fd.qualname := by
  obtain ⟨c, oc, vs, tq, h1, h2, h3, h4, h5⟩ := D.code
  exact ⟨c, oc, vs, tq, h1, a.keep c oc h2 h3, h4, h5⟩
theorem At.lim {g : Gr} (G : Gr2 g) {s : Shared} (a : At g s) : s.heap.NoLimit := by
  obtain ⟨m, hn, hm⟩ := G.lim
  exact ⟨m, by
    obtain ⟨o, es, ep, e, r⟩ := hn
    exact ⟨o, es, ep, a.keep _ _ G.limT e, r⟩, hm⟩

/-- what a body must do: end by its answer -/
def Ends (c : CV) : AF → Prop
  | .ret d => d = c
  | .next _ => c = .none
  | _ => False

theorem FN.of_body {prog : Program} {w : World} {g : Gr} (G : Gr2 g) {n : Nat} {f : Addr} {fd : FuncData} {body : List Stmt} {args : List CV} {cb : List (Str × CV)} {σ₀ σ : Loc} {c : CV}
    (D : Def g f fd body) (C : Closed g fd.scope fd.closure σ₀)
    (hb : ∀ s vs, At g s → Rps g.V s.heap args vs → ∃ bs, BindsTo s fd ⟨vs, []⟩ bs ∧ BndV g.V s.heap bs cb) (B : Bnd fd.scope σ₀ cb σ)
    (h : ∀ l, EX prog w { g with fr := l } (FuncData.fi fd f) n σ body (Ends c)) (hgen : fd.scope.isGenerator = false := by rfl) : FN prog w g (n + 1) (.ref f) args c := by
  intro A s vs R ok a r q
  obtain ⟨o, ho, hd⟩ := D.obj
  obtain ⟨bs, hbs, hv⟩ := hb s vs a r
  refine codeAny_call_function ok.room (At.fn G a ho hd) hd D.co hgen D.body (At.codeRec a D) (hbs _ _ _ _ ?_)
  rw [D.gl, D.bi]
  refine newEnv_ok G D.kind a C B hv fun env s₁ x₁ F₁ _ own hfr => ?_
  refine ⟨At.lim G (a.step x₁), codeAny_func (h (env :: g.fr) _ env s₁ _ _ (ok.deep env) F₁ (fun fl s₂ af hf x₂ a₂ o₂ => ?_) fun x s' T fl hT => hT.elim)⟩
  have x₃ : Step g s s₂ := ((Step.w (X := fun _ => False) x₁).back (WStep.pop hfr x₂) fun b o e hb => by
    rcases hb with hb | hb
    · rw [own b hb] at e; cases e
    · rw [own b (.inl hb)] at e; cases e).step fun _ _ _ => id
  cases af with
  | ret d =>
    cases hf
    obtain ⟨v, rfl, rv⟩ := o₂
    exact q v s₂ x₃ rv
  | next σ' =>
    obtain ⟨rfl, _⟩ := o₂
    have hc : c = .none := hf
    subst hc
    exact q .none s₂ x₃ rfl
  | brk _ => exact hf.elim
  | cont _ => exact hf.elim
  | exc _ => exact hf.elim

/-- a body that raises -/
def Raises (T : String) : AF → Prop
  | .exc T' => T' = T
  | _ => False
/-- a call that raises -/
def FNr (prog : Program) (w : World) (g : Gr) (n : Nat) (f : Value) (args : List CV) (T : String) : Prop := ∀ A s vs (R : Result → Shared → Prop), OkA g.fr g.hd A n → At g s → Rps g.V s.heap args vs →
  (∀ x s', Step g s s' → ExcR s.heap s'.heap x T (some .none) → R (.error (.ref x)) s') → codeAny (model prog w) A (.call f ⟨vs, []⟩) R s
def FWr (prog : Program) (w : World) (g : Gr) (n : Nat) (f : Value) (args : List CV) (T : String) : Prop := ∀ A s vs (Q : Value → Shared → Prop) (E : Value → Shared → Prop), OkA g.fr g.hd A n → At g s → Rps g.V s.heap args vs →
  (∀ x s', Step g s s' → ExcR s.heap s'.heap x T (some .none) → E (.ref x) s') → wpAny (model prog w) A (PySem.call f vs []) Q E s
theorem FNr.w {prog : Program} {w : World} {g : Gr} {n : Nat} {f : Value} {args : List CV} {T : String} (h : FNr prog w g n f args T) : FWr prog w g n f args T :=
  fun A s vs _ _ k a r q => wpAny_call (h A s vs _ k a r q)
theorem FNr.le {prog : Program} {w : World} {g : Gr} {n m : Nat} {f : Value} {args : List CV} {T : String} (h : FNr prog w g n f args T) (l : n ≤ m) : FNr prog w g m f args T :=
  fun A s vs R k a r q => h A s vs R (k.le l) a r q
theorem FWr.le {prog : Program} {w : World} {g : Gr} {n m : Nat} {f : Value} {args : List CV} {T : String} (h : FWr prog w g n f args T) (l : n ≤ m) : FWr prog w g m f args T :=
  fun A s vs Q E k a r q => h A s vs Q E (k.le l) a r q
theorem FN.le {prog : Program} {w : World} {g : Gr} {n m : Nat} {f : Value} {args : List CV} {c : CV} (h : FN prog w g n f args c) (l : n ≤ m) : FN prog w g m f args c :=
  fun A s vs R k a r q => h A s vs R (k.le l) a r q
theorem FNr.of_body {prog : Program} {w : World} {g : Gr} (G : Gr2 g) {n : Nat} {f : Addr} {fd : FuncData} {body : List Stmt} {args : List CV} {cb : List (Str × CV)} {σ₀ σ : Loc} {T : String}
    (D : Def g f fd body) (C : Closed g fd.scope fd.closure σ₀)
    (hb : ∀ s vs, At g s → Rps g.V s.heap args vs → ∃ bs, BindsTo s fd ⟨vs, []⟩ bs ∧ BndV g.V s.heap bs cb) (B : Bnd fd.scope σ₀ cb σ)
    (h : ∀ l, EX prog w { g with fr := l } (FuncData.fi fd f) n σ body (Raises T)) (hgen : fd.scope.isGenerator = false := by rfl) : FNr prog w g (n + 1) (.ref f) args T := by
  intro A s vs R ok a r q
  obtain ⟨o, ho, hd⟩ := D.obj
  obtain ⟨bs, hbs, hv⟩ := hb s vs a r
  refine codeAny_call_function ok.room (At.fn G a ho hd) hd D.co hgen D.body (At.codeRec a D) (hbs _ _ _ _ ?_)
  rw [D.gl, D.bi]
  refine newEnv_ok G D.kind a C B hv fun env s₁ x₁ F₁ _ own hfr => ?_
  have G' := g2F G (env :: g.fr)
  refine ⟨At.lim G (a.step x₁), codeAny_func (h (env :: g.fr) _ env s₁ _ _ (ok.deep env) F₁ (fun fl s₂ af hf x₂ a₂ o₂ => ?_) fun x s₂ T' fl hT x₂ a₂ l₂ r₂ f₂ => ?_)⟩
  · cases af with
    | exc T => exact o₂.elim
    | ret c => exact hf.elim
    | next σ => exact hf.elim
    | brk σ => exact hf.elim
    | cont σ => exact hf.elim
  · have hT : T' = T := hT
    subst hT
    unfold leaving
    refine wpAny_bind (note_ok G' (ok.deep env).2.2.2 rfl hfr F₁.at_ a₂ l₂ r₂ f₂ fun s₃ w₃ l₃ r₃ => ?_)
    have a₃ := after_at G' F₁.at_ a₂ w₃
    refine flight_ok (s₀ := s₁) G' F₁.at_ a₃ r₃ fun s₄ w₄ l₄ r₄ => ?_
    have ls : Lives s.heap s₁.heap := x₁.lives G a
    have nf : ∀ {b o}, s.heap.get? b = some o → ¬ After s₁.heap b := fun {b o} e h => by
      obtain ⟨o', e'⟩ := ls b o e
      have h' : s₁.heap.get? b = none := h
      rw [e'] at h'; cases h'
    have x₅ : Step g s s₄ := (((Step.w (X := fun _ => False) x₁).back (WStep.pop hfr x₂) (fun b o e hb => by
      rcases hb with hb | hb
      · rw [own b hb] at e; cases e
      · rw [own b (.inl hb)] at e; cases e)).back ((WStep.pop hfr w₃).trans (WStep.pop hfr w₄)) (fun b o e hb => by
      rcases hb with hb | hb
      · exact nf e hb
      · rw [own b (.inl hb)] at e; cases e)).step fun _ _ _ => id
    exact q x s₄ x₅ (r₄.back ls)

theorem Closed.nil {g : Gr} {scope : Scope} : Closed g scope [] [] := by
  refine ⟨.nil, ?_, ?_, ?_⟩
  · intro _ h; cases h
  · intro _ _ _ h; cases h
  · intro _ h; cases h

/-- a call as an expression -/
theorem keeps_at {g : Gr} {M : Model} (G : Gr2 g) {f : Addr} {o : Obj} {fd : FuncData} (e : g.hB.get? f = some o) (d : o.data = .func fd) : ∀ h, (∃ s, At g s ∧ s.heap = h) → ∃ k, (k = Keeper.frame ∨ k = Keeper.machine ∨ k = Keeper.boundFrame) ∧ Looks M h (keeperOf (.ref f)) k := by
  rintro h ⟨s, a, rfl⟩
  refine ⟨.frame, .inl rfl, (Looks.ld (part := none) (At.fn G a e d)).andThen ?_⟩
  obtain ⟨c, dd, dt, sl⟩ := o
  cases d
  exact .now

/-- that a value, called, is no more than called -/
def Keep (prog : Program) (w : World) (g : Gr) (f : Value) : Prop := ∀ h, (∃ s, At g s ∧ s.heap = h) → ∃ k, (k = Keeper.frame ∨ k = Keeper.machine ∨ k = Keeper.boundFrame) ∧ Looks (model prog w) h (keeperOf f) k
theorem Keep.def_ {prog : Program} {w : World} {g : Gr} (G : Gr2 g) {f : Addr} {fd : FuncData} {body : List Stmt} (D : Def g f fd body) : Keep prog w g (.ref f) := by
  obtain ⟨o, ho, hd⟩ := D.obj
  exact keeps_at G ho hd
theorem Keep.builtin {prog : Program} {w : World} {g : Gr} {id : String} : Keep prog w g (.builtin id) := fun _ _ => ⟨.machine, .inr (.inl rfl), .now⟩
theorem Keep.type {prog : Program} {w : World} {g : Gr} {id : String} : Keep prog w g (.type id) := fun _ _ => ⟨.machine, .inr (.inl rfl), .now⟩

theorem evalArgs_any {M : Model} {A : Around} {E : Value → Shared → Prop} {s : Shared} {f : Value} {args : List (Bool × Sem Value)} {Q : Args → Shared → Prop} (hp : args.any (·.1) = false)
    (h : wpAny M A (spliced args) (fun vs s' => Q ⟨vs, []⟩ s') E s) : wpAny M A (evalArgs f true args []) Q E s := by
  cases args with
  | nil =>
    unfold evalArgs
    show wpAny M A (spliced [] >>= _) Q E s
    refine wpAny_bind (wpAny_mono h (fun vs s' h' => ?_) fun _ _ x => x)
    refine wpAny_bind (wpAny_pure ?_)
    refine wpAny_holding ?_
    exact wpAny_bind (wpAny_pure (wpAny_bind (wpAny_pure (wpAny_pure h'))))
  | cons x rest =>
    obtain ⟨b, x⟩ := x
    have hb : b = false := by
      rw [List.any_cons] at hp
      cases b with
      | false => rfl
      | true => cases hp
    subst hb
    exact evalArgs_plain h

section
variable {prog : Program} {w : World} {g : Gr} (G : Gr2 g) {fi : FI} {n : Nat} {σ : Loc}
include G
theorem EV.call {x : Str} {np pos : Pos} {f : Value} {args : List Expr} {cs : List CV} {c : CV} (hf : EV prog w g fi n σ (.Name x np) (.raw f)) (ha : EVs prog w g fi n σ args cs) (hk : Keep prog w g f) (h : FW prog w g n f cs c)
    (hplain : ∀ env, (backTo pos (starEach args env)).any (·.1) = false := by intro env; rfl) (hkw : ∀ env, backToKw pos (keywordEach [] env) = [] := by intro env; rfl) : EV prog w g fi n σ (.Call (.Name x np) args [] pos) c := by
  intro A env s Q E k F q
  refine wpAny_Call_ofName (hf A env s _ E k F fun v s₁ x₁ r => ?_)
  cases r
  rw [hkw env]
  refine callWith_of (P := fun h => ∃ s, At g s ∧ s.heap = h) (by rw [hplain env]; rfl) hk ?_
  have fin : ∀ vs s₂, Step g s₁ s₂ → Rps g.V s₂.heap cs vs → (∃ s, At g s ∧ s.heap = s₂.heap) ∧ wpAny (model prog w) A (PySem.call f ([] ++ vs) []) Q E s₂ := fun vs s₂ x₂ r₂ =>
    ⟨⟨s₂, (F.at_.step x₁).step x₂, rfl⟩, h A s₂ vs Q E k ((F.at_.step x₁).step x₂) r₂ fun u s₃ x₃ r₃ => q u s₃ ((x₁.trans x₂).trans x₃) r₃⟩
  have ev : wpAny (model prog w) A (spliced (backTo pos (starEach args env))) (fun vs s₂ => (∃ s, At g s ∧ s.heap = s₂.heap) ∧ wpAny (model prog w) A (PySem.call f ([] ++ vs) []) Q E s₂) E s₁ :=
    ha A env s₁ pos _ E k (F.step G.toGrOk x₁) fun vs s₂ x₂ r₂ => fin vs s₂ x₂ r₂
  exact evalArgs_any (hplain env) ev
end
end Mine
end
section
open PySem PySem.W PySem.Calls PyProof.Rows
set_option maxRecDepth 100000
namespace Mine

theorem str_beq (x y : Str) : (x.cps.toList == y.cps.toList) = decide (x = y) := by
  by_cases h : x = y
  · subst h; simp
  · rw [decide_eq_false h]
    cases hb : (x.cps.toList == y.cps.toList) with
    | false => rfl
    | true =>
      exfalso; apply h
      obtain ⟨a⟩ := x; obtain ⟨b⟩ := y
      have : a.toList = b.toList := by simpa using hb
      rw [Array.ext' this]

theorem Rp.isList {V : List Addr} {h : Heap} {l : List CV} {v : Value} (r : Rp V h (.lst l) v) : ∃ a vs, v = .ref a ∧ h.IsList a (List.toArray vs) ∧ Rps V h l vs := by
  obtain ⟨a, vs, n, e, _, o, q⟩ := r
  exact ⟨a, vs, e, ⟨_, o, rfl, n, rfl⟩, q⟩
theorem Rp.isTup {V : List Addr} {h : Heap} {l : List CV} {v : Value} (r : Rp V h (.tup l) v) : ∃ a vs, v = .ref a ∧ IsTup h a (List.toArray vs) ∧ Rps V h l vs := by
  obtain ⟨a, vs, n, e, _, o, q⟩ := r
  exact ⟨a, vs, e, ⟨_, o, rfl, n, rfl⟩, q⟩
theorem Rps.get {V : List Addr} {h : Heap} : ∀ {cs : List CV} {vs : List Value}, Rps V h cs vs → ∀ {i : Nat} {c : CV}, cs[i]? = some c → ∃ v, vs[i]? = some v ∧ Rp V h c v
  | [], _, _, i, c, e => by simp at e
  | c :: cs, _, ⟨v, us, rfl, r, rs⟩, 0, d, e => by
    simp only [List.getElem?_cons_zero, Option.some.injEq] at e
    subst e; exact ⟨v, rfl, r⟩
  | c :: cs, _, ⟨v, us, rfl, r, rs⟩, i + 1, d, e => by
    simp only [List.getElem?_cons_succ] at e ⊢
    exact Rps.get rs e
theorem Rps.drop {V : List Addr} {h : Heap} : ∀ {cs : List CV} {vs : List Value} (k : Nat), Rps V h cs vs → Rps V h (cs.drop k) (vs.drop k)
  | _, _, 0, r => r
  | [], _, k + 1, r => by cases r; simp [Rps]
  | _ :: _, _, k + 1, ⟨_, _, rfl, _, rs⟩ => Rps.drop k rs
theorem Rps.take {V : List Addr} {h : Heap} : ∀ {cs : List CV} {vs : List Value} (k : Nat), Rps V h cs vs → Rps V h (cs.take k) (vs.take k)
  | _, _, 0, _ => rfl
  | [], _, k + 1, r => by cases r; simp [Rps]
  | _ :: _, _, k + 1, ⟨v, us, rfl, r, rs⟩ => ⟨v, us.take k, rfl, r, Rps.take k rs⟩
theorem Rps.append {V : List Addr} {h : Heap} : ∀ {cs ds : List CV} {vs us : List Value}, Rps V h cs vs → Rps V h ds us → Rps V h (cs ++ ds) (vs ++ us)
  | [], _, _, _, r, q => by cases r; exact q
  | _ :: _, _, _, _, ⟨v, ws, rfl, r, rs⟩, q => ⟨v, _, rfl, r, Rps.append rs q⟩
theorem Rps.snoc {V : List Addr} {h : Heap} {cs : List CV} {vs : List Value} {c : CV} {v : Value} (r : Rps V h cs vs) (q : Rp V h c v) : Rps V h (cs ++ [c]) (vs ++ [v]) := r.append ⟨v, [], rfl, q, rfl⟩
theorem Rps.reverse {V : List Addr} {h : Heap} : ∀ {cs : List CV} {vs : List Value}, Rps V h cs vs → Rps V h cs.reverse vs.reverse
  | [], _, r => by cases r; rfl
  | _ :: _, _, ⟨v, ws, rfl, r, rs⟩ => by rw [List.reverse_cons, List.reverse_cons]; exact (Rps.reverse rs).snoc r

section
variable {prog : Program} {w : World} {g : Gr} {n : Nat}

theorem Bin.eq_int {a b : Int} : Bin prog w g n (compareOp .Eq) (.int a) (.int b) (.bool (a == b)) := by
  rintro A s _ _ Q E _ _ ⟨t, rfl⟩ ⟨u, rfl⟩ q; exact P.eq_int (q _ _ .refl rfl)
theorem Bin.ne_int {a b : Int} : Bin prog w g n (compareOp .NotEq) (.int a) (.int b) (.bool (a != b)) := by
  rintro A s _ _ Q E _ _ ⟨t, rfl⟩ ⟨u, rfl⟩ q; exact P.ne_int (q _ _ .refl rfl)
theorem Bin.lt_int {a b : Int} : Bin prog w g n (compareOp .Lt) (.int a) (.int b) (.bool (decide (a < b))) := by
  rintro A s _ _ Q E _ _ ⟨t, rfl⟩ ⟨u, rfl⟩ q; exact P.lt_int (q _ _ .refl rfl)
theorem Bin.le_int {a b : Int} : Bin prog w g n (compareOp .LtE) (.int a) (.int b) (.bool (decide (a ≤ b))) := by
  rintro A s _ _ Q E _ _ ⟨t, rfl⟩ ⟨u, rfl⟩ q; exact P.le_int (q _ _ .refl rfl)
theorem Bin.gt_int {a b : Int} : Bin prog w g n (compareOp .Gt) (.int a) (.int b) (.bool (decide (a > b))) := by
  rintro A s _ _ Q E _ _ ⟨t, rfl⟩ ⟨u, rfl⟩ q; exact P.gt_int (q _ _ .refl rfl)
theorem Bin.ge_int {a b : Int} : Bin prog w g n (compareOp .GtE) (.int a) (.int b) (.bool (decide (a ≥ b))) := by
  rintro A s _ _ Q E _ _ ⟨t, rfl⟩ ⟨u, rfl⟩ q; exact P.ge_int (q _ _ .refl rfl)
theorem Bin.add_int {a b : Int} : Bin prog w g n (binaryOp .Add) (.int a) (.int b) (.int (a + b)) := by
  rintro A s _ _ Q E _ _ ⟨t, rfl⟩ ⟨u, rfl⟩ q; exact P.add_int (q _ _ .tok ⟨_, rfl⟩)
theorem Bin.sub_int {a b : Int} : Bin prog w g n (binaryOp .Sub) (.int a) (.int b) (.int (a - b)) := by
  rintro A s _ _ Q E _ _ ⟨t, rfl⟩ ⟨u, rfl⟩ q; exact P.sub_int (q _ _ .tok ⟨_, rfl⟩)
theorem Bin.mod_int {a b : Int} (hb : b ≠ 0) : Bin prog w g n (binaryOp .Mod) (.int a) (.int b) (.int (a.fmod b)) := by
  rintro A s _ _ Q E _ _ ⟨t, rfl⟩ ⟨u, rfl⟩ q; exact mod_int' hb (q _ _ .tok ⟨_, rfl⟩)
theorem Bin.eq_str {x y : Str} : Bin prog w g n (compareOp .Eq) (.str x) (.str y) (.bool (decide (x = y))) := by
  rintro A s _ _ Q E _ _ ⟨t, rfl⟩ ⟨u, rfl⟩ q; exact P.eq_str (q _ _ .refl (congrArg Value.bool (str_beq x y)))
theorem Bin.ne_str {x y : Str} : Bin prog w g n (compareOp .NotEq) (.str x) (.str y) (.bool (!decide (x = y))) := by
  rintro A s _ _ Q E _ _ ⟨t, rfl⟩ ⟨u, rfl⟩ q
  refine P.ne_str (q _ _ .refl (congrArg Value.bool ?_))
  rw [← str_beq]; rfl
theorem Un.neg_int {a : Int} : Un prog w g n (unaryOp .USub) (.int a) (.int (-a)) := by
  rintro A s _ Q E _ _ ⟨t, rfl⟩ q; exact P.neg_int (q _ _ .tok ⟨_, rfl⟩)
end

section
variable {prog : Program} {w : World} {g : Gr} (G : Gr2 g) {fi : FI} {n : Nat} {σ : Loc}
include G

/-- o[i] -/
def Item (prog : Program) (w : World) (g : Gr) (n : Nat) (a b c : CV) : Prop :=
  ∀ value slice, (match slice with | .Slice .. => False | _ => True) → Bin prog w g n (subscriptTail value slice) a b c

theorem EV.sub {value slice : Expr} {pos : Pos} {a b c : CV} (h1 : EV prog w g fi n σ value a) (h2 : EV prog w g fi n σ slice b) (h : Bin prog w g n (subscriptTail value slice) a b c) : EV prog w g fi n σ (.Subscript value slice pos) c := by
  intro A env s Q E k F q
  refine Subscript_ (h1 A env s _ E k F fun u s₁ x ru => h2 A env s₁ _ E k (F.step G.toGrOk x) fun v s₂ y rv => ?_)
  exact h A s₂ u v Q E k ((F.at_.step x).step y) (Rp.step G.toGrOk (F.at_.step x) y ru) rv fun r s₃ z rr => q _ _ ((x.trans y).trans z) rr
omit G
theorem Bin.list_item {value slice : Expr} {l : List CV} {i : Int} {c : CV} (h0 : 0 ≤ i) (hi : i < 2 ^ 63) (hc : l[i.toNat]? = some c)
    (hs : ∀ a k u, subscripted slice false (.ref a) (.int k u) = operate [.ref a, .int k u] (getItem (.ref a) (.int k u)) := by intro _ _ _; with_unfolding_all rfl) : Bin prog w g n (subscriptTail value slice) (.lst l) (.int i) c := by
  rintro A s v _ Q E _ _ r ⟨t, rfl⟩ q
  obtain ⟨a, vs, rfl, hl, rs⟩ := r.isList
  obtain ⟨x, hx, rx⟩ := rs.get hc
  exact tail_any hl.typeIs slot_list_getitem.lookup (wpAny_getItem_list hl h0 hi (by simpa using hx) (q _ _ .refl rx)) (hs _ _ _)
theorem Bin.tup_item {value slice : Expr} {l : List CV} {i : Int} {j : Nat} {c : CV} (h0 : -(2 ^ 63) ≤ i) (hi : i < 2 ^ 63) (hj : seqIndex? i l.length = some j) (hc : l[j]? = some c)
    (hs : ∀ a k u, subscripted slice false (.ref a) (.int k u) = operate [.ref a, .int k u] (getItem (.ref a) (.int k u)) := by intro _ _ _; with_unfolding_all rfl) : Bin prog w g n (subscriptTail value slice) (.tup l) (.int i) c := by
  rintro A s v _ Q E _ _ r ⟨t, rfl⟩ q
  obtain ⟨a, vs, rfl, hl, rs⟩ := r.isTup
  obtain ⟨x, hx, rx⟩ := rs.get hc
  exact item_tupleT hl h0 hi (by rw [rs.length]; exact hj) hx (q _ _ .refl rx) (hs _ _ _)

/-- len -/
theorem FW.len_list {l : List CV} (hl : (l.length : Int) < 2 ^ 63) : FW prog w g n (.builtin "len") [.lst l] (.int l.length) := by
  rintro A s _ Q E k a ⟨v, _, rfl, r, rfl⟩ q
  obtain ⟨b, vs, rfl, hb, rs⟩ := r.isList
  have e : (List.toArray vs).size = l.length := by rw [List.size_toArray, rs.length]
  exact call_len_list hb (by rw [e]; exact hl) (q _ _ .tok ⟨_, by rw [e]⟩)

/-- lists hand out their items -/
theorem next_item {it l : Addr} {i m : Nat} {its : Array Value} {x : Value} {ol : Obj} {A : Around} {s : Shared} {E : Value → Shared → Prop} {Q : Option Value → Shared → Prop} (hit : s.heap.IsListIter it l i)
    (hol : s.heap.get? l = some ol) (hdl : ol.data = .seq its m) (hx : its[i]? = some x)
    (hQ : ∀ h', h'.IsListIter it l (i + 1) → Heap.SameBut it s.heap h' → Q (some x) { s with heap := h' }) : wpAny (model prog w) A (pyNext (.ref it)) Q E s := by
  obtain ⟨o, ho, hc, hd⟩ := id hit
  unfold pyNext
  refine wpAny_bind (wpAny_attempt (wpAny_callSpecial?_slot (name := Str.ofString "__next__") hit.typeIs slot_listiter_next
    (wpAny_call_entry slot_listiter_next hit.typeIs entry_listiter_next ?_ (args_listiter_next _))))
  show wpAny _ _ (field (.ref it) 0 >>= _) _ _ s
  refine wpAny_bind (wpAny_field ho hd (x := .ref l) rfl ?_)
  show wpAny _ _ (if (Value.ref l == Value.none) = true then _ else _) _ _ s
  rw [if_neg (show ¬ ((Value.ref l == Value.none) = true) from Bool.false_ne_true)]
  show wpAny _ _ (field (.ref it) 1 >>= _) _ _ s
  refine wpAny_bind (wpAny_field ho hd (x := .int i 0) rfl ?_)
  show wpAny _ _ (seqItems? (.ref l) >>= _) _ _ s
  refine wpAny_bind (wpAny_seqItems hol hdl ?_)
  simp only [Int.toNat_natCast, hx]
  refine wpAny_bind (wpAny_setField ho hd (by simp) (wpAny_pure ⟨x, rfl, wpAny_pure (hQ _ ?_ (Heap.SameBut.update ..))⟩))
  exact ⟨_, Heap.get?_update_self _ ho (Obj.isFreed_of_fields (Obj.data_mapFields hd _)), (Obj.cls_mapFields ..).trans hc, by
    rw [Obj.data_mapFields hd]; simp [rawInt]⟩
/-- an exception that is raised, whether or not one is handled -/
def Handles (A : Around) (h : Heap) : Prop := A.handled = none ∨ ∃ e o vs, A.handled = some (.ref e) ∧ h.get? e = some o ∧ o.data = .fields vs ∧ vs[2]? = some .none
theorem entry_unchain : entryFor table "proto.unchain" = some Builtin.«proto.unchain» := entryFor_of_tree (by kernel_rfl)
theorem raise_new {α : Type} {A : Around} {s : Shared} {E : Value → Shared → Prop} {Q : α → Shared → Prop} {e : Addr} {oe : Obj} {vs : Array Value} (hh : Handles A s.heap) (he : s.heap.get? e = some oe) (hd : oe.data = .fields vs) (hz : 2 < vs.size) (hne : ∀ x, A.handled = some (.ref x) → x ≠ e)
    (q : ∀ h', Heap.SameBut e s.heap h' → (∃ vs', h'.get? e = some { oe with data := .fields vs' } ∧ ∀ i, i ≠ 2 → vs'[i]? = vs[i]?) → E (.ref e) { s with heap := h' }) : wpAny (model prog w) A (raiseNew (.ref e) : Sem α) Q E s := by
  unfold raiseNew
  refine wpAny_bind (wpAny_handled ?_)
  rcases hh with h | ⟨x, o, us, h, ho, hdo, h2⟩
  · rw [h]
    exact wpAny_bind (wpAny_pure (wpAny_throw (q s.heap (Heap.SameBut.refl ..) ⟨vs, by rw [he]; obtain ⟨c, dd, dt, sl⟩ := oe; cases hd; rfl, fun _ _ => rfl⟩)))
  · rw [h]
    have hn : ((Value.ref x) != (Value.ref e)) = true := by
      have := hne x h
      simpa using this
    show wpAny _ A (if ((Value.ref x) != (Value.ref e)) = true then _ else _) Q E s
    rw [if_pos hn]
    refine wpAny_bind (wpAny_holding (wpAny_runValue (codeAny_builtin entry_unchain ?_)))
    show wpAny _ _ (field (.ref x) 2 >>= _) _ _ s
    refine wpAny_bind (wpAny_field ho hdo h2 ?_)
    show wpAny _ _ (ret .none) _ _ s
    refine wpAny_pure ?_
    refine wpAny_bind ?_
    unfold updateField
    refine wpAny_bind (wpAny_load he ?_)
    rw [hd]
    show wpAny _ _ (if 2 < vs.size then _ else _) _ _ s
    rw [if_pos hz]
    refine wpAny_update he (wpAny_throw (q _ (Heap.SameBut.update ..) ⟨vs.setIfInBounds 2 (.ref x), ?_, fun i hi => ?_⟩))
    · rw [Heap.get?_update_self _ he (Obj.isFreed_of_fields (Obj.data_mapFields hd _))]
      obtain ⟨c, dd, dt, sl⟩ := oe
      cases hd; rfl
    · simp [Array.getElem?_setIfInBounds, Ne.symm hi]
theorem stop_raised {α : Type} {A : Around} {s : Shared} {E : Value → Shared → Prop} {Q : α → Shared → Prop} (hh : Handles A s.heap)
    (q : ∀ h' e, (∀ b o, s.heap.get? b = some o → h'.get? b = some o) → (∃ o, h'.get? e = some o ∧ o.cls = .type "StopIteration") → E (.ref e) { s with heap := h' }) : wpAny (model prog w) A (newExc (.type "StopIteration") [] >>= fun e => raiseNew e : Sem α) Q E s := by
  refine wpAny_bind ?_
  simp only [newExc, newTuple]
  refine wpAny_bind (wpAny_newObj_type ?_ (by size_fits))
  refine wpAny_bind (m := firstArgMember _ _) (wpAny_of_eq (a := Value.none) (by first | rfl | (simp only [firstArgMember]; rfl)) ?_)
  refine wpAny_newObj_type ?_ (by size_fits)
  have hk : ∀ {o1 o2 : Obj} b o, s.heap.get? b = some o → ((s.heap.push o1).push o2).get? b = some o := fun b o e => Heap.get?_push_of_some _ (Heap.get?_push_of_some _ e)
  have lt : ∀ {o1 : Obj} b o, s.heap.get? b = some o → b ≠ (s.heap.push o1).objs.size := fun b o e => Nat.ne_of_lt (by rw [Heap.size_push]; exact Nat.lt_succ_of_lt (Heap.lt_size e))
  refine raise_new (hh.imp (fun h => h) fun ⟨x, o, us, h, ho, r⟩ => ⟨x, o, us, h, hk _ _ ho, r⟩) (Heap.get?_push_size _ rfl) rfl (by simp; omega) (fun x hx => ?_) fun h' hs ⟨vs', he, _⟩ => q h' _ (fun b o e => (hs.2 b (lt b o e)).trans (hk b o e)) ⟨_, he, rfl⟩
  rcases hh with h | ⟨y, o, us, h, ho, r⟩
  · rw [h] at hx; cases hx
  · rw [h] at hx; cases hx
    exact lt _ _ ho
theorem at_handled {g : Gr} {A : Around} {n : Nat} {s : Shared} {it l : Addr} {k : Nat} (ok : OkA g.fr g.hd A n) (a : At g s) (hit : s.heap.IsListIter it l k) : A.handled = none ∨ ∃ e o vs, A.handled = some (.ref e) ∧ s.heap.get? e = some o ∧ o.data = .fields vs ∧ vs[2]? = some .none ∧ e ≠ it := by
  have h := ok.2.2.1
  cases hd : g.hd with
  | none => left; rw [h, hd]; rfl
  | some e =>
    right
    obtain ⟨hV, o, vs, eo, d, v2, _⟩ := a.hdv e hd
    refine ⟨e, o, vs, by rw [h, hd]; rfl, eo, d, v2, fun q => ?_⟩
    obtain ⟨o', e', c, d'⟩ := hit
    subst q
    rw [eo] at e'; cases e'
    rw [d] at d'; cases d'
    simp at v2
theorem next_end {it l : Addr} {i m : Nat} {its : Array Value} {ol : Obj} {A : Around} {s : Shared} {E : Value → Shared → Prop} {Q : Option Value → Shared → Prop} (hh : A.handled = none ∨ ∃ e o vs, A.handled = some (.ref e) ∧ s.heap.get? e = some o ∧ o.data = .fields vs ∧ vs[2]? = some .none ∧ e ≠ it) (hit : s.heap.IsListIter it l i)
    (hol : s.heap.get? l = some ol) (hdl : ol.data = .seq its m) (hx : its[i]? = none)
    (hQ : ∀ h', Heap.ExtBut it s.heap h' → Q none { s with heap := h' }) : wpAny (model prog w) A (pyNext (.ref it)) Q E s := by
  obtain ⟨o, ho, hc, hd⟩ := id hit
  unfold pyNext
  refine wpAny_bind (wpAny_attempt (wpAny_callSpecial?_slot (name := Str.ofString "__next__") hit.typeIs slot_listiter_next
    (wpAny_call_entry slot_listiter_next hit.typeIs entry_listiter_next ?_ (args_listiter_next _))))
  show wpAny _ _ (field (.ref it) 0 >>= _) _ _ s
  refine wpAny_bind (wpAny_field ho hd (x := .ref l) rfl ?_)
  show wpAny _ _ (if (Value.ref l == Value.none) = true then _ else _) _ _ s
  rw [if_neg (show ¬ ((Value.ref l == Value.none) = true) from Bool.false_ne_true)]
  show wpAny _ _ (field (.ref it) 1 >>= _) _ _ s
  refine wpAny_bind (wpAny_field ho hd (x := .int i 0) rfl ?_)
  show wpAny _ _ (seqItems? (.ref l) >>= _) _ _ s
  refine wpAny_bind (wpAny_seqItems hol hdl ?_)
  simp only [Int.toNat_natCast, hx]
  refine wpAny_bind (wpAny_rule (wpAny_bind (wpAny_setField ho hd (by simp) ?_)))
  refine stop_raised (A := A.in1) (s := { s with heap := s.heap.update it (Obj.mapFields (·.setIfInBounds 0 Value.none)) }) (hh.imp (fun h => h) fun ⟨e, oe, vs, h1, h2, h3, h4, h5⟩ => ⟨e, oe, vs, h1, (Heap.get?_update_other _ _ (Ne.symm h5)).trans h2, h3, h4⟩) fun h'' e hk he => ?_
  refine wpAny_bind (wpAny_isInstance (T := "StopIteration") (b := true) he isSubtype_stop ?_)
  exact wpAny_pure (hQ _ fun b o nb eb => hk b o ((Heap.get?_update_other _ _ (Ne.symm nb)).trans eb))

/-- a step that changes one object of fields, no code and no table -/
theorem WStep.one {g : Gr} (G : Gr2 g) {it : Addr} {s : Shared} {h' : Heap} {t : Nat} (hF : it ∉ g.F) (hc : ∀ o, s.heap.get? it = some o → ¬ Held o) (e : Heap.ExtBut it s.heap h') (htk : s.toks ≤ t := by first | exact Nat.le_refl _ | exact Nat.le_succ _ | assumption | omega) : WStep g (fun q => q = it) s { s with heap := h', toks := t } := by
  refine ⟨fun b o _ _ nb eb => e b o nb eb, fun b o _ nb eb => ⟨o.slots, e b o nb eb⟩, fun L hL f => f.data fun o eo => ⟨o.slots, e L o (fun q => hF (q ▸ hL)) eo⟩, fun ht => ?_, ⟨#[], by simp, AllBare.empty⟩, rfl, rfl, htk⟩
  exact G.tabK _ _ (fun b o eb hk => e b o (fun q => hc o (q ▸ eb) hk) eb) ht
theorem iter_cls {s : Shared} {it l : Addr} {k : Nat} (i : s.heap.IsListIter it l k) : ∀ o, s.heap.get? it = some o → ¬ Held o := by
  intro o e
  obtain ⟨o', e', c, d⟩ := i
  rw [e] at e'; cases e'
  exact not_held d (fun q t h => by simp at h) (by rw [c]; simp)

theorem iter_notF {g : Gr} {s : Shared} {it l : Addr} {k : Nat} (a : At g s) (i : s.heap.IsListIter it l k) : it ∉ g.F := by
  obtain ⟨o', e', c, d⟩ := i
  exact a.notF e' fun es ep h => by rw [d] at h; cases h
abbrev ListJ (l it : Addr) (V : List Addr) (s : Shared) (cs : List CV) : Prop := ∃ k vs its, s.heap.IsListIter it l k ∧ (∃ o m, s.heap.get? l = some o ∧ o.data = .seq its m) ∧ l ∉ V ∧ its.toList.drop k = vs ∧ Rps V s.heap cs vs
theorem listIter {l : Addr} {it : Addr} (G : Gr2 g) (hn : g.hB.get? it = none) (ho : it ∉ g.V) :
    Iter prog w g n (.ref it) (fun q => q = it) (ListJ l it g.V) := by
  have kv : ∀ {s : Shared} {h' : Heap} {t : Nat} {k : Nat}, At g s → s.heap.IsListIter it l k → Heap.ExtBut it s.heap h' → KeepsV g.V s.heap h' := fun {s h' t k} a i e b o eb _ nf _ =>
    e b o (fun q => by
      obtain ⟨o', e', c, d⟩ := i
      subst q
      rw [eb] at e'; cases e'; have := nf _ d; rw [c] at this; exact absurd (Value.type.inj this) (by decide)) eb
  refine ⟨?_, ?_, fun A s cs Q E ok a ⟨k, _, its, hit, _⟩ q => wpAny_pyIter_listiter hit q, fun s s' cs ⟨k, vs, its, ⟨oi, ei, ri⟩, ⟨o, m, e, d⟩, nV, hd, rs⟩ kk => ⟨k, vs, its, ⟨oi, kk _ _ ei, ri⟩, ⟨o, m, kk _ _ e, d⟩, nV, hd, rs.mono fun b o e _ _ _ => kk b o e⟩, ?_, ?_, fun a h => h ▸ hn, fun a h => h ▸ ho, fun s cs a ⟨k, vs, its, hit, _⟩ h => by subst h; exact hit.imp fun _ h => h.1⟩
  · rintro A s c cs target Q E _ ok a ⟨k, _, its, hit, ⟨o, m, e, d⟩, nV, rfl, v, us, hv, r, rs⟩ q
    have hx : its[k]? = some v := by
      rw [← Array.getElem?_toList]
      have := congrArg (fun l => l[0]?) hv
      simpa using this
    refine next_item hit e d hx fun h' hit' hs => ?_
    have kk := kv (t := 0) a hit hs.extBut
    have le : l ≠ it := fun q => by
      obtain ⟨o', e', _, d'⟩ := hit
      subst q
      rw [e] at e'; cases e'; rw [d] at d'; cases d'
    have ww : WStep g (fun q => q = it) s { s with heap := h' } := WStep.one G (t := s.toks) (iter_notF a hit) (iter_cls hit) hs.extBut
    have done := q v { s with heap := h' } ww ⟨k + 1, us, its, hit', ⟨o, m, (hs.2 l le).trans e, d⟩, nV, by rw [← List.drop_drop, hv]; rfl, rs.mono kk⟩ (r.mono kk)
    show wpAny (model prog w) A (letOwnedTupleGo target (.ref it) v) _ E _
    have plain : ∀ {t : Sem Unit}, t = pure () → wpAny (model prog w) A t (fun _ s₂ => Q v s₂) E { s with heap := h' } := fun {t} ht => by rw [ht]; exact wpAny_pure done
    cases target with
    | Tuple elts x1 pos =>
      cases v with
      | ref t => exact wpAny_letOwnedTupleGo_listiter hit' done
      | _ => exact plain rfl
    | List elts pos =>
      cases v with
      | ref t => exact (wpAny_letOwnedTupleGo_listiter (elts := elts) (x1 := default) (pos := pos) (Q := fun _ s₂ => Q (.ref t) s₂) hit' done : wpAny (model prog w) A (letOwnedTupleGo (.Tuple elts default pos) (.ref it) (.ref t)) _ E _)
      | _ => exact plain rfl
    | _ => exact plain rfl
  · rintro A s Q E ok a ⟨k, _, its, hit, ⟨o, m, e, d⟩, _, rfl, rs⟩ q
    have hx : its[k]? = none := by
      have h0 : its.toList.drop k = [] := rs
      rw [← Array.getElem?_toList]
      have := congrArg (fun l => l[0]?) h0
      simpa using this
    exact next_end (at_handled ok a hit) hit e d hx fun h' hs => q { s with heap := h' } (WStep.one G (t := s.toks) (iter_notF a hit) (iter_cls hit) hs)
  · rintro s s' cs Y a x hY ⟨k, vs, its, ⟨oi, ei, ci, di⟩, ⟨o, m, e, d⟩, nV, hd, rs⟩
    have ni : ¬ Y it := fun hy => by
      rcases hY it oi hy ei with (⟨v, o', e', d'⟩ | ⟨m', ⟨o', es, ep, e', d', _⟩, _⟩) | ⟨_, vs', m', d'⟩
      · rw [ei] at e'; cases e'; rw [di] at d'; cases d'
      · rw [ei] at e'; cases e'; rw [di] at d'; cases d'
      · rw [di] at d'; cases d'
    have nl : ¬ Y l := fun hy => by
      rcases hY l o hy e with (⟨v, o', e', d'⟩ | ⟨m', ⟨o', es, ep, e', d', _⟩, _⟩) | ⟨h, _⟩
      · rw [e] at e'; cases e'; rw [d] at d'; cases d'
      · rw [e] at e'; cases e'; rw [d] at d'; cases d'
      · exact nV h
    have hT : it ∉ g.T := fun h => by
      obtain ⟨o', eo⟩ := G.tB it h
      rw [hn] at eo; cases eo
    have lT : l ∉ g.T := fun h => by
      obtain ⟨o', vs', e', d', cl⟩ := G.tabF _ l h a.tab
      rw [e] at e'; cases e'; rw [d] at d'; cases d'
    refine ⟨k, vs, its, ⟨oi, x.keep _ _ hT (a.notF ei fun es ep h => by rw [di] at h; cases h) ni ei, ci, di⟩, ⟨o, m, x.keep _ _ lT (a.notF e fun es ep h => by rw [d] at h; cases h) nl e, d⟩, nV, hd, rs.mono (WStep.v G a x fun b o hb eb => .inr ((hY b o hb eb).imp id And.left))⟩
  · rintro s cs a o ⟨k, vs, its, ⟨oi, ei, ci, di⟩, _⟩ rfl e
    rw [ei] at e; cases e; exact ⟨⟨_, di⟩, by rw [ci]; intro h; exact absurd (Value.type.inj h) (by decide)⟩
theorem g2V (G : Gr2 g) (V : List Addr) : Gr2 (g.wV V) := { glob := G.glob, blt := G.blt, gT := G.gT, bT := G.bT, lim := G.lim, limT := G.limT, tabF := G.tabF, tabK := G.tabK, tB := G.tB, tab0 := G.tab0 }
theorem Over.seq (G : Gr2 g) {A : Around} {s s' : Shared} {E : Value → Shared → Prop} {Q : Value → Shared → Prop} {l : Addr} {cs : List CV} (a : At g s)
    (hs : ∃ o vs m, s.heap.get? l = some o ∧ o.data = .seq (List.toArray vs) m ∧ Rps g.V s.heap cs vs) (hV : l ∉ g.V)
    (q : ∀ it s' (X : Addr → Prop) (J : List Addr → Shared → List CV → Prop), Step g s s' → (∀ V, (∀ a, X a → a ∉ V) → Iter prog w (g.wV V) n it X (J V)) → J g.V s' cs → (∀ a, X a → s.heap.get? a = none ∧ ∃ o, s'.heap.get? a = some o) → (∀ V a s cs, s.heap.get? a = none → J V s cs → J (a :: V) s cs) → Q it s') :
    Q (.ref s.heap.objs.size) { s with heap := s.heap.push { cls := .type "list_iterator", data := .fields #[.ref l, .int 0 0] } } := by
  obtain ⟨o, vs, m, e, d, rs⟩ := hs
  refine q _ _ _ (ListJ l s.heap.objs.size) (Step.push0 G.toGrOk) (fun V hV => listIter (l := l) (g2V G V) (At.fresh G a (Nat.le_refl _)) (hV _ rfl)) ⟨0, vs, List.toArray vs, ⟨_, Heap.get?_push_size _ rfl, rfl, rfl⟩, ⟨o, m, Heap.get?_push_of_some _ e, d⟩, hV, by simp, Rps.step G.toGrOk a (Step.push0 G.toGrOk) rs⟩ (fun q hq => ?_) ?_
  · subst hq
    refine ⟨?_, _, Heap.get?_push_size _ rfl⟩
    cases e : s.heap.get? s.heap.objs.size with
    | none => rfl
    | some o => exact absurd (Heap.lt_size e) (Nat.lt_irrefl _)
  · rintro V b s₁ cs hb ⟨k, vs, its, hit, ⟨o, m, e, d⟩, nV, hd, rs⟩
    exact ⟨k, vs, its, hit, ⟨o, m, e, d⟩, avoid_ hb e nV, hd, rs.avoid hb⟩
theorem Over.list {l : List CV} (G : Gr2 g) : Over prog w g n (.lst l) l := by
  intro A s v Q E k a r q
  obtain ⟨b, vs, m, rfl, nV, e, rs⟩ := r
  exact wpAny_pyIter_list ⟨_, e, rfl, m, rfl⟩ (Over.seq (s' := s) (A := A) (E := E) G a ⟨_, vs, m, e, rfl, rs⟩ nV q)
end
end Mine
end
section
open PySem PySem.W PySem.Calls PyProof.Rows
set_option maxRecDepth 100000
namespace Mine

section
variable {prog : Program} {w : World} {g : Gr} {n : Nat}

theorem FW.range {k : Nat} (G : Gr2 g) : FW prog w g n (.type "range") [.int k] (.rng k) := by
  rintro A s _ Q E ok a ⟨v, _, rfl, ⟨t, rfl⟩, rfl⟩ q
  exact call_range_1 (q _ _ (Step.push G.toGrOk) ⟨_, s.toks, t, s.toks + 1, rfl, At.out a, Heap.get?_push_size _ rfl⟩)

theorem rangeIter {it : Addr} (G : Gr2 g) (h0 : g.hd = none) (hn : g.hB.get? it = none) (ho : it ∉ g.V) :
    Iter prog w g n (.ref it) (fun q => q = it) (fun s cs => ∃ (x : Int) (k : Nat), IsRangeIter s.heap it x k 1 ∧ cs = (List.range k).map fun (i : Nat) => CV.int (x + (i : Int))) := by
  have ic : ∀ {s : Shared} {x left : Int}, IsRangeIter s.heap it x left 1 → ∀ o, s.heap.get? it = some o → ¬ Held o := fun {s x left} i o e => by
    rw [i] at e; cases e
    exact not_held rfl (fun q t h => by simp [rawInt] at h) (by simp)
  have inF : ∀ {s : Shared} {x left : Int}, At g s → IsRangeIter s.heap it x left 1 → it ∉ g.F := fun a i => a.notF i fun _ _ h => by cases h
  refine ⟨?_, ?_, fun A s cs Q E ok a ⟨x, k, hit, _⟩ q => wpAny_pyIter_rangeiter hit q, fun s s' cs ⟨x, k, hit, hc⟩ kk => ⟨x, k, kk _ _ hit, hc⟩, ?_, ?_, fun a h => h ▸ hn, fun a h => h ▸ ho, fun s cs a ⟨y, k, hit, hc⟩ h => by subst h; exact ⟨_, hit⟩⟩
  · rintro A s c cs target Q E _ ok a ⟨x, k, hit, hc⟩ q
    cases k with
    | zero => simp at hc
    | succ k =>
      rw [List.range_succ_eq_map, List.map_cons, List.map_map] at hc
      injection hc with h1 h2
      refine wpAny_pyNext_range_item hit (by omega) fun h' hit' hs => ?_
      have ww : WStep g (fun q => q = it) s { s with heap := h', toks := s.toks + 1 } := WStep.one G (inF a hit) (ic hit) hs.extBut
      have hit'' : IsRangeIter h' it (x + 1) (k : Int) 1 := by
        have e : ((k + 1 : Nat) : Int) - 1 = (k : Int) := by omega
        rw [e] at hit'; exact hit'
      have done := q (.int x s.toks) { s with heap := h', toks := s.toks + 1 } ww ⟨x + 1, k, hit'', by
        rw [h2]; refine List.map_congr_left fun i _ => ?_
        show CV.int (x + ((i + 1 : Nat) : Int)) = CV.int (x + 1 + i)
        congr 1; omega⟩ (by rw [h1]; exact ⟨s.toks, by simp⟩)
      show wpAny (model prog w) A (letOwnedTupleGo target (.ref it) (.int x s.toks)) _ E _
      have plain : ∀ {t : Sem Unit}, t = pure () → wpAny (model prog w) A t (fun _ s₂ => Q (.int x s.toks) s₂) E { s with heap := h', toks := s.toks + 1 } := fun {t} ht => by rw [ht]; exact wpAny_pure done
      cases target <;> exact plain rfl
  · rintro A s Q E ok a ⟨x, k, hit, hc⟩ q
    cases k with
    | succ k => rw [List.range_succ_eq_map] at hc; simp at hc
    | zero => exact wpAny_pyNext_range_end (ok.hh h0) hit (by simp) fun h' hs => q { s with heap := h' } (WStep.one G (t := s.toks) (inF a hit) (ic hit) hs)
  · rintro s s' cs Y a x hY ⟨y, k, hit, hc⟩
    have ni : ¬ Y it := fun hy => by
      rcases hY it _ hy hit with h | ⟨_, vs', m', d'⟩
      · exact not_mut_fields hit rfl h
      · cases d'
    have hT : it ∉ g.T := fun h => by
      obtain ⟨o', eo⟩ := G.tB it h
      rw [hn] at eo; cases eo
    exact ⟨y, k, x.keep _ _ hT (inF a hit) ni hit, hc⟩
  · rintro s cs a o ⟨y, k, hit, hc⟩ rfl e
    rw [hit] at e; cases e
    exact ⟨⟨_, rfl⟩, fun h => absurd (Value.type.inj h) (by decide)⟩

theorem Over.range {k : Nat} (G : Gr2 g) (h0 : g.hd = none) (hk : k < 10000) : Over prog w g n (.rng k) ((List.range k).map fun (i : Nat) => .int i) := by
  intro A s v Q E ok a r q
  obtain ⟨b, t, u, z, rfl, _, hr⟩ := r
  have hz : Builtin.Range.rangeSize 0 k 1 = k := by
    unfold Builtin.Range.rangeSize
    rw [if_pos (by decide)]
    split <;> omega
  refine wpAny_pyIter_range hr (by
    unfold Builtin.Range.small Builtin.Range.rangeFitsLong
    simp only [hz, Bool.and_eq_true, decide_eq_true_eq]
    refine ⟨⟨⟨⟨?_, ?_⟩, ?_⟩, ?_⟩, ?_⟩ <;> first | omega | (constructor <;> omega) | (rw [if_pos (by decide), Bool.or_eq_true]; right; simp only [Bool.and_eq_true, decide_eq_true_eq]; constructor <;> omega)) ?_
  simp only [hz]
  refine q _ _ _ (fun _ s₁ cs => ∃ (x : Int) (k : Nat), IsRangeIter s₁.heap s.heap.objs.size x k 1 ∧ cs = (List.range k).map fun (i : Nat) => CV.int (x + (i : Int))) (Step.push0 G.toGrOk) (fun V hV => rangeIter (g2V G V) h0 (At.fresh G a (Nat.le_refl _)) (hV _ rfl)) ⟨0, k, Heap.get?_push_size _ rfl, by simp⟩ (fun q hq => ?_) fun _ _ _ _ _ j => j
  subst hq
  refine ⟨?_, _, Heap.get?_push_size _ rfl⟩
  cases e : s.heap.get? s.heap.objs.size with
  | none => rfl
  | some o => exact absurd (Heap.lt_size e) (Nat.lt_irrefl _)
end

section
variable {prog : Program} {w : World} {g : Gr} {fi : FI} {n : Nat} {σ τ : Loc}
theorem EV.sub_ (h : ∀ p ∈ τ, p ∈ σ) {e : Expr} {c : CV} (x : EV prog w g fi n τ e c) : EV prog w g fi n σ e c := fun A env s Q E k F q => x A env s Q E k (F.sub h) q
theorem ET.sub_ (h : ∀ p ∈ τ, p ∈ σ) {e : Expr} {b : Bool} (x : ET prog w g fi n τ e b) : ET prog w g fi n σ e b := fun A env s Q E k F q => x A env s Q E k (F.sub h) q
theorem EX.sub_ (h : ∀ p ∈ τ, p ∈ σ) {ss : List Stmt} {Φ : AF → Prop} (x : EX prog w g fi n τ ss Φ) : EX prog w g fi n σ ss Φ := fun A env s Q E k F q => x A env s Q E k (F.sub h) q
theorem EX1.sub_ (h : ∀ p ∈ τ, p ∈ σ) {st : Stmt} {Φ : AF → Prop} (x : EX1 prog w g fi n τ st Φ) : EX1 prog w g fi n σ st Φ := fun A env s Q E k F q => x A env s Q E k (F.sub h) q
theorem AS.sub_ (h : ∀ p ∈ τ, p ∈ σ) {t : Expr} {c : CV} {σ' : Loc} (x : AS prog w g fi n τ t c σ') : AS prog w g fi n σ t c σ' := fun A env s v Q E k F r q => x A env s v Q E k (F.sub h) r q
/-- a loop by an invariant over the items that are left -/
theorem Loop.ind {target : Expr} {body : List Stmt} {Φ : AF → Prop} (P : List CV → Loc → Prop) (h0 : ∀ σ, P [] σ → Φ (.next σ))
    (h1 : ∀ c cs σ, P (c :: cs) σ → ∃ σ₁, AS prog w g fi n σ target c σ₁ ∧ EX prog w g fi n σ₁ body fun af => match af with
      | .next σ' | .cont σ' => P cs σ'
      | .brk σ' => Φ (.next σ')
      | .ret c => Φ (.ret c)
      | .exc T => Φ (.exc T)) : ∀ (cs : List CV) (σ : Loc), P cs σ → Loop prog w g fi n target body Φ cs σ
  | [], σ, p => h0 σ p
  | c :: cs, σ, p => by
    obtain ⟨σ₁, a, b⟩ := h1 c cs σ p
    refine ⟨σ₁, a, b.mono fun af h => ?_⟩
    cases af with
    | next σ' => exact Loop.ind P h0 h1 cs σ' h
    | cont σ' => exact Loop.ind P h0 h1 cs σ' h
    | brk σ' => exact h
    | ret c => exact h
    | exc T => exact h
end
end Mine
end
section
open PySem PySem.W PySem.Calls PyProof.Rows
set_option maxRecDepth 100000
namespace Mine

def relab (scope outer : Scope) : Scope :=
  { scope with names := scope.names.map fun (n, k) => if (k == .free && outer.kind == .function && outer.names.lookup n == some .cell) then (n, .cell) else (n, k) }
abbrev cfi (scope : Scope) (fi : FI) : FI := ⟨relab scope fi.scope, fi.qual, none, fi.code, false⟩
theorem relab_eq {scope : Scope} {fi : FI} {env : Env} (h : env.scope = fi.scope) : relabel scope env = relab scope fi.scope := by
  unfold relabel relab Env.kindOf; rw [h]

def closGo (env : Env) : List (Str × NameKind) → List (Str × Addr) → List (Str × Addr)
  | [], acc => acc
  | (n, k) :: r, acc => if k = .free then (match env.cells.lookup n with | some c => closGo env r ((n, c) :: acc) | none => closGo env r acc) else closGo env r acc
theorem closGo_mem {env : Env} : ∀ (names : List (Str × NameKind)) (acc : List (Str × Addr)) (x : Str) (c : Addr), (x, c) ∈ closGo env names acc → (x, c) ∈ acc ∨ env.cells.lookup x = some c
  | [], _, _, _, h => .inl h
  | (n, k) :: r, acc, x, c, h => by
    unfold closGo at h
    split at h
    · split at h
      · rename_i c' e
        rcases closGo_mem r _ x c h with h | h
        · rcases List.mem_cons.mp h with q | h
          · cases q; exact .inr e
          · exact .inl h
        · exact .inr h
      · exact closGo_mem r acc x c h
    · exact closGo_mem r acc x c h
theorem closGo_has {env : Env} {x : Str} {c : Addr} (hc : env.cells.lookup x = some c) : ∀ (names : List (Str × NameKind)) (acc : List (Str × Addr)), ((x, .free) ∈ names ∨ (x, c) ∈ acc) → (x, c) ∈ closGo env names acc
  | [], _, h => h.elim (fun h => by cases h) id
  | (n, k) :: r, acc, h => by
    unfold closGo
    split
    · rename_i hk
      subst hk
      split
      · rename_i c' e
        refine closGo_has hc r _ ?_
        rcases h with h | h
        · rcases List.mem_cons.mp h with q | h
          · cases q
            rw [hc] at e; cases e
            exact .inr (.head _)
          · exact .inl h
        · exact .inr (.tail _ h)
      · rename_i e
        refine closGo_has hc r _ (h.imp (fun h => ?_) id)
        rcases List.mem_cons.mp h with q | h
        · cases q; rw [hc] at e; cases e
        · exact h
    · rename_i hk
      refine closGo_has hc r _ (h.imp (fun h => ?_) id)
      rcases List.mem_cons.mp h with q | h
      · cases q; exact absurd rfl hk
      · exact h
theorem lookup_of_mem_same {cl : List (Str × Addr)} {x : Str} {c : Addr} (hm : (x, c) ∈ cl) (hs : ∀ c', (x, c') ∈ cl → c' = c) : cl.lookup x = some c := by
  induction cl with
  | nil => cases hm
  | cons p r ih =>
    obtain ⟨y, d⟩ := p
    rw [List.lookup_cons]
    cases hb : x == y with
    | true =>
      have := beq_iff_eq.mp hb
      subst this
      rw [hs d (.head _)]
    | false =>
      rcases List.mem_cons.mp hm with q | hm
      · cases q; simp at hb
      · exact ih hm fun c' h => hs c' (.tail _ h)
theorem closGo_lookup {env : Env} {names : List (Str × NameKind)} {x : Str} {c : Addr} (hc : env.cells.lookup x = some c) (hf : (x, .free) ∈ names) : (closGo env names []).lookup x = some c := by
  refine lookup_of_mem_same (closGo_has hc names [] (.inl hf)) fun c' h => ?_
  rcases closGo_mem names [] x c' h with h | h
  · cases h
  · rw [hc] at h; cases h; rfl
theorem closureFor_go {scope : Scope} {env : Env} (h : ∀ x, (x, .free) ∈ scope.names → ∃ c, env.cells.lookup x = some c) : closureFor scope env = pure (closGo env scope.names []) := by
  have key : ∀ (names : List (Str × NameKind)) (acc : List (Str × Addr)) (f : Str × NameKind → List (Str × Addr) → Sem (ForInStep (List (Str × Addr)))),
      (∀ n k cs, f (n, k) cs = if k == .free then (do let a ← cellOf env n; pure (.yield ((n, a) :: cs))) else pure (.yield cs)) → (∀ x, (x, .free) ∈ names → ∃ c, env.cells.lookup x = some c) →
      forIn names acc f = (pure (closGo env names acc) : Sem _) := by
    intro names
    induction names with
    | nil => intro acc f _ _; rfl
    | cons p r ih =>
      intro acc f hf h
      obtain ⟨n, k⟩ := p
      rw [List.forIn_cons, hf]
      unfold closGo
      by_cases hk : k = .free
      · subst hk
        obtain ⟨c, hc⟩ := h n (.head _)
        have hco : cellOf env n = pure c := by unfold cellOf; rw [hc]
        rw [if_pos rfl, hc, hco]
        exact ih _ f hf fun x hx => h x (.tail _ hx)
      · rw [if_neg (by simpa using hk), if_neg hk]
        exact ih _ f hf fun x hx => h x (.tail _ hx)
  have : closureFor scope env = (forIn scope.names [] (fun (p : Str × NameKind) (cs : List (Str × Addr)) => (match p with | (name, kind) => if kind == .free then (do let a ← cellOf env name; pure (ForInStep.yield ((name, a) :: cs))) else pure (.yield cs) : Sem (ForInStep (List (Str × Addr))))) >>= fun cs => pure cs) := rfl
  rw [this, key scope.names [] _ (fun _ _ _ => rfl) h]
  rfl

theorem stepV {g : Gr} {V : List Addr} {s s' : Shared} (x : Step (g.wV V) s s') : Step g s s' := ⟨x.keep, x.keepF, x.tab, x.gens, x.drawn, x.os, x.tk⟩
theorem stepV' {g : Gr} {V : List Addr} {s s' : Shared} (x : Step g s s') : Step (g.wV V) s s' := ⟨x.keep, x.keepF, x.tab, x.gens, x.drawn, x.os, x.tk⟩
theorem wstepV {g : Gr} {V : List Addr} {X : Addr → Prop} {s s' : Shared} (x : WStep (g.wV V) X s s') : WStep g X s s' := ⟨x.keep, x.keepF, x.frs, x.tab, x.gens, x.drawn, x.os, x.tk⟩

section
variable (prog : Program) (w : World) (g : Gr) (fi : FI) (n : Nat)
def EIfs (σ : Loc) (ifs : List Expr) (b : Bool) : Prop := ∀ A env s Q E, OkA g.fr g.hd A n → Fm g fi env s σ → (∀ s', Step g s s' → Q b s') →
  wpAny (model prog w) A (forIn ifs true fun c r => if r = true then do let ok ← isTrue c env (eval c env); pure (ForInStep.yield ok) else pure (ForInStep.yield r)) Q E s
def CompOk (σ : Loc) (target : Expr) (ifs : List Expr) (elt : Expr) : List CV → List CV → Prop
  | [], out => out = []
  | c :: cs, out => ∃ σ₁ b, AS prog w g fi n σ target c σ₁ ∧ (∀ p ∈ σ, p ∈ σ₁) ∧ EIfs prog w g fi n σ₁ ifs b ∧ (b = true → ∃ d o, out = d :: o ∧ EV prog w g fi n σ₁ elt d ∧ CompOk σ target ifs elt cs o) ∧ (b = false → CompOk σ target ifs elt cs out)
end
theorem EIfs.nil {prog : Program} {w : World} {g : Gr} {fi : FI} {n : Nat} {σ : Loc} : EIfs prog w g fi n σ [] true := fun _ _ _ _ _ _ _ q => wpAny_pure (q _ .refl)
theorem EIfs.one {prog : Program} {w : World} {g : Gr} {fi : FI} {n : Nat} {σ : Loc} {e : Expr} {b : Bool} (h : ET prog w g fi n σ e b) : EIfs prog w g fi n σ [e] b := by
  intro A env s Q E k F q
  rw [List.forIn_cons]
  simp only [if_true]
  refine wpAny_bind (wpAny_bind (h A env s _ E k F fun s' x => wpAny_pure ?_))
  exact wpAny_pure (q s' x)

section
variable {prog : Program} {w : World} {g : Gr} (G : Gr2 g) {fi : FI} {n : Nat} {τ : Loc}
include G

/-- a list under way grows -/
theorem app_step {env : Env} {s : Shared} {D : Addr} {h' : Heap} {t : Nat} (F : Fm g fi env s τ) (hV : D ∈ g.V) {o : Obj} {vs : Array Value} {m : Nat} (ho : s.heap.get? D = some o) (hd : o.data = .seq vs m) (hc : o.cls = .type "list") (hs : Heap.SameBut D s.heap h') (hn : ∃ o, h'.get? D = some o) (htk : s.toks ≤ t := by first | exact Nat.le_refl _ | exact Nat.le_succ _ | assumption | omega) :
    Fm g fi env { s with heap := h', toks := t } τ ∧ WStep g (fun q => q = D) s { s with heap := h', toks := t } := by
  have ww : WStep g (fun q => q = D) s { s with heap := h', toks := t } := by
    refine ⟨fun b o _ _ nb e => (hs.2 b nb).trans e, fun b o _ nb e => ⟨o.slots, (hs.2 b nb).trans e⟩, fun L hL f => f.data fun o eo => ⟨o.slots, (hs.2 L fun q => F.at_.notFs ho hd (q ▸ hL)).trans eo⟩, fun ht => G.tabK _ _ (fun b o' e hk => have hf := hk.fields; ?_) ht, ⟨#[], by simp, AllBare.empty⟩, rfl, rfl, htk⟩
    refine (hs.2 b fun q => ?_).trans e
    subst q
    rw [ho] at e; cases e
    obtain ⟨vs', hf⟩ := hf
    rw [hd] at hf; cases hf
  have kv : KeepsV g.V s.heap h' := fun b o e nv _ _ => (hs.2 b fun q => nv (q ▸ hV)).trans e
  have nD : ∀ {b o'}, s.heap.get? b = some o' → (∀ vs m, o'.data ≠ .seq vs m) → h'.get? b = some o' := fun {b o'} e h => (hs.2 b fun q => by subst q; rw [ho] at e; cases e; exact h _ _ hd).trans e
  have ki : ∀ {c v}, s.heap.IsCell c v → h'.IsCell c v := fun {c v} ⟨o, e, d⟩ => ⟨o, nD e (fun _ _ q => by rw [d] at q; cases q), d⟩
  refine ⟨?_, ww⟩
  obtain ⟨mm, hns, hp, hh⟩ := F.ns
  refine { F with ns := ⟨mm, ?_, hp, fun p hm => ?_⟩, cells := fun y hm hy => ?_, at_ := ⟨fun b o n e => ?_, ww.tab F.at_.tab, fun b hb => ⟨(F.at_.vol b hb).1, ?_⟩, Nat.le_trans F.at_.pos ww.tk, fun e he => ?_, fun e he => ?_⟩ }
  · obtain ⟨o', es, ep, e, d, r⟩ := hns
    exact ⟨o', es, ep, nD e (fun _ _ q => by rw [d] at q; cases q), d, r⟩
  · obtain ⟨v, r, k⟩ := hh p hm
    exact ⟨v, r.mono kv, k.imp id fun ⟨k1, c, k2, k3⟩ => ⟨k1, c, k2, ki k3⟩⟩
  · obtain ⟨c, v, e, i⟩ := F.cells y hm hy
    exact ⟨c, v, e, ki i⟩
  · have e' := F.at_.keep b o n e
    by_cases hb : b = D
    · subst hb
      exfalso
      rw [(F.at_.vol b hV).1.2] at e; cases e
    · exact (hs.2 b hb).trans e'
  · by_cases hbD : b = D
    · subst hbD; exact hn
    · obtain ⟨o', e'⟩ := (F.at_.vol b hb).2
      exact ⟨o', (hs.2 b hbD).trans e'⟩
  · obtain ⟨k, L, hL, hB, n⟩ := F.at_.frs e he
    exact ⟨k, L, hL, hB, ww.frs L (List.mem_filterMap.mpr ⟨e, he, hL⟩) n⟩
  · obtain ⟨hv, o', vs', eo, d', v2⟩ := F.at_.hdv e he
    exact ⟨hv, o', vs', nD eo (fun _ _ h => by rw [d'] at h; cases h), d', v2⟩

theorem compLoop_ok {it : Value} {X : Addr → Prop} {J : Shared → List CV → Prop} {b : Bool} (I : Iter prog w g n it X J b) {target iter elt : Expr} {ifs : List Expr} {scope : Scope} {pos : Pos} {env : Env} {A : Around} (hb : b = true → TupT target) (a : OkA g.fr g.hd A n) {D : Addr} (hV : D ∈ g.V) :
    ∀ (cs ds done : List CV) (vs : List Value) (s : Shared) (R : Result → Shared → Prop), CompOk prog w g fi n τ target ifs elt cs ds → Fm g fi env s τ → J s cs → s.heap.PlainList D (List.toArray vs) → Rps g.V s.heap done vs → vs.length + cs.length ≤ 10000 →
      (∀ s' us, WStep g (fun q => Own fi env q ∨ X q ∨ q = D) s s' → Fm g fi env s' τ → s'.heap.PlainList D (List.toArray us) → Rps g.V s'.heap (done ++ ds) us → R (.ok .next) s') →
      codeAny (model prog w) A (.compLoop (.ListComp elt [⟨target, iter, ifs, 0⟩] scope pos) 0 it (.ref D) env) R s := by
  have hD : ∀ {s : Shared} {vs : Array Value}, s.heap.PlainList D vs → ∀ a o, a = D → s.heap.get? a = some o → Mut s.heap a ∨ (a ∈ g.V ∧ ∃ vs m, o.data = .seq vs m) := fun {s vs} ⟨m, e⟩ a o h e' => by
    subst h; rw [e] at e'; cases e'; exact .inr ⟨hV, _, _, rfl⟩
  have nT : ∀ {s : Shared}, At g s → D ∉ g.T := fun a => (a.vol D hV).1.1
  intro cs
  induction cs with
  | nil =>
    intro ds done vs s R L F j hP rs _ q
    refine codeAny_of_tree ?_
    show wpAny _ A ((compTurn (.ListComp elt [⟨target, iter, ifs, 0⟩] scope pos) 0 it (.ref D) env).onRaise (fun x => do noteFrame x env; theTreesLotGoes x)) _ _ s
    refine wpAny_onRaise ?_
    rw [compTurn_list]
    refine wpAny_bind (wpAny_standAt (wpAny_bind ?_))
    refine wpAny_mono (I.fin A s (fun s' => WStep g X s s') (fun _ _ => False) a F.at_ j fun s' x => x) (fun r s₁ h => ?_) fun _ _ h => h.elim
    cases r with
    | some v => exact h.elim
    | none =>
      have F₁ := Fm.fields G F h I.new I.out fun b o hx e => I.fld _ _ _ _ j hx e
      obtain ⟨m, e⟩ := hP
      have nX : ¬ X D := fun hx => (I.out D hx) hV
      have e₁ := h.keep D _ (nT F.at_) (F.at_.notFs e rfl) nX e
      have hds : ds = [] := L
      subst hds
      refine wpAny_pure (q s₁ vs (h.mono fun _ z => .inr (.inl z)) F₁ ⟨m, e₁⟩ ?_)
      rw [List.append_nil]
      exact rs.mono (WStep.v G F.at_ h fun b o hx e => .inl (I.fld _ _ _ _ j hx e))
  | cons c cs ih =>
    intro ds done vs s R L F j hP rs hlen q
    obtain ⟨τ₁, b, hA, hsub, hI, h1, h2⟩ := L
    refine codeAny_of_tree ?_
    show wpAny _ A ((compTurn (.ListComp elt [⟨target, iter, ifs, 0⟩] scope pos) 0 it (.ref D) env).onRaise (fun x => do noteFrame x env; theTreesLotGoes x)) _ _ s
    refine wpAny_onRaise ?_
    rw [compTurn_list]
    refine wpAny_bind (wpAny_standAt (wpAny_bind ?_))
    refine wpAny_mono (I.turn A s c cs target (fun v s' => WStep g X s s' ∧ J s' cs ∧ Rp g.V s'.heap c v) (fun _ _ => False) hb a F.at_ j fun v s' x j' r => ⟨x, j', r⟩) (fun r s₁ h => ?_) fun _ _ h => h.elim
    cases r with
    | none => exact h.elim
    | some v =>
      refine wpAny_bind (wpAny_mono h (fun _ s₂ h₂ => ?_) fun _ _ h => h.elim)
      obtain ⟨x, j₂, r⟩ := h₂
      have F₂ := Fm.fields G F x I.new I.out fun b o hx e => I.fld _ _ _ _ j hx e
      have rs₂ := rs.mono (WStep.v G F.at_ x fun b o hx e => .inl (I.fld _ _ _ _ j hx e))
      have nX : ¬ X D := fun hx => (I.out D hx) hV
      obtain ⟨m, eD⟩ := hP
      have eD₂ := x.keep D _ (nT F.at_) (F.at_.notFs eD rfl) nX eD
      refine wpAny_bind (hA A env s₂ v _ _ a F₂ r fun s₃ x₃ F₃ => ?_)
      have j₃ := I.keep _ _ _ _ F₂.at_ x₃ (fun b o hb _ => .inl (own_mut G F₂ b hb)) j₂
      have rs₃ := rs₂.mono (WStep.v G F₂.at_ x₃ fun b o hb e => .inr (.inl (own_mut G F₂ b hb)))
      have eD₃ := x₃.keep D _ (nT F.at_) (F₂.at_.notFs eD₂ rfl) (fun ho => F₂.out D ho hV) eD₂
      refine wpAny_bind (hI A env s₃ _ _ a F₃ fun s₄ x₄ => ?_)
      have F₄ := F₃.step G.toGrOk x₄
      have j₄ := I.keep _ _ _ _ F₃.at_ (x₄.w (X := fun _ => False)) (fun _ _ h _ => h.elim) j₃
      have rs₄ := Rps.step G.toGrOk F₃.at_ x₄ rs₃
      have eD₄ := x₄.keep D _ (nT F.at_) (F₃.at_.notFs eD₃ rfl) eD₃
      have w₄ : WStep g (fun q => Own fi env q ∨ X q ∨ q = D) s s₄ := ((x.mono fun _ z => .inr (.inl z)).trans (x₃.mono fun _ z => .inl z)).trans x₄.w
      cases b with
      | false =>
        refine wpAny_pure ⟨rfl, ih ds done vs s₄ R (h2 rfl) (F₄.sub hsub) j₄ ⟨m, eD₄⟩ rs₄ (by simp only [List.length_cons] at hlen; omega) fun s' us y F' hP' rs' => q s' us (w₄.trans y) F' hP' rs'⟩
      | true =>
        obtain ⟨d, o, rfl, hE, hR⟩ := h1 rfl
        refine wpAny_bind (wpAny_bind (hE A env s₄ _ _ a F₄ fun u s₅ x₅ r₅ => ?_))
        have F₅ := F₄.step G.toGrOk x₅
        have j₅ := I.keep _ _ _ _ F₄.at_ (x₅.w (X := fun _ => False)) (fun _ _ h _ => h.elim) j₄
        have rs₅ := Rps.step G.toGrOk F₄.at_ x₅ rs₄
        have eD₅ := x₅.keep D _ (nT F.at_) (F₄.at_.notFs eD₄ rfl) eD₄
        refine wpAny_bind (wpAny_list_append_plain ⟨m, eD₅⟩ (fun h' hP' hs' => wpAny_pure (wpAny_pure ⟨rfl, ?_⟩)) (by rw [List.size_toArray]; show vs.length ≤ 2 ^ 24; simp only [List.length_cons] at hlen; omega))
        obtain ⟨m', eD'⟩ := hP'
        obtain ⟨F₆, w₆⟩ := app_step G (t := s₅.toks) F₅ hV eD₅ rfl rfl hs' ⟨_, eD'⟩
        have j₆ := I.keep _ _ _ _ F₅.at_ w₆ (hD ⟨m, eD₅⟩) j₅
        have kv : KeepsV g.V s₅.heap h' := fun b o e nv _ _ => (hs'.2 b fun q => nv (q ▸ hV)).trans e
        refine ih o (done ++ [d]) (vs ++ [u]) { s₅ with heap := h' } R hR (F₆.sub hsub) j₆ ⟨m', by rw [eD']; simp⟩ ((rs₅.snoc r₅).mono kv) (by simp only [List.length_cons, List.length_append, List.length_nil] at hlen ⊢; omega) fun s' us y F' hP' rs' => ?_
        refine q s' us ((w₄.trans (x₅.w.trans (w₆.mono fun _ z => .inr (.inr z)))).trans y) F' hP' ?_
        rw [List.append_assoc] at rs'
        exact rs'
end
end Mine
end
section
open PySem PySem.W PySem.Calls PyProof.Rows
set_option maxRecDepth 100000
namespace Mine

/-- what a comprehension's own names are -/
structure CompSc (scope : Scope) (fi : FI) (τ : Loc) : Prop where
  kind : scope.kind = .function
  nocell : ∀ p ∈ scope.names, p.2 ≠ .cell
  loc : ∀ x ∈ scope.names, x.2 = .local → scope.names.lookup x.1 = some .local
  free : ∀ p ∈ scope.names, p.2 = .free → fi.scope.names.lookup p.1 = some .cell
  mine : fi.mine = true
  facts : ∀ p ∈ τ, (p.1, .free) ∈ scope.names ∧ (relab scope fi.scope).names.lookup p.1 = some .cell

section
variable {prog : Program} {w : World} {g : Gr} (G : Gr2 g) {fi : FI} {n : Nat} {σ τ : Loc}
include G

theorem compEnv_ok {scope : Scope} {env : Env} {s : Shared} {M : Model} {A : Around} {E : Value → Shared → Prop} {Q : Env → Shared → Prop} (C : CompSc scope fi τ) (F : Fm g fi env s σ) (hτ : ∀ p ∈ τ, p ∈ σ) {cl : List (Str × Addr)} (hcl : cl = closGo env scope.names [])
    (q : ∀ s' cenv, Step g s s' → Fm g (cfi scope fi) { cenv with scope := relabel scope env } s' τ → (∀ a, Own (cfi scope fi) { cenv with scope := relabel scope env } a → s.heap.get? a = none) → (∃ m, s'.heap.Ns cenv.locals m) → Q cenv s') :
    wpAny M A (newFunctionEnv scope env.globals cl [] env.qual none .none (some env)) Q E s := by
  simp only [newFunctionEnv, Option.isSome_some, if_true]
  refine wpAny_bind (wpAny_alloc ?_)
  refine wpAny_bind (wpAny_layCells _ (fun name kind cells => by cases hkc : kind == NameKind.cell <;> simp) _ _ _ _ ?_)
  rw [show ({ s with heap := s.heap.push { cls := .type "dict", data := .dict #[] } } : Shared).heap.objs.size = s.heap.objs.size + 1 from Heap.size_push ..]
  have noc : ∀ (names : List (Str × NameKind)) (n : Nat) (acc : List (Str × Addr)) (h : Heap), (∀ p ∈ names, p.2 ≠ .cell) → cellsFrom n names acc = acc ∧ pushCells h names = h := by
    intro names
    induction names with
    | nil => intro _ _ _ _; exact ⟨rfl, rfl⟩
    | cons p r ih =>
      intro n acc h hn
      obtain ⟨x, k⟩ := p
      have hk : (k == NameKind.cell) = false := by simpa using hn _ (.head _)
      unfold cellsFrom pushCells
      rw [if_neg (by rw [hk]; exact Bool.false_ne_true), if_neg (by rw [hk]; exact Bool.false_ne_true)]
      exact ih n acc h fun p hp => hn p (.tail _ hp)
  rw [(noc _ _ _ s.heap C.nocell).1, (noc _ 0 [] _ C.nocell).2]
  refine wpAny_bind ?_
  rw [List.forIn_nil]
  refine wpAny_pure (wpAny_pure ?_)
  have x1 : Step g s { s with heap := s.heap.push { cls := .type "dict", data := .dict #[] } } := Step.push0 G.toGrOk
  have F' := F.step G.toGrOk x1
  have fresh : s.heap.get? s.heap.objs.size = none := by
    cases e : s.heap.get? s.heap.objs.size with
    | none => rfl
    | some o => exact absurd (Heap.lt_size e) (Nat.lt_irrefl _)
  have ownC : ∀ a, Own (cfi scope fi) { (⟨scope, s.heap.objs.size, env.globals, cl, env.qual, none, env.code, env.frame, env.builtins⟩ : Env) with scope := relabel scope env } a → a = s.heap.objs.size := fun a h => by
    rcases h with h | ⟨x, hm, _⟩
    · exact h
    · cases hm
  refine q _ _ x1 ⟨?_, C.kind, F.gl, F.bi, rfl, F.cd, F.ql, fun a h => ?_, fun a h => ?_, fun x y c hx hy => ?_, ⟨_, Heap.Ns.new s.heap (.type "dict"), rfl, fun p hp => ?_⟩, fun x hm => (by cases hm), F'.at_, fun h => nomatch h⟩ (fun a h => ?_) ⟨_, Heap.Ns.new s.heap (.type "dict")⟩
  · exact relab_eq F.sc
  · rw [ownC a h]; exact At.fresh G F.at_ (Nat.le_refl _)
  · rw [ownC a h]; exact At.out F.at_
  · subst hcl
    rcases closGo_mem _ _ _ _ (mem_of_lookup hx) with h | h
    · cases h
    · rcases closGo_mem _ _ _ _ (mem_of_lookup hy) with h' | h'
      · cases h'
      · exact F.inj _ _ _ h h'
  · obtain ⟨m, hn, hp', hh⟩ := F'.ns
    obtain ⟨v, r, k⟩ := hh p (hτ p hp)
    obtain ⟨f1, f2⟩ := C.facts p hp
    have hc := C.free _ f1 rfl
    rcases k with ⟨k, _⟩ | ⟨_, c, k2, k3⟩
    · rw [hc] at k; cases k
    · subst hcl
      exact ⟨v, r, .inr ⟨.inl f2, c, closGo_lookup k2 f1, k3⟩⟩
  · rw [ownC a h]; exact fresh

/-- the comprehension's run -/
theorem comp_core {elt target iter : Expr} {ifs : List Expr} {scope : Scope} {pos pos' : Pos} {cs ds : List CV} {use : Option (Value → Sem Unit)} {A : Around} {env : Env} {s : Shared} {E : Value → Shared → Prop} {Q : Value → Shared → Prop}
    (a : OkA g.fr g.hd A n) (F : Fm g fi env s σ) {b : Bool} (hi : EO prog w g fi n σ iter cs b) (hb : b = true → TupT target) (C : CompSc scope fi τ) (hτ : ∀ p ∈ τ, p ∈ σ) (hl : cs.length ≤ 10000)
    (h : ∀ D, CompOk prog w (g.wV (D :: g.V)) (cfi scope fi) n τ target ifs elt cs ds)
    (hs : ∀ env x, foldedSetIterable iter env x = pure x)
    (q : ∀ acc C s₄, Step g s s₄ → Rp g.V s₄.heap (.lst ds) acc → (∃ m, s₄.heap.Ns C m ∧ m ("provided" : Str) = none) → s.heap.get? C = none → C ∉ g.V → g.hB.get? C = none → compPost (model prog w) A E use Q acc C (.ok .next) s₄) :
    wpAny (model prog w) A (comprehension (.ListComp elt [⟨target, iter, ifs, 0⟩] scope pos) scope env pos' (newList []) false (eval iter env) use) Q E s := by
  have hfr : ∀ x, (x, NameKind.free) ∈ scope.names → ∃ c, env.cells.lookup x = some c := fun x hx => by
    obtain ⟨c, v, e, _⟩ := F.cells x C.mine (C.free _ hx rfl)
    exact ⟨c, e⟩
  refine wpAny_comprehension_free (g := ⟨target, iter, ifs, 0⟩) (gs := []) rfl (hs env) (closureFor_go hfr) C.kind C.loc ?_
  refine hi A env s _ E a F fun v s₁ _ ov => ?_
  refine ov A _ E a fun it s₂ X J x₂ I j hX lift => ?_
  have x₁ : Step g s s := .refl
  refine wpAny_newList ?_ (by decide)
  have F₂ := F.step G.toGrOk (x₁.trans x₂)
  have fresh : ∀ {h : Heap}, h.get? h.objs.size = none := fun {h} => by
    cases e : h.get? h.objs.size with
    | none => rfl
    | some o => exact absurd (Heap.lt_size e) (Nat.lt_irrefl _)
  let D := s₂.heap.objs.size
  let s₃ : Shared := { s₂ with heap := s₂.heap.push { cls := .type "list", data := .seq #[] } }
  have eD : s₃.heap.get? D = some { cls := .type "list", data := .seq #[] } := Heap.get?_push_size _ rfl
  have x₃ : Step g s₂ s₃ := Step.push0 G.toGrOk
  have G' := g2V G (D :: g.V)
  have hBD : g.hB.get? D = none := At.fresh G F₂.at_ (Nat.le_refl _)
  have nTD : D ∉ g.T := fun hT => by
    obtain ⟨o, e⟩ := G.tB D hT
    rw [hBD] at e; cases e
  have at₃ : At (g.wV (D :: g.V)) s₃ := ⟨(F₂.at_.step x₃).keep, (F₂.at_.step x₃).tab, fun b hb => by
    rcases List.mem_cons.mp hb with rfl | hb
    · exact ⟨⟨nTD, hBD⟩, _, eD⟩
    · exact (F₂.at_.step x₃).vol b hb, (F₂.at_.step x₃).pos, (F₂.at_.step x₃).frs, fun e he => ⟨.tail _ ((F₂.at_.step x₃).hdv e he).1, ((F₂.at_.step x₃).hdv e he).2⟩⟩
  -- the frame, with the new list out of sight
  have F₃ : Fm (g.wV (D :: g.V)) fi env s₃ σ := by
    have Fa := F₂.step G.toGrOk x₃
    obtain ⟨m, hn, hp, hh⟩ := F₂.ns
    refine { sc := Fa.sc, fk := Fa.fk, gl := Fa.gl, bi := Fa.bi, fn := Fa.fn, cd := Fa.cd, ql := Fa.ql, own := Fa.own, inj := Fa.inj, cells := Fa.cells, at_ := at₃, top := Fa.top, out := fun b hb hV => ?_, ns := ⟨m, ns_keeps G.toGrOk F₂.at_ x₃ hn, hp, fun p hm => ?_⟩ }
    · rcases List.mem_cons.mp hV with rfl | hV
      · rcases own_mut G F₂ _ hb with ⟨v, o, e, _⟩ | ⟨m, ⟨o, _, _, e, _⟩, _⟩ <;> (rw [fresh] at e; cases e)
      · exact Fa.out b hb hV
    · obtain ⟨v, r, k⟩ := hh p hm
      refine ⟨v, ?_, k.imp id fun ⟨k1, c, k2, k3⟩ => ⟨k1, c, k2, isCell_keeps G.toGrOk F₂.at_ x₃ k3⟩⟩
      exact (r.avoid (b := D) fresh).mono fun b o e _ nf nm => x₃.keep b o (fun hb => by
        obtain ⟨o', vs, e', d, cl⟩ := G.tabF _ b hb F₂.at_.tab
        rw [e] at e'; cases e'; exact no_range (nf vs d) cl) (fun hF => nm (.inr (F₂.at_.mutF hF).1)) e
  have hXD : ∀ b, X b → b ∉ D :: g.V := fun b hb hV => by
    rcases List.mem_cons.mp hV with rfl | hV
    · obtain ⟨o, e⟩ := (hX _ hb).2
      rw [fresh] at e; cases e
    · obtain ⟨o, e⟩ := ((F.at_.step x₁).vol b hV).2
      rw [(hX b hb).1] at e; cases e
  have I' := I (D :: g.V) hXD
  have j₂ : J (D :: g.V) s₂ cs := lift g.V D s₂ cs fresh j
  refine compEnv_ok (g := g.wV (D :: g.V)) G' C F₃ hτ rfl fun s₄ cenv x₄ F₄ own₄ ns₄ => ?_
  have at₂' : At (g.wV (D :: g.V)) s₃ := at₃
  have j₃ : J (D :: g.V) s₃ cs := by
    -- the list's making changes nothing that the iterator sees
    have := (I g.V fun b hb hV => hXD b hb (.tail _ hV))
    exact I'.grow _ _ _ j₂ (fun b o e => Heap.get?_push_of_some _ e)
  have j₄ : J (D :: g.V) s₄ cs := I'.keep _ _ _ _ at₃ (x₄.w (X := fun _ => False)) (fun _ _ h _ => h.elim) j₃
  have eD₄ := x₄.keep D _ nTD (at₃.notFs eD rfl) eD
  have go : ∀ it', it' = it → codeAny (model prog w) A (.compLoop (.ListComp elt [⟨target, iter, ifs, 0⟩] scope pos) 0 it' (.ref D) { cenv with scope := relabel scope env }) (compPost (model prog w) A E use Q (.ref D) cenv.locals) s₄ := by
    rintro it' rfl
    refine compLoop_ok G' (fi := cfi scope fi) (τ := τ) I' hb a (.head _) cs ds [] [] s₄ _ (h D) F₄ j₄ ⟨_, eD₄⟩ rfl (by simpa using hl) fun s₅ us x₅ F₅ hP rs => ?_
    have w₅ : WStep g (fun q => Own (cfi scope fi) { cenv with scope := relabel scope env } q ∨ X q ∨ q = D) s₄ s₅ := wstepV x₅
    have xx : Step g s s₄ := ((x₁.trans x₂).trans x₃).trans (stepV x₄)
    have st : Step g s s₅ := by
      refine ((Step.w (X := fun _ => False) xx).back w₅ fun b o e hb => ?_).step fun _ _ _ => id
      have xx3 : Step g s s₃ := (x₁.trans x₂).trans x₃
      rcases hb with hb | hb | rfl
      · have := xx3.none G (F₄.own b hb) (own₄ b hb)
        rw [this] at e; cases e
      · have := x₁.none G (I'.new b hb) (hX b hb).1
        rw [this] at e; cases e
      · have := (x₁.trans x₂).none G hBD fresh
        rw [this] at e; cases e
    obtain ⟨m, e⟩ := hP
    refine q (.ref D) cenv.locals s₅ st ⟨D, us, m, rfl, fun hV => ?_, e, Rps.less (fun b hb => .tail _ hb) rs⟩ ?_ ?_ ?_ ?_
    · obtain ⟨o, e⟩ := (F₂.at_.vol D hV).2
      rw [fresh] at e; cases e
    · obtain ⟨m, hn, hp, _⟩ := F₅.ns
      exact ⟨m, hn, hp⟩
    · exact ((x₁.trans x₂).trans x₃).none G (F₄.own cenv.locals (.inl rfl)) (own₄ cenv.locals (.inl rfl))
    · exact fun hV => F₄.out cenv.locals (.inl rfl) (.tail _ hV)
    · exact F₄.own cenv.locals (.inl rfl)
  refine codeAny_compStart_list (go it rfl) ?_
  exact I'.again A s₄ cs _ _ a F₄.at_ j₄ (go it rfl)

/-- a comprehension's names are let go -/
theorem gone_ok {s : Shared} {C : Addr} {h' : Heap} {m : Str → Option Value} {t : Nat} (hF : C ∉ g.F) (hn : s.heap.Ns C m) (hp : m ("provided" : Str) = none) (hV : C ∉ g.V) (hB : g.hB.get? C = none) (hs : Heap.SameBut C s.heap h') (htk : s.toks ≤ t := by first | exact Nat.le_refl _ | exact Nat.le_succ _ | assumption | omega) :
    WStep g (fun q => q = C) s { s with heap := h', toks := t } ∧ KeepsV g.V s.heap h' := by
  refine ⟨⟨fun b o _ _ nb e => (hs.2 b nb).trans e, fun b o _ nb e => ⟨o.slots, (hs.2 b nb).trans e⟩, fun L hL f => f.data fun o eo => ⟨o.slots, (hs.2 L fun q => hF (q ▸ hL)).trans eo⟩, fun ht => G.tabK _ _ (fun b o' e hk => have hf := hk.fields; ?_) ht, ⟨#[], by simp, AllBare.empty⟩, rfl, rfl, htk⟩, fun b o e _ _ nm => (hs.2 b fun q => nm (q ▸ .inr ⟨m, hn, hp⟩)).trans e⟩
  refine (hs.2 b fun q => ?_).trans e
  subst q
  obtain ⟨o, es, ep, e1, d, _⟩ := hn
  rw [e] at e1; cases e1
  obtain ⟨vs, hf⟩ := hf
  rw [d] at hf; cases hf
theorem gone_fm {env : Env} {s : Shared} {C : Addr} {h' : Heap} {m : Str → Option Value} {t : Nat} (F : Fm g fi env s σ) (hF : C ∉ g.F) (hn : s.heap.Ns C m) (hp : m ("provided" : Str) = none) (hV : C ∉ g.V) (hB : g.hB.get? C = none) (hs : Heap.SameBut C s.heap h') (ho : ¬ Own fi env C) (htk : s.toks ≤ t := by first | exact Nat.le_refl _ | exact Nat.le_succ _ | assumption | omega) :
    Fm g fi env { s with heap := h', toks := t } σ := by
  obtain ⟨ww, kv⟩ := gone_ok G (t := t) hF hn hp hV hB hs
  have nc : ∀ {b v}, s.heap.IsCell b v → b ≠ C := fun {b v} ⟨o, e, d⟩ q => by
    subst q
    obtain ⟨o', es, ep, e', d', _⟩ := hn
    rw [e] at e'; cases e'; rw [d] at d'; cases d'
  obtain ⟨mm, hns, hpp, hh⟩ := F.ns
  refine { F with ns := ⟨mm, hns.sameBut hs (fun q => ho (q ▸ .inl rfl)), hpp, fun p hm => ?_⟩, cells := fun y hm hy => ?_, at_ := At.w G F.at_ ww (fun b hb => hb ▸ hB) (fun b hb => hb ▸ hV) }
  · obtain ⟨v, r, k⟩ := hh p hm
    exact ⟨v, r.mono kv, k.imp id fun ⟨k1, c, k2, o, e, d⟩ => ⟨k1, c, k2, o, (hs.2 c (nc ⟨o, e, d⟩)).trans e, d⟩⟩
  · obtain ⟨c, v, e, o, e', d⟩ := F.cells y hm hy
    exact ⟨c, v, e, o, (hs.2 c (nc ⟨o, e', d⟩)).trans e', d⟩

theorem EV.compO {elt target iter : Expr} {ifs : List Expr} {scope : Scope} {pos : Pos} {cs ds : List CV} (C : CompSc scope fi τ) (hτ : ∀ p ∈ τ, p ∈ σ) {b : Bool} (hi : EO prog w g fi n σ iter cs b) (hb : b = true → TupT target) (hl : cs.length ≤ 10000)
    (h : ∀ D, CompOk prog w (g.wV (D :: g.V)) (cfi scope fi) n τ target ifs elt cs ds)
    (hs : ∀ env x, foldedSetIterable iter env x = pure x := by intro _ _; rfl) : EV prog w g fi n σ (.ListComp elt [⟨target, iter, ifs, 0⟩] scope pos) (.lst ds) := by
  intro A env s Q E a F q
  refine comp_core G a F hi hb C hτ hl h hs fun acc D s₄ x r ⟨m, hn, hp⟩ h0 hV hB => ⟨m, hn, fun h' hs' => ?_⟩
  obtain ⟨ww, kv⟩ := gone_ok G (t := s₄.toks) (F.at_.notFn h0) hn hp hV hB hs'
  refine q _ _ ?_ (r.mono kv)
  exact ((Step.w (X := fun _ => False) x).back ww fun b o e hb => by subst hb; rw [h0] at e; cases e).step fun _ _ _ => id

theorem EV.comp {elt target iter : Expr} {ifs : List Expr} {scope : Scope} {pos : Pos} {ci : CV} {cs ds : List CV} (C : CompSc scope fi τ) (hτ : ∀ p ∈ τ, p ∈ σ) (hi : EV prog w g fi n σ iter ci) (o : Over prog w g n ci cs) (hl : cs.length ≤ 10000)
    (h : ∀ D, CompOk prog w (g.wV (D :: g.V)) (cfi scope fi) n τ target ifs elt cs ds)
    (hs : ∀ env x, foldedSetIterable iter env x = pure x := by intro _ _; rfl) : EV prog w g fi n σ (.ListComp elt [⟨target, iter, ifs, 0⟩] scope pos) (.lst ds) := EV.compO G C hτ (EO.of G hi o) (fun h => nomatch h) hl h hs

theorem EX1.assign_compO {x : Str} {p' pos pos' : Pos} {elt target iter : Expr} {ifs : List Expr} {scope : Scope} {cs ds : List CV} {σ' : Loc} {Φ : AF → Prop} (C : CompSc scope fi τ) (hτ : ∀ p ∈ τ, p ∈ σ) {b : Bool} (hi : EO prog w g fi n σ iter cs b) (hb : b = true → TupT target) (hl : cs.length ≤ 10000)
    (h : ∀ D, CompOk prog w (g.wV (D :: g.V)) (cfi scope fi) n τ target ifs elt cs ds)
    (d : Del x σ σ') (hx : fi.scope.names.lookup x = some .local) (np : x ≠ ("provided" : Str)) (k : Φ (.next ((x, .lst ds) :: σ')))
    (hs : ∀ env x, foldedSetIterable iter env x = pure x := by intro _ _; rfl)
    (hl1 : (p'.line == pos'.line) = true := by rfl) (hl2 : (scope.names.any fun (n, k) => n == x && (k == .local || k == .cell)) = false := by decide +kernel) : EX1 prog w g fi n σ (.Assign [.Name x p'] (.ListComp elt [⟨target, iter, ifs, 0⟩] scope pos') pos) Φ := by
  intro A env s Q E a F q _
  have sw : swapsWithSole [.Name x p'] (.ListComp elt [⟨target, iter, ifs, 0⟩] scope pos') pos.line env = pure true := by
    show (pure (env.blockKind == .function && env.kindOf x == some .local && p'.line == pos'.line && !(scope.names.any fun (n, k) => n == x && (k == .local || k == .cell))) : Sem Bool) = pure true
    rw [hl1, hl2]
    unfold Env.blockKind Env.kindOf
    rw [F.sc, F.fk, hx]
    rfl
  have e0 : exec (.Assign [.Name x p'] (.ListComp elt [⟨target, iter, ifs, 0⟩] scope pos') pos) env = (do
      standAt pos
      if ← swapsWithSole [.Name x p'] (.ListComp elt [⟨target, iter, ifs, 0⟩] scope pos') pos.line env then do
        evalThenUse (.ListComp elt [⟨target, iter, ifs, 0⟩] scope pos') env (fun v => PySem.assign (.Name x p') env v)
        pure .next
      else do
        let v ← eval (.ListComp elt [⟨target, iter, ifs, 0⟩] scope pos') env
        assignStores env v (← swappedStores [.Name x p'] (.ListComp elt [⟨target, iter, ifs, 0⟩] scope pos') env) ((assignEach [.Name x p'] env).map (·.2))) := rfl
  rw [e0, sw]
  refine wpAny_bind (wpAny_standAt (wpAny_bind (wpAny_pure ?_)))
  simp only [if_true]
  have e1 : evalThenUse (.ListComp elt [⟨target, iter, ifs, 0⟩] scope pos') env (fun v => PySem.assign (.Name x p') env v) = (do
      let _ ← comprehension (.ListComp elt [⟨target, iter, ifs, 0⟩] scope pos') scope env iter.pos (newList []) false (eval iter env) (some fun v => PySem.assign (.Name x p') env v)) := rfl
  rw [e1]
  refine wpAny_bind (wpAny_bind (comp_core G a F hi hb C hτ hl h hs fun acc D s₄ x₄ r ⟨m, hn, hp⟩ h0 hV hB => ?_))
  have F₄ := F.step G.toGrOk x₄
  have no : ¬ Own fi env D := fun ho => by
    rcases own_mut G F D ho with ⟨v, o, e, _⟩ | ⟨m, ⟨o, _, _, e, _⟩, _⟩ <;> (rw [h0] at e; cases e)
  have nT : D ∉ g.T := fun hT => by
    obtain ⟨o, e⟩ := G.tB D hT
    rw [hB] at e; cases e
  refine wpAny_assign_Name (store_ok G F₄ r d (.inl hx) np fun s₅ x₅ F₅ => ?_)
  have hn₅ : s₅.heap.Ns D m := by
    obtain ⟨o, es, ep, e, rr⟩ := hn
    exact ⟨o, es, ep, x₅.keep D o nT (F.at_.notFn h0) no e, rr⟩
  refine ⟨m, hn₅, fun h' hs' => wpAny_pure (wpAny_pure ?_)⟩
  obtain ⟨ww, kv⟩ := gone_ok G (t := s₅.toks) (F.at_.notFn h0) hn₅ hp hV hB hs'
  have F₆ := gone_fm G (t := s₅.toks) F₅ (F.at_.notFn h0) hn₅ hp hV hB hs' no
  refine q _ _ _ k ?_ F₆.at_ ⟨rfl, F₆⟩
  exact (x₄.w.trans x₅).back ww fun b o e hb => by subst hb; rw [h0] at e; cases e
theorem EX1.assign_comp {x : Str} {p' pos pos' : Pos} {elt target iter : Expr} {ifs : List Expr} {scope : Scope} {ci : CV} {cs ds : List CV} {σ' : Loc} {Φ : AF → Prop} (C : CompSc scope fi τ) (hτ : ∀ p ∈ τ, p ∈ σ) (hi : EV prog w g fi n σ iter ci) (o : Over prog w g n ci cs) (hl : cs.length ≤ 10000)
    (h : ∀ D, CompOk prog w (g.wV (D :: g.V)) (cfi scope fi) n τ target ifs elt cs ds)
    (d : Del x σ σ') (hx : fi.scope.names.lookup x = some .local) (np : x ≠ ("provided" : Str)) (k : Φ (.next ((x, .lst ds) :: σ')))
    (hs : ∀ env x, foldedSetIterable iter env x = pure x := by intro _ _; rfl)
    (hl1 : (p'.line == pos'.line) = true := by rfl) (hl2 : (scope.names.any fun (n, k) => n == x && (k == .local || k == .cell)) = false := by decide +kernel) : EX1 prog w g fi n σ (.Assign [.Name x p'] (.ListComp elt [⟨target, iter, ifs, 0⟩] scope pos') pos) Φ := EX1.assign_compO G C hτ (EO.of G hi o) (fun h => nomatch h) hl h d hx np k hs hl1 hl2
end
end Mine
end
section
open PySem PySem.W PySem.Calls PyProof.Rows
set_option maxRecDepth 100000
namespace Mine

section
variable (prog : Program) (w : World) (g : Gr) (fi : FI) (n : Nat) (σ : Loc)
/-- targets take values, from the left -/
def ASs (ts : List Expr) (cs : List CV) (σ' : Loc) : Prop := ∀ A env s vs Q E, OkA g.fr g.hd A n → Fm g fi env s σ → Rps g.V s.heap cs vs →
  (∀ s', WStep g (Own fi env) s s' → Fm g fi env s' σ' → Q () s') → wpAny (model prog w) A (assignInOrder ((assignEach ts env).map (·.2)) vs) Q E s
/-- a value comes apart into items -/
def Parts (c : CV) (cs : List CV) : Prop := ∀ A s v Q E, OkA g.fr g.hd A n → At g s → Rp g.V s.heap c v → (∀ vs s', Step g s s' → Rps g.V s'.heap cs vs → Q vs s') → wpAny (model prog w) A (unpackItems v cs.length none) Q E s
end

section
variable {prog : Program} {w : World} {g : Gr} (G : Gr2 g) {fi : FI} {n : Nat} {σ : Loc}
include G
omit G in
theorem ASs.nil : ASs prog w g fi n σ [] [] σ := by
  intro A env s vs Q E a F r q
  have : vs = [] := r
  subst this
  exact wpAny_assignInOrder_none (q _ .refl F)
theorem ASs.cons {t : Expr} {ts : List Expr} {c : CV} {cs : List CV} {σ₁ σ' : Loc} (h : AS prog w g fi n σ t c σ₁) (k : ASs prog w g fi n σ₁ ts cs σ') (hs : ∀ env, assignEach (t :: ts) env = (false, assign t env) :: assignEach ts env := by intro env; rfl) : ASs prog w g fi n σ (t :: ts) (c :: cs) σ' := by
  intro A env s vs Q E a F r q
  obtain ⟨v, us, rfl, r1, r2⟩ := r
  rw [hs, List.map_cons]
  refine wpAny_assignInOrder_more (h A env s v _ E a F r1 fun s₁ x₁ F₁ => ?_)
  have r2' := r2.mono (WStep.v G F.at_ x₁ fun b o hb e => .inr (.inl (own_mut G F b hb)))
  exact k A env s₁ us Q E a F₁ r2' fun s₂ x₂ F₂ => q s₂ (x₁.trans x₂) F₂

omit G in
theorem tup_end {it t : Addr} {i : Nat} {items : Array Value} {A : Around} {s : Shared} {E : Value → Shared → Prop} {Q : Option Value → Shared → Prop} (hh : A.handled = none ∨ ∃ e o vs, A.handled = some (.ref e) ∧ s.heap.get? e = some o ∧ o.data = .fields vs ∧ vs[2]? = some .none ∧ e ≠ it) (hit : s.heap.IsTupleIter it t i) (ht : s.heap.IsTuple t items) (hx : items[i]? = none)
    (hQ : ∀ h', Heap.ExtBut it s.heap h' → Q none { s with heap := h' }) : wpAny (model prog w) A (pyNext (.ref it)) Q E s := by
  obtain ⟨o, ho, hc, hd⟩ := id hit
  obtain ⟨ol, hol, _, nl, hdl⟩ := ht
  unfold pyNext
  refine wpAny_bind (wpAny_attempt (wpAny_callSpecial?_slot (name := Str.ofString "__next__") hit.typeIs F.slot_tuple_iterator_next
    (wpAny_call_entry F.slot_tuple_iterator_next hit.typeIs F.entry_tuple_iterator_next ?_ (F.args_tuple_iterator_next_1 _))))
  show wpAny _ _ (field (.ref it) 0 >>= _) _ _ s
  refine wpAny_bind (wpAny_field ho hd (x := .ref t) rfl ?_)
  show wpAny _ _ (if (Value.ref t == Value.none) = true then _ else _) _ _ s
  rw [if_neg (show ¬ ((Value.ref t == Value.none) = true) from Bool.false_ne_true)]
  show wpAny _ _ (field (.ref it) 1 >>= _) _ _ s
  refine wpAny_bind (wpAny_field ho hd (x := .int i 0) rfl ?_)
  show wpAny _ _ (seqItems? (.ref t) >>= _) _ _ s
  refine wpAny_bind (wpAny_seqItems hol hdl ?_)
  simp only [Int.toNat_natCast, hx]
  refine wpAny_bind (wpAny_rule (wpAny_bind (wpAny_setField ho hd (by simp) ?_)))
  refine stop_raised (A := A.in1) (s := { s with heap := s.heap.update it (Obj.mapFields (·.setIfInBounds 0 Value.none)) }) (hh.imp (fun h => h) fun ⟨e, oe, vs, h1, h2, h3, h4, h5⟩ => ⟨e, oe, vs, h1, (Heap.get?_update_other _ _ (Ne.symm h5)).trans h2, h3, h4⟩) fun h'' e hk he => ?_
  refine wpAny_bind (wpAny_isInstance (T := "StopIteration") (b := true) he isSubtype_stop ?_)
  exact wpAny_pure (hQ _ fun b o nb eb => hk b o ((Heap.get?_update_other _ _ (Ne.symm nb)).trans eb))
theorem Parts.tup {l : List CV} : Parts prog w g n (.tup l) l := by
  intro A s v Q E a at_ r q
  obtain ⟨b, vs, m, rfl, nV, e, rs⟩ := r
  have ht : s.heap.IsTuple b (List.toArray vs) := ⟨_, e, rfl, m, rfl⟩
  have hlt : b ≠ s.heap.objs.size := Nat.ne_of_lt (Heap.lt_size e)
  rw [← rs.length]
  unfold unpackItems
  refine wpAny_bind ?_
  unfold notIterableAtAll
  refine wpAny_bind (wpAny_specialOf ht.typeIs F.slot_tuple_iter.lookup ?_)
  refine wpAny_pure ?_
  simp only [Bool.false_eq_true, if_false]
  refine wpAny_bind (wpAny_holding (wpAny_pyIter_tuple ht ?_))
  refine wpAny_bind (wpAny_holding (wpAny_draw_tuple hlt vs.length 0 _ _ ⟨_, Heap.get?_push_size _ rfl, rfl, rfl⟩ (ht.push _) (by simp) fun h₁ hit₁ hs₁ => ?_))
  have hall : List.take vs.length (List.drop 0 (List.toArray vs).toList) = vs := by simp
  rw [hall]
  rw [if_neg (by simp)]
  have ht₁ : h₁.IsTuple b (List.toArray vs) := (ht.push _).extBut hs₁.extBut hlt
  have old : ∀ {x : Addr} {o : Obj}, s.heap.get? x = some o → h₁.get? x = some o := fun {x o} e => hs₁.extBut x o (Nat.ne_of_lt (Heap.lt_size e)) (Heap.get?_push_of_some _ e)
  have hh : A.handled = none ∨ ∃ e o us, A.handled = some (.ref e) ∧ h₁.get? e = some o ∧ o.data = .fields us ∧ us[2]? = some .none ∧ e ≠ s.heap.objs.size := by
    have h := a.2.2.1
    cases hd : g.hd with
    | none => left; rw [h, hd]; rfl
    | some x =>
      right
      obtain ⟨hV, o, us, eo, d, v2, _⟩ := at_.hdv x hd
      exact ⟨x, o, us, by rw [h, hd]; rfl, old eo, d, v2, Nat.ne_of_lt (Heap.lt_size eo)⟩
  refine wpAny_bind (wpAny_holding (tup_end hh hit₁ ht₁ (by simp) fun h₂ he₂ => ?_))
  simp only [Option.isSome_none, Bool.false_eq_true, if_false]
  have x : Step g s { s with heap := h₂ } := Step.grow0 G.toGrOk fun c o e => he₂ c o (Nat.ne_of_lt (Heap.lt_size e)) (old e)
  exact wpAny_pure (q _ _ x (Rps.step G.toGrOk at_ x rs))

theorem draw_all {it : Value} {X : Addr → Prop} {J : Shared → List CV → Prop} (I : Iter prog w g n it X J) {A : Around} (a : OkA g.fr g.hd A n) {E : Value → Shared → Prop} (p : Pos) : ∀ (cs : List CV) (s : Shared) (Q : List Value → Shared → Prop), At g s → (∀ b, X b → b ∉ g.T) → J s cs →
    (∀ vs s', WStep g X s s' → At g s' → J s' [] → Rps g.V s'.heap cs vs → Q vs s') → wpAny (model prog w) A (draw it cs.length) Q E s := by
  intro cs
  induction cs with
  | nil =>
    intro s Q at_ hT j q
    exact wpAny_pure (q [] s .refl at_ j rfl)
  | cons c cs ih =>
    intro s Q at_ hT j q
    show wpAny _ A (pyNext it >>= _) Q E s
    refine wpAny_bind (wpAny_mono (I.turn A s c cs (.Name default p) (fun v s' => wpAny (model prog w) A (holding [v] (draw it cs.length) >>= fun vs => pure (v :: vs)) Q E s') E (fun h => nomatch h) a at_ j fun v s₁ x₁ j₁ r₁ => ?_) (fun r s₁ h => ?_) fun _ _ h => h)
    · have at₁ := At.w G at_ x₁ I.new I.out
      refine wpAny_bind (wpAny_holding (ih s₁ _ at₁ hT j₁ fun vs s₂ x₂ at₂ j₂ rs => wpAny_pure ?_))
      refine q _ s₂ (x₁.trans x₂) at₂ j₂ ⟨v, vs, rfl, ?_, rs⟩
      exact r₁.mono (WStep.v G at₁ x₂ fun b o hb e => .inl (I.fld _ _ _ _ j₁ hb e))
    · cases r with
      | none => exact h.elim
      | some v =>
        have h' := wpAny_bind (f := fun _ : Unit => (holding [v] (draw it cs.length) >>= fun vs => pure (v :: vs) : Sem (List Value))) h
        exact h'
end
end Mine
end
section
open PySem PySem.W PySem.Calls PyProof.Rows
set_option maxRecDepth 100000
namespace Mine

section
variable {prog : Program} {w : World} {g : Gr} (G : Gr2 g) {fi : FI} {n : Nat} {σ : Loc}
include G
theorem Parts.list {l : List CV} : Parts prog w g n (.lst l) l := by
  intro A s v Q E a at_ r q
  obtain ⟨b, vs, hv, ht, rs⟩ := r.isList
  subst hv
  unfold unpackItems
  refine wpAny_bind ?_
  unfold notIterableAtAll
  refine wpAny_bind (wpAny_specialOf ht.typeIs F.slot_list_iter.lookup ?_)
  refine wpAny_pure ?_
  simp only [Bool.false_eq_true, if_false]
  refine wpAny_bind (wpAny_holding (Over.list G A s _ _ E a at_ r fun it s₁ X J x₁ I j hX _ => ?_))
  have nV : ∀ c, X c → c ∉ g.V := fun c hc hv => by
    obtain ⟨_, e⟩ := (at_.vol c hv).2
    rw [(hX c hc).1] at e; cases e
  have I' := I g.V nV
  have at₁ := at_.step x₁
  have hT : ∀ c, X c → c ∉ g.T := fun c hc hv => by
    obtain ⟨o, vs, e, _⟩ := G.tabF _ c hv at_.tab
    rw [(hX c hc).1] at e; cases e
  refine wpAny_bind (wpAny_holding (draw_all G I' a default l s₁ _ at₁ hT j fun ws s₂ x₂ at₂ j₂ rs₂ => ?_))
  rw [if_neg (by rw [rs₂.length]; omega)]
  refine wpAny_bind (wpAny_holding (wpAny_mono (I'.fin A s₂ (fun s₃ => WStep g X s₂ s₃) E a at₂ j₂ fun s₃ x₃ => x₃) (fun r s₃ h => ?_) fun _ _ h => h))
  cases r with
  | some v => exact h.elim
  | none =>
    have x₃ : WStep g X s₂ s₃ := h
    simp only [Option.isSome_none, Bool.false_eq_true, if_false]
    have x : Step g s s₃ := (x₁.w.trans (x₂.trans x₃)).step fun c o e hc => by rw [(hX c hc).1] at e; cases e
    refine wpAny_pure (q _ _ x ?_)
    exact rs₂.mono (WStep.v G at₂ x₃ fun b o hb e => .inl (I'.fld _ _ _ _ j₂ hb e))

omit G in
theorem AS.tuple {ts : List Expr} {k : Nat} {pos : Pos} {c : CV} {cs : List CV} {σ' : Loc} (p : Parts prog w g n c cs) (t : ASs prog w g fi n σ ts cs σ') (G : Gr2 g)
    (hl : ∀ env, (assignEach ts env).length = cs.length := by intro env; rfl) (hs : ∀ env, (assignEach ts env).findIdx? (·.1) = none := by intro env; rfl) : AS prog w g fi n σ (.Tuple ts k pos) c σ' := by
  intro A env s v Q E a F r q
  rw [arm_assign_Tuple]
  refine wpAny_bind (wpAny_standAt ?_)
  unfold unpack
  rw [hl, hs]
  refine wpAny_bind (wpAny_holding (p A s v _ E a F.at_ r fun vs s₁ x₁ rs => ?_))
  exact t A env s₁ vs Q E a (F.step G.toGrOk x₁) rs fun s₂ x₂ F₂ => q s₂ (x₁.w.trans x₂) F₂

theorem EX1.assign_tuple {ts : List Expr} {k : Nat} {tpos pos : Pos} {e : Expr} {c : CV} {σ' : Loc} {Φ : AF → Prop} (h : EV prog w g fi n σ e c) (t : AS prog w g fi n σ (.Tuple ts k tpos) c σ') (q : Φ (.next σ'))
    (hs : ∀ env, swapsWithSole [.Tuple ts k tpos] e pos.line env = pure false := by intro env; rfl) (hw : ∀ env, swappedStores [.Tuple ts k tpos] e env = pure none := by intro env; rfl) : EX1 prog w g fi n σ (.Assign [.Tuple ts k tpos] e pos) Φ := by
  intro A env s Q E a F q' _
  refine Assign_Tuple (h A env s _ E a F fun v s₁ x₁ r => ?_) (hs env) (hw env)
  exact t A env s₁ v _ E a (F.step G.toGrOk x₁) r fun s₂ x₂ F₂ => q' _ _ _ q (x₁.w.trans x₂) F₂.at_ ⟨rfl, F₂⟩

/-- `a, b = x, y`: the stores are made from the right -/
theorem EX1.assign_swap {ts : List Expr} {k : Nat} {tpos pos : Pos} {e : Expr} {x y : Str} {cx cy : CV} {σ₁ σ₂ : Loc} {Φ : AF → Prop} (h : EV prog w g fi n σ e (.tup [cx, cy]))
    (d1 : Del y σ σ₁) (d2 : Del x ((y, cy) :: σ₁) σ₂)
    (hx : fi.scope.names.lookup x = some .local) (hy : fi.scope.names.lookup y = some .local) (nx : x ≠ ("provided" : Str)) (ny : y ≠ ("provided" : Str)) (q : Φ (.next ((x, cx) :: σ₂)))
    (hs : ∀ env, swapsWithSole [.Tuple ts k tpos] e pos.line env = pure false := by intro env; rfl)
    (hw : ∀ env, env.scope = fi.scope → swappedStores [.Tuple ts k tpos] e env = pure (some [x, y])) : EX1 prog w g fi n σ (.Assign [.Tuple ts k tpos] e pos) Φ := by
  intro A env s Q E a F q' _
  refine Assign_Tuple_swapped (names := [x, y]) ?_ (hs env) (hw env F.sc)
  refine h A env s _ E a F fun v s₁ x₁ r => ?_
  refine (Parts.tup (l := [cx, cy]) G) A s₁ v _ E a (F.at_.step x₁) r fun vs s₂ x₂ rs => ?_
  have F₂ := (F.step G.toGrOk x₁).step G.toGrOk x₂
  obtain ⟨v₁, us, h1, r₁, v₂, us₂, h2, r₂, h3⟩ := rs
  rw [h1, h2, h3]
  rw [show ([x, y].reverse.map fun n => bindName env n) = [bindName env y, bindName env x] from rfl, show [v₁, v₂].reverse = [v₂, v₁] from rfl]
  refine wpAny_assignInOrder_more (bindName_ (store_ok G F₂ r₂ d1 (.inl hy) ny fun s₃ x₃ F₃ => ?_))
  have r₁' := r₁.mono (WStep.v G F₂.at_ x₃ fun b o hb e => .inr (.inl (own_mut G F₂ b hb)))
  refine wpAny_assignInOrder_more (bindName_ (store_ok G F₃ r₁' d2 (.inl hx) nx fun s₄ x₄ F₄ => ?_))
  exact wpAny_assignInOrder_none (q' _ _ _ q ((x₁.trans x₂).w.trans (x₃.trans x₄)) F₄.at_ ⟨rfl, F₄⟩)
end
end Mine
end
section
open PySem PySem.W PySem.Calls PyProof.Rows
set_option maxRecDepth 100000
namespace Mine

theorem wp_toks {α : Type} {M : Model} {Γ : Ctx} (k : Nat) : ∀ (t : Sem α) (Q : α → Pos → Shared → Prop) (E : Value → Pos → Shared → Prop) (p : Pos) (s : Shared), k ≤ s.toks → Sem.wp M Γ t Q E p s →
    Sem.wp M Γ t (fun a p' s' => Q a p' s' ∧ k ≤ s'.toks) (fun a p' s' => E a p' s' ∧ k ≤ s'.toks) p s := by
  intro t
  induction t with
  | pure a => intro Q E p s hk h; exact ⟨h, hk⟩
  | raise e => intro Q E p s hk h; exact ⟨h, hk⟩
  | load a _ f ih => intro Q E p s hk h; obtain ⟨o, e, h⟩ := h; exact ⟨o, e, ih _ _ _ _ _ hk h⟩
  | update a _ f g ih => intro Q E p s hk h; obtain ⟨e, h⟩ := h; exact ⟨e, ih _ _ _ _ _ hk h⟩
  | fresh f ih => intro Q E p s hk h; exact ih _ _ _ _ _ (Nat.le_trans hk (Nat.le_succ _)) h
  | choose src n f ih => intro Q E p s hk h; obtain ⟨e, h⟩ := h; exact ⟨e, ih _ _ _ _ _ hk h⟩
  | call c h g l f ih => intro Q E p s hk h; obtain ⟨r, s₁, h1, h2⟩ := h; exact ⟨r, s₁, h1, ih _ _ _ _ _ (Nat.le_trans hk (Runs.toks_le h1)) h2⟩
  | genState g f ih => intro Q E p s hk h; obtain ⟨o, e, h⟩ := h; exact ⟨o, e, ih _ _ _ _ _ hk h⟩
  | resume g r l f ih => intro Q E p s hk h; obtain ⟨r, s₁, h1, h2⟩ := h; exact ⟨r, s₁, h1, ih _ _ _ _ _ (Nat.le_trans hk (Wakes.toks_le h1)) h2⟩
  | _ => 
    intro Q E p s hk h
    first
      | exact False.elim h
      | (rename_i ih; exact ih _ _ _ _ _ hk h)
theorem wpAny_toks {α : Type} {M : Model} {A : Around} {t : Sem α} {Q : α → Shared → Prop} {E : Value → Shared → Prop} {s : Shared} (h : wpAny M A t (fun a s' => s.toks ≤ s'.toks → Q a s') E s) : wpAny M A t Q E s :=
  fun Γ p hΓ => Sem.wp_mono M Γ t (fun _ _ _ h => h.1 h.2) (fun _ _ _ h => h.1) p s (wp_toks s.toks t _ _ p s (Nat.le_refl _) (h Γ p hΓ))
end Mine
end
section
open PySem PySem.W PySem.Calls PyProof.Rows Builtin Builtin.Str Builtin.Int
set_option maxRecDepth 100000
namespace Mine

/-- a method is looked up on a value -/
def Mth (prog : Program) (w : World) (g : Gr) (name : Str) (c : CV) (f : Value) : Prop :=
  ∀ pl A s v (Q : Value × List Value → Shared → Prop) E, At g s → Rp g.V s.heap c v → Q (f, [v]) s → wpAny (model prog w) A (getMethod v name pl) Q E s

section
variable {prog : Program} {w : World} {g : Gr} (G : Gr2 g) {fi : FI} {n : Nat} {σ : Loc}
include G
theorem EV.methP {o : Expr} {name : Str} {apos pos : Pos} {f : Value} {args : List Expr} {c : CV} {r : CV} (P : Shared → List Value → Prop) (ho : EV prog w g fi n σ o c) (m : Mth prog w g name c f)
    (ha : ∀ A env s pos (Q : List Value → Shared → Prop) E, OkA g.fr g.hd A n → Fm g fi env s σ → (∀ vs s', Step g s s' → P s' vs → Q vs s') → wpAny (model prog w) A (spliced (backTo pos (starEach args env))) Q E s)
    (hk : Keep prog w g f)
    (h : ∀ A s v vs (Q : Value → Shared → Prop) E, OkA g.fr g.hd A n → At g s → Rp g.V s.heap c v → P s vs → (∀ u s', Step g s s' → Rp g.V s'.heap r u → Q u s') → wpAny (model prog w) A (PySem.call f (v :: vs) []) Q E s)
    (hbase : ∀ env, attributeBase o name env (eval o env) = eval o env := by intro env; rfl)
    (hplain : ∀ env, (backTo pos (starEach args env)).any (·.1) = false := by intro env; rfl) (hkw : ∀ env, backToKw pos (keywordEach [] env) = [] := by intro env; rfl)
    (hform : ∀ env, methodCallForm (args.length + ([] : List Keyword).length) (backTo pos (starEach args env)) (backToKw pos (keywordEach [] env)) = true := by intro env; rfl)
    (hline : (apos.endLine == pos.line) = true := by rfl) : EV prog w g fi n σ (.Call (.Attribute o name apos) args [] pos) r := by
  intro A env s Q E k F q
  rw [arm_eval_Call, hbase]
  refine wpAny_bind (ho A env s _ E k F fun v s₁ x₁ r₁ => ?_)
  refine wpAny_bind (wpAny_standAt ?_)
  have hpos : methodCallPos true o env apos pos = pure pos := by unfold methodCallPos; simp [hline]
  unfold methodCall
  rw [hform]
  have F₁ := F.step G.toGrOk x₁
  refine wpAny_bind (wpAny_holding (m _ A s₁ v _ E F₁.at_ r₁ ?_))
  refine wpAny_bind (wpAny_of_eq hpos ?_)
  rw [hkw env]
  refine callWith_of (P := fun h => ∃ s, At g s ∧ s.heap = h) (by rw [hplain env]; rfl) hk ?_
  have ev : wpAny (model prog w) A (spliced (backTo pos (starEach args env))) (fun vs s₂ => (∃ s, At g s ∧ s.heap = s₂.heap) ∧ wpAny (model prog w) A (PySem.call f ([v] ++ vs) []) Q E s₂) E s₁ :=
    ha A env s₁ pos _ E k F₁ fun vs s₂ x₂ r₂ => ⟨⟨s₂, F₁.at_.step x₂, rfl⟩, h A s₂ v vs Q E k (F₁.at_.step x₂) (Rp.step G.toGrOk F₁.at_ x₂ r₁) r₂ fun u s₃ x₃ r₃ => q u s₃ ((x₁.trans x₂).trans x₃) r₃⟩
  exact evalArgs_any (hplain env) ev
theorem EV.meth {o : Expr} {name : Str} {apos pos : Pos} {f : Value} {args : List Expr} {c : CV} {cs : List CV} {r : CV} (ho : EV prog w g fi n σ o c) (m : Mth prog w g name c f) (ha : EVs prog w g fi n σ args cs) (hk : Keep prog w g f) (h : FW prog w g n f (c :: cs) r)
    (hbase : ∀ env, attributeBase o name env (eval o env) = eval o env := by intro env; rfl)
    (hplain : ∀ env, (backTo pos (starEach args env)).any (·.1) = false := by intro env; rfl) (hkw : ∀ env, backToKw pos (keywordEach [] env) = [] := by intro env; rfl)
    (hform : ∀ env, methodCallForm (args.length + ([] : List Keyword).length) (backTo pos (starEach args env)) (backToKw pos (keywordEach [] env)) = true := by intro env; rfl)
    (hline : (apos.endLine == pos.line) = true := by rfl) : EV prog w g fi n σ (.Call (.Attribute o name apos) args [] pos) r :=
  EV.methP G (fun s vs => Rps g.V s.heap cs vs) ho m ha hk (fun A s v vs Q E k a rv rs q => h A s (v :: vs) Q E k a ⟨v, vs, rfl, rv, rs⟩ q) hbase hplain hkw hform hline

omit G
theorem Mth.str {name : Str} {id : String} {x : Str} (slot : Slot "str" name id) (hty : typeOf (.builtin id) = pure (.type "method_descriptor") := by with_unfolding_all rfl) : Mth prog w g name (.str x) (.builtin id) := by
  rintro pl A s _ Q E _ ⟨t, rfl⟩ q
  exact getMethod_builtin (typeIs_str _ _ _) F.plainAttrs_str slot hty (fun _ h => by cases h) q

theorem FW.lower {x : Str} (hfit : tooLong (Txt.lower x).length = false) : FW prog w g n (.builtin "str.lower") [.str x] (.str (Txt.lower x)) := by
  intro A s vs Q E a at_ r q
  obtain ⟨_, _, rfl, ⟨t, rfl⟩, rfl⟩ := r
  exact SC.lower hfit (q _ _ .tok ⟨_, rfl⟩)
theorem FW.strip {x y : Str} (hsz : x.length ≤ sizeLine) : FW prog w g n (.builtin "str.strip") [.str x, .str y] (.str (Txt.stripChars x y)) := by
  intro A s vs Q E a at_ r q
  obtain ⟨_, _, rfl, ⟨t, rfl⟩, _, _, rfl, ⟨u, rfl⟩, rfl⟩ := r
  exact wpAny_toks (SC.stripChars (fun t' k h => q _ _ (.tok h) ⟨_, rfl⟩) hsz)
theorem FW.startswith {x y : Str} : FW prog w g n (.builtin "str.startswith") [.str x, .str y] (.bool (Txt.startswith x y)) := by
  intro A s vs Q E a at_ r q
  obtain ⟨_, _, rfl, ⟨t, rfl⟩, _, _, rfl, ⟨u, rfl⟩, rfl⟩ := r
  exact SC.startswith (q _ _ .refl rfl)

theorem rps_strs {V : List Addr} {h : Heap} : ∀ (l : List (Str × Tok)), Rps V h (l.map fun p => .str p.1) (strValues l)
  | [] => rfl
  | p :: l => ⟨_, _, rfl, ⟨p.2, rfl⟩, rps_strs l⟩
theorem rps_strs' {V : List Addr} {h : Heap} : ∀ (l : List Str) {vs : List Value}, Rps V h (l.map .str) vs → ∃ ps : List (Str × Tok), vs = strValues ps ∧ ps.map (·.1) = l
  | [], _, r => ⟨[], r, rfl⟩
  | x :: l, _, ⟨v, us, e, ⟨t, ev⟩, rs⟩ => by
    obtain ⟨ps, e1, e2⟩ := rps_strs' l rs
    exact ⟨(x, t) :: ps, by rw [e, ev, e1]; rfl, by rw [List.map_cons, e2]⟩
theorem FW.split {x y : Str} (G : Gr2 g) (hy : (y.length == 0) = false) (hsz : x.length ≤ sizeLine) (hsz2 : (partsBetween x (occurrences x y 0 x.length (x.length + 1)) y.length).length ≤ sizeLine) :
    FW prog w g n (.builtin "str.split") [.str x, .str y] (.lst ((Txt.split x y).map .str)) := by
  intro A s vs Q E a at_ r q
  obtain ⟨_, _, rfl, ⟨t, rfl⟩, _, _, rfl, ⟨u, rfl⟩, rfl⟩ := r
  have same : ∀ b, Txt.split x y = [x] → Q (.ref s.heap.objs.size) { s with heap := s.heap.push { cls := .type "list", data := .seq [Value.str x t].toArray b } } := fun b e =>
    q _ _ (Step.push0 G.toGrOk) ⟨_, _, b, rfl, At.out at_, Heap.get?_push_size _ rfl, by rw [e]; exact ⟨_, _, rfl, ⟨t, rfl⟩, rfl⟩⟩
  cases h1 : (decide (x.length < y.length) || decide (Builtin.Str.strKind x < Builtin.Str.strKind y))
  · cases hf : (occurrences x y 0 x.length (x.length + 1)).isEmpty
    · refine call_meets F.slot_str_split (typeIs_str _ _ _) F.entry_str_split (F.args_str_split_2 _ _) (meets_str_split_sep x y t u h1 hy hf hsz hsz2) ?_
      have e : Txt.split x y = partsBetween x (occurrences x y 0 x.length (x.length + 1)) y.length := ((if_neg (ne_true_of_eq_false h1)).trans (if_neg (ne_true_of_eq_false hf)))
      show wants Q E _ { s with toks := _, heap := s.heap.push { cls := .type "list", data := .seq (strsFrom s.toks (partsBetween x (occurrences x y 0 x.length (x.length + 1)) y.length)).toArray } }
      rw [strsFrom_eq]
      refine q _ _ (Step.push G.toGrOk (Nat.le_add_right _ _)) ⟨_, _, 0, rfl, At.out at_, Heap.get?_push_size _ rfl, ?_⟩
      have ee := rps_strs (V := g.V) (h := s.heap.push { cls := .type "list", data := .seq (strValues (numbered s.toks (partsBetween x (occurrences x y 0 x.length (x.length + 1)) y.length))).toArray }) (numbered s.toks (partsBetween x (occurrences x y 0 x.length (x.length + 1)) y.length))
      rw [e, ← numbered_texts s.toks (partsBetween x (occurrences x y 0 x.length (x.length + 1)) y.length), List.map_map, numbered_texts]
      exact ee
    · exact call_meets F.slot_str_split (typeIs_str _ _ _) F.entry_str_split (F.args_str_split_2 _ _) (meets_str_split_not_found x y t u h1 hy hf) (same 0 ((if_neg (ne_true_of_eq_false h1)).trans (if_pos hf)))
  · exact call_meets F.slot_str_split (typeIs_str _ _ _) F.entry_str_split (F.args_str_split_2 _ _) (meets_str_split_cannot_occur x y t u h1) (same 0 (if_pos h1))
theorem FW.join {x : Str} {l : List Str} (hok : JoinOk x l = true) : FW prog w g n (.builtin "str.join") [.str x, .lst (l.map .str)] (.str (Txt.join x l)) := by
  intro A s vs Q E a at_ r q
  obtain ⟨_, _, rfl, ⟨t, rfl⟩, _, _, rfl, r2, rfl⟩ := r
  obtain ⟨D, ws, e, hl, rs⟩ := r2.isList
  subst e
  obtain ⟨ps, rfl, hp⟩ := rps_strs' l rs
  exact wpAny_toks (SC.join hl hp hok fun t' k h => q _ _ (.tok h) ⟨_, rfl⟩)

/-- `o.replace("..", "..")` -/
theorem EV.replace {o : Expr} {apos pos p1 p2 : Pos} {k1 k2 : Nat} {x y z : Str} (G : Gr2 g) (nb : NoneBooked g.hB) (hp0 : 0 < g.p0) (ho : EV prog w g fi n σ o (.str x)) (hb : x.length + (x.length + 1) * z.length ≤ 16777216)
    (hbase : ∀ env, attributeBase o "replace" env (eval o env) = eval o env := by intro env; rfl)
    (hline : (apos.endLine == pos.line) = true := by rfl) : EV prog w g fi n σ (.Call (.Attribute o "replace" apos) [.Constant (.str y) k1 p1, .Constant (.str z) k2 p2] [] pos) (.str (Txt.replace x y z)) := by
  refine EV.methP G (fun _ vs => ∃ u v : Nat, u ≠ 0 ∧ v ≠ 0 ∧ u ≠ v ∧ vs = [.str y u, .str z v]) ho (Mth.str F.slot_str_replace) ?_ Keep.builtin ?_ hbase (fun _ => rfl) (fun _ => rfl) (fun _ => rfl) hline
  · intro A env s pos Q E a F q
    refine spliced_cons (wpAny_Constant_str (k := k1) (pos := p1) (spliced_cons (wpAny_Constant_str (k := k2) (pos := p2) (spliced_nil ?_))))
    have hp := Nat.lt_of_lt_of_le hp0 F.at_.pos
    exact q _ _ (Step.tok (show s.toks ≤ s.toks + 1 + 1 by omega)) ⟨s.toks, s.toks + 1, by omega, by omega, by omega, rfl⟩
  · intro A s v vs Q E a at_ rv hp q
    obtain ⟨u, t, hu, ht, hut, rfl⟩ := hp
    obtain ⟨t0, rfl⟩ := rv
    have hnb : NoneBooked s.heap := by
      obtain ⟨mc, hn, hm⟩ := nb
      obtain ⟨o, es, ep, e, r⟩ := hn
      exact ⟨mc, ⟨o, es, ep, at_.keep _ _ G.limT e, r⟩, hm⟩
    exact wpAny_toks (SC.replaceA hu ht hut hb (fun t' k h => q _ _ (.tok h) ⟨_, rfl⟩) hnb)
end
end Mine
end
section
open PySem PySem.W PySem.Calls PyProof.Rows Builtin Builtin.Str Builtin.Int
set_option maxRecDepth 100000
namespace Mine

section
variable {prog : Program} {w : World} {g : Gr} {fi : FI} {n : Nat} {σ : Loc}

theorem len_append (x y : Str) : (x ++ y).length = x.length + y.length := strLen_append x y
theorem Bin.add_str {x y : Str} (hl : (x ++ y).length ≤ sizeLine) : Bin prog w g n (binaryOp .Add) (.str x) (.str y) (.str (x ++ y)) := by
  rintro A s _ _ Q E _ _ ⟨t, rfl⟩ ⟨u, rfl⟩ q
  refine P.add_str ?_
  split
  · rename_i h
    have e : x ++ y = y := by
      obtain ⟨a⟩ := x; obtain ⟨b⟩ := y
      have : a = #[] := by simpa [Str.length] using h
      subst this
      show Str.mk (#[] ++ b) = _
      simp
    exact q _ _ .refl ⟨u, by rw [e]⟩
  · split
    · rename_i h
      have e : x ++ y = x := by
        obtain ⟨a⟩ := x; obtain ⟨b⟩ := y
        have : b = #[] := by simpa [Str.length] using h
        subst this
        show Str.mk (a ++ #[]) = _
        simp
      exact q _ _ .refl ⟨t, by rw [e]⟩
    · exact ⟨hl, q _ _ .tok ⟨_, rfl⟩⟩
/-- one text within another -/
def within (y x : Str) : Bool := !(occurrences x y 0 x.length 1).isEmpty
theorem Bin.in_str {x y : Str} : Bin prog w g n (compareOp .In) (.str y) (.str x) (.bool (within y x)) := by
  rintro A s _ _ Q E _ _ ⟨t, rfl⟩ ⟨u, rfl⟩ q; exact P.in_str (q _ _ .refl rfl)
theorem Bin.notin_str {x y : Str} : Bin prog w g n (compareOp .NotIn) (.str y) (.str x) (.bool (!within y x)) := by
  rintro A s _ _ Q E _ _ ⟨t, rfl⟩ ⟨u, rfl⟩ q; exact P.notIn_str (q _ _ .refl rfl)

def CV.isNone : CV → Bool
  | .none => true
  | .raw .none => true
  | _ => false
theorem Rp.isNone {V : List Addr} {h : Heap} {c : CV} {v : Value} (r : Rp V h c v) : (v == .none) = c.isNone := by
  cases c with
  | none => cases r; rfl
  | bool => cases r; rfl
  | int => obtain ⟨_, rfl⟩ := r; rfl
  | str => obtain ⟨_, rfl⟩ := r; rfl
  | raw u => cases r; cases v <;> rfl
  | tup => obtain ⟨_, _, _, rfl, _⟩ := r; rfl
  | lst => obtain ⟨_, _, _, rfl, _⟩ := r; rfl
  | acc => obtain ⟨_, _, _, _, _, rfl, _⟩ := r; rfl
  | rng => obtain ⟨_, _, _, _, rfl, _⟩ := r; rfl
theorem Bin.is_none {c : CV} : Bin prog w g n (compareOp .Is) c .none (.bool c.isNone) := by
  rintro A s v _ Q E _ _ r rfl q; exact is_none_gen (q _ _ .refl (by rw [r.isNone]; rfl))
theorem Bin.isnot_none {c : CV} : Bin prog w g n (compareOp .IsNot) c .none (.bool (!c.isNone)) := by
  rintro A s v _ Q E _ _ r rfl q; exact isnot_none_gen (q _ _ .refl (by rw [r.isNone]; rfl))
theorem Bin.floordiv_int {a b : Int} (hb : b ≠ 0) (hp : Builtin.divisionGoesByPylong a b = false) : Bin prog w g n (binaryOp .FloorDiv) (.int a) (.int b) (.int (a.fdiv b)) := by
  rintro A s _ _ Q E _ _ ⟨t, rfl⟩ ⟨u, rfl⟩ q; exact PyProof.Rows.floordiv_int hb (q _ _ .tok ⟨_, rfl⟩) (.inl hp)
theorem FW.str_int {a : Int} (ha : a.natAbs.log2 < 1920) : FW prog w g n (.type "str") [.int a] (.str (Str.ofString (toString a))) := by
  intro A s vs Q E k at_ r q
  obtain ⟨_, _, rfl, ⟨t, rfl⟩, rfl⟩ := r
  exact P.str_of_int ha (q _ _ .tok ⟨_, rfl⟩)

/-- the parts of a formatted text -/
def EJ (prog : Program) (w : World) (g : Gr) (fi : FI) (n : Nat) (σ : Loc) (es : List Expr) (out res : Str) : Prop := ∀ A env s (Q : Value → Shared → Prop) E, OkA g.fr g.hd A n → Fm g fi env s σ →
  (∀ v s', Step g s s' → Rp g.V s'.heap (.str res) v → Q v s') → wpAny (model prog w) A (joinParts out (evalEach es env)) Q E s
theorem EJ.nil {out : Str} (hl : out.length ≤ sizeLine) : EJ prog w g fi n σ [] out out := fun _ _ _ _ _ _ _ q => joinParts_nil (q _ _ .tok ⟨_, rfl⟩) hl
theorem EJ.cons (G : GrOk g) {e : Expr} {es : List Expr} {out y res : Str} (h : EV prog w g fi n σ e (.str y)) (hl : (out ++ y).length ≤ sizeLine) (k : EJ prog w g fi n σ es (out ++ y) res) (hs : ∀ env, evalEach (e :: es) env = eval e env :: evalEach es env := by intro env; rfl) : EJ prog w g fi n σ (e :: es) out res := by
  intro A env s Q E a F q
  rw [hs]
  refine joinParts_cons (h A env s _ E a F fun v s₁ x₁ r => ?_)
  obtain ⟨t, rfl⟩ := r
  exact ⟨hl, k A env s₁ Q E a (F.step G x₁) fun v s₂ x₂ r₂ => q v s₂ (x₁.trans x₂) r₂⟩
theorem EV.joined {e1 e2 : Expr} {es : List Expr} {pos : Pos} {res : Str} (h : EJ prog w g fi n σ (e1 :: e2 :: es) Str.empty res) (hs : ∀ env, evalEach (e1 :: e2 :: es) env = eval e1 env :: eval e2 env :: evalEach es env := by intro env; rfl) : EV prog w g fi n σ (.JoinedStr (e1 :: e2 :: es) pos) (.str res) := by
  intro A env s Q E a F q
  have := h A env s Q E a F q
  rw [hs] at this
  exact JoinedStr_many this
theorem EV.fmt_str (G : GrOk g) {e : Expr} {pos : Pos} {x : Str} (h : EV prog w g fi n σ e (.str x)) (hl : x.length ≤ sizeLine) : EV prog w g fi n σ (.FormattedValue e (-1) Option.none pos) (.str x) := by
  intro A env s Q E a F q
  refine FormattedValue_plain (h A env s _ E a F fun v s₁ x₁ r => ?_)
  obtain ⟨t, rfl⟩ := r
  exact wpAny_toks (formatField_str (fun t' k h => q _ _ (x₁.trans (.tok h)) ⟨_, rfl⟩) hl)
theorem EV.fmt_int (G : GrOk g) {e : Expr} {pos : Pos} {i : Int} (h : EV prog w g fi n σ e (.int i)) (hl : i.natAbs.log2 < 1920) : EV prog w g fi n σ (.FormattedValue e (-1) Option.none pos) (.str (Str.ofString (toString i))) := by
  intro A env s Q E a F q
  refine FormattedValue_plain (h A env s _ E a F fun v s₁ x₁ r => ?_)
  obtain ⟨t, rfl⟩ := r
  exact formatField_int_small hl (q _ _ (x₁.trans (.tok (show s₁.toks ≤ s₁.toks + 1 + 1 by omega))) ⟨_, rfl⟩)

/-- one bound of a slice -/
def EP (prog : Program) (w : World) (g : Gr) (fi : FI) (n : Nat) (σ : Loc) (e : Option Expr) (i : Option Int) : Prop := ∀ A env s (Q : Value → Shared → Prop) E, OkA g.fr g.hd A n → Fm g fi env s σ →
  (∀ v s', Step g s s' → IsPart v i → Q v s') → wpAny (model prog w) A (evalPart e env) Q E s
theorem EP.none : EP prog w g fi n σ none none := fun _ _ _ _ _ _ _ q => wpAny_evalPart_none (q _ _ .refl .none)
theorem EP.some {e : Expr} {i : Int} (h : EV prog w g fi n σ e (.int i)) : EP prog w g fi n σ (some e) (some i) := fun A env s Q E a F q =>
  wpAny_evalPart_some (h A env s Q E a F fun v s' x r => by obtain ⟨t, rfl⟩ := r; exact q _ _ x (.int _ _))

theorem EV.slice (G : Gr2 g) {x : Str} {np p pos : Pos} {lo hi : Option Expr} {a b : Option Int} {l l' : List CV} (h : EV prog w g fi n σ (.Name x np) (.lst l)) (hlo : EP prog w g fi n σ lo a) (hhi : EP prog w g fi n σ hi b) (hl : l.length ≤ 10000)
    (hp : ∀ V h vs, Rps V h l vs → Rps V h l' (slicePick (List.toArray vs) a b Option.none).toList) : EV prog w g fi n σ (.Subscript (.Name x np) (.Slice lo hi Option.none p) pos) (.lst l') := by
  intro A env s Q E k F q
  refine wpAny_Subscript_list_slice (h A env s _ E k F fun v s₁ x₁ r => ?_)
  have F₁ := F.step G.toGrOk x₁
  refine hlo A env s₁ _ E k F₁ fun vl s₂ x₂ pl => ?_
  have F₂ := F₁.step G.toGrOk x₂
  refine hhi A env s₂ _ E k F₂ fun vu s₃ x₃ pu => ?_
  have F₃ := F₂.step G.toGrOk x₃
  have r₃ := Rp.step G.toGrOk F₂.at_ x₃ (Rp.step G.toGrOk F₁.at_ x₂ r)
  obtain ⟨D, vs, rfl, hD, rs⟩ := r₃.isList
  refine ⟨D, List.toArray vs, a, b, rfl, hD, ?_, pl, pu, ?_⟩
  · rw [List.size_toArray, rs.length]; exact Nat.le_trans hl (by decide)
  · have y1 : Step g s₃ { s₃ with heap := s₃.heap.push { cls := .type "slice", data := .fields #[vl, vu, .none] } } := Step.push0 G.toGrOk
    have y2 : Step g { s₃ with heap := s₃.heap.push { cls := .type "slice", data := .fields #[vl, vu, .none] } } { s₃ with heap := (s₃.heap.push { cls := .type "slice", data := .fields #[vl, vu, .none] }).push { cls := .type "list", data := .seq (slicePick (List.toArray vs) a b Option.none) } } := Step.push0 G.toGrOk
    have aa := F₃.at_.step y1
    refine q _ _ (((x₁.trans x₂).trans x₃).trans (y1.trans y2)) ⟨s₃.heap.objs.size + 1, (slicePick (List.toArray vs) a b Option.none).toList, 0, rfl, ?_, ?_, ?_⟩
    · have := At.out aa
      rwa [show (s₃.heap.push { cls := .type "slice", data := .fields #[vl, vu, .none] }).objs.size = s₃.heap.objs.size + 1 from Heap.size_push ..] at this
    · have := Heap.get?_push_size (s₃.heap.push { cls := .type "slice", data := .fields #[vl, vu, .none] }) (o := { cls := .type "list", data := .seq (slicePick (List.toArray vs) a b Option.none) }) rfl
      rw [Heap.size_push] at this
      exact this
    · exact hp _ _ _ (Rps.step G.toGrOk aa y2 (Rps.step G.toGrOk F₃.at_ y1 rs))
theorem EV.upto (G : Gr2 g) {x : Str} {np p pos : Pos} {hi : Expr} {k : Nat} {l : List CV} (h : EV prog w g fi n σ (.Name x np) (.lst l)) (hhi : EV prog w g fi n σ hi (.int k)) (hl : l.length ≤ 10000) : EV prog w g fi n σ (.Subscript (.Name x np) (.Slice Option.none (Option.some hi) Option.none p) pos) (.lst (l.take k)) :=
  EV.slice G h .none (.some hhi) hl fun V h vs r => by rw [slicePick_upto' (List.toArray vs) k]; simpa using r.take k
theorem EV.from_ (G : Gr2 g) {x : Str} {np p pos : Pos} {lo : Expr} {k : Nat} {l : List CV} (h : EV prog w g fi n σ (.Name x np) (.lst l)) (hlo : EV prog w g fi n σ lo (.int k)) (hl : l.length ≤ 10000) : EV prog w g fi n σ (.Subscript (.Name x np) (.Slice (Option.some lo) Option.none Option.none p) pos) (.lst (l.drop k)) :=
  EV.slice G h (.some hlo) .none hl fun V h vs r => by rw [slicePick_from' (List.toArray vs) k]; simpa using r.drop k

theorem EV.rev (G : Gr2 g) {x : Str} {np p pos : Pos} {st : Expr} {l : List CV} (h : EV prog w g fi n σ (.Name x np) (.lst l)) (hst : EV prog w g fi n σ st (.int (-1))) (hl : l.length ≤ 10000) : EV prog w g fi n σ (.Subscript (.Name x np) (.Slice Option.none Option.none (Option.some st) p) pos) (.lst l.reverse) := by
  intro A env s Q E k F q
  refine wpAny_Subscript_Slice_step (T := "list") list_getitem_lookup (h A env s _ E k F fun v s₁ x₁ r => ?_)
  have F₁ := F.step G.toGrOk x₁
  refine wpAny_Slice (wpAny_evalPart_none (wpAny_evalPart_none (wpAny_evalPart_some (hst A env s₁ _ E k F₁ fun vk s₃ x₃ pk => ?_))))
  obtain ⟨t, rfl⟩ := pk
  have F₃ := F₁.step G.toGrOk x₃
  have r₃ := Rp.step G.toGrOk F₁.at_ x₃ r
  obtain ⟨D, vs, rfl, hD, rs⟩ := r₃.isList
  have y1 : Step g s₃ { s₃ with heap := s₃.heap.push { cls := .type "slice", data := .fields #[.none, .none, .int (-1) t] } } := Step.push0 G.toGrOk
  refine ⟨Heap.IsList.typeIs (s := { s₃ with heap := s₃.heap.push { cls := .type "slice", data := .fields #[.none, .none, .int (-1) t] } }) (hD.push _), wpAny_getItem_list_slice (lo := Option.none) (hi := Option.none) (st := Option.some (-1)) (hD.push _) (Heap.IsSliceOf.new ..) .none .none (.int _ _) (by simp) ?_ (by rw [List.size_toArray, rs.length]; exact Nat.le_trans hl (by decide))⟩
  have aa := F₃.at_.step y1
  have y2 := Step.push0 G.toGrOk (s := { s₃ with heap := s₃.heap.push { cls := .type "slice", data := .fields #[.none, .none, .int (-1) t] } }) (o := { cls := .type "list", data := .seq (slicePick (List.toArray vs) Option.none Option.none (Option.some (-1))) })
  refine q _ _ ((x₁.trans x₃).trans (y1.trans y2)) ⟨_, (slicePick (List.toArray vs) Option.none Option.none (Option.some (-1))).toList, 0, rfl, At.out aa, Heap.get?_push_size _ rfl, ?_⟩
  have := Rps.step G.toGrOk aa y2 (Rps.step G.toGrOk F₃.at_ y1 rs)
  rw [krv_pick] at this ⊢
  simpa using this.reverse

theorem Bin.add_list (G : Gr2 g) {l m : List CV} (hl : l.length + m.length ≤ 10000) : Bin prog w g n (binaryOp .Add) (.lst l) (.lst m) (.lst (l ++ m)) := by
  rintro A s _ _ Q E _ at_ ⟨a, vs, i, rfl, _, ea, ra⟩ ⟨b, us, j, rfl, _, eb, rb⟩ q
  refine P.add_list ea eb (q _ _ (Step.push0 G.toGrOk) ⟨_, vs ++ us, 0, rfl, At.out at_, ?_, ?_⟩) ?_
  · have : (List.toArray vs ++ List.toArray us) = List.toArray (vs ++ us) := by simp
    rw [this]; exact Heap.get?_push_size _ rfl
  · exact (Rps.step G.toGrOk at_ (Step.push0 G.toGrOk) ra).append (Rps.step G.toGrOk at_ (Step.push0 G.toGrOk) rb)
  · rw [List.size_toArray, List.size_toArray, ra.length, rb.length]; exact Nat.le_trans hl (by decide)
theorem Rps.rep {V : List Addr} {h : Heap} {cs : List CV} {vs : List Value} (r : Rps V h cs vs) : ∀ k : Nat, Rps V h (List.replicate k cs).flatten (List.replicate k vs).flatten
  | 0 => rfl
  | k + 1 => by simpa [List.replicate_succ] using r.append (r.rep k)
theorem Bin.mul_list' (G : Gr2 g) {l : List CV} {x : Int} (hne : l ≠ []) (h0 : 0 ≤ x) (hk : x < 1000) (hl : l.length ≤ 10000) : Bin prog w g n (binaryOp .Mult) (.lst l) (.int x) (.lst (List.replicate x.toNat l).flatten) := by
  rintro A s _ _ Q E _ at_ ⟨a, vs, i, rfl, _, ea, ra⟩ ⟨u, rfl⟩ q
  have hx : x.toNat < 1000 := by omega
  have hsz : (List.toArray vs).size * x.toNat ≤ 10000 * 1000 := by
    rw [List.size_toArray, ra.length]
    exact Nat.mul_le_mul hl (Nat.le_of_lt hx)
  refine wpAny_binaryOp_repeat_ref (T := "list") (U := "int") (by decide) ⟨_, ea, rfl⟩ (fun s' => typeIs_int s' x u) noFill_list_mul F.fills_int_mul F.slot_int_rmul repeat_list F.slot_int_index.lookup
    (call_meets F.slot_int_rmul (typeIs_int s x u) F.entry_int_rmul (F.args_int_rmul_2 _ _) (int___rmul___int_list x u a (List.toArray vs) i)
      ⟨ea, rfl, ⟨_, ea, rfl⟩, call_meets F.slot_list_mul ⟨_, ea, rfl⟩ F.entry_list_mul (F.args_list_mul_2 _ _)
        (AutoListH.list___mul___list_int_3 a (List.toArray vs) i x u (by simp [Builtin.List.listFitsIndex]; omega) (by omega) (by rw [List.size_toArray] at *; simp [Builtin.List.listTooLong, sizeLine]; omega))
        ⟨ea, ?_⟩⟩)
  refine q _ _ (Step.push0 G.toGrOk) ⟨_, (List.replicate x.toNat vs).flatten, 0, rfl, At.out at_, ?_, ?_⟩
  · have hv : (List.toArray vs).isEmpty = false := by
      cases vs with
      | nil => have := ra.length; cases l with | nil => exact absurd rfl hne | cons => cases this
      | cons => rfl
    rw [hv]
    have e : List.foldl (fun x1 x2 => x1 ++ x2) #[] (List.replicate (if false = true then 0 else x.toNat) (List.toArray vs)) = List.toArray (List.replicate x.toNat vs).flatten := by
      rw [listMul_foldl]; simp
    rw [e]
    exact Heap.get?_push_size _ rfl
  · exact (Rps.step G.toGrOk at_ (Step.push0 G.toGrOk) ra).rep _
end
end Mine
end
section
open PySem PySem.W PySem.Calls PyProof.Rows Builtin Builtin.Str Builtin.Int
set_option maxRecDepth 100000
namespace Mine

-- data, as the kit reads them
mutual
def CV.dat : CV → PyData
  | .none => .none
  | .bool b => .bool b
  | .int i => .int i
  | .str x => .str x
  | .tup l => .tuple (CV.dats l)
  | .lst l => .list (CV.dats l)
  | _ => .dict []
def CV.dats : List CV → List PyData
  | [] => []
  | c :: cs => c.dat :: CV.dats cs
end
mutual
def CV.isDat : CV → Bool
  | .none => true
  | .bool _ => true
  | .int _ => true
  | .str x => PyData.strOk x
  | .tup l => CV.areDat l
  | .lst l => CV.areDat l
  | _ => false
def CV.areDat : List CV → Bool
  | [] => true
  | c :: cs => c.isDat && CV.areDat cs
end
mutual
theorem Rp.reads {V : List Addr} {h : Heap} : ∀ {c : CV} {v : Value}, c.isDat = true → Rp V h c v → ∃ as, Reads h v c.dat as
  | .none, _, _, e => by cases e; exact ⟨_, .none⟩
  | .bool b, _, _, e => by cases e; exact ⟨_, .bool b⟩
  | .int i, _, _, ⟨t, e⟩ => by cases e; exact ⟨_, .int i t⟩
  | .str x, _, _, ⟨t, e⟩ => by cases e; exact ⟨_, .str x t⟩
  | .tup l, _, d, ⟨a, vs, n, e, _, o, r⟩ => by
    subst e
    obtain ⟨as, q⟩ := Rps.reads (l := l) (by simpa [CV.isDat] using d) r
    exact ⟨_, reads_tuple_at o rfl rfl (by simpa [CV.dat] using q)⟩
  | .lst l, _, d, ⟨a, vs, n, e, _, o, r⟩ => by
    subst e
    obtain ⟨as, q⟩ := Rps.reads (l := l) (by simpa [CV.isDat] using d) r
    exact ⟨_, reads_list_at o rfl rfl (by simpa [CV.dat] using q)⟩
  | .raw _, _, d, _ => by simp [CV.isDat] at d
  | .acc _ _ _, _, d, _ => by simp [CV.isDat] at d
  | .rng _, _, d, _ => by simp [CV.isDat] at d
theorem Rps.reads {V : List Addr} {h : Heap} : ∀ {l : List CV} {vs : List Value}, CV.areDat l = true → Rps V h l vs → ∃ as, ReadsAll h vs (CV.dats l) as
  | [], _, _, e => by cases e; exact ⟨_, .nil⟩
  | c :: cs, _, d, ⟨v, us, e, r, rs⟩ => by
    subst e
    have d' : c.isDat = true ∧ CV.areDat cs = true := by simpa [CV.areDat] using d
    obtain ⟨as, q⟩ := Rp.reads d'.1 r
    obtain ⟨bs, p⟩ := Rps.reads d'.2 rs
    exact ⟨_, .cons q p⟩
end
mutual
theorem CV.canLay : ∀ {c : CV}, c.isDat = true → c.dat.canLay0 = true
  | .none, _ => rfl
  | .bool b, _ => rfl
  | .int i, _ => rfl
  | .str x, d => by simpa [CV.dat, PyData.canLay0, CV.isDat] using d
  | .tup l, d => by simpa [CV.dat, PyData.canLay0] using CV.canLays (by simpa [CV.isDat] using d)
  | .lst l, d => by simpa [CV.dat, PyData.canLay0] using CV.canLays (by simpa [CV.isDat] using d)
  | .raw _, d => by simp [CV.isDat] at d
  | .acc _ _ _, d => by simp [CV.isDat] at d
  | .rng _, d => by simp [CV.isDat] at d
theorem CV.canLays : ∀ {l : List CV}, CV.areDat l = true → PyData.canLayAll0 (CV.dats l) = true
  | [], _ => rfl
  | c :: cs, d => by
    have d' : c.isDat = true ∧ CV.areDat cs = true := by simpa [CV.areDat] using d
    simp [CV.dats, PyData.canLayAll0, CV.canLay d'.1, CV.canLays d'.2]
end
/-- equality of data, as python has it -/
def CV.eqv (c d : CV) : Bool := PyData.eqv c.dat d.dat

/-- a comparison that leaves the state: by data -/
def EQ (V : List Addr) (k : Nat) (x y : CV) (b : Bool) : Prop := ∀ (prog : Program) (w : World) A s u v (Q : Bool → Shared → Prop) E, A.units + k < cLine → Rp V s.heap x u → Rp V s.heap y v → Q b s → wpAny (model prog w) A (eqBool u v) Q E s
def RC (V : List Addr) (k : Nat) (op : CmpOp) (x y : CV) (b : Bool) : Prop := ∀ (prog : Program) (w : World) A s u v (Q : Value → Shared → Prop) E, A.units + k < cLine → Rp V s.heap x u → Rp V s.heap y v → Q (.bool b) s → wpAny (model prog w) A (richCompare op u v) Q E s
theorem EQ.dat {V : List Addr} {k : Nat} {x y : CV} (hx : x.isDat = true) (hy : y.isDat = true) (hk : x.dat.depth ≤ k) : EQ V k x y (x.eqv y) := by
  intro prog w A s u v Q E hu rx ry q
  obtain ⟨as, r1⟩ := Rp.reads hx rx
  obtain ⟨bs, r2⟩ := Rp.reads hy ry
  exact SeqAt.eqAt_reads _ _ A s u v as bs r1 r2 (CV.canLay hx) (CV.canLay hy) (by have : min x.dat.depth y.dat.depth ≤ x.dat.depth := Nat.min_le_left _ _; omega) prog w E Q q

section
variable {prog : Program} {w : World} {g : Gr} {n : Nat}
theorem Bin.eq_dat {x y : CV} (hx : x.isDat = true) (hy : y.isDat = true) (hk : x.dat.depth ≤ 64) (hk' : y.dat.depth ≤ 64) : Bin prog w g n (compareOp .Eq) x y (.bool (x.eqv y)) := by
  intro A s u v Q E a at_ rx ry q
  obtain ⟨as, r1⟩ := Rp.reads hx rx
  obtain ⟨bs, r2⟩ := Rp.reads hy ry
  exact eq_dataH r1 r2 (by simp [SeqAt.shaped, CV.canLay hx, hk]) (by simp [SeqAt.shaped, CV.canLay hy, hk']) (by have := a.2.1; show A.units + 64 < 9900; omega) (q _ _ .refl rfl)

theorem Bin.ne_dat {x y : CV} (hx : x.isDat = true) (hy : y.isDat = true) (hk : x.dat.depth ≤ 64) (hk' : y.dat.depth ≤ 64) : Bin prog w g n (compareOp .NotEq) x y (.bool (!x.eqv y)) := by
  intro A s u v Q E a at_ rx ry q
  obtain ⟨as, r1⟩ := Rp.reads hx rx
  obtain ⟨bs, r2⟩ := Rp.reads hy ry
  exact ne_dataH r1 r2 (by simp [SeqAt.shaped, CV.canLay hx, hk]) (by simp [SeqAt.shaped, CV.canLay hy, hk']) (by have := a.2.1; show A.units + 64 < 9900; omega) (q _ _ .refl rfl)
end

/-- the orders -/
def IsOrd (op : CmpOp) : Prop := op = .Lt ∨ op = .Gt ∨ op = .GtE
def ordI (op : CmpOp) (a b : Int) : Bool := match op with
  | .Lt => decide (a < b) | .Gt => decide (a > b) | _ => decide (a ≥ b)
def ordN (op : CmpOp) (a b : Nat) : Bool := match op with
  | .Lt => decide (a < b) | .Gt => decide (a > b) | _ => decide (a ≥ b)
theorem RC.int {V : List Addr} {k : Nat} {op : CmpOp} (h : IsOrd op) {a b : Int} : RC V k op (.int a) (.int b) (ordI op a b) := by
  rintro prog w A s _ _ Q E _ ⟨t, rfl⟩ ⟨u, rfl⟩ q
  rcases h with rfl | rfl | rfl
  · exact P.lt_int q
  · exact P.gt_int q
  · exact P.ge_int q
theorem RC.bool {V : List Addr} {k : Nat} {op : CmpOp} (h : IsOrd op) {a b : Bool} : RC V k op (.bool a) (.bool b) (ordI op (if a then 1 else 0) (if b then 1 else 0)) := by
  rintro prog w A s _ _ Q E _ rfl rfl q
  rcases h with rfl | rfl | rfl
  · exact lt_bool (by cases a <;> cases b <;> exact q)
  · exact gt_bool (by cases a <;> cases b <;> exact q)
  · exact ge_bool (by cases a <;> cases b <;> exact q)

/-- the order of sequences: by the first pair that differs -/
def lexI (op : CmpOp) (e f : Nat → Bool) (m n : Nat) : Nat → Nat → Bool
  | 0, _ => ordN op m n
  | k + 1, i => if e i then lexI op e f m n k (i + 1) else f i

def sizesV (op : CmpOp) (m n : Nat) : Value := .bool (match op with | .Eq => m == n | .NotEq => m != n | .Lt => decide (m < n) | .LtE => decide (m ≤ n) | .Gt => decide (m > n) | _ => decide (m ≥ n))
def CodeOf (c : Nat) (op : CmpOp) : Prop := (c = 0 ∧ op = .Lt) ∨ (c = 4 ∧ op = .Gt) ∨ (c = 5 ∧ op = .GtE)
theorem CodeOf.ord {c : Nat} {op : CmpOp} (h : CodeOf c op) : IsOrd op := by
  rcases h with ⟨_, h⟩ | ⟨_, h⟩ | ⟨_, h⟩
  · exact .inl h
  · exact .inr (.inl h)
  · exact .inr (.inr h)
theorem lI {M : Model} {A : Around} {E : Value → Shared → Prop} {s : Shared} {Q : Array Value → Shared → Prop} {l : Addr} {o : Obj} {items : Array Value} {n : Nat} (ho : s.heap.get? l = some o) (hd : o.data = .seq items n) (q : Q items s) : wpAny M A (Builtin.List.listItems (.ref l)) Q E s := by
  unfold Builtin.List.listItems
  exact wpAny_bind (wpAny_seqItems ho hd (wpAny_pure q))
open MeetsSeq3 AutoSeq1 in
theorem ord_loop {op : CmpOp} {c : Nat} (hc : CodeOf c op) (l b : Addr) (items items2 : Array Value) (n n2 : Nat) (e f : Nat → Bool) (r : Nat) :
    ∀ i : Nat, min items.size items2.size - i = r → Meets (Builtin.«list.__eq__.loop» ⟨[.ref l, .ref b, rawInt i, rawInt c], []⟩)
      (fun A R s => s.heap.get? l = some { cls := .type "list", dict := none, data := .seq items n, slots := #[] } ∧ s.heap.get? b = some { cls := .type "list", dict := none, data := .seq items2 n2, slots := #[] } ∧
        (∀ j (h1 : j < items.size) (h2 : j < items2.size) (prog : Program) (w : World) (Q : Bool → Shared → Prop) E, Q (e j) s → wpAny (model prog w) A.in1 (eqBool items[j] items2[j]) Q E s) ∧
        (∀ j (h1 : j < items.size) (h2 : j < items2.size) (prog : Program) (w : World) (Q : Value → Shared → Prop) E, e j = false → Q (.bool (f j)) s → wpAny (model prog w) A.in1 (richCompare op items[j] items2[j]) Q E s) ∧
        R (.ok (.ret (.bool (lexI op e f items.size items2.size r i)))) s) := by
  induction r with
  | zero =>
    intro i hk prog w A R s h
    obtain ⟨hl, hb, _, _, h⟩ := h
    have hn : items[((i : Nat) : Int).toNat]? = none ∨ items2[((i : Nat) : Int).toNat]? = none := by
      by_cases q : items.size ≤ i
      · left; simp; omega
      · right; simp; omega
    rcases hc with ⟨rfl, rfl⟩ | ⟨rfl, rfl⟩ | ⟨rfl, rfl⟩
    all_goals
      show wpAny _ A.in1 (Builtin.List.listItems (.ref l) >>= _) _ _ s
      refine wpAny_bind (lI hl rfl ?_)
      refine wpAny_bind (lI hb rfl ?_)
      rcases hn with hn | hn
      · rw [hn]
        cases items2[((i : Nat) : Int).toNat]?
        all_goals exact wpAny_bind (lI hl rfl (wpAny_bind (lI hb rfl (wpAny_pure h))))
      · rw [hn]
        cases items[((i : Nat) : Int).toNat]?
        all_goals exact wpAny_bind (lI hl rfl (wpAny_bind (lI hb rfl (wpAny_pure h))))
  | succ r ih =>
    intro i hk prog w A R s h
    have hlt : i < items.size := by omega
    have hlt2 : i < items2.size := by omega
    have hi1 : items[((i : Nat) : Int).toNat]? = some items[i] := by simp [hlt]
    have hi2 : items2[((i : Nat) : Int).toNat]? = some items2[i] := by simp [hlt2]
    have hcast : ((i : Int) + 1) = ((i + 1 : Nat) : Int) := by push_cast; rfl
    obtain ⟨hl, hb, he, hf, h⟩ := h
    have he' := he i hlt hlt2 prog w
    have hf' := hf i hlt hlt2 prog w
    have ih' := ih (i + 1) (by omega) prog w A R
    rcases hc with ⟨rfl, rfl⟩ | ⟨rfl, rfl⟩ | ⟨rfl, rfl⟩
    all_goals
      show wpAny _ A.in1 (Builtin.List.listItems (.ref l) >>= _) _ _ s
      refine wpAny_bind (lI hl rfl ?_)
      refine wpAny_bind (lI hb rfl ?_)
      rw [hi1, hi2]
      refine wpAny_bind (he' _ _ ?_)
      cases hb' : e i with
      | true =>
        simp only [lexI, hb', if_true] at h
        refine wpAny_pure ?_
        rw [hcast]
        exact ⟨plainId_quiet plain_eq_loop _, codeAny_builtin entry_eq_loop (by
          rw [Around.under_plainId plain_eq_loop _]
          exact ih' _ ⟨hl, hb, he, hf, h⟩)⟩
      | false =>
        simp only [lexI, hb', Bool.false_eq_true, if_false] at h
        refine wpAny_bind (lI hl rfl (wpAny_bind (lI hb rfl ?_)))
        rw [hi1, hi2]
        exact wpAny_bind (hf' _ _ hb' (wpAny_pure h))

open MeetsSeq3 AutoSeq1 in
theorem list_ord {op : CmpOp} {c : Nat} (hc : CodeOf c op) (l b : Addr) (items items2 : Array Value) (n n2 : Nat) (e f : Nat → Bool) {B : Builtin}
    (hB : (c = 0 ∧ B = Builtin.«list.__lt__») ∨ (c = 4 ∧ B = Builtin.«list.__gt__») ∨ (c = 5 ∧ B = Builtin.«list.__ge__»)) : Meets (B ⟨[.ref l, .ref b], []⟩)
      (fun A R s => s.heap.get? l = some { cls := .type "list", dict := none, data := .seq items n, slots := #[] } ∧ s.heap.get? b = some { cls := .type "list", dict := none, data := .seq items2 n2, slots := #[] } ∧
        (∀ j (h1 : j < items.size) (h2 : j < items2.size) (prog : Program) (w : World) (Q : Bool → Shared → Prop) E, Q (e j) s → wpAny (model prog w) A.in1 (eqBool items[j] items2[j]) Q E s) ∧
        (∀ j (h1 : j < items.size) (h2 : j < items2.size) (prog : Program) (w : World) (Q : Value → Shared → Prop) E, e j = false → Q (.bool (f j)) s → wpAny (model prog w) A.in1 (richCompare op items[j] items2[j]) Q E s) ∧
        R (.ok (.ret (.bool (lexI op e f items.size items2.size (min items.size items2.size) 0)))) s) := by
  intro prog w A R s h
  have L := ord_loop hc l b items items2 n n2 e f _ 0 rfl prog w A R s (by simpa using h)
  obtain ⟨hl, hb, _⟩ := h
  have fin : wpAny (model prog w) A.in1 (again (.builtin "list.__eq__.loop" ⟨[.ref l, .ref b, rawInt 0, rawInt c], []⟩)) (fun fin s' => match fin with | .done f => R (.ok f) s' | .again c' => c'.quiet = true ∧ codeAny (model prog w) A c' R s') (fun e s' => R (.error e) s') s := by
    refine wpAny_pure ⟨plainId_quiet plain_eq_loop _, codeAny_builtin entry_eq_loop ?_⟩
    rw [Around.under_plainId plain_eq_loop _]
    exact L
  rcases hc with ⟨rfl, rfl⟩ | ⟨rfl, rfl⟩ | ⟨rfl, rfl⟩
  · have : B = Builtin.«list.__lt__» := by rcases hB with ⟨_, h⟩ | ⟨h, _⟩ | ⟨h, _⟩ <;> first | exact h | cases h
    subst this
    show wpAny _ A.in1 (isInstance (.ref b) (.type "list") >>= _) _ _ s
    exact wpAny_bind (wpAny_isInstance ⟨_, hb, rfl⟩ AutoSeq1.sub_list_list fin)
  · have : B = Builtin.«list.__gt__» := by rcases hB with ⟨h, _⟩ | ⟨_, h⟩ | ⟨h, _⟩ <;> first | exact h | cases h
    subst this
    show wpAny _ A.in1 (isInstance (.ref b) (.type "list") >>= _) _ _ s
    exact wpAny_bind (wpAny_isInstance ⟨_, hb, rfl⟩ AutoSeq1.sub_list_list fin)
  · have : B = Builtin.«list.__ge__» := by rcases hB with ⟨h, _⟩ | ⟨h, _⟩ | ⟨_, h⟩ <;> first | exact h | cases h
    subst this
    show wpAny _ A.in1 (isInstance (.ref b) (.type "list") >>= _) _ _ s
    exact wpAny_bind (wpAny_isInstance ⟨_, hb, rfl⟩ AutoSeq1.sub_list_list fin)

def lexC (op : CmpOp) (e f : CV → CV → Bool) : List CV → List CV → Bool
  | x :: l, y :: m => if e x y then lexC op e f l m else f x y
  | l, m => ordN op l.length m.length
theorem ordN_succ {op : CmpOp} {a b : Nat} : ordN op (a + 1) (b + 1) = ordN op a b := by
  cases op <;> simp [ordN]
theorem lexI_shift {op : CmpOp} {e f : Nat → Bool} {m n : Nat} : ∀ (k i : Nat), lexI op e f m n k (i + 1) = lexI op (fun j => e (j + 1)) (fun j => f (j + 1)) m n k i
  | 0, i => rfl
  | k + 1, i => by simp only [lexI]; rw [lexI_shift k (i + 1)]
theorem lexI_size {op : CmpOp} {e f : Nat → Bool} {m n : Nat} : ∀ (k i : Nat), lexI op e f (m + 1) (n + 1) k i = lexI op e f m n k i
  | 0, i => ordN_succ
  | k + 1, i => by simp only [lexI]; rw [lexI_size k (i + 1)]
theorem lexI_eq {op : CmpOp} {e f : CV → CV → Bool} : ∀ (l m : List CV), lexI op (fun j => e (l.getD j .none) (m.getD j .none)) (fun j => f (l.getD j .none) (m.getD j .none)) l.length m.length (min l.length m.length) 0 = lexC op e f l m
  | [], m => by simp [lexI, lexC]
  | x :: l, [] => by simp [lexI, lexC]
  | x :: l, y :: m => by
    have e1 : min (x :: l).length (y :: m).length = min l.length m.length + 1 := by simp only [List.length_cons]; omega
    rw [e1]
    simp only [lexI, lexC, List.length_cons]
    rw [lexI_shift, lexI_size]
    have := lexI_eq (op := op) (e := e) (f := f) l m
    simp only [List.getD_cons_succ, List.getD_cons_zero]
    rw [this]
theorem Rps.at {V : List Addr} {h : Heap} {cs : List CV} {vs : List Value} (r : Rps V h cs vs) {j : Nat} (hj : j < vs.length) : Rp V h (cs.getD j .none) vs[j] := by
  have hl : j < cs.length := by rw [← r.length]; exact hj
  obtain ⟨v, e, q⟩ := r.get (i := j) (c := cs.getD j .none) (by simp [List.getD, hl])
  rw [List.getElem?_eq_getElem hj] at e
  cases e; exact q
theorem mem_getD {l : List CV} {j : Nat} (h : j < l.length) : l.getD j .none ∈ l := by simp [List.getD, h]

theorem RC.lst {V : List Addr} {k : Nat} {op : CmpOp} (hop : IsOrd op) {l m : List CV} {e f : CV → CV → Bool} (he : ∀ x ∈ l, ∀ y ∈ m, EQ V k x y (e x y)) (hf : ∀ x ∈ l, ∀ y ∈ m, e x y = false → RC V k op x y (f x y)) :
    RC V (k + 2) op (.lst l) (.lst m) (lexC op e f l m) := by
  rintro prog w A s _ _ Q E hu ⟨a, vs, i, rfl, _, ea, ra⟩ ⟨b, us, j, rfl, _, eb, rb⟩ q
  have room : A.units < cLine := by omega
  have key : ∀ (E : Value → Shared → Prop) (Q : Value → Shared → Prop) , Q (.bool (lexC op e f l m)) s → s.heap.get? a = some { cls := .type "list", dict := none, data := .seq (List.toArray vs) i, slots := #[] } ∧ s.heap.get? b = some { cls := .type "list", dict := none, data := .seq (List.toArray us) j, slots := #[] } ∧
        (∀ jj (h1 : jj < (List.toArray vs).size) (h2 : jj < (List.toArray us).size) (prog : Program) (w : World) (Q : Bool → Shared → Prop) E, Q (e (l.getD jj .none) (m.getD jj .none)) s → wpAny (model prog w) A.in1 (eqBool (List.toArray vs)[jj] (List.toArray us)[jj]) Q E s) ∧
        (∀ jj (h1 : jj < (List.toArray vs).size) (h2 : jj < (List.toArray us).size) (prog : Program) (w : World) (Q : Value → Shared → Prop) E, e (l.getD jj .none) (m.getD jj .none) = false → Q (.bool (f (l.getD jj .none) (m.getD jj .none))) s → wpAny (model prog w) A.in1 (richCompare op (List.toArray vs)[jj] (List.toArray us)[jj]) Q E s) ∧
        (wants Q E) (.ok (.ret (.bool (lexI op (fun j => e (l.getD j .none) (m.getD j .none)) (fun j => f (l.getD j .none) (m.getD j .none)) (List.toArray vs).size (List.toArray us).size (min (List.toArray vs).size (List.toArray us).size) 0)))) s := by
    intro E Q q
    refine ⟨ea, eb, fun jj h1 h2 prog w Q E q => ?_, fun jj h1 h2 prog w Q E h q => ?_, ?_⟩
    · rw [List.size_toArray] at h1 h2
      exact he _ (mem_getD (by rw [← ra.length]; exact h1)) _ (mem_getD (by rw [← rb.length]; exact h2)) prog w A.in1 s _ _ Q E (by show A.units + 1 + k < cLine; omega) (by simpa using ra.at h1) (by simpa using rb.at h2) q
    · rw [List.size_toArray] at h1 h2
      exact hf _ (mem_getD (by rw [← ra.length]; exact h1)) _ (mem_getD (by rw [← rb.length]; exact h2)) h prog w A.in1 s _ _ Q E (by show A.units + 1 + k < cLine; omega) (by simpa using ra.at h1) (by simpa using rb.at h2) q
    · rw [List.size_toArray, List.size_toArray, ra.length, rb.length, lexI_eq]; exact q
  rcases hop with rfl | rfl | rfl
  · exact wpAny_richCompare_same_room (T := "list") (id := "list.__lt__") ⟨_, ea, rfl⟩ ⟨_, eb, rfl⟩ F.slot_list_lt (call_meets F.slot_list_lt ⟨_, ea, rfl⟩ F.entry_list_lt (F.args_list_lt_2 _ _) (list_ord (c := 0) (.inl ⟨rfl, rfl⟩) a b (List.toArray vs) (List.toArray us) i j _ _ (.inl ⟨rfl, rfl⟩)) (key E (fun v s' => v ≠ .notImplemented ∧ Q v s') ⟨by simp, q⟩)) room
  · exact wpAny_richCompare_same_room (T := "list") (id := "list.__gt__") ⟨_, ea, rfl⟩ ⟨_, eb, rfl⟩ F.slot_list_gt (call_meets F.slot_list_gt ⟨_, ea, rfl⟩ F.entry_list_gt (F.args_list_gt_2 _ _) (list_ord (c := 4) (.inr (.inl ⟨rfl, rfl⟩)) a b (List.toArray vs) (List.toArray us) i j _ _ (.inr (.inl ⟨rfl, rfl⟩))) (key E (fun v s' => v ≠ .notImplemented ∧ Q v s') ⟨by simp, q⟩)) room
  · exact wpAny_richCompare_same_room (T := "list") (id := "list.__ge__") ⟨_, ea, rfl⟩ ⟨_, eb, rfl⟩ F.slot_list_ge (call_meets F.slot_list_ge ⟨_, ea, rfl⟩ F.entry_list_ge (F.args_list_ge_2 _ _) (list_ord (c := 5) (.inr (.inr ⟨rfl, rfl⟩)) a b (List.toArray vs) (List.toArray us) i j _ _ (.inr (.inr ⟨rfl, rfl⟩))) (key E (fun v s' => v ≠ .notImplemented ∧ Q v s') ⟨by simp, q⟩)) room

def lexO (e f : CV → CV → Bool) : List CV → List CV → Option Bool
  | x :: l, y :: m => if e x y then lexO e f l m else some (f x y)
  | _, _ => none
theorem lexC_eq {op : CmpOp} {e f : CV → CV → Bool} : ∀ (l m : List CV), lexC op e f l m = (lexO e f l m).getD (ordN op l.length m.length)
  | [], _ => by simp [lexC, lexO]
  | _ :: _, [] => by simp [lexC, lexO]
  | x :: l, y :: m => by
    simp only [lexC, lexO, List.length_cons, ordN_succ]
    cases e x y
    · simp
    · simp [lexC_eq l m]
def tupBody (op : CmpOp) (x y : Value) : Sem (ForInStep (Option PySem.Fin × Unit)) := do
  let b ← eqBool x y
  if (!b) = true then do
    rule "tuple.compare.by-the-first-pair-that-differs"
    let r ← richCompare op x y
    let r ← ret r
    pure (ForInStep.done (some r, ()))
  else pure (ForInStep.yield (none, ()))
theorem tup_fold {op : CmpOp} {prog : Program} {w : World} {A : Around} {s : Shared} {E : Value → Shared → Prop} {V : List Addr} {k : Nat} {e f : CV → CV → Bool} (hu : A.units + k < cLine)
    {body : Value × Value → Option PySem.Fin × Unit → Sem (ForInStep (Option PySem.Fin × Unit))} (hb : ∀ x y, body (x, y) (none, ()) = tupBody op x y) : ∀ (l m : List CV) (vs us : List Value) (Q : Option PySem.Fin × Unit → Shared → Prop),
    Rps V s.heap l vs → Rps V s.heap m us → (∀ x ∈ l, ∀ y ∈ m, EQ V k x y (e x y)) → (∀ x ∈ l, ∀ y ∈ m, e x y = false → RC V k op x y (f x y)) →
    Q ((lexO e f l m).map fun b => .done (.ret (.bool b)), ()) s → wpAny (model prog w) A (forIn (vs.zip us) (none, ()) body) Q E s
  | [], m, vs, us, Q, r1, r2, he, hf, q => by
    cases r1
    simp only [List.zip_nil_left, List.forIn_nil]
    exact wpAny_pure q
  | x :: l, [], vs, us, Q, r1, r2, he, hf, q => by
    cases r2
    simp only [List.zip_nil_right, List.forIn_nil]
    exact wpAny_pure q
  | x :: l, y :: m, _, _, Q, ⟨u, us, h1, ru, rus⟩, ⟨v, vs, h2, rv, rvs⟩, he, hf, q => by
    subst h1 h2
    rw [List.zip_cons_cons, List.forIn_cons, hb]
    unfold tupBody
    refine wpAny_bind (wpAny_bind (he x (.head _) y (.head _) prog w A s u v _ E hu ru rv ?_))
    cases hxy : e x y with
    | true =>
      simp only [Bool.not_true, Bool.false_eq_true, if_false]
      refine wpAny_pure ?_
      refine tup_fold hu hb l m us vs Q rus rvs (fun x hx y hy => he x (.tail _ hx) y (.tail _ hy)) (fun x hx y hy => hf x (.tail _ hx) y (.tail _ hy)) ?_
      simp only [lexO, hxy, if_true] at q
      exact q
    | false =>
      simp only [Bool.not_false, if_true]
      refine wpAny_bind (wpAny_rule (wpAny_bind (hf x (.head _) y (.head _) hxy prog w A s u v _ E hu ru rv ?_)))
      refine wpAny_bind (wpAny_pure (wpAny_pure (wpAny_pure ?_)))
      simp only [lexO, hxy, Bool.false_eq_true, if_false] at q
      exact q

theorem tI {M : Model} {A : Around} {E : Value → Shared → Prop} {s : Shared} {Q : Array Value → Shared → Prop} {l : Addr} {o : Obj} {items : Array Value} {n : Nat} (ho : s.heap.get? l = some o) (hd : o.data = .seq items n) (q : Q items s) : wpAny M A (Builtin.Tuple.tupleItemsOf (.ref l)) Q E s := by
  unfold Builtin.Tuple.tupleItemsOf
  exact wpAny_bind (wpAny_seqItems ho hd (wpAny_pure q))
theorem tuple_ord {V : List Addr} {k : Nat} {op : CmpOp} (hop : IsOrd op) {l m : List CV} {e f : CV → CV → Bool} (he : ∀ x ∈ l, ∀ y ∈ m, EQ V k x y (e x y)) (hf : ∀ x ∈ l, ∀ y ∈ m, e x y = false → RC V k op x y (f x y)) (a b : Addr) (vs us : List Value) (n n2 : Nat) {B : Builtin}
    (hB : (op = .Lt ∧ B = Builtin.«tuple.__lt__») ∨ (op = .Gt ∧ B = Builtin.«tuple.__gt__») ∨ (op = .GtE ∧ B = Builtin.«tuple.__ge__»)) : Meets (B ⟨[.ref a, .ref b], []⟩)
      (fun A R s => A.in1.units + k < cLine ∧ s.heap.get? a = some (seqObj "tuple" (List.toArray vs) n) ∧ s.heap.get? b = some (seqObj "tuple" (List.toArray us) n2) ∧ Rps V s.heap l vs ∧ Rps V s.heap m us ∧ R (.ok (.ret (.bool (lexC op e f l m)))) s) := by
  intro prog w A R s h
  obtain ⟨hu, ha, hb, ra, rb, h⟩ := h
  have fin : ∀ (o : Option Bool), lexO e f l m = o → wpAny (model prog w) A.in1 (match (o.map fun b => (PySem.Fin.done (.ret (.bool b)))) with | some r => pure r | none => ret (sizesV op (List.toArray vs).size (List.toArray us).size)) (fun fin s' => match fin with | .done f => R (.ok f) s' | .again c' => c'.quiet = true ∧ codeAny (model prog w) A c' R s') (fun e s' => R (.error e) s') s := by
    intro o ho
    rw [lexC_eq, ho] at h
    cases o with
    | some b => exact wpAny_pure h
    | none =>
      refine wpAny_pure ?_
      rw [List.size_toArray, List.size_toArray, ra.length, rb.length]
      rcases hop with rfl | rfl | rfl <;> exact h
  rcases hB with ⟨rfl, rfl⟩ | ⟨rfl, rfl⟩ | ⟨rfl, rfl⟩
  all_goals
    show wpAny _ A.in1 (isInstance (.ref b) (.type "tuple") >>= _) _ _ s
    refine wpAny_bind (wpAny_isInstance ⟨_, hb, rfl⟩ AutoSeq1.sub_tuple_tuple ?_)
    show wpAny _ A.in1 (Builtin.Tuple.tupleItemsOf (.ref a) >>= _) _ _ s
    refine wpAny_bind (tI ha rfl (wpAny_bind (tI hb rfl (wpAny_bind ?_))))
    refine tup_fold hu (fun x y => rfl) l m vs us _ ra rb he hf ?_
    have FF := fin _ rfl
    revert FF
    cases lexO e f l m <;> intro FF <;> exact FF
theorem RC.tup {V : List Addr} {k : Nat} {op : CmpOp} (hop : IsOrd op) {l m : List CV} {e f : CV → CV → Bool} (he : ∀ x ∈ l, ∀ y ∈ m, EQ V k x y (e x y)) (hf : ∀ x ∈ l, ∀ y ∈ m, e x y = false → RC V k op x y (f x y)) :
    RC V (k + 2) op (.tup l) (.tup m) (lexC op e f l m) := by
  rintro prog w A s _ _ Q E hu ⟨a, vs, i, rfl, _, ea, ra⟩ ⟨b, us, j, rfl, _, eb, rb⟩ q
  have room : A.units < cLine := by omega
  have hu1 : A.in1.units + k < cLine := by show A.units + 1 + k < cLine; omega
  rcases hop with rfl | rfl | rfl
  · exact wpAny_richCompare_same_room (T := "tuple") (id := "tuple.__lt__") ⟨_, ea, rfl⟩ ⟨_, eb, rfl⟩ F.slot_tuple_lt (call_meets F.slot_tuple_lt ⟨_, ea, rfl⟩ F.entry_tuple_lt (F.args_tuple_lt_2 _ _) (tuple_ord (.inl rfl) he hf a b vs us i j (.inl ⟨rfl, rfl⟩)) ⟨hu1, ea, eb, ra, rb, by simp, q⟩) room
  · exact wpAny_richCompare_same_room (T := "tuple") (id := "tuple.__gt__") ⟨_, ea, rfl⟩ ⟨_, eb, rfl⟩ F.slot_tuple_gt (call_meets F.slot_tuple_gt ⟨_, ea, rfl⟩ F.entry_tuple_gt (F.args_tuple_gt_2 _ _) (tuple_ord (.inr (.inl rfl)) he hf a b vs us i j (.inr (.inl ⟨rfl, rfl⟩))) ⟨hu1, ea, eb, ra, rb, by simp, q⟩) room
  · exact wpAny_richCompare_same_room (T := "tuple") (id := "tuple.__ge__") ⟨_, ea, rfl⟩ ⟨_, eb, rfl⟩ F.slot_tuple_ge (call_meets F.slot_tuple_ge ⟨_, ea, rfl⟩ F.entry_tuple_ge (F.args_tuple_ge_2 _ _) (tuple_ord (.inr (.inr rfl)) he hf a b vs us i j (.inr (.inr ⟨rfl, rfl⟩))) ⟨hu1, ea, eb, ra, rb, by simp, q⟩) room
end Mine
end
section
open PySem PySem.W PySem.Calls PyProof.Rows Builtin Builtin.Str Builtin.Int
set_option maxRecDepth 100000
namespace Mine

/-- a sort, run by a known order -/
def krun {α : Type} (lt : Nat → Nat → Bool) : KasT α → α
  | .ret a => a
  | .ask i j k => krun lt (k (lt i j))
def kok {α : Type} (n : Nat) : KasT α → Bool
  | .ret _ => true
  | .ask i j k => decide (i < n) && decide (j < n) && kok n (k true) && kok n (k false)
theorem krun_wp {α : Type} {n : Nat} {cmp : Nat → Nat → (Bool → Shared → Prop) → Shared → Prop} {lt : Nat → Nat → Bool} {s : Shared} (h : ∀ i j (C : Bool → Shared → Prop), i < n → j < n → C (lt i j) s → cmp i j C s) {Q : α → Shared → Prop} :
    ∀ (t : KasT α), kok n t = true → Q (krun lt t) s → t.kasWp cmp Q s
  | .ret a, _, q => q
  | .ask i j k, o, q => by
    simp only [kok, Bool.and_eq_true, decide_eq_true_eq] at o
    refine h i j _ o.1.1.1 o.1.1.2 ?_
    cases hb : lt i j with
    | true =>
      have q' : Q (krun lt (k true)) s := by have : krun lt (.ask i j k) = krun lt (k (lt i j)) := rfl; rw [this, hb] at q; exact q
      exact krun_wp h (k true) o.1.2 q'
    | false =>
      have q' : Q (krun lt (k false)) s := by have : krun lt (.ask i j k) = krun lt (k (lt i j)) := rfl; rw [this, hb] at q; exact q
      exact krun_wp h (k false) o.2 q'
theorem kok5 : ∀ n, 2 ≤ n → n ≤ 5 → kok n (kas_sort n) = true := by
  intro n h2 h5
  have : n = 2 ∨ n = 3 ∨ n = 4 ∨ n = 5 := by omega
  rcases this with rfl | rfl | rfl | rfl <;> decide +kernel
/-- where each place's item comes from -/
def sortPerm (n : Nat) (lt : Nat → Nat → Bool) : List Nat := if n < 2 then List.range n else (krun lt (kas_sort n)).toList

section
variable {prog : Program} {w : World} {g : Gr} (G : Gr2 g)
include G
theorem upd_seq {s : Shared} (at_ : At g s) {D : Addr} (hV : D ∈ g.V) {c : String} {xs : Array Value} {m : Nat} (ho : s.heap.get? D = some (seqObj c xs m)) (hc : c ≠ "code") (f : Array Value → Array Value) :
    WStep g (fun q => q = D) s { s with heap := s.heap.update D (Obj.mapSeq f) } ∧ At g { s with heap := s.heap.update D (Obj.mapSeq f) } ∧ ∃ k, (s.heap.update D (Obj.mapSeq f)).get? D = some (seqObj c (f xs) k) := by
  have hs := Heap.SameBut.update s.heap D (Obj.mapSeq f)
  have hg := get?_update_seq ho f
  have ww : WStep g (fun q => q = D) s { s with heap := s.heap.update D (Obj.mapSeq f) } := by
    refine ⟨fun b o _ _ nb e => (hs.2 b nb).trans e, fun b o _ nb e => ⟨o.slots, (hs.2 b nb).trans e⟩, fun L hL f => f.data fun o eo => ⟨o.slots, (hs.2 L fun q => at_.notFs ho rfl (q ▸ hL)).trans eo⟩, fun ht => G.tabK _ _ (fun b o' e hk => have hf := hk.fields; ?_) ht, ⟨#[], by simp, AllBare.empty⟩, rfl, rfl, Nat.le_refl _⟩
    refine (hs.2 b fun q => ?_).trans e
    subst q
    rw [ho] at e; cases e
    obtain ⟨vs', hf⟩ := hf
    cases hf
  refine ⟨ww, ⟨fun b o n e => (hs.2 b fun q => ?_).trans (at_.keep b o n e), ww.tab at_.tab, fun b hb => ⟨(at_.vol b hb).1, ?_⟩, at_.pos, fun e he => ?_, fun e he => ?_⟩, _, hg⟩
  · subst q
    rw [(at_.vol b hV).1.2] at e; cases e
  · by_cases q : b = D
    · subst q; exact ⟨_, hg⟩
    · obtain ⟨o, e⟩ := (at_.vol b hb).2
      exact ⟨o, (hs.2 b q).trans e⟩
  · obtain ⟨k, L, hL, hB, n⟩ := at_.frs e he
    exact ⟨k, L, hL, hB, ww.frs L (List.mem_filterMap.mpr ⟨e, he, hL⟩) n⟩
  · obtain ⟨hv, o', vs', eo, d', v2⟩ := at_.hdv e he
    exact ⟨hv, o', vs', (hs.2 e fun q => by subst q; rw [ho] at eo; cases eo; cases d').trans eo, d', v2⟩
omit G in
theorem Rps.rev {V : List Addr} {h : Heap} {cs : List CV} {vs : List Value} (b : Bool) (r : Rps V h cs vs) : Rps V h (katRev b cs) (katRev b vs) := by
  cases b with
  | false => exact r
  | true => exact r.reverse
omit G in
theorem Rps.pick {V : List Addr} {h : Heap} {cs : List CV} {vs : List Value} (r : Rps V h cs vs) : ∀ (p : List Nat), Rps V h (p.map fun i => cs.getD i .none) (p.map fun i => vs.getD i Value.none)
  | [] => rfl
  | i :: p => by
    refine ⟨_, _, rfl, ?_, r.pick p⟩
    show Rp V h (cs.getD i .none) (vs.getD i Value.none)
    by_cases h : i < vs.length
    · have := r.at h
      rw [show vs.getD i Value.none = vs[i] by simp [List.getD, h]]
      exact this
    · have h' : ¬ i < cs.length := by rw [← r.length]; exact h
      rw [show vs.getD i Value.none = .none by simp [List.getD, h], show cs.getD i .none = .none by simp [List.getD, h']]
      rfl
/-- keys that are compared by a known order -/
structure KeyOrd (prog : Program) (w : World) (V : List Addr) (keys : List CV) (κ : SortKind) (lt : CV → CV → Bool) : Prop where
  kind : ∀ A s kvs (Q : SortKind → Shared → Prop) E, 2 ≤ keys.length → A.units + 20 < cLine → Rps V s.heap keys kvs → Q κ s → wpAny (model prog w) A (keyKind' (List.toArray kvs)) Q E s
  lt : ∀ x ∈ keys, ∀ y ∈ keys, ∀ A s u v (Q : Bool → Shared → Prop) E, A.units + 20 < cLine → Rp V s.heap x u → Rp V s.heap y v → Q (lt x y) s → wpAny (model prog w) A (keyLt' κ u v) Q E s
omit G in
theorem rev_mem {α : Type} {b : Bool} {l : List α} {x : α} (h : x ∈ katRev b l) : x ∈ l := by
  cases b with
  | false => exact h
  | true => exact List.mem_reverse.mp h
/-- what a sort gives -/
def sortedC (b : Bool) (lt : CV → CV → Bool) (keys cs : List CV) : List CV :=
  katRev b ((sortPerm cs.length fun i j => lt ((katRev b keys).getD i .none) ((katRev b keys).getD j .none)).map fun i => (katRev b cs).getD i .none)


/-- the runs of a sort, and the order of what comes out -/
theorem sort_run {A : Around} {E : Value → Shared → Prop} {s : Shared} {V : List Addr} {b : Bool} {cs keys : List CV} {vs kvs : List Value} {κ : SortKind} {lt : CV → CV → Bool} (hu : A.units + 20 < cLine) (O : KeyOrd prog w V keys κ lt)
    (rk : Rps V s.heap keys kvs) (rv : Rps V s.heap cs vs) (hl : keys.length = cs.length) (h5 : cs.length ≤ 5) {P : PySem.Fin → Shared → Prop} {e1 : Nat} {a : Addr} {ks : Value}
    (q : ∀ st : SortSt, failedOf st = none → (sortPerm cs.length fun i j => lt ((katRev b keys).getD i .none) ((katRev b keys).getD j .none)).length = cs.length → (arrOf st).map (·.2) = List.toArray (katRev b (katRev b ((sortPerm cs.length fun i j => lt ((katRev b keys).getD i .none) ((katRev b keys).getD j .none)).map fun i => (katRev b vs).getD i Value.none))) → wpAny (model prog w) A (ksk_tail a b e1 ks st) P E s) :
    wpAny (model prog w) A (ksk_end a b vs.toArray e1 ks (List.toArray kvs)) P E s := by
  have step : ∀ t : Sem PySem.Fin, wpAny (model prog w) A t P E s → wpAny (model prog w) A (if b = true then (do let _ ← rule "list.sort.reverse"; t) else t) P E s := by
    intro t ht
    split
    · exact wpAny_bind (wpAny_rule ht)
    · exact ht
  have lv : vs.length = cs.length := rv.length
  have lk : kvs.length = vs.length := by rw [rk.length, lv, hl]
  have rr : ∀ l : List Value, katRev b (katRev b l) = l := fun l => by cases b <;> simp [katRev]
  unfold ksk_end
  try dsimp only
  refine step _ ?_
  rw [kat_pairs b lk]
  by_cases h2 : vs.length < 2
  · have hn : vs.toArray.size < 2 := by rw [List.size_toArray]; exact h2
    rw [if_pos hn, if_pos hn]
    refine wpAny_bind (wpAny_pure ?_)
    refine wpAny_bind (wpAny_pure ?_)
    refine q (SortSt.mk' general' ((List.toArray (katRev b kvs)).zip (List.toArray (katRev b vs))) #[] 7 none) rfl (by unfold sortPerm; rw [if_pos (show cs.length < 2 by omega)]; simp) ?_
    have hz : cs.length < 2 := by omega
    unfold sortPerm
    rw [if_pos hz, rr]
    have e1 : (List.range cs.length).map (fun i => (katRev b vs).getD i Value.none) = katRev b vs := by
      have := range_getD (katRev b vs) Value.none
      rw [kat_len, lv] at this
      exact this
    rw [e1]
    show ((List.toArray (katRev b kvs)).zip (List.toArray (katRev b vs))).map (·.2) = _
    apply Array.toList_inj.mp
    rw [Array.toList_map, ksk_zip]
    show List.map (·.2) (List.zip (katRev b kvs) (katRev b vs)) = _
    rw [List.map_snd_zip (by rw [kat_len, kat_len, lk]; exact Nat.le_refl _)]
  · have hn : ¬ vs.toArray.size < 2 := by rw [List.size_toArray]; exact h2
    rw [if_neg hn, if_neg hn]
    refine wpAny_bind (O.kind A s kvs _ E (by omega) hu rk ?_)
    have hc : 2 ≤ cs.length := by omega
    have pure : (kas_sort (katRev b vs).length).kasWp (kas_ask prog w A κ (katRev b kvs)) (fun p s' => s' = s ∧ p = krun (fun i j => lt ((katRev b keys).getD i .none) ((katRev b keys).getD j .none)) (kas_sort cs.length)) s := by
      rw [kat_len, lv]
      refine krun_wp (n := cs.length) (lt := fun i j => lt ((katRev b keys).getD i .none) ((katRev b keys).getD j .none)) (fun i j C hi hj hC => ?_) _ (kok5 _ hc h5) ⟨rfl, rfl⟩
      have rk' := rk.rev b
      have hi' : i < (katRev b kvs).length := by rw [kat_len, lk, lv]; exact hi
      have hj' : j < (katRev b kvs).length := by rw [kat_len, lk, lv]; exact hj
      have hik : i < (katRev b keys).length := by rw [kat_len, hl]; exact hi
      have hjk : j < (katRev b keys).length := by rw [kat_len, hl]; exact hj
      refine O.lt _ (rev_mem (mem_getD hik)) _ (rev_mem (mem_getD hjk)) A s _ _ C _ hu ?_ ?_ hC
      · have := rk'.at hi'
        rw [show (katRev b kvs).getD i Value.none = (katRev b kvs)[i] by simp [List.getD, hi']]; exact this
      · have := rk'.at hj'
        rw [show (katRev b kvs).getD j Value.none = (katRev b kvs)[j] by simp [List.getD, hj']]; exact this
    refine wpAny_bind (wpAny_mono (kat_run (Q := fun st' s' => s' = s ∧ ∃ p : Array Nat, p.size = (katRev b vs).length ∧ arrOf st' = p.map (kas_item ((List.toArray (katRev b kvs)).zip (List.toArray (katRev b vs)))) ∧ failedOf st' = none ∧ p = krun (fun i j => lt ((katRev b keys).getD i .none) ((katRev b keys).getD j .none)) (kas_sort cs.length))
      (by rw [kat_len, kat_len, lk]) (by rw [kat_len]; omega) (by rw [kat_len]; omega) (fun p' st' s' a1 a2 a3 a4 => ⟨a4.1, p', a1, a2, a3, a4.2⟩) pure) ?_ fun _ _ x => x)
    rintro ⟨⟨⟩, st'⟩ s' ⟨hs', p, hps, har, hf, hp⟩
    subst hs'
    try dsimp only
    refine q st' hf (by unfold sortPerm; rw [if_neg (show ¬ cs.length < 2 by omega), ← hp, Array.length_toList, hps, kat_len, lv]) ?_
    rw [kat_snds (by rw [kat_len, kat_len, lk]) har, rr, hp]
    unfold sortPerm
    rw [if_neg (by omega)]

/-- the end of a sort with keys: the keys go, the list takes its items back -/
theorem sort_tail {A : Around} {E : Value → Shared → Prop} {s : Shared} {b : Bool} {kvs out : List Value} {e e1 : Nat} {a kS : Addr} (at_ : At g s) (hka : kS ≠ a) (haV : a ∈ g.V) (hkV : kS ∈ g.V)
    (hk : s.heap.get? kS = some (seqObj "list" (List.toArray kvs) e)) (ha : s.heap.get? a = some (seqObj "list" #[] e1)) (lk : kvs.length ≤ 5) (lo : out.length ≤ 5) {st : SortSt} (hf : failedOf st = none) (hout : (arrOf st).map (·.2) = List.toArray (katRev b out)) {P : PySem.Fin → Shared → Prop}
    (q : ∀ s', WStep g (fun q => q = a ∨ q = kS) s s' → At g s' → (∃ c, s'.heap.get? a = some (seqObj "list" (List.toArray out) c)) → P (.done (.ret .none)) s') :
    wpAny (model prog w) A (ksk_tail a b e1 (.ref kS) st) P E s := by
  obtain ⟨w1, at1, ck, hk1⟩ := upd_seq G at_ hkV hk (by decide) (fun _ => #[])
  have ha1 : (s.heap.update kS (Obj.mapSeq fun _ => (#[] : Array Value))).get? a = some (seqObj "list" #[] e1) := ((Heap.SameBut.update s.heap kS (Obj.mapSeq fun _ => (#[] : Array Value))).2 a (fun q => hka q.symm)).trans ha
  obtain ⟨w2, at2, ca, ha2⟩ := upd_seq G at1 haV ha1 (by decide) (fun _ => if b = true then (List.toArray (katRev b out)).reverse else List.toArray (katRev b out))
  have rr : katRev b (katRev b out) = out := by cases b <;> simp [katRev]
  have ha2 := ha2.trans (show _ = some (seqObj "list" (List.toArray out) ca) by rw [kat_outs, rr])
  unfold ksk_tail
  try dsimp only
  rw [hout]
  refine wpAny_bind (listUpdate_at hk rfl ?_ (by rw [List.size_toArray, sizeLine_eq]; omega) (Nat.zero_le _))
  refine wpAny_bind (wpAny_letGo ?_)
  refine wpAny_bind (seqEpoch_at ha1 rfl ?_)
  refine wpAny_bind (listUpdate_at ha1 rfl ?_ (Nat.zero_le _) (by rw [kat_outs, rr, List.size_toArray, sizeLine_eq]; omega))
  rw [hf]
  simp only [bne_self_eq_false, Bool.false_eq_true, if_false]
  exact wpAny_pure (q _ ((w1.mono fun _ h => .inr h).trans (w2.mono fun _ h => .inl h)) at2 ⟨ca, ha2⟩)

/-- the keys of a sort -/
theorem key_fold {n : Nat} {A : Around} {E : Value → Shared → Prop} (ok : OkA g.fr g.hd A n) {f : Value} {kf : CV → CV} {kS : Addr} (hkV : kS ∈ g.V) {body : Value → PUnit → Sem (ForInStep PUnit)}
    (hb : ∀ x ks e (s : Shared) (C : Value → Shared → Prop), At g s → List.length ks ≤ 5 → wpAny (model prog w) A (call f [x]) (fun k s' => s'.heap.get? kS = some (seqObj "list" (List.toArray ks) e) ∧ C k { s' with heap := s'.heap.update kS (Obj.mapSeq (·.push k)) }) (fun _ _ => False) s →
      wpAny (model prog w) A (body x ⟨⟩) (fun r s' => r = .yield ⟨⟩ ∧ ∃ k, C k s') E s) : ∀ (r : List CV) (vr : List Value) (ks : List CV) (kvs : List Value) (e : Nat) (s : Shared) (Q : PUnit → Shared → Prop), (∀ c ∈ r, FW prog w g n f [c] (kf c)) → ks.length + r.length ≤ 5 →
      At g s → Rps g.V s.heap r vr → Rps g.V s.heap ks kvs → s.heap.get? kS = some (seqObj "list" (List.toArray kvs) e) →
      (∀ kvs' e' s', WStep g (fun q => q = kS) s s' → At g s' → Rps g.V s'.heap (ks ++ r.map kf) kvs' → s'.heap.get? kS = some (seqObj "list" (List.toArray kvs') e') → Q ⟨⟩ s') →
      wpAny (model prog w) A (forIn vr PUnit.unit body) Q E s
  | [], vr, ks, kvs, e, s, Q, hk, hl, at_, rr, rk, ho, q => by
    cases rr
    rw [List.forIn_nil]
    exact wpAny_pure (q kvs e s .refl at_ (by simpa using rk) ho)
  | c :: r, _, ks, kvs, e, s, Q, hk, hl, at_, ⟨v, vr, hv, rv, rr⟩, rk, ho, q => by
    subst hv
    rw [List.length_cons] at hl
    rw [List.forIn_cons]
    have nT : kS ∉ g.T := (at_.vol kS hkV).1.1
    refine wpAny_bind (wpAny_mono (hb v kvs e s (fun k s' => (∃ s₁, Step g s s₁ ∧ Rp g.V s₁.heap (kf c) k ∧ s' = { s₁ with heap := s₁.heap.update kS (Obj.mapSeq (·.push k)) })) at_ (by rw [rk.length]; omega) ?_) (fun z s' hz => ?_) fun _ _ x => x)
    · exact hk c (.head _) A s [v] _ _ ok at_ ⟨v, [], rfl, rv, rfl⟩ fun k s₁ x₁ r₁ => ⟨x₁.keep kS _ nT (at_.notFs ho rfl) ho, s₁, x₁, r₁, rfl⟩
    · obtain ⟨rfl, k, s₁, x₁, r₁, rfl⟩ := hz
      have at₁ := at_.step x₁
      obtain ⟨w2, at2, c2, ho2⟩ := upd_seq G at₁ hkV (x₁.keep kS _ nT (at_.notFs ho rfl) ho) (by decide) (·.push k)
      have kv := WStep.v G at₁ w2 fun b o hb _ => .inr (.inr (hb ▸ hkV))
      rw [show (List.toArray kvs).push k = List.toArray (kvs ++ [k]) by simp] at ho2
      refine key_fold ok hkV hb r vr (ks ++ [kf c]) (kvs ++ [k]) c2 _ Q (fun d hd => hk d (.tail _ hd)) (by rw [List.length_append, List.length_singleton]; omega) at2 ((Rps.step G.toGrOk at_ x₁ rr).mono kv) ((Rps.snoc (Rps.step G.toGrOk at_ x₁ rk) r₁).mono kv) ho2 fun kvs' e' s' ws at' rs hs => ?_
      refine q kvs' e' s' ((x₁.w.trans w2).trans ws) at' ?_ hs
      rw [List.map_cons]
      rw [List.append_assoc] at rs
      exact rs

omit G in
theorem At.under {s : Shared} (a : At g s) {D : Addr} {o : Obj} (nT : D ∉ g.T) (nB : g.hB.get? D = none) (e : s.heap.get? D = some o) : At (g.wV (D :: g.V)) s := ⟨a.keep, a.tab, fun b hb => by
  rcases List.mem_cons.mp hb with rfl | hb
  · exact ⟨⟨nT, nB⟩, _, e⟩
  · exact a.vol b hb, a.pos, a.frs, fun e he => ⟨.tail _ (a.hdv e he).1, (a.hdv e he).2⟩⟩
theorem At.notT {s : Shared} (a : At g s) {D : Addr} (h : s.heap.objs.size ≤ D) : D ∉ g.T := fun hT => by
  obtain ⟨o, e⟩ := G.tB D hT
  rw [At.fresh G a h] at e; cases e

/-- what is under way in a sort, told from before it -/
theorem sort_body {n : Nat} {A : Around} {E : Value → Shared → Prop} {s : Shared} {f : Value} {kf : CV → CV} {b : Bool} {cs : List CV} {vs : List Value} {κ : SortKind} {lt : CV → CV → Bool} {D : Addr} {m : Nat} {V : List Addr} (ok : OkA g.fr g.hd A n) (at_ : At (g.wV (D :: V)) s)
    (hD : s.heap.get? D = some (seqObj "list" (List.toArray vs) m)) (rv : Rps (D :: V) s.heap cs vs) (h5 : cs.length ≤ 5) (hk : ∀ V, ∀ c ∈ cs, FW prog w (g.wV V) n f [c] (kf c)) (O : ∀ V, KeyOrd prog w V (cs.map kf) κ lt) {P : PySem.Fin → Shared → Prop}
    (q : ∀ s' out c, WStep g (fun q => q = D) s s' → Rps V s'.heap (sortedC b lt (cs.map kf) cs) out → s'.heap.get? D = some (seqObj "list" (List.toArray out) c) → P (.done (.ret .none)) s') :
    wpAny (model prog w) A (ksk_tree D f b) P E s := by
  have G1 := g2V G (D :: V)
  obtain ⟨w1, at1, e1, hD1⟩ := upd_seq G1 at_ (.head _) hD (by decide) (fun _ => #[])
  have lv : vs.length = cs.length := rv.length
  unfold ksk_tree
  refine wpAny_bind (listItems_at hD rfl ?_)
  refine wpAny_bind (listUpdate_at hD rfl ?_ (by rw [List.size_toArray, sizeLine_eq]; omega) (Nat.zero_le _))
  refine wpAny_bind (seqEpoch_at hD1 rfl ?_)
  have x2 : Step (g.wV (D :: V)) { s with heap := s.heap.update D (Obj.mapSeq fun _ => #[]) } { s with heap := (s.heap.update D (Obj.mapSeq fun _ => #[])).push (seqObj "tuple" vs.toArray 0) } := Step.push0 G1.toGrOk
  have at2 := at1.step x2
  have x3 : Step (g.wV (D :: V)) { s with heap := (s.heap.update D (Obj.mapSeq fun _ => #[])).push (seqObj "tuple" vs.toArray 0) } { s with heap := ((s.heap.update D (Obj.mapSeq fun _ => #[])).push (seqObj "tuple" vs.toArray 0)).push (seqObj "list" #[] 0) } := Step.push0 G1.toGrOk
  refine wpAny_bind (wpAny_newTuple ?_ (by show vs.length ≤ _; rw [sizeLine_eq]; omega))
  refine wpAny_bind (wpAny_newList ?_ (Nat.zero_le _))
  refine wpAny_holding ?_
  generalize hkS : ((s.heap.update D (Obj.mapSeq fun _ => (#[] : Array Value))).push (seqObj "tuple" vs.toArray 0)).objs.size = kS
  have hsz : s.heap.objs.size ≤ kS := by rw [← hkS, Heap.size_push, Heap.size_update]; exact Nat.le_succ _
  have hkD : kS ≠ D := fun h => absurd (h ▸ hsz) (Nat.not_le.mpr (Heap.lt_size hD))
  have ek : (((s.heap.update D (Obj.mapSeq fun _ => (#[] : Array Value))).push (seqObj "tuple" vs.toArray 0)).push (seqObj "list" #[] 0)).get? kS = some (seqObj "list" #[] 0) := by rw [← hkS]; exact Heap.get?_push_size _ rfl
  have at3 : At (g.wV (kS :: D :: V)) { s with heap := ((s.heap.update D (Obj.mapSeq fun _ => #[])).push (seqObj "tuple" vs.toArray 0)).push (seqObj "list" #[] 0) } :=
    At.under (g := g.wV (D :: V)) (at2.step x3) (At.notT G1 at_ hsz) (At.fresh G1 at_ hsz) ek
  have G2 := g2V G (kS :: D :: V)
  have hD3 : (((s.heap.update D (Obj.mapSeq fun _ => (#[] : Array Value))).push (seqObj "tuple" vs.toArray 0)).push (seqObj "list" #[] 0)).get? D = some (seqObj "list" #[] e1) := Heap.get?_push_of_some _ (Heap.get?_push_of_some _ hD1)
  have rv1 : Rps (kS :: D :: V) s.heap cs vs := rv.avoid (Heap.get?_none_of_le hsz)
  have w13 : WStep (g.wV (kS :: D :: V)) (fun q => q = D) s { s with heap := ((s.heap.update D (Obj.mapSeq fun _ => #[])).push (seqObj "tuple" vs.toArray 0)).push (seqObj "list" #[] 0) } := by
    have := (w1.trans x2.w).trans x3.w
    exact ⟨this.keep, this.keepF, this.frs, this.tab, this.gens, this.drawn, this.os, this.tk⟩
  have rv3 := rv1.mono (WStep.v' G2 at_.tab (fun b h => (at_.mutF h).1) w13 fun b o hb _ => .inr (.inr (hb ▸ .tail _ (.head _))))
  unfold ksk_rest
  refine wpAny_bind (wpAny_rule ?_)
  rw [List.forIn_toArray]
  refine wpAny_bind (key_fold G2 ok (kS := kS) (.head _) (fun x ks e s' C at' hz hx => ?_) cs vs [] [] 0 _ _ (hk _) (by simpa using h5) at3 rv3 rfl ek fun kvs' e' s' ws at' rs hs => ?_)
  · refine wpAny_bind (wpAny_attempt (wpAny_mono hx (fun k s'' hk => ?_) fun _ _ hF => hF.elim))
    obtain ⟨hk1, hC⟩ := hk
    try dsimp only
    refine wpAny_bind (listUpdate_at hk1 rfl ?_ (by rw [List.size_toArray, sizeLine_eq]; omega) (Nat.le_trans (Nat.le_of_eq (Array.size_push ..)) (by rw [List.size_toArray, sizeLine_eq]; omega)))
    exact wpAny_pure ⟨rfl, k, hC⟩
  · try dsimp only
    refine wpAny_bind (listItems_at hs rfl ?_)
    have nTD : D ∉ g.T := (at_.vol D (.head _)).1.1
    have hD4 := ws.keep D _ nTD (at3.notFs hD3 rfl) (fun h => hkD h.symm) hD3
    have rv4 := rv3.mono (WStep.v G2 at3 ws fun b o hb _ => .inr (.inr (hb ▸ .head _)))
    have hu : A.units + 20 < cLine := by have := ok.2.1; show A.units + 20 < 9900; omega
    refine sort_run G2 hu (O _) (by simpa using rs) rv4 (by rw [List.length_map]) h5 fun st hf hlen hout => ?_
    have lp : ((sortPerm cs.length fun i j => lt ((katRev b (cs.map kf)).getD i .none) ((katRev b (cs.map kf)).getD j .none)).map fun i => (katRev b vs).getD i Value.none).length ≤ 5 := by
      rw [List.length_map, hlen]; exact h5
    refine sort_tail G2 at' hkD (.tail _ (.head _)) (.head _) hs hD4 (by rw [rs.length]; simpa using h5) (by rw [kat_len]; exact lp) hf hout fun s5 w5 at5 hD5 => ?_
    obtain ⟨c, hD5⟩ := hD5
    refine q s5 _ c ?_ ?_ hD5
    · have w45 := (w13.mono fun _ h => .inl h).trans ((ws.mono fun _ h => .inr h).trans w5)
      exact ⟨fun b o nT nF nD e => w45.keep b o nT nF (fun h => h.elim nD fun h => by rw [h, Heap.get?_none_of_le hsz] at e; cases e) e, fun b o nF nD e => w45.keepF b o nF (fun h => h.elim nD fun h => by rw [h, Heap.get?_none_of_le hsz] at e; cases e) e, w45.frs, w45.tab, w45.gens, w45.drawn, w45.os, w45.tk⟩
    · have r5 := rv4.mono (WStep.v G2 at' w5 fun b o hb _ => .inr (.inr (hb.elim (fun h => h ▸ .tail _ (.head _)) fun h => h ▸ .head _)))
      have r6 := ((r5.rev b).pick (sortPerm cs.length fun i j => lt ((katRev b (cs.map kf)).getD i .none) ((katRev b (cs.map kf)).getD j .none))).rev b
      exact r6.less fun a ha => .tail _ (.tail _ ha)
end
end Mine
end
section
open PySem PySem.W PySem.Calls PyProof.Rows Builtin Builtin.Str Builtin.Int
set_option maxRecDepth 100000
namespace Mine

section
variable {prog : Program} {w : World} {g : Gr} (G : Gr2 g) {n : Nat}
include G
/-- `sorted(l, key=f, reverse=b)` -/
theorem sorted_keyed {q : Addr} {kf : CV → CV} {b : Bool} {cs : List CV} {κ : SortKind} {lt : CV → CV → Bool} (h5 : cs.length ≤ 5) (hk : ∀ V, ∀ c ∈ cs, FW prog w (g.wV V) n (.ref q) [c] (kf c)) (O : ∀ V, KeyOrd prog w V (cs.map kf) κ lt)
    {A : Around} {s : Shared} {v : Value} {Q : Value → Shared → Prop} {E : Value → Shared → Prop} (ok : OkA g.fr g.hd A (n + 2)) (at_ : At g s) (r : Rp g.V s.heap (.lst cs) v) (hq : ∀ v s', Step g s s' → Rp g.V s'.heap (.lst (sortedC b lt (cs.map kf) cs)) v → Q v s') :
    wpAny (model prog w) A (PySem.call (.builtin "sorted") [v] [(Str.ofString "key", .ref q), (Str.ofString "reverse", .bool b)]) Q E s := by
  obtain ⟨l, vs, rfl, hl, rv⟩ := r.isList
  have lv : vs.length = cs.length := rv.length
  refine call_function_entry_kw kind_sorted plain_sorted entry_sorted (ksk_s2 _ _ _) ?_
  unfold Builtin.«sorted»
  refine wpAny_bind (m := checkCount "sorted" 1 1 _) (wpAny_pure ?_)
  refine wpAny_bind (collect_list hl ?_ (by rw [sizeLine_eq]; omega))
  refine wpAny_bind (wpAny_newList ?_ (by rw [sizeLine_eq]; omega))
  have hsz : ((s.heap.push (seqObj "list" #[] 0)).update s.heap.objs.size (Obj.mapSeq (· ++ vs.toArray))).objs.size = s.heap.objs.size + 1 := by
    rw [Heap.size_update, Heap.size_push]
  have hoL : (((s.heap.push (seqObj "list" #[] 0)).update s.heap.objs.size (Obj.mapSeq (· ++ vs.toArray))).push (seqObj "list" vs.toArray 0)).get? (s.heap.objs.size + 1) = some (seqObj "list" vs.toArray 0) := by
    rw [← hsz]; exact Heap.get?_push_size _ rfl
  have keep : ∀ b o, s.heap.get? b = some o → (((s.heap.push (seqObj "list" #[] 0)).update s.heap.objs.size (Obj.mapSeq (· ++ vs.toArray))).push (seqObj "list" vs.toArray 0)).get? b = some o := fun b o q => by
    have hlt : b < s.heap.objs.size := Heap.lt_size q
    rw [Heap.get?_push_ne _ _ _ (by rw [hsz]; exact Nat.ne_of_lt (Nat.lt_succ_of_lt hlt)), Heap.get?_update_ne _ _ _ _ (Nat.ne_of_lt hlt), Heap.get?_push_ne _ _ _ (Nat.ne_of_lt hlt)]
    exact q
  have x1 : Step g s { s with heap := ((s.heap.push (seqObj "list" #[] 0)).update s.heap.objs.size (Obj.mapSeq (· ++ vs.toArray))).push (seqObj "list" vs.toArray 0) } := Step.grow0 G.toGrOk keep
  have at1 := at_.step x1
  have hle : s.heap.objs.size ≤ s.heap.objs.size + 1 := Nat.le_succ _
  have at2 := At.under at1 (At.notT G at_ hle) (At.fresh G at_ hle) hoL
  have rv1 : Rps ((s.heap.objs.size + 1) :: g.V) s.heap cs vs := rv.avoid (Heap.get?_none_of_le hle)
  have rv2 := rv1.mono (fun b o e nv nf nm => x1.v G.toGrOk at_ b o e (fun h => nv (.tail _ h)) nf nm)
  show wpAny _ _ _ _ _ { s with heap := ((s.heap.push (seqObj "list" #[] 0)).update s.heap.objs.size (Obj.mapSeq (· ++ vs.toArray))).push (seqObj "list" vs.toArray 0) }
  rw [hsz]
  refine wpAny_bind (wpAny_holding (wpAny_call_entry_kw slot_list_sort ⟨_, hoL, rfl⟩ entry_list_sort ?_ (ksk_l2 _ _ _)))
  show wpAny (model prog w) A.in1.in1 (Builtin.«list.sort» ⟨[.ref (s.heap.objs.size + 1)], [(Str.ofString "key", .ref q), (Str.ofString "reverse", .bool b)]⟩) _ _ _
  rw [ksk_t2]
  refine sort_body G ok.in1.in1 at2 hoL rv2 h5 hk O fun s' out c ws rs hD => ?_
  refine ⟨_, rfl, wpAny_pure ⟨_, rfl, ?_⟩⟩
  have x : Step g s s' := (x1.w.trans ws).step fun a o e h => by rw [h, Heap.get?_none_of_le hle] at e; cases e
  have nV : s.heap.objs.size + 1 ∉ g.V := fun hV => by
    obtain ⟨o, e⟩ := (at_.vol _ hV).2
    rw [Heap.get?_none_of_le hle] at e; cases e
  exact hq _ _ x ⟨_, out, c, rfl, nV, hD, rs⟩

/-- `sorted(l)` of strs -/
def ltS : CV → CV → Bool
  | .str x, .str y => decide (x.cps.toList < y.cps.toList)
  | _, _ => false
omit G in
theorem strs_ord {V : List Addr} {l : List Str} : KeyOrd prog w V (l.map .str) oneType' ltS := by
  constructor
  · intro A s kvs Q E h2 _ r q
    obtain ⟨ps, rfl, hp⟩ := rps_strs' l r
    have hl : ps.length = l.length := by rw [← hp, List.length_map]
    refine kas_kind (T := .type "str") (by rw [List.length_map] at h2; simp [strValues, hl]; exact h2) (fun v hv => ?_) (by decide) (by decide) q
    simp only [strValues, List.mem_map] at hv
    obtain ⟨p, _, rfl⟩ := hv
    exact .of_pure rfl
  · intro x hx y hy A s u v Q E _ rx ry q
    obtain ⟨x, _, rfl⟩ := List.mem_map.mp hx
    obtain ⟨y, _, rfl⟩ := List.mem_map.mp hy
    obtain ⟨t, rfl⟩ := rx
    obtain ⟨u, rfl⟩ := ry
    exact kas_lt_str q
theorem sort_plain {A : Around} {E : Value → Shared → Prop} {s : Shared} {cs : List CV} {vs : List Value} {κ : SortKind} {lt : CV → CV → Bool} {D : Addr} {m : Nat} {V : List Addr} (hu : A.units + 20 < cLine) (at_ : At (g.wV (D :: V)) s)
    (hD : s.heap.get? D = some (seqObj "list" (List.toArray vs) m)) (rv : Rps (D :: V) s.heap cs vs) (h5 : cs.length ≤ 5) (O : ∀ V, KeyOrd prog w V cs κ lt) {P : PySem.Fin → Shared → Prop}
    (q : ∀ s' out c, WStep g (fun q => q = D) s s' → Rps V s'.heap (sortedC false lt cs cs) out → s'.heap.get? D = some (seqObj "list" (List.toArray out) c) → P (.done (.ret .none)) s') :
    wpAny (model prog w) A (Builtin.«list.sort» ⟨[.ref D], []⟩) P E s := by
  have G1 := g2V G (D :: V)
  obtain ⟨w1, at1, e1, hD1⟩ := upd_seq G1 at_ (.head _) hD (by decide) (fun _ => #[])
  have lv : vs.length = cs.length := rv.length
  rw [list_sort_plain]
  refine wpAny_bind (listItems_at hD rfl ?_)
  refine wpAny_bind (listUpdate_at hD rfl ?_ (by rw [List.size_toArray, sizeLine_eq]; omega) (Nat.zero_le _))
  refine wpAny_bind (seqEpoch_at hD1 rfl ?_)
  have x2 : Step (g.wV (D :: V)) { s with heap := s.heap.update D (Obj.mapSeq fun _ => #[]) } { s with heap := (s.heap.update D (Obj.mapSeq fun _ => #[])).push (seqObj "tuple" vs.toArray 0) } := Step.push0 G1.toGrOk
  have at2 := at1.step x2
  have x3 : Step (g.wV (D :: V)) { s with heap := (s.heap.update D (Obj.mapSeq fun _ => #[])).push (seqObj "tuple" vs.toArray 0) } { s with heap := ((s.heap.update D (Obj.mapSeq fun _ => #[])).push (seqObj "tuple" vs.toArray 0)).push (seqObj "list" #[] 0) } := Step.push0 G1.toGrOk
  have at3 := at2.step x3
  refine wpAny_bind (wpAny_newTuple ?_ (by show vs.length ≤ _; rw [sizeLine_eq]; omega))
  refine wpAny_bind (wpAny_newList ?_ (Nat.zero_le _))
  refine wpAny_holding ?_
  have w13 := (w1.trans x2.w).trans x3.w
  have rv3 := rv.mono (WStep.v G1 at_ w13 fun b o hb _ => .inr (.inr (hb ▸ .head _)))
  have hD3 : (((s.heap.update D (Obj.mapSeq fun _ => (#[] : Array Value))).push (seqObj "tuple" vs.toArray 0)).push (seqObj "list" #[] 0)).get? D = some (seqObj "list" #[] e1) := Heap.get?_push_of_some _ (Heap.get?_push_of_some _ hD1)
  show wpAny (model prog w) A _ P E { s with heap := ((s.heap.update D (Obj.mapSeq fun _ => (#[] : Array Value))).push (seqObj "tuple" vs.toArray 0)).push (seqObj "list" #[] 0) }
  dsimp only
  -- what is left, once the runs are over
  have fin : ∀ (st : SortSt) (p : List Nat), p.length = cs.length → (arrOf st).map (·.2) = List.toArray (p.map fun i => vs.getD i Value.none) → failedOf st = none → p = sortPerm cs.length (fun i j => lt (cs.getD i .none) (cs.getD j .none)) →
      wpAny (model prog w) A (do
        let sorted := (arrOf st).map (·.2)
        let touched := (← seqEpoch D) != e1
        Builtin.List.listUpdate (.ref D) fun _ => sorted
        if let some e := failedOf st then rule "list.sort.comparison-raised"; throw e
        if touched then rule "list.sort.modified"; raiseError "ValueError" "list modified during sort"
        ret .none) P E { s with heap := ((s.heap.update D (Obj.mapSeq fun _ => (#[] : Array Value))).push (seqObj "tuple" vs.toArray 0)).push (seqObj "list" #[] 0) } := by
    intro st p hl hout hf hp
    obtain ⟨w4, at4, c4, hD4⟩ := upd_seq G1 at3 (.head _) hD3 (by decide) (fun _ => List.toArray (p.map fun i => vs.getD i Value.none))
    dsimp only
    rw [hout]
    refine wpAny_bind (seqEpoch_at hD3 rfl ?_)
    refine wpAny_bind (listUpdate_at hD3 rfl ?_ (Nat.zero_le _) (by rw [List.size_toArray, List.length_map, hl, sizeLine_eq]; omega))
    rw [hf]
    simp only [bne_self_eq_false, Bool.false_eq_true, if_false]
    refine wpAny_pure (q _ _ c4 ?_ ?_ hD4)
    · have ww := w13.trans w4
      exact ⟨ww.keep, ww.keepF, ww.frs, ww.tab, ww.gens, ww.drawn, ww.os, ww.tk⟩
    · have r5 := rv3.mono (WStep.v G1 at3 w4 fun b o hb _ => .inr (.inr (hb ▸ .head _)))
      have r6 := r5.pick p
      unfold sortedC
      rw [hp] at r6
      rw [hp]
      exact r6.less fun a ha => .tail _ ha
  by_cases h2 : vs.length < 2
  · have hn : vs.toArray.size < 2 := by rw [List.size_toArray]; exact h2
    rw [if_pos hn, if_pos hn]
    refine wpAny_bind (wpAny_pure ?_)
    refine wpAny_bind (wpAny_pure ?_)
    refine fin _ (List.range cs.length) (by simp) ?_ rfl (by unfold sortPerm; rw [if_pos (by omega)])
    have e1 := range_getD vs Value.none
    rw [lv] at e1
    rw [e1]
    apply Array.toList_inj.mp
    show ((vs.toArray.zip vs.toArray).map (·.2)).toList = _
    rw [Array.toList_map, ksk_zip]
    show List.map (·.2) (List.zip vs vs) = _
    rw [List.map_snd_zip (Nat.le_refl _)]
  · have hn : ¬ vs.toArray.size < 2 := by rw [List.size_toArray]; exact h2
    rw [if_neg hn, if_neg hn]
    refine wpAny_bind ((O (D :: V)).kind A _ vs _ E (by omega) hu rv3 ?_)
    have hc : 2 ≤ cs.length := by omega
    have pure : (kas_sort vs.length).kasWp (kas_ask prog w A κ vs) (fun p s' => s' = { s with heap := ((s.heap.update D (Obj.mapSeq fun _ => (#[] : Array Value))).push (seqObj "tuple" vs.toArray 0)).push (seqObj "list" #[] 0) } ∧ p = krun (fun i j => lt (cs.getD i .none) (cs.getD j .none)) (kas_sort cs.length)) { s with heap := ((s.heap.update D (Obj.mapSeq fun _ => (#[] : Array Value))).push (seqObj "tuple" vs.toArray 0)).push (seqObj "list" #[] 0) } := by
      rw [lv]
      refine krun_wp (n := cs.length) (lt := fun i j => lt (cs.getD i .none) (cs.getD j .none)) (fun i j C hi hj hC => ?_) _ (kok5 _ hc h5) ⟨rfl, rfl⟩
      have hi' : i < vs.length := by rw [lv]; exact hi
      have hj' : j < vs.length := by rw [lv]; exact hj
      refine (O (D :: V)).lt _ (mem_getD hi) _ (mem_getD hj) A _ _ _ C _ hu ?_ ?_ hC
      · have := rv3.at hi'
        rw [show vs.getD i Value.none = vs[i] by simp [List.getD, hi']]; exact this
      · have := rv3.at hj'
        rw [show vs.getD j Value.none = vs[j] by simp [List.getD, hj']]; exact this
    refine wpAny_bind (wpAny_mono (kat_run (Q := fun st' s' => s' = { s with heap := ((s.heap.update D (Obj.mapSeq fun _ => (#[] : Array Value))).push (seqObj "tuple" vs.toArray 0)).push (seqObj "list" #[] 0) } ∧ ∃ p : Array Nat, p.size = vs.length ∧ arrOf st' = p.map (kas_item (vs.toArray.zip vs.toArray)) ∧ failedOf st' = none ∧ p = krun (fun i j => lt (cs.getD i .none) (cs.getD j .none)) (kas_sort cs.length))
      rfl (by omega) (by omega) (fun p' st' s' a1 a2 a3 a4 => ⟨a4.1, p', a1, a2, a3, a4.2⟩) pure) ?_ fun _ _ x => x)
    rintro ⟨⟨⟩, st'⟩ s' ⟨hs', p, hps, har, hf, hp⟩
    subst hs'
    exact fin st' p.toList (by rw [Array.length_toList, hps, lv]) (kat_snds rfl har) hf (by unfold sortPerm; rw [if_neg (by omega), hp])
theorem FW.sorted {l : List CV} {κ : SortKind} {lt : CV → CV → Bool} (h5 : l.length ≤ 5) (O : ∀ V, KeyOrd prog w V l κ lt) : FW prog w g n (.builtin "sorted") [.lst l] (.lst (sortedC false lt l l)) := by
  intro A s vs Q E ok at_ r hq
  obtain ⟨v, _, rfl, r, rfl⟩ := r
  obtain ⟨l', vs, rfl, hl, rv⟩ := r.isList
  have lv : vs.length = l.length := rv.length
  refine Calls.call_function_entry kind_sorted plain_sorted entry_sorted (args_sorted1 _) ?_
  unfold Builtin.«sorted»
  refine wpAny_bind (m := checkCount "sorted" 1 1 _) (wpAny_pure ?_)
  refine wpAny_bind (collect_list hl ?_ (by rw [sizeLine_eq]; omega))
  refine wpAny_bind (wpAny_newList ?_ (by rw [sizeLine_eq]; omega))
  have hsz : ((s.heap.push (seqObj "list" #[] 0)).update s.heap.objs.size (Obj.mapSeq (· ++ vs.toArray))).objs.size = s.heap.objs.size + 1 := by
    rw [Heap.size_update, Heap.size_push]
  have hoL : (((s.heap.push (seqObj "list" #[] 0)).update s.heap.objs.size (Obj.mapSeq (· ++ vs.toArray))).push (seqObj "list" vs.toArray 0)).get? (s.heap.objs.size + 1) = some (seqObj "list" vs.toArray 0) := by
    rw [← hsz]; exact Heap.get?_push_size _ rfl
  have keep : ∀ b o, s.heap.get? b = some o → (((s.heap.push (seqObj "list" #[] 0)).update s.heap.objs.size (Obj.mapSeq (· ++ vs.toArray))).push (seqObj "list" vs.toArray 0)).get? b = some o := fun b o q => by
    have hlt : b < s.heap.objs.size := Heap.lt_size q
    rw [Heap.get?_push_ne _ _ _ (by rw [hsz]; exact Nat.ne_of_lt (Nat.lt_succ_of_lt hlt)), Heap.get?_update_ne _ _ _ _ (Nat.ne_of_lt hlt), Heap.get?_push_ne _ _ _ (Nat.ne_of_lt hlt)]
    exact q
  have x1 : Step g s { s with heap := ((s.heap.push (seqObj "list" #[] 0)).update s.heap.objs.size (Obj.mapSeq (· ++ vs.toArray))).push (seqObj "list" vs.toArray 0) } := Step.grow0 G.toGrOk keep
  have at1 := at_.step x1
  have hle : s.heap.objs.size ≤ s.heap.objs.size + 1 := Nat.le_succ _
  have at2 := At.under at1 (At.notT G at_ hle) (At.fresh G at_ hle) hoL
  have rv1 : Rps ((s.heap.objs.size + 1) :: g.V) s.heap l vs := rv.avoid (Heap.get?_none_of_le hle)
  have rv2 := rv1.mono (fun b o e nv nf nm => x1.v G.toGrOk at_ b o e (fun h => nv (.tail _ h)) nf nm)
  show wpAny _ _ _ _ _ { s with heap := ((s.heap.push (seqObj "list" #[] 0)).update s.heap.objs.size (Obj.mapSeq (· ++ vs.toArray))).push (seqObj "list" vs.toArray 0) }
  rw [hsz]
  refine wpAny_bind (wpAny_holding (wpAny_call_entry slot_list_sort ⟨_, hoL, rfl⟩ entry_list_sort ?_ (args_list_sort _)))
  have hu : A.in1.in1.units + 20 < cLine := by have := ok.2.1; show A.units + 1 + 1 + 20 < 9900; omega
  refine sort_plain G hu at2 hoL rv2 h5 O fun s' out c ws rs hD => ?_
  refine ⟨_, rfl, wpAny_pure ⟨_, rfl, ?_⟩⟩
  have x : Step g s s' := (x1.w.trans ws).step fun a o e h => by rw [h, Heap.get?_none_of_le hle] at e; cases e
  have nV : s.heap.objs.size + 1 ∉ g.V := fun hV => by
    obtain ⟨o, e⟩ := (at_.vol _ hV).2
    rw [Heap.get?_none_of_le hle] at e; cases e
  exact hq _ _ x ⟨_, out, c, rfl, nV, hD, rs⟩
end
end Mine
end
section
open PySem PySem.W PySem.Calls PyProof.Rows Builtin Builtin.Str Builtin.Int
set_option maxRecDepth 100000
namespace Mine

section
variable {prog : Program} {w : World} {A : Around} {E : Value → Shared → Prop} {s : Shared}
theorem nextOf_item {it l : Addr} {i m : Nat} {its : Array Value} {x : Value} {ol : Obj} {Q : Value → Shared → Prop} (hit : s.heap.IsListIter it l i)
    (hol : s.heap.get? l = some ol) (hdl : ol.data = .seq its m) (hx : its[i]? = some x)
    (hQ : ∀ h', h'.IsListIter it l (i + 1) → Heap.SameBut it s.heap h' → Q x { s with heap := h' }) : wpAny (model prog w) A (Builtin.SmallTypes.nextOf (.ref it)) Q E s := by
  obtain ⟨o, ho, hc, hd⟩ := id hit
  unfold Builtin.SmallTypes.nextOf
  refine wpAny_bind (wpAny_callSpecial?_slot (name := Str.ofString "__next__") hit.typeIs slot_listiter_next
    (wpAny_call_entry slot_listiter_next hit.typeIs entry_listiter_next ?_ (args_listiter_next _)))
  show wpAny _ _ (field (.ref it) 0 >>= _) _ _ s
  refine wpAny_bind (wpAny_field ho hd (x := .ref l) rfl ?_)
  show wpAny _ _ (if (Value.ref l == Value.none) = true then _ else _) _ _ s
  rw [if_neg (show ¬ ((Value.ref l == Value.none) = true) from Bool.false_ne_true)]
  show wpAny _ _ (field (.ref it) 1 >>= _) _ _ s
  refine wpAny_bind (wpAny_field ho hd (x := .int i 0) rfl ?_)
  show wpAny _ _ (seqItems? (.ref l) >>= _) _ _ s
  refine wpAny_bind (wpAny_seqItems hol hdl ?_)
  simp only [Int.toNat_natCast, hx]
  refine wpAny_bind (wpAny_setField ho hd (by simp) (wpAny_pure ⟨x, rfl, wpAny_pure (hQ _ ?_ (Heap.SameBut.update ..))⟩))
  exact ⟨_, Heap.get?_update_self _ ho (Obj.isFreed_of_fields (Obj.data_mapFields hd _)), (Obj.cls_mapFields ..).trans hc, by
    rw [Obj.data_mapFields hd]; simp [rawInt]⟩
theorem nextOf_end {it l : Addr} {i m : Nat} {its : Array Value} {ol : Obj} {Q : Value → Shared → Prop} (hh : A.handled = none)
    (hit : s.heap.IsListIter it l i) (hol : s.heap.get? l = some ol) (hdl : ol.data = .seq its m) (hx : its[i]? = none)
    (hE : ∀ h' e, Heap.ExtBut it s.heap h' → (∃ o, h'.get? e = some o ∧ o.cls = .type "StopIteration") → E (.ref e) { s with heap := h' }) :
    wpAny (model prog w) A (Builtin.SmallTypes.nextOf (.ref it)) Q E s := by
  obtain ⟨o, ho, hc, hd⟩ := id hit
  unfold Builtin.SmallTypes.nextOf
  refine wpAny_bind (wpAny_callSpecial?_slot (name := Str.ofString "__next__") hit.typeIs slot_listiter_next
    (wpAny_call_entry slot_listiter_next hit.typeIs entry_listiter_next ?_ (args_listiter_next _)))
  show wpAny _ _ (field (.ref it) 0 >>= _) _ _ s
  refine wpAny_bind (wpAny_field ho hd (x := .ref l) rfl ?_)
  show wpAny _ _ (if (Value.ref l == Value.none) = true then _ else _) _ _ s
  rw [if_neg (show ¬ ((Value.ref l == Value.none) = true) from Bool.false_ne_true)]
  show wpAny _ _ (field (.ref it) 1 >>= _) _ _ s
  refine wpAny_bind (wpAny_field ho hd (x := .int i 0) rfl ?_)
  show wpAny _ _ (seqItems? (.ref l) >>= _) _ _ s
  refine wpAny_bind (wpAny_seqItems hol hdl ?_)
  simp only [Int.toNat_natCast, hx]
  refine wpAny_bind (wpAny_rule (wpAny_bind (wpAny_setField ho hd (by simp) ?_)))
  show wpAny _ _ (newExc (.type "StopIteration") [] >>= _) _ _ _
  refine wpAny_bind ?_
  simp only [newExc, newTuple]
  refine wpAny_bind (wpAny_newObj_type ?_ (by size_fits))
  refine wpAny_bind (m := firstArgMember _ _) (wpAny_of_eq (a := Value.none) (by first | rfl | (simp only [firstArgMember]; rfl)) ?_)
  refine wpAny_newObj_type ?_ (by size_fits)
  simp only [raiseNew]
  refine wpAny_bind (wpAny_handled ?_)
  rw [show A.in1.handled = none from hh]
  refine wpAny_bind (wpAny_pure (wpAny_throw ?_))
  exact hE _ _ (((Heap.SameBut.update ..).extBut.push _).push _) ⟨_, Heap.get?_push_size _ rfl, rfl⟩

theorem enum_item {e it l : Addr} {i m : Nat} {its : Array Value} {x old : Value} {ol : Obj} {Q : Option Value → Shared → Prop}
    (he : IsEnum s.heap e it i old) (hit : s.heap.IsListIter it l i) (hol : s.heap.get? l = some ol) (hdl : ol.data = .seq its m) (hx : its[i]? = some x) (hne : e ≠ it)
    (hQ : ∀ h', IsEnumOut h' e it ((i : Int) + 1) x s.heap.objs.size → h'.IsListIter it l (i + 1) →
      h'.get? s.heap.objs.size = some { cls := .type "tuple", data := .seq #[.int i s.toks, x] } →
      (∀ b o, b ≠ e → b ≠ it → s.heap.get? b = some o → h'.get? b = some o) → Q (some (.ref s.heap.objs.size)) { s with heap := h', toks := s.toks + 1 }) :
    wpAny (model prog w) A (pyNext (.ref e)) Q E s := by
  have hT : s.TypeIs (.ref e) "enumerate" := ⟨_, he, rfl⟩
  unfold pyNext
  refine wpAny_bind (wpAny_attempt (wpAny_callSpecial?_slot (name := Str.ofString "__next__") hT F.slot_enumerate_next
    (wpAny_call_entry F.slot_enumerate_next hT F.entry_enumerate_next ?_ (F.args_enumerate_next_1 _))))
  obtain ⟨hp, g, d, tk, os⟩ := s
  show wpAny _ _ (field (.ref e) 2 >>= _) _ _ _
  refine wpAny_bind (wpAny_field he rfl (x := .ref it) rfl ?_)
  refine wpAny_bind (nextOf_item hit hol hdl hx fun h₁ hit₁ hs₁ => ?_)
  replace hs₁ : Heap.SameBut it hp h₁ := hs₁
  have he₁ : IsEnum h₁ e it i old := (hs₁.2 e hne).trans he
  show wpAny _ _ (field (.ref e) 3 >>= _) _ _ ⟨h₁, g, d, tk, os⟩
  refine wpAny_bind (wpAny_field he₁ rfl (x := rawInt i) rfl ?_)
  show wpAny _ _ (field (.ref e) 4 >>= _) _ _ ⟨h₁, g, d, tk, os⟩
  refine wpAny_bind (wpAny_field he₁ rfl (x := .none) rfl ?_)
  show wpAny _ _ (mkInt i >>= _) _ _ ⟨h₁, g, d, tk, os⟩
  refine wpAny_bind (wpAny_mkInt ?_)
  show wpAny _ _ (setField (.ref e) 3 (rawInt ((i : Int) + 1)) >>= _) _ _ ⟨h₁, g, d, tk + 1, os⟩
  refine wpAny_bind (wpAny_setField_rec he₁ (by simp) fun h₂ he₂ hs₂ => ?_)
  replace hs₂ : Heap.SameBut e h₁ h₂ := hs₂
  replace he₂ : IsEnum h₂ e it ((i : Int) + 1) old := he₂
  show wpAny _ _ (setField (.ref e) 4 .none >>= _) _ _ ⟨h₂, g, d, tk + 1, os⟩
  refine wpAny_bind (wpAny_setField_rec he₂ (by simp) fun h₃ he₃ hs₃ => ?_)
  replace hs₃ : Heap.SameBut e h₂ h₃ := hs₃
  replace he₃ : IsEnum h₃ e it ((i : Int) + 1) old := he₃
  show wpAny _ _ (newTuple [.int i tk, x] >>= _) _ _ ⟨h₃, g, d, tk + 1, os⟩
  refine wpAny_bind (wpAny_newTuple ?_)
  have he₄ : IsEnum (h₃.push { cls := .type "tuple", data := .seq #[.int i tk, x] }) e it ((i : Int) + 1) old := Heap.get?_push_of_some _ he₃
  generalize hh₄ : h₃.push { cls := .type "tuple", data := .seq #[.int i tk, x] } = h₄ at he₄
  have hsz : h₃.objs.size = hp.objs.size := by rw [hs₃.1, hs₂.1, hs₁.1]
  have hel : e < hp.objs.size := Heap.lt_size he
  have ht₄ : h₄.get? hp.objs.size = some { cls := .type "tuple", data := .seq #[.int i tk, x] } := by rw [← hh₄, ← hsz]; exact Heap.get?_push_size _ rfl
  have hk₄ : ∀ b o, b ≠ e → b ≠ it → hp.get? b = some o → h₄.get? b = some o := fun b o hbe hbi hb => by
    rw [← hh₄]; exact Heap.get?_push_of_some _ (hs₃.extBut b o hbe (hs₂.extBut b o hbe (hs₁.extBut b o hbi hb)))
  have hit₄ : h₄.IsListIter it l (i + 1) := by
    rw [← hh₄]; obtain ⟨o, ho, r⟩ := (hit₁.extBut hs₂.extBut (Ne.symm hne)).extBut hs₃.extBut (Ne.symm hne); exact ⟨o, Heap.get?_push_of_some _ ho, r⟩
  show wpAny _ _ (Builtin.SmallTypes.ownedTupleIsFree (.ref e) >>= _) _ _ ⟨h₄, g, d, tk + 1, os⟩
  rw [hsz]
  clear hh₄ he₃ hs₃ he₂ hs₂ he₁ hs₁ hit₁ hsz
  refine wpAny_bind ?_
  unfold Builtin.SmallTypes.ownedTupleIsFree
  refine wpAny_bind (wpAny_field he₄ rfl (x := .none) rfl (wpAny_pure ?_))
  simp only [if_true]
  refine wpAny_bind (wpAny_rule ?_)
  refine wpAny_bind (wpAny_field he₄ rfl (x := old) rfl ?_)
  refine wpAny_bind (wpAny_setField_rec he₄ (by simp) fun h₅ he₅ hs₅ => ?_)
  replace hs₅ : Heap.SameBut e h₄ h₅ := hs₅
  replace he₅ : IsEnum h₅ e it ((i : Int) + 1) x := he₅
  show wpAny _ _ (Builtin.SmallTypes.ownedTupleHandOut (.ref e) (.ref hp.objs.size) >>= _) _ _ ⟨h₅, g, d, tk + 1, os⟩
  refine wpAny_bind ?_
  unfold Builtin.SmallTypes.ownedTupleHandOut
  refine wpAny_bind (wpAny_setField_rec he₅ (by simp) fun h₆ he₆ hs₆ => ?_)
  replace hs₆ : Heap.SameBut e h₅ h₆ := hs₆
  replace he₆ : IsEnumOut h₆ e it ((i : Int) + 1) x hp.objs.size := he₆
  refine wpAny_setField_rec he₆ (by simp) fun h₇ he₇ hs₇ => ?_
  replace hs₇ : Heap.SameBut e h₆ h₇ := hs₇
  replace he₇ : IsEnumOut h₇ e it ((i : Int) + 1) x hp.objs.size := he₇
  refine wpAny_bind (wpAny_letGo (wpAny_pure ⟨_, rfl, wpAny_pure (hQ h₇ he₇ ?_ ?_ ?_)⟩))
  · exact ((hit₄.extBut hs₅.extBut (Ne.symm hne)).extBut hs₆.extBut (Ne.symm hne)).extBut hs₇.extBut (Ne.symm hne)
  · exact hs₇.extBut _ _ (Nat.ne_of_gt hel) (hs₆.extBut _ _ (Nat.ne_of_gt hel) (hs₅.extBut _ _ (Nat.ne_of_gt hel) ht₄))
  · exact fun b o hbe hbi hb => hs₇.extBut b o hbe (hs₆.extBut b o hbe (hs₅.extBut b o hbe (hk₄ b o hbe hbi hb)))
theorem enum_end {e it l : Addr} {i m : Nat} {its : Array Value} {old : Value} {ol : Obj} {Q : Option Value → Shared → Prop} (hh : A.handled = none)
    (he : IsEnum s.heap e it i old) (hit : s.heap.IsListIter it l i) (hol : s.heap.get? l = some ol) (hdl : ol.data = .seq its m) (hx : its[i]? = none)
    (hQ : ∀ h', Heap.ExtBut it s.heap h' → Q none { s with heap := h' }) : wpAny (model prog w) A (pyNext (.ref e)) Q E s := by
  have hT : s.TypeIs (.ref e) "enumerate" := ⟨_, he, rfl⟩
  unfold pyNext
  refine wpAny_bind (wpAny_attempt (wpAny_callSpecial?_slot (name := Str.ofString "__next__") hT F.slot_enumerate_next
    (wpAny_call_entry F.slot_enumerate_next hT F.entry_enumerate_next ?_ (F.args_enumerate_next_1 _))))
  show wpAny _ _ (field (.ref e) 2 >>= _) _ _ _
  refine wpAny_bind (wpAny_field he rfl (x := .ref it) rfl ?_)
  refine wpAny_bind (nextOf_end hh hit hol hdl hx fun h' x he' hx' => ?_)
  obtain ⟨o, ho, hc⟩ := hx'
  refine wpAny_bind (wpAny_isInstance (T := "StopIteration") (b := true) ⟨o, ho, hc⟩ isSubtype_stop ?_)
  exact wpAny_pure (hQ _ he')
end

def enumC : Nat → List CV → List CV
  | _, [] => []
  | i, d :: ds => .tup [.int i, d] :: enumC (i + 1) ds
abbrev EnumJ (l it e : Addr) (V : List Addr) (s : Shared) (cs : List CV) : Prop := ∃ k ds vs its old, IsEnum s.heap e it (k : Nat) old ∧ s.heap.IsListIter it l k ∧ (∃ o m, s.heap.get? l = some o ∧ o.data = .seq its m) ∧ l ∉ V ∧ its.toList.drop k = vs ∧ Rps V s.heap ds vs ∧ cs = enumC k ds
section
variable {prog : Program} {w : World} {g : Gr} {n : Nat}
theorem enumIter {l it e : Addr} (G : Gr2 g) (h0 : g.hd = none) (hn : g.hB.get? it = none) (ho : it ∉ g.V) (hn' : g.hB.get? e = none) (ho' : e ∉ g.V) (hne : e ≠ it) :
    Iter prog w g n (.ref e) (fun q => q = e ∨ q = it) (EnumJ l it e g.V) true := by
  have cl : ∀ {s : Shared} {k : Nat} {old : Value}, IsEnum s.heap e it k old → s.heap.IsListIter it l k → ∀ b o, b = e ∨ b = it → s.heap.get? b = some o → (∃ vs, o.data = .fields vs) ∧ o.cls ≠ .type "range" ∧ ¬ Held o := by
    rintro s k old he hit b o (rfl | rfl) eb
    · have e2 := eb.symm.trans he; cases e2
      exact ⟨⟨_, rfl⟩, by simp, not_held rfl (fun q t h => by simp at h) (by simp)⟩
    · obtain ⟨o', e', c, d⟩ := hit
      rw [eb] at e'; cases e'
      exact ⟨⟨_, d⟩, by rw [c]; simp, not_held d (fun q t h => by simp at h) (by rw [c]; simp)⟩
  have stp : ∀ {s : Shared} {k : Nat} {old : Value} {h' : Heap} {t : Nat}, At g s → s.toks ≤ t → IsEnum s.heap e it k old → s.heap.IsListIter it l k → (∀ b o, b ≠ e → b ≠ it → s.heap.get? b = some o → h'.get? b = some o) → WStep g (fun q => q = e ∨ q = it) s { s with heap := h', toks := t } := by
    intro s k old h' t a htk he hit hk
    have nFe : e ∉ g.F ∧ it ∉ g.F := ⟨a.notF he (fun _ _ h => by cases h), iter_notF a hit⟩
    refine ⟨fun b o _ _ nb eb => hk b o (fun q => nb (.inl q)) (fun q => nb (.inr q)) eb, fun b o _ nb eb => ⟨o.slots, hk b o (fun q => nb (.inl q)) (fun q => nb (.inr q)) eb⟩, fun L hL f => f.data fun o eo => ⟨o.slots, hk L o (fun q => nFe.1 (q ▸ hL)) (fun q => nFe.2 (q ▸ hL)) eo⟩, fun ht => ?_, ⟨#[], by simp, AllBare.empty⟩, rfl, rfl, htk⟩
    refine G.tabK _ _ (fun b o eb hc => hk b o (fun q => ?_) (fun q => ?_) eb) ht
    · exact (cl he hit b o (.inl q) eb).2.2 hc
    · exact (cl he hit b o (.inr q) eb).2.2 hc
  refine ⟨?_, ?_, ?_, ?_, ?_, ?_, ?_, ?_, ?_⟩
  · rintro A s c cs target Q E ht ok a ⟨k, ds, _, its, old, he, hit, ⟨o, m, eo, d⟩, nV, rfl, rs, hcs⟩ q
    cases ds with
    | nil => cases hcs
    | cons dd ds =>
      simp only [enumC, List.cons.injEq] at hcs
      obtain ⟨rfl, rfl⟩ := hcs
      obtain ⟨v, us, hv, r, rs⟩ := rs
      have hx : its[k]? = some v := by
        rw [← Array.getElem?_toList]
        have := congrArg (fun l => l[0]?) hv
        simpa using this
      refine enum_item he hit eo d hx hne fun h' he' hit' htup hk => ?_
      obtain ⟨elts, x1, pos, rfl⟩ := ht rfl
      have le : l ≠ e := fun q => by subst q; have e2 := eo.symm.trans he; cases e2; cases d
      have li : l ≠ it := fun q => by
        obtain ⟨o', e', _, d'⟩ := hit
        subst q
        rw [eo] at e'; cases e'; rw [d] at d'; cases d'
      refine wpAny_letOwnedTupleGo_enum he' fun h'' he'' hs => ?_
      replace hs : Heap.SameBut e h' h'' := hs
      have hk' : ∀ b o, b ≠ e → b ≠ it → s.heap.get? b = some o → h''.get? b = some o := fun b o n1 n2 eb => (hs.2 b n1).trans (hk b o n1 n2 eb)
      have ww := stp (t := s.toks + 1) a (Nat.le_succ _) he hit hk'
      have kv := WStep.v G a ww fun b o hb eb => .inl ⟨(cl he hit b o hb eb).1, (cl he hit b o hb eb).2.1⟩
      have r' := r.mono kv
      have rs' := rs.mono kv
      have hez : e ≠ s.heap.objs.size := Nat.ne_of_lt (Heap.lt_size he)
      refine q _ _ ww ⟨k + 1, ds, us, its, v, ?_, ?_, ⟨o, m, hk' l o le li eo, d⟩, nV, by rw [← List.drop_drop, hv]; rfl, rs', rfl⟩ ⟨s.heap.objs.size, [.int k s.toks, v], 0, rfl, At.out a, (hs.2 _ (fun q => hez q.symm)).trans htup, _, _, rfl, ⟨s.toks, rfl⟩, _, _, rfl, r', rfl⟩
      · have e1 : ((k + 1 : Nat) : Int) = (k : Int) + 1 := by push_cast; rfl
        show IsEnum h'' e it ((k + 1 : Nat) : Int) v
        rw [e1]; exact he''
      · exact hit'.extBut hs.extBut (Ne.symm hne)
  · rintro A s Q E ok a ⟨k, ds, _, its, old, he, hit, ⟨o, m, eo, d⟩, _, rfl, rs, hcs⟩ q
    cases ds with
    | cons => cases hcs
    | nil =>
      have hx : its[k]? = none := by
        have h0 : its.toList.drop k = [] := rs
        rw [← Array.getElem?_toList]
        have := congrArg (fun l => l[0]?) h0
        simpa using this
      refine enum_end (ok.hh h0) he hit eo d hx fun h' hs => q { s with heap := h' } ?_
      exact stp (t := s.toks) a (Nat.le_refl _) he hit fun b o _ n2 eb => hs b o n2 eb
  · rintro A s cs Q E ok a ⟨k, ds, _, its, old, he, _⟩ q
    exact wpAny_pyIter_enum he q
  · rintro s s' cs ⟨k, ds, vs, its, old, he, ⟨oi, ei, ri⟩, ⟨o, m, eo, d⟩, nV, hd, rs, hc⟩ kk
    exact ⟨k, ds, vs, its, old, kk _ _ he, ⟨oi, kk _ _ ei, ri⟩, ⟨o, m, kk _ _ eo, d⟩, nV, hd, rs.mono fun b o e _ _ _ => kk b o e, hc⟩
  · rintro s s' cs Y a x hY ⟨k, ds, vs, its, old, he, ⟨oi, ei, ci, di⟩, ⟨o, m, eo, d⟩, nV, hd, rs, hc⟩
    have nf : ∀ {b ob vs'}, s.heap.get? b = some ob → ob.data = .fields vs' → ¬ Y b := fun {b ob vs'} eb db hy => by
      rcases hY b ob hy eb with (⟨v, o', e', d'⟩ | ⟨m', ⟨o', es, ep, e', d', _⟩, _⟩) | ⟨_, vs', m', d'⟩
      · rw [eb] at e'; cases e'; rw [db] at d'; cases d'
      · rw [eb] at e'; cases e'; rw [db] at d'; cases d'
      · rw [db] at d'; cases d'
    have nl : ¬ Y l := fun hy => by
      rcases hY l o hy eo with (⟨v, o', e', d'⟩ | ⟨m', ⟨o', es, ep, e', d', _⟩, _⟩) | ⟨h, _⟩
      · rw [eo] at e'; cases e'; rw [d] at d'; cases d'
      · rw [eo] at e'; cases e'; rw [d] at d'; cases d'
      · exact nV h
    have hT : ∀ {b}, g.hB.get? b = none → b ∉ g.T := fun {b} hb h => by
      obtain ⟨o', eo⟩ := G.tB b h
      rw [hb] at eo; cases eo
    have lT : l ∉ g.T := fun h => by
      obtain ⟨o', vs', e', d', cl⟩ := G.tabF _ l h a.tab
      rw [eo] at e'; cases e'; rw [d] at d'; cases d'
    exact ⟨k, ds, vs, its, old, x.keep _ _ (hT hn') (a.notF he fun _ _ h => by cases h) (nf he rfl) he, ⟨oi, x.keep _ _ (hT hn) (a.notF ei fun _ _ h => by rw [di] at h; cases h) (nf ei di) ei, ci, di⟩, ⟨o, m, x.keep _ _ lT (a.notFs eo d) nl eo, d⟩, nV, hd, rs.mono (WStep.v G a x fun b o hb eb => .inr ((hY b o hb eb).imp id And.left)), hc⟩
  · rintro s cs a o ⟨k, ds, vs, its, old, he, hit, _⟩ ha eb
    exact ⟨(cl he hit a o ha eb).1, (cl he hit a o ha eb).2.1⟩
  · rintro a (rfl | rfl)
    · exact hn'
    · exact hn
  · rintro a (rfl | rfl)
    · exact ho'
    · exact ho
  · rintro s cs a ⟨k, ds, vs, its, old, he, hit, _⟩ (rfl | rfl)
    · exact ⟨_, he⟩
    · exact hit.imp fun _ h => h.1
end
end Mine
end
section
open PySem PySem.W PySem.Calls PyProof.Rows Builtin Builtin.Str Builtin.Int
set_option maxRecDepth 100000
namespace Mine

/-- a value that is a sequence within, and hands out a list's iterator -/
def SeqIt (g : Gr) (c : CV) (cs : List CV) : Prop := ∀ s v, At g s → Rp g.V s.heap c v → ∃ l o vs m, v = .ref l ∧ l ∉ g.V ∧ s.heap.get? l = some o ∧ o.data = .seq (List.toArray vs) m ∧ Rps g.V s.heap cs vs ∧
  ∀ (prog : Program) (w : World) A (Q : Value → Shared → Prop) E, Q (.ref s.heap.objs.size) { s with heap := s.heap.push { cls := .type "list_iterator", data := .fields #[.ref l, .int 0 0] } } → wpAny (model prog w) A (pyIter (.ref l)) Q E s
theorem SeqIt.list {g : Gr} {l : List CV} : SeqIt g (.lst l) l := by
  intro s v at_ r
  obtain ⟨a, vs, m, rfl, nV, e, rs⟩ := r
  exact ⟨a, _, vs, m, rfl, nV, e, rfl, rs, fun prog w A Q E q => wpAny_pyIter_list ⟨_, e, rfl, m, rfl⟩ q⟩
theorem SeqIt.over {prog : Program} {w : World} {g : Gr} {n : Nat} {c : CV} {cs : List CV} (G : Gr2 g) (h : SeqIt g c cs) : Over prog w g n c cs := by
  intro A s v Q E k a r q
  obtain ⟨l, o, vs, m, rfl, nV, e, d, rs, hp⟩ := h s v a r
  exact hp prog w A Q E (Over.seq (s' := s) (A := A) (E := E) G a ⟨_, vs, m, e, d, rs⟩ nV q)

theorem meets_enum_new (l : Addr) : Meets (Builtin.«enumerate.__new__» ⟨[.type "enumerate", .ref l], []⟩) (fun _ R s =>
    (∀ (prog : Program) (w : World) A (Q : Value → Shared → Prop) E, Q (.ref s.heap.objs.size) { s with heap := s.heap.push { cls := .type "list_iterator", data := .fields #[.ref l, .int 0 0] } } → wpAny (model prog w) A (pyIter (.ref l)) Q E s) ∧
      R (.ok (.ret (.ref (s.heap.push { cls := .type "list_iterator", data := .fields #[.ref l, .int 0 0] }).objs.size)))
        { s with heap := (s.heap.push { cls := .type "list_iterator", data := .fields #[.ref l, .int 0 0] }).push { cls := .type "enumerate", data := .fields #[.none, .bool false, .ref s.heap.objs.size, rawInt 0, .none, .none] } }) :=
  .of_wp fun prog w A R s h => by
    obtain ⟨hp, g, d, tk, os⟩ := s; obtain ⟨hL, h⟩ := h
    have hL := fun {A} {Q} {E} q => hL prog w A Q E q
    have hsub := sub_enumerate
    wp_walk
    refine wpAny_stack_any fun st => wpAny_pure ?_
    split
    · rename_i c _ _ _ _ _
      cases (c == Value.type "enumerate")
      · wp_walk using hL
        exact ⟨_, rfl, h⟩
      · wp_walk using hL
        exact ⟨_, rfl, h⟩
    · wp_walk using hL
      exact ⟨_, rfl, h⟩
section
variable {prog : Program} {w : World} {g : Gr} (G : Gr2 g) {fi : FI} {n : Nat} {σ : Loc}
include G
theorem EO.enum (h0 : g.hd = none) {np pos : Pos} {e : Expr} {c : CV} {cs : List CV} (hf : EV prog w g fi n σ (.Name "enumerate" np) (.raw (.type "enumerate"))) (h : EV prog w g fi n σ e c) (hs : SeqIt g c cs)
    (hstar : ∀ env, starEach [e] env = [(false, eval e env)] := by intro env; rfl) : EO prog w g fi n σ (.Call (.Name "enumerate" np) [e] [] pos) (enumC 0 cs) true := by
  intro A env s Q E k Fr q
  refine wpAny_Call_ofName (hf A env s _ E k Fr fun v s₁ x₁ r => ?_)
  cases r
  have F₁ := Fr.step G.toGrOk x₁
  refine callWith_of (P := fun h => ∃ s, At g s ∧ s.heap = h) (by rw [hstar]; rfl) Keep.type ?_
  have ev : wpAny (model prog w) A (spliced (backTo pos (starEach [e] env))) (fun vs s₂ => (∃ s, At g s ∧ s.heap = s₂.heap) ∧ wpAny (model prog w) A (PySem.call (.type "enumerate") ([] ++ vs) []) Q E s₂) E s₁ := by
    rw [hstar]
    refine spliced_cons (h A env s₁ _ E k F₁ fun v s₂ x₂ r₂ => ?_)
    refine spliced_nil ⟨⟨s₂, F₁.at_.step x₂, rfl⟩, ?_⟩
    have at₂ := F₁.at_.step x₂
    obtain ⟨l, o, vs, m, rfl, nV, eo, d, rs, hp⟩ := hs s₂ v at₂ r₂
    show wpAny (model prog w) A (PySem.call (.type "enumerate") [.ref l] []) Q E s₂
    refine callType_new F.called_enumerate (by decide) (F.typeCall_enumerate_1 _) (F.newCall_enumerate_1 _) (fun obj => F.args_object_init_2 obj _) F.entry_enumerate_new (meets_enum_new l) ⟨hp, ?_⟩
    have hz : (s₂.heap.push { cls := .type "list_iterator", data := .fields #[.ref l, .int 0 0] }).objs.size = s₂.heap.objs.size + 1 := Heap.size_push ..
    show _ ∧ _
    rw [hz]
    have y1 : Step g s₂ { s₂ with heap := s₂.heap.push { cls := .type "list_iterator", data := .fields #[.ref l, .int 0 0] } } := Step.push0 G.toGrOk
    have y2 : Step g { s₂ with heap := s₂.heap.push { cls := .type "list_iterator", data := .fields #[.ref l, .int 0 0] } } { s₂ with heap := (s₂.heap.push { cls := .type "list_iterator", data := .fields #[.ref l, .int 0 0] }).push { cls := .type "enumerate", data := .fields #[.none, .bool false, .ref s₂.heap.objs.size, rawInt 0, .none, .none] } } := Step.push0 G.toGrOk
    have he : IsEnum ((s₂.heap.push { cls := .type "list_iterator", data := .fields #[.ref l, .int 0 0] }).push { cls := .type "enumerate", data := .fields #[.none, .bool false, .ref s₂.heap.objs.size, rawInt 0, .none, .none] }) (s₂.heap.objs.size + 1) s₂.heap.objs.size 0 .none := by
      have := Heap.get?_push_size (s₂.heap.push { cls := .type "list_iterator", data := .fields #[.ref l, .int 0 0] }) (o := { cls := .type "enumerate", data := .fields #[.none, .bool false, .ref s₂.heap.objs.size, rawInt 0, .none, .none] }) rfl
      rw [hz] at this; exact this
    have hit : ((s₂.heap.push { cls := .type "list_iterator", data := .fields #[.ref l, .int 0 0] }).push { cls := .type "enumerate", data := .fields #[.none, .bool false, .ref s₂.heap.objs.size, rawInt 0, .none, .none] }).IsListIter s₂.heap.objs.size l 0 := ⟨_, Heap.get?_push_of_some _ (Heap.get?_push_size _ rfl), rfl, rfl⟩
    refine ⟨⟨_, he, rfl⟩, ?_⟩
    have xx := (x₁.trans x₂).trans (y1.trans y2)
    refine q _ _ xx fun A' Q' E' k' q' => wpAny_pyIter_enum he ?_
    have nn : ∀ {b : Nat}, s₂.heap.objs.size ≤ b → s.heap.get? b = none := fun {b} hb => (x₁.trans x₂).none G (at₂.fresh G hb) (Heap.get?_none_of_le hb)
    have none1 := nn (Nat.le_refl _)
    have none2 := nn (Nat.le_succ _)
    refine q' (.ref (s₂.heap.objs.size + 1)) _ (fun b => b = s₂.heap.objs.size + 1 ∨ b = s₂.heap.objs.size) (EnumJ l s₂.heap.objs.size (s₂.heap.objs.size + 1)) xx (fun V hV => ?_) ?_ ?_ ?_
    · exact enumIter (g2V G V) h0 (at₂.fresh G (Nat.le_refl _)) (hV _ (.inr rfl)) (at₂.fresh G (Nat.le_succ _)) (hV _ (.inl rfl)) (Nat.succ_ne_self _)
    · exact ⟨0, cs, vs, List.toArray vs, .none, he, hit, ⟨o, m, Heap.get?_push_of_some _ (Heap.get?_push_of_some _ eo), d⟩, nV, by simp, Rps.step G.toGrOk (at₂.step y1) y2 (Rps.step G.toGrOk at₂ y1 rs), rfl⟩
    · rintro b (rfl | rfl)
      · exact ⟨none2, _, he⟩
      · exact ⟨none1, hit.imp fun _ h => h.1⟩
    · rintro V b s' ds hb ⟨k, es, vs, its, old, h1, h2, ⟨o, m, h3, h4⟩, h5, h6, h7, h8⟩
      exact ⟨k, es, vs, its, old, h1, h2, ⟨o, m, h3, h4⟩, avoid_ hb h3 h5, h6, h7.avoid hb, h8⟩
  exact evalArgs_any (by rw [hstar]; rfl) ev
end
end Mine
end
section
open PySem PySem.W PySem.Calls PyProof.Rows Builtin Builtin.Str Builtin.Int
set_option maxRecDepth 100000
namespace Mine

/-- what is known of the program's own objects -/
structure KIn (g : Gr) (K : Frag) : Prop where
  inn : K.In g.hB
  notT : ∀ a o, K.lookup a = some o → a ∉ g.T
theorem KIn.at {g : Gr} {K : Frag} (k : KIn g K) {s : Shared} (a : At g s) : K.In s.heap := fun b o e => a.keep b o (k.notT b o e) (k.inn b o e)

/-- a class of the Accept kind -/
structure AccK (K : Frag) (C : Addr) : Prop where
  ga : findIn K (.ref C) "__getattribute__" = some (some (.builtin "list.__getattribute__"))
  gat : findIn K (.ref C) "__getattr__" = some none
  it : findIn K (.ref C) "__iter__" = some (some (.builtin "list.__iter__"))
  len : findIn K (.ref C) "__len__" = some (some (.builtin "list.__len__"))
  bool : findIn K (.ref C) "__bool__" = some none
  subL : mroIn K C (.type "list") = some true
  dict : ∃ cd, clsIn K C = some cd ∧ cd.hasDict = true

def accObj (C d : Addr) (vs : List Value) (n : Nat) : Obj := ⟨.ref C, some d, .seq (List.toArray vs) n, #[]⟩
theorem find_keys {es : Array DictEntry} (hk : StrKeys es) (name : Str) : (match es.toList.find? (·.key.isStr name) with
      | some e => some (some e.val)
      | none => if es.toList.any (·.refKey) then none else some none) = some (nsFind es name) := by
  have h1 : es.toList.any (·.refKey) = false := by
    rw [List.any_eq_false]
    intro e he
    obtain ⟨n, t, hn⟩ := hk e (by simpa using he)
    unfold DictEntry.refKey
    rw [hn]; simp
  rw [h1]
  show _ = some (findBy (fun n v => v.isStr n) es name)
  unfold findBy
  rw [← Array.find?_toList]
  cases es.toList.find? (·.key.isStr name) <;> rfl
theorem Rp.acc {V : List Addr} {h : Heap} {C : Addr} {p : Bool} {l : List CV} {v : Value} (r : Rp V h (.acc C p l) v) : ∃ a d vs n od, v = .ref a ∧ a ∉ V ∧ d ∉ V ∧ h.get? a = some (accObj C d vs n) ∧ h.get? d = some od ∧ InstAt h a (accObj C d vs n) C (some od) ∧
    (∀ y : Str, lookIn y od = some (if y = ("provided" : Str) then some (.bool p) else none)) ∧ Rps V h l vs := by
  obtain ⟨a, d, vs, n, m, rfl, hV, hdV, e, ⟨od, es, ep, ed, dd, hk, hf⟩, hm, rs⟩ := r
  refine ⟨a, d, vs, n, od, rfl, hV, hdV, e, ed, ⟨e, rfl, rfl, ed⟩, fun y => ?_, rs⟩
  unfold lookIn
  rw [dd]
  show (match es.toList.find? (·.key.isStr y) with
      | some e => some (some e.val)
      | none => if es.toList.any (·.refKey) then none else some none) = _
  rw [find_keys hk, hf, hm]

section
variable {prog : Program} {w : World} {g : Gr} {K : Frag} {fi : FI} {n : Nat} {σ : Loc}
theorem sp {M : Model} {A : Around} {E : Value → Shared → Prop} {s : Shared} {x C : Addr} {ox : Obj} {od : Option Obj} {name : Str} {r : Option Value} {Q : Option Value → Shared → Prop} (X : K.In s.heap) (I : InstAt s.heap x ox C od) (hs : findIn K (.ref C) name = some r) (q : Q r s) : wpAny M A (specialOf (.ref x) name) Q E s :=
  wpAny_bind (I.type.here ((looks_findIn X hs).here q))
theorem inst_list {M : Model} {s : Shared} {x C : Addr} {ox : Obj} {od : Option Obj} (X : K.In s.heap) (I : InstAt s.heap x ox C od) (a : AccK K C) : Looks M s.heap (isInstance (.ref x) (.type "list")) true :=
  I.type.andThen (looks_mroIn X a.subL)
/-- a builtin of list, called on an object of a class below list -/
theorem list_call {A : Around} {E : Value → Shared → Prop} {s : Shared} {x C : Addr} {ox : Obj} {od : Option Obj} {id n : String} {rest : List Value} {B : Builtin} {Q : Value → Shared → Prop} (X : K.In s.heap) (I : InstAt s.heap x ox C od) (a : AccK K C)
    (hk : builtinKind id = some .slot) (hs : splitId id = some ("list", n)) (hp : plainId id = true) (entry : entryFor table id = some B) (ha : argsOk id ⟨.ref x :: rest, []⟩)
    (h : wpAny (model prog w) A.in1 (B ⟨.ref x :: rest, []⟩) (fun fin s' => match fin with | .done (.ret v) => Q v s' | .done _ => False | .again c' => c'.quiet = true ∧ codeAny (model prog w) A c' (wants Q E) s') (fun e s' => E e s') s) : wpAny (model prog w) A (PySem.call (.builtin id) (.ref x :: rest) []) Q E s := by
  refine wpAny_call (codeAny_call_builtin hp entry (check_slot hk hs (inst_list X I a) ha ?_))
  refine wpAny_mono h (fun fin s' hh => ?_) fun _ _ x => x
  cases fin with
  | done f => cases f <;> exact hh
  | again c => exact hh

theorem Mth.acc (k : KIn g K) {C f : Addr} {p : Bool} {l : List CV} {name : Str} (a : AccK K C) (hf : findIn K (.ref C) name = some (some (.ref f))) (ht : typeIn K (.ref f) = some (.type "function")) (hn : name ≠ ("provided" : Str)) : Mth prog w g name (.acc C p l) (.ref f) := by
  intro pl A s v Q E at_ r q
  obtain ⟨x, d, vs, n, od, rfl, _, _, e, ed, I, hl, rs⟩ := r.acc
  have X := k.at at_
  have hcan : Manifest.canonical "list.__getattribute__" = "object.__getattribute__" := by decide +kernel
  unfold getMethod
  refine wpAny_bind (sp X I a.ga ?_)
  dsimp only
  rw [hcan, if_neg (by decide)]
  refine wpAny_bind (sp X I a.gat ?_)
  refine wpAny_bind (sp X I hf (wpAny_bind ((looks_typeIn X ht).here ?_)))
  rw [if_neg (by decide +kernel)]
  refine wpAny_bind (wpAny_loadPart I.at_ ?_)
  refine wpAny_bind (wpAny_bind (wpAny_loadPart ed ?_))
  rw [nsLook_of (hl name), if_neg hn]
  exact wpAny_pure (wpAny_bind (wpAny_rule (wpAny_pure q)))

theorem iter_acc {prog : Program} {w : World} {K : Frag} {s : Shared} {x C : Addr} {ox : Obj} {od : Option Obj} (X : K.In s.heap) (I : InstAt s.heap x ox C od) (a : AccK K C) (A : Around) (Q : Value → Shared → Prop) (E : Value → Shared → Prop)
    (q : Q (.ref s.heap.objs.size) { s with heap := s.heap.push { cls := .type "list_iterator", data := .fields #[.ref x, .int 0 0] } }) : wpAny (model prog w) A (pyIter (.ref x)) Q E s := by
  have cl : wpAny (model prog w) A (PySem.call (.builtin "list.__iter__") [.ref x] []) (fun it s' => wpAny (model prog w) A (specialOf it "__next__" >>= fun r => match r with | none => do rule "iter.non-iterator"; raiseError "TypeError" s!"iter() returned non-iterator of type '{← typeNameOf it}'" | some _ => pure it) Q E s') E s := by
    refine list_call X I a (n := "__iter__") (by decide +kernel) (by decide +kernel) F.slot_list_iter.plain F.entry_list_iter (F.args_list_iter_1 _) ?_
    show wpAny _ _ (do ret (← newFields "list_iterator" [.ref x, rawInt 0])) _ _ s
    refine wpAny_bind (wpAny_newObj_type (wpAny_pure ?_))
    exact wpAny_bind (wpAny_specialOf (T := "list_iterator") ⟨_, Heap.get?_push_size _ rfl, rfl⟩ slot_listiter_next.lookup (wpAny_pure q))
  unfold pyIter
  refine wpAny_bind (sp X I a.it ?_)
  show wpAny _ A (callSpecialIfBoundUnlessNone? (.ref x) "__iter__" _ >>= _) Q E s
  refine wpAny_bind ?_
  unfold callSpecialIfBoundUnlessNone? bindSpecialIfBound?
  refine wpAny_holding (wpAny_bind (wpAny_bind (sp X I a.it ?_)))
  simp only [F.slot_list_iter.bind]
  refine wpAny_bind (wpAny_askSetting (wpAny_ite ?_))
  have fin : wpAny (model prog w) A (PySem.call (.builtin "list.__iter__") [.ref x] [] >>= fun v => pure (some v)) (fun r s' => wpAny (model prog w) A (match r with
      | some it => specialOf it "__next__" >>= fun r => match r with | none => do rule "iter.non-iterator"; raiseError "TypeError" s!"iter() returned non-iterator of type '{← typeNameOf it}'" | some _ => pure it
      | none => do
        match ← bindSpecialIfBound? (.ref x) "__getitem__" with
        | none => do rule "iter.not-iterable"; raiseError "TypeError" s!"'{← typeNameOf (.ref x)}' object is not iterable"
        | some _ => do rule "iter.getitem-fallback"; newFields "iterator" [.ref x, ← mkInt 0]) Q E s') E s :=
    wpAny_bind (wpAny_mono cl (fun v s' h' => wpAny_pure h') fun _ _ h' => h')
  split
  · exact wpAny_bind (wpAny_pure (wpAny_pure fin))
  · exact wpAny_tryCatch (wpAny_bind (wpAny_pure (wpAny_pure fin)))
theorem SeqIt.acc (k : KIn g K) {C : Addr} {p : Bool} {l : List CV} (a : AccK K C) : SeqIt g (.acc C p l) l := by
  intro s v at_ r
  obtain ⟨x, d, vs, n, od, rfl, hV, _, e, ed, I, hl, rs⟩ := r.acc
  exact ⟨x, _, vs, n, rfl, hV, e, rfl, rs, fun prog w A Q E q => iter_acc (k.at at_) I a A Q E q⟩
end
end Mine
end
section
open PySem PySem.W PySem.Calls PyProof.Rows Builtin Builtin.Str Builtin.Int
set_option maxRecDepth 100000
namespace Mine

section
variable {prog : Program} {w : World} {g : Gr} {K : Frag} {fi : FI} {n : Nat} {σ : Loc}
theorem special_list {M : Model} {A : Around} {E : Value → Shared → Prop} {s : Shared} {x C : Addr} {ox : Obj} {od : Option Obj} {id : String} {name : Str} {args : List Value} {Q : Option Value → Shared → Prop} (X : K.In s.heap) (I : InstAt s.heap x ox C od)
    (hs : findIn K (.ref C) name = some (some (.builtin id))) (hb : ∀ self, bindSpecial (.builtin id) self = pure (.builtin id, [self])) (h : wpAny M A (PySem.call (.builtin id) (.ref x :: args) []) (fun v => Q (some v)) E s) : wpAny M A (callSpecial? (.ref x) name args) Q E s := by
  unfold callSpecial?
  refine wpAny_bind (sp X I hs ?_)
  dsimp only
  rw [hb]
  exact wpAny_holding (wpAny_bind (wpAny_pure (wpAny_bind (wpAny_mono h (fun v s' h' => wpAny_pure h') fun _ _ h' => h'))))
theorem special_none {M : Model} {A : Around} {E : Value → Shared → Prop} {s : Shared} {x C : Addr} {ox : Obj} {od : Option Obj} {name : Str} {args : List Value} {Q : Option Value → Shared → Prop} (X : K.In s.heap) (I : InstAt s.heap x ox C od)
    (hs : findIn K (.ref C) name = some none) (h : Q none s) : wpAny M A (callSpecial? (.ref x) name args) Q E s := by
  unfold callSpecial?
  exact wpAny_bind (sp X I hs (wpAny_pure h))

theorem len_body {A : Around} {E : Value → Shared → Prop} {s : Shared} {x C d : Addr} {vs : List Value} {k : Nat} {od : Option Obj} {P : PySem.Fin → Shared → Prop} (X : K.In s.heap) (I : InstAt s.heap x (accObj C d vs k) C od) (a : AccK K C) (hl : (vs.length : Int) < 2 ^ 63)
    (h : P (.done (.ret (.int vs.length (s.toks + 1)))) { s with toks := s.toks + 1 + 1 }) : wpAny (model prog w) A (Builtin.«len» ⟨[.ref x], []⟩) P E s := by
  unfold Builtin.«len»
  refine wpAny_bind (m := oneArg "len" _) (wpAny_pure ?_)
  refine wpAny_bind (m := callSpecial? (.ref x) (Str.ofString "__len__")) (special_list X I a.len F.slot_list_len.bind ?_)
  refine list_call X I a (n := "__len__") (by decide +kernel) (by decide +kernel) F.slot_list_len.plain F.entry_list_len (F.args_list_len_1 _) ?_
  show wpAny _ _ (do retInt (← seqSize x)) _ _ s
  unfold seqSize
  refine wpAny_bind (wpAny_bind (wpAny_load I.at_ ?_))
  refine wpAny_pure (wpAny_bind (wpAny_mkInt (wpAny_pure ?_)))
  refine wpAny_bind (wpAny_holding (wpAny_pure ?_))
  refine wpAny_bind (wpAny_letGo ?_)
  show wpAny _ _ (if ((List.toArray vs).size : Int) < 0 then _ else _) _ _ _
  rw [List.size_toArray, if_neg (by omega)]
  show wpAny _ _ (if (vs.length : Int) ≥ 2 ^ 63 then _ else _) _ _ _
  rw [if_neg (by omega)]
  exact wpAny_bind (wpAny_mkInt (wpAny_pure h))
theorem FW.len_acc (k : KIn g K) {C : Addr} {p : Bool} {l : List CV} (a : AccK K C) (hl : l.length ≤ 10000) : FW prog w g n (.builtin "len") [.acc C p l] (.int l.length) := by
  intro A s vs Q E ok at_ r q
  obtain ⟨v, _, rfl, r, rfl⟩ := r
  obtain ⟨x, d, vs, m, od, rfl, _, _, e, ed, I, _, rs⟩ := r.acc
  refine Calls.call_function_entry kind_len plain_len entry_len (args_len1 _) ?_
  refine len_body (k.at at_) I a (by rw [rs.length]; omega) ?_
  rw [rs.length]
  exact ⟨_, rfl, q _ _ (.tok (by show s.toks ≤ s.toks + 1 + 1; omega)) ⟨_, rfl⟩⟩
theorem Tru.acc (k : KIn g K) {C : Addr} {p : Bool} {l : List CV} (a : AccK K C) (hl : l.length ≤ 10000) : Tru prog w g n (.acc C p l) (!l.isEmpty) := by
  intro A s v Q E ok at_ r q
  obtain ⟨x, d, vs, m, od, rfl, _, _, e, ed, I, _, rs⟩ := r.acc
  have X := k.at at_
  have key : wpAny (model prog w) A (runValue (.builtin "len" ⟨[.ref x], []⟩)) (fun r s' => r = .int l.length (s.toks + 1) ∧ s' = { s with toks := s.toks + 1 + 1 }) E s := by
    refine wpAny_runValue (codeAny_builtin entry_len ?_)
    rw [Around.under_plainId plain_len _]
    refine len_body X I a (by rw [rs.length]; omega) ?_
    rw [rs.length]
    exact ⟨rfl, rfl⟩
  have hne : ((l.length : Int) != 0) = !l.isEmpty := by
    cases l with
    | nil => rfl
    | cons c l => 
      have : ((List.length (c :: l) : Nat) : Int) ≠ 0 := by simp only [List.length_cons]; omega
      rw [bne_iff_ne.mpr this]; rfl
  unfold truthy
  refine wpAny_bind (special_none X I a.bool ?_)
  refine wpAny_bind (sp X I a.len ?_)
  refine wpAny_bind (wpAny_mono key (fun r s' h => ?_) fun _ _ x => x)
  obtain ⟨rfl, rfl⟩ := h
  refine wpAny_pure ?_
  rw [hne]
  exact q _ (.tok (by show s.toks ≤ s.toks + 1 + 1; omega))

/-- `acc[key]`: the class's own method -/
theorem Bin.acc_item (k : KIn g K) {C f : Addr} {p : Bool} {l : List CV} {value slice : Expr} {c r : CV} (hs : findIn K (.ref C) "__getitem__" = some (some (.ref f))) (hf : fnIn K f = true) (hfn : isFn K (.ref f) = true) (h : FW prog w g n (.ref f) [.acc C p l, c] r)
    (hsl : ∀ o i, subscripted slice true o i = runValue (.builtin "lifetime.subscript" ⟨[o, i], []⟩) := by intro _ _; with_unfolding_all rfl) : Bin prog w g (n + 1) (subscriptTail value slice) (.acc C p l) c r := by
  intro A s u v Q E ok at_ ru rv q
  have ru' := ru
  obtain ⟨x, d, vs, m, od, rfl, _, _, e, ed, I, _, rs⟩ := ru.acc
  have X := k.at at_
  unfold fnIn at hf
  split at hf
  · rename_i e
    unfold subscriptTail getitemInPython
    refine wpAny_bind (wpAny_bind (sp X I hs ?_))
    dsimp only
    refine wpAny_bind (wpAny_load (X _ _ e) (wpAny_pure ?_))
    dsimp only
    rw [hsl]
    refine wpAny_bind (wpAny_runValue (codeAny_builtin entry_sub ?_))
    unfold Builtin.«lifetime.subscript»
    refine wpAny_bind (special_fn X I hs (beq_iff_eq.mp hfn) (h A.in1 s [.ref x, v] _ _ ok.in1 at_ ⟨_, _, rfl, ru', _, _, rfl, rv, rfl⟩ fun z s' x' r' => ?_))
    refine wpAny_pure ?_
    show wpAny (model prog w) A (letTemporaryGo value (.ref x) z >>= fun _ => pure z) Q E s'
    exact wpAny_bind (wpAny_letTemporaryGo (wpAny_pure (q _ _ x' r')))
  · cases hf
/-- `value in acc` -/
theorem Bin.in_acc (k : KIn g K) {C f : Addr} {p b : Bool} {l : List CV} {c : CV} (hs : findIn K (.ref C) "__contains__" = some (some (.ref f))) (hfn : isFn K (.ref f) = true) (h : FW prog w g n (.ref f) [.acc C p l, c] (.bool b)) : Bin prog w g n (compareOp .In) c (.acc C p l) (.bool b) := by
  intro A s v u Q E ok at_ rv ru q
  have ru' := ru
  obtain ⟨x, d, vs, m, od, rfl, _, _, e, ed, I, _, rs⟩ := ru.acc
  have X := k.at at_
  show wpAny _ A (contains (.ref x) v >>= _) Q E s
  refine wpAny_bind ?_
  unfold contains
  have hno : stdlibNamesSay? (.ref x) v = none := by cases v <;> rfl
  refine wpAny_holding ?_
  have fin : wpAny (model prog w) A (do
      if (← specialOf (.ref x) "__contains__") == some .none then
        rule "in.none"; raiseError "TypeError" s!"'{← typeNameOf (.ref x)}' object is not a container"
      match ← callSpecialUnlessNone? (.ref x) "__contains__" [v] (do rule "in.none"; raiseError "TypeError" s!"'{← typeNameOf (.ref x)}' object is not a container") with
      | some r => truthy r
      | none =>
        rule "in.by-iteration"
        match ← runValue (.builtin "proto.contains_iter" ⟨[← (pyIter (.ref x)).tryCatch fun e => do
            if ← isInstance e (.type "TypeError") then raiseError "TypeError" s!"argument of type '{← typeNameOf (.ref x)}' is not iterable" else throw e, v], []⟩) with
        | .bool b => pure b
        | _ => unsupported "internal:contains" : Sem Bool) (fun b s' => wpAny (model prog w) A (pure (.bool b)) Q E s') E s := by
    refine wpAny_bind (sp X I hs ?_)
    rw [if_neg (by simp)]
    refine wpAny_bind (unlessNone_K X I hs hfn (h A s [.ref x, v] _ _ ok at_ ⟨_, _, rfl, ru', _, _, rfl, rv, rfl⟩ fun z s' x' r' => ?_))
    cases r'
    exact wpAny_truthy_bool (wpAny_pure (q _ _ x' rfl))
  exact fin
end
end Mine
end
section
open PySem PySem.W PySem.Calls PyProof.Rows Builtin Builtin.Str Builtin.Int Builtin.ObjectAttr
set_option maxRecDepth 100000
namespace Mine

section
variable {prog : Program} {w : World} {g : Gr} {K : Frag} {fi : FI} {n : Nat} {σ : Loc}
/-- an attribute of an object of a class below list: up to what is found -/
theorem attr_open {A : Around} {E : Value → Shared → Prop} {s : Shared} {x C : Addr} {ox : Obj} {od : Option Obj} {name : Str} {r : ObjectAttr.Found} {ex : Bool} {Q : Value → Shared → Prop} (X : K.In s.heap) (I : InstAt s.heap x ox C od) (a : AccK K C) (hf : findObj K C od name = some r)
    (h : ∀ Er : Value → Shared → Prop, wpAny (model prog w) A.in1 (match r with | ObjectAttr.Found.value v => ret v | ObjectAttr.Found.bind g a => ObjectAttr.bindTo g a (.ref x) (.ref C) | ObjectAttr.Found.missing => unsupported "") (fun fin s' => match fin with | PySem.Fin.done (.ret v) => wpAny (model prog w) A (handedOut v) Q E s' | _ => False) Er { s with toks := s.toks + 1 })
    (hm : r ≠ ObjectAttr.Found.missing) :
    wpAny (model prog w) A (getAttr (.ref x) name ex) Q E s := by
  have X1 : K.In ({ s with toks := s.toks + 1 } : Shared).heap := X
  have I1 : InstAt ({ s with toks := s.toks + 1 } : Shared).heap x ox C od := I
  unfold getAttr getAttrBy
  refine wpAny_bind (wpAny_mkText (wpAny_holding (wpAny_bind (I1.type.here (wpAny_bind ((looks_findIn X1 a.ga).here ?_))))))
  show wpAny _ _ (getAttrByItsOwn (.ref x) (.str name s.toks) (.ref C) (.builtin "list.__getattribute__") true ex) _ _ _
  unfold getAttrByItsOwn hookBefore callGetattribute boundAndCalled
  refine wpAny_bind ((looks_findIn X1 a.gat).here ?_)
  have e0 : (ex && onTheHeap (.builtin "list.__getattribute__")) = false := by cases ex <;> rfl
  rw [e0]
  simp only [Bool.false_eq_true, if_false, F.slot_list_getattribute.bind]
  refine wpAny_bind (wpAny_attempt (wpAny_holding (wpAny_bind (wpAny_pure ?_))))
  show wpAny _ A (PySem.call (.builtin "list.__getattribute__") (.ref x :: [.str name s.toks]) []) _ _ _
  refine list_call X1 I1 a (n := "__getattribute__") (by decide +kernel) (by decide +kernel) F.slot_list_getattribute.plain am_entry_list_getattribute (F.args_list_getattribute_2 _ _) ?_
  unfold Builtin.«object.__getattribute__»
  refine wpAny_bind (m := slotArgs "__getattribute__" 1 _) (wpAny_pure ?_)
  refine wpAny_bind (m := ObjectAttr.attrName _) (wpAny_pure ?_)
  refine wpAny_bind (I1.type.here (wpAny_bind ((looks_find X1 I1 hf).here ?_)))
  refine wpAny_mono (?_ : wpAny (model prog w) A.in1 _ (fun fin s' => match fin with | PySem.Fin.done (.ret v) => wpAny (model prog w) A (handedOut v) Q E s' | _ => False) _ _) (fun fin s' hh => ?_) fun _ _ x => x
  · cases r with
    | value v => exact h _
    | bind gg b => exact h _
    | missing => exact absurd rfl hm
  · cases fin with
    | done f => cases f <;> first | exact hh | exact hh.elim
    | again c => exact hh.elim
theorem attr_value {A : Around} {E : Value → Shared → Prop} {s : Shared} {x C : Addr} {ox : Obj} {od : Option Obj} {name : Str} {v : Value} {ex : Bool} {Q : Value → Shared → Prop} (X : K.In s.heap) (I : InstAt s.heap x ox C od) (a : AccK K C) (hf : findObj K C od name = some (.value v)) (hv : handedIn v = true) (q : Q v { s with toks := s.toks + 1 }) :
    wpAny (model prog w) A (getAttr (.ref x) name ex) Q E s :=
  attr_open X I a hf (fun _ => wpAny_pure (by show wpAny _ _ (handedOut v) _ _ _; rw [handedOut_of hv]; exact wpAny_pure q)) (by simp)
theorem attr_prop {A : Around} {E : Value → Shared → Prop} {s : Shared} {x C p fget : Addr} {rest : List Value} {ox : Obj} {od : Option Obj} {name : Str} {ex : Bool} {Q : Value → Shared → Prop} (X : K.In s.heap) (I : InstAt s.heap x ox C od) (a : AccK K C) (hf : findObj K C od name = some (.bind (.builtin "property.__get__") (.ref p))) (hp : recIn K p "property" = some (.ref fget :: rest))
    (h : ∀ R : Result → Shared → Prop, (∀ v s', wpAny (model prog w) A (handedOut v) Q E s' → R (.ok (.ret v)) s') → codeAny (model prog w) A.in1 (.call (.ref fget) ⟨[.ref x], []⟩) R { s with toks := s.toks + 1 }) :
    wpAny (model prog w) A (getAttr (.ref x) name ex) Q E s := by
  refine attr_open X I a hf (fun Er => ?_) (by simp)
  show wpAny _ A.in1 (holding [.ref p] (PySem.call (.builtin "property.__get__") [.ref p, .ref x, .ref C] []) >>= ret) _ _ _
  refine wpAny_bind (wpAny_holding (wpAny_call (prop_get (s := { s with toks := s.toks + 1 }) X hp (h _ fun v s' hv => ?_))))
  exact wpAny_pure hv

theorem own_prov {C : Addr} {od : Obj} {p : Bool} (hc : ∃ cd, clsIn K C = some cd ∧ cd.hasDict = true) (hn : findIn K (.ref C) "provided" = some none) (hl : ∀ y : Str, lookIn y od = some (if y = ("provided" : Str) then some (.bool p) else none)) : findObj K C (some od) "provided" = some (.value (.bool p)) := by
  obtain ⟨cd, hc, hd⟩ := hc
  unfold findObj
  rw [hc, Option.bind_some, hn]
  simp only [Option.bind_some, PySem.W.ownOf, hd, if_true]
  rw [hl ("provided" : Str), if_pos rfl]
  rfl
/-- `e.provided` -/
theorem EV.provided (G : GrOk g) (k : KIn g K) {e : Expr} {pos : Pos} {C : Addr} {p : Bool} {l : List CV} (a : AccK K C) (hn : findIn K (.ref C) "provided" = some Option.none) (h : EV prog w g fi n σ e (.acc C p l)) (hbase : ∀ env, attributeBase e "provided" env (eval e env) = eval e env := by intro env; rfl) : EV prog w g fi n σ (.Attribute e "provided" pos) (.bool p) := by
  intro A env s Q E ok F q
  rw [arm_eval_Attribute, hbase]
  refine wpAny_bind (h A env s _ E ok F fun v s₁ x₁ r => ?_)
  obtain ⟨x, d, vs, m, od, rfl, _, _, e, ed, I, hl, rs⟩ := r.acc
  refine wpAny_bind (wpAny_standAt (wpAny_bind (wpAny_holding (attr_value (k.at (F.at_.step x₁)) I a (own_prov a.dict hn hl) rfl ?_))))
  exact wpAny_bind (wpAny_letTemporaryGo (wpAny_pure (q _ _ (x₁.trans .tok) rfl)))
/-- `e.name`, a property -/
theorem EV.prop (G : GrOk g) (k : KIn g K) {e : Expr} {pos : Pos} {C pr fget : Addr} {rest : List Value} {p : Bool} {l : List CV} {name : Str} {r : CV} (a : AccK K C) (hs : findIn K (.ref C) name = some (some (.ref pr))) (hg : specialIn K (.ref pr) "__get__" = some (some (.builtin "property.__get__"))) (ht : takesIn K (.ref pr) = some true) (hp : recIn K pr "property" = some (.ref fget :: rest))
    (h : EV prog w g fi (n + 1) σ e (.acc C p l)) (hf : FN prog w g n (.ref fget) [.acc C p l] r) (hr : ∀ V h v, Rp V h r v → handedIn v = true) (hbase : ∀ env, attributeBase e name env (eval e env) = eval e env := by intro env; rfl) : EV prog w g fi (n + 1) σ (.Attribute e name pos) r := by
  intro A env s Q E ok F q
  rw [arm_eval_Attribute, hbase]
  refine wpAny_bind (h A env s _ E ok F fun v s₁ x₁ ru => ?_)
  have ru' := ru
  obtain ⟨x, d, vs, m, od, rfl, _, _, e, ed, I, hl, rs⟩ := ru.acc
  have at₁ := F.at_.step x₁
  have x₂ : Step g s₁ { s₁ with toks := s₁.toks + 1 } := .tok
  refine wpAny_bind (wpAny_standAt (wpAny_bind (wpAny_holding (attr_prop (k.at at₁) I a (findObj_data (by obtain ⟨cd, hc, _⟩ := a.dict; rw [hc]; rfl) hs hg ht) hp fun R hR => ?_))))
  refine hf A.in1 _ [.ref x] R ok.in1 (at₁.step x₂) ⟨_, _, rfl, Rp.step G at₁ x₂ ru', rfl⟩ fun v s₃ x₃ r₃ => hR v s₃ ?_
  rw [handedOut_of (hr _ _ _ r₃)]
  exact wpAny_pure (wpAny_bind (wpAny_letTemporaryGo (wpAny_pure (q _ _ ((x₁.trans x₂).trans x₃) r₃))))
end
end Mine
end
section
open PySem PySem.W PySem.Calls PyProof.Rows Builtin Builtin.Str Builtin.Int
set_option maxRecDepth 100000
namespace Mine

section
variable (prog : Program) (w : World) (g : Gr) (fi : FI) (n : Nat) (σ : Loc)
/-- an expression that raises -/
def ER (e : Expr) (T : String) : Prop := ∀ A env s (Q : Value → Shared → Prop) (E : Value → Shared → Prop), OkA g.fr g.hd A n → Fm g fi env s σ → (∀ x s' fl, Step g s s' → ExcR s.heap s'.heap x T fl → Fl env fl → E (.ref x) s') → wpAny (model prog w) A (eval e env) Q E s
/-- a test that raises -/
def ERt (e : Expr) (T : String) : Prop := ∀ A env s (Q : Bool → Shared → Prop) (E : Value → Shared → Prop), OkA g.fr g.hd A n → Fm g fi env s σ → (∀ x s' fl, Step g s s' → ExcR s.heap s'.heap x T fl → Fl env fl → E (.ref x) s') → wpAny (model prog w) A (isTrue e env (eval e env)) Q E s
/-- statements that raise, and store nothing before -/
def XR (ss : List Stmt) (T : String) : Prop := ∀ A env s (Q : Flow → Shared → Prop) (E : Value → Shared → Prop), OkA g.fr g.hd A n → Fm g fi env s σ → (∀ x s' fl, Step g s s' → ExcR s.heap s'.heap x T fl → Fl env fl → E (.ref x) s') → wpAny (model prog w) A (execs ss env) Q E s
def XR1 (st : Stmt) (T : String) : Prop := ∀ A env s (Q : Flow → Shared → Prop) (E : Value → Shared → Prop), OkA g.fr g.hd A n → Fm g fi env s σ → (∀ x s' fl, Step g s s' → ExcR s.heap s'.heap x T fl → Fl env fl → E (.ref x) s') → wpAny (model prog w) A (exec st env) Q E s
end

section
variable {prog : Program} {w : World} {g : Gr} (G : Gr2 g) {fi : FI} {n : Nat} {σ : Loc}
include G
theorem XR1.ex {st : Stmt} {T : String} {Φ : AF → Prop} (h : XR1 prog w g fi n σ st T) (k : Φ (.exc T)) : EX1 prog w g fi n σ st Φ := by
  intro A env s Q E a F q qe
  exact h A env s Q E a F fun x s' fl y r f => qe x s' T fl k y.w (F.at_.step y) (y.lives G F.at_) r f
omit G in
theorem XR.cons {st : Stmt} {rest : List Stmt} {T : String} (h : XR1 prog w g fi n σ st T) : XR prog w g fi n σ (st :: rest) T := by
  intro A env s Q E a F q
  exact wpAny_execs_cons (h A env s _ E a F q)
theorem XR1.ite {t : Expr} {b o : List Stmt} {pos : Pos} {z : Bool} {T : String} (h : ET prog w g fi n σ t z) (h1 : z = true → XR prog w g fi n σ b T) (h2 : z = false → XR prog w g fi n σ o T) : XR1 prog w g fi n σ (.If t b o pos) T := by
  intro A env s Q E a F q
  refine wpAny_If (h A env s _ E a F fun s' x => ?_)
  have F' := F.step G.toGrOk x
  have q' : ∀ y s'' fl, Step g s' s'' → ExcR s'.heap s''.heap y T fl → Fl env fl → E (.ref y) s'' := fun y s'' fl z r f => q y s'' fl (x.trans z) (r.back (x.lives G F.at_)) f
  cases z with
  | true => exact h1 rfl A env s' Q E a F' q'
  | false => exact h2 rfl A env s' Q E a F' q'
omit G in
theorem XR1.test {t : Expr} {b o : List Stmt} {pos : Pos} {T : String} (h : ERt prog w g fi n σ t T) : XR1 prog w g fi n σ (.If t b o pos) T := by
  intro A env s Q E a F q
  exact wpAny_If (h A env s _ E a F q)
omit G in
theorem ERt.val {e : Expr} {T : String} (h : ER prog w g fi n σ e T) (he : ∀ env whole, isTrue e env whole = (do let v ← whole; standAt e.pos; holding [v] (truthy v)) := by intro env whole; rfl) : ERt prog w g fi n σ e T := by
  intro A env s Q E a F q
  exact wpAny_isTrue_value (h A env s _ E a F q) (he _ _)
omit G in
theorem XR1.ret {e : Expr} {pos : Pos} {T : String} (h : ER prog w g fi n σ e T) : XR1 prog w g fi n σ (.Return (some e) pos) T := by
  intro A env s Q E a F q
  exact wpAny_Return_some (h A env s _ E a F q)
omit G in
theorem XR1.assign {x : Str} {p' pos : Pos} {e : Expr} {T : String} (h : ER prog w g fi n σ e T) (hs : ∀ env, swapsWith e (some (.Name x p')) pos.line env = pure false := by intro env; rfl) : XR1 prog w g fi n σ (.Assign [.Name x p'] e pos) T := by
  intro A env s Q E a F q
  exact wpAny_Assign_Name (h A env s _ E a F q) (hs env)
omit G in
theorem XR1.expr {e : Expr} {pos : Pos} {T : String} (h : ER prog w g fi n σ e T) (hi : ∀ env, env.scope = fi.scope → interactive env = false := by intro env h; unfold interactive; rw [h]; rfl) (hs : ∀ env, swapsWith e none pos.line env = pure false := by intro env; rfl) : XR1 prog w g fi n σ (.Expr e pos) T := by
  intro A env s Q E a F q
  exact wpAny_Expr (h A env s _ E a F q) (hi env F.sc) (hs env)

theorem ER.call {x : Str} {np pos : Pos} {f : Value} {args : List Expr} {cs : List CV} {T : String} (hf : EV prog w g fi n σ (.Name x np) (.raw f)) (ha : EVs prog w g fi n σ args cs) (hk : Keep prog w g f) (h : FWr prog w g n f cs T)
    (hplain : ∀ env, (backTo pos (starEach args env)).any (·.1) = false := by intro env; rfl) (hkw : ∀ env, backToKw pos (keywordEach [] env) = [] := by intro env; rfl) : ER prog w g fi n σ (.Call (.Name x np) args [] pos) T := by
  intro A env s Q E k F q
  refine wpAny_Call_ofName (hf A env s _ E k F fun v s₁ x₁ r => ?_)
  cases r
  rw [hkw env]
  refine callWith_of (P := fun h => ∃ s, At g s ∧ s.heap = h) (by rw [hplain env]; rfl) hk ?_
  have F₁ := F.step G.toGrOk x₁
  have ev : wpAny (model prog w) A (spliced (backTo pos (starEach args env))) (fun vs s₂ => (∃ s, At g s ∧ s.heap = s₂.heap) ∧ wpAny (model prog w) A (PySem.call f ([] ++ vs) []) Q E s₂) E s₁ :=
    ha A env s₁ pos _ E k F₁ fun vs s₂ x₂ r₂ => ⟨⟨s₂, F₁.at_.step x₂, rfl⟩, h A s₂ vs Q E k (F₁.at_.step x₂) r₂ fun y s₃ x₃ r₃ => q y s₃ _ ((x₁.trans x₂).trans x₃) (r₃.back ((x₁.trans x₂).lives G F.at_)) (.inr (.inl rfl))⟩
  exact evalArgs_any (hplain env) ev
theorem ER.meth {o : Expr} {name : Str} {apos pos : Pos} {f : Value} {args : List Expr} {c : CV} {cs : List CV} {T : String} (ho : EV prog w g fi n σ o c) (m : Mth prog w g name c f) (ha : EVs prog w g fi n σ args cs) (hk : Keep prog w g f) (h : FWr prog w g n f (c :: cs) T)
    (hbase : ∀ env, attributeBase o name env (eval o env) = eval o env := by intro env; rfl)
    (hplain : ∀ env, (backTo pos (starEach args env)).any (·.1) = false := by intro env; rfl) (hkw : ∀ env, backToKw pos (keywordEach [] env) = [] := by intro env; rfl)
    (hform : ∀ env, methodCallForm (args.length + ([] : List Keyword).length) (backTo pos (starEach args env)) (backToKw pos (keywordEach [] env)) = true := by intro env; rfl)
    (hline : (apos.endLine == pos.line) = true := by rfl) : ER prog w g fi n σ (.Call (.Attribute o name apos) args [] pos) T := by
  intro A env s Q E k F q
  rw [arm_eval_Call, hbase]
  refine wpAny_bind (ho A env s _ E k F fun v s₁ x₁ r₁ => ?_)
  refine wpAny_bind (wpAny_standAt ?_)
  have hpos : methodCallPos true o env apos pos = pure pos := by unfold methodCallPos; simp [hline]
  unfold methodCall
  rw [hform]
  have F₁ := F.step G.toGrOk x₁
  refine wpAny_bind (wpAny_holding (m _ A s₁ v _ E F₁.at_ r₁ ?_))
  refine wpAny_bind (wpAny_of_eq hpos ?_)
  rw [hkw env]
  refine callWith_of (P := fun h => ∃ s, At g s ∧ s.heap = h) (by rw [hplain env]; rfl) hk ?_
  have ev : wpAny (model prog w) A (spliced (backTo pos (starEach args env))) (fun vs s₂ => (∃ s, At g s ∧ s.heap = s₂.heap) ∧ wpAny (model prog w) A (PySem.call f ([v] ++ vs) []) Q E s₂) E s₁ :=
    ha A env s₁ pos _ E k F₁ fun vs s₂ x₂ r₂ => ⟨⟨s₂, F₁.at_.step x₂, rfl⟩, h A s₂ (v :: vs) Q E k (F₁.at_.step x₂) ⟨v, vs, rfl, Rp.step G.toGrOk F₁.at_ x₂ r₁, r₂⟩ fun y s₃ x₃ r₃ => q y s₃ _ ((x₁.trans x₂).trans x₃) (r₃.back ((x₁.trans x₂).lives G F.at_)) (.inr (.inl rfl))⟩
  exact evalArgs_any (hplain env) ev

theorem XR1.raise_ {cls newId initId : String} (FC : ExcCallFacts cls newId initId) (FR : ExcRaiseFacts cls) (h0 : g.hd = none) (hc : cls ≠ "code") {x : Str} {np cpos pos : Pos} {args : List Expr} {cs : List CV} (hf : EV prog w g fi n σ (.Name x np) (.raw (.type cls))) (ha : EVs prog w g fi n σ args cs) (hl : cs.length ≤ 1000)
    (hplain : ∀ env, (backTo cpos (starEach args env)).any (·.1) = false := by intro env; rfl) : XR1 prog w g fi n σ (.Raise (some (.Call (.Name x np) args [] cpos)) none pos) cls := by
  intro A env s Q E k F q
  refine wpAny_Raise_call FC FR (k.hh h0) (hplain env) (hf A env s _ E k F fun v s₁ x₁ r => ⟨r, ?_⟩)
  have F₁ := F.step G.toGrOk x₁
  refine evalArgs_any (hplain env) (ha A env s₁ cpos _ E k F₁ fun vs s₂ x₂ rs => ⟨rfl, ?_, fun h' e m => ?_⟩)
  · show vs.length ≤ _; rw [rs.length]; exact Nat.le_trans hl (by decide)
  · have x₃ : Step g s₂ { s₂ with heap := h' } := Step.grow0 G.toGrOk m.keeps
    obtain ⟨t, ht, _, _⟩ := m.there
    have e0 : s.heap.get? e = none := by
      cases e1 : s.heap.get? e with
      | none => rfl
      | some o =>
        obtain ⟨o', e'⟩ := (x₁.trans x₂).lives G F.at_ e o e1
        rw [m.new] at e'; cases e'
    exact q e _ none ((x₁.trans x₂).trans x₃) ⟨e0, hc, _, _, ht, rfl, rfl, rfl, rfl⟩ (.inl rfl)

/-- a frame while an exception is handled -/
theorem Fm.handling {env : Env} {s s' : Shared} {e : Addr} {oe : Obj} {vs : Array Value} (F : Fm g fi env s σ) (x : Step g s s') (h0 : s.heap.get? e = none) (he : s'.heap.get? e = some oe) (hd : oe.data = .fields vs) (h2 : vs[2]? = some .none) (hc : oe.cls ≠ .type "code" ∧ oe.cls ≠ .none ∧ ∀ q t, vs[1]? ≠ some (.str q t)) : Fm { g with hd := some e, V := e :: g.V } fi env s' σ := by
  have F' := F.step G.toGrOk x
  have a' := F'.at_
  have nB := after_hB G F.at_ (b := e) h0
  have nT := notT_new G nB
  have a2 : At { g with hd := some e, V := e :: g.V } s' := ⟨a'.keep, a'.tab, fun b hb => by
    rcases List.mem_cons.mp hb with rfl | hb
    · exact ⟨⟨nT, nB⟩, _, he⟩
    · exact a'.vol b hb, a'.pos, a'.frs, fun y hy => by cases hy; exact ⟨.head _, oe, vs, he, hd, h2, hc⟩⟩
  obtain ⟨m, hn, hp, hs⟩ := F.ns
  refine { sc := F.sc, fk := F.fk, gl := F.gl, bi := F.bi, fn := F.fn, cd := F.cd, ql := F.ql, own := F.own, inj := F.inj, cells := F'.cells, at_ := a2, top := F.top, out := fun b hb hV => ?_, ns := ⟨m, ns_keeps G.toGrOk F.at_ x hn, hp, fun p hm => ?_⟩ }
  · rcases List.mem_cons.mp hV with rfl | hV
    · rcases own_mut G F _ hb with ⟨v, o, e1, _⟩ | ⟨m, ⟨o, _, _, e1, _⟩, _⟩ <;> (rw [h0] at e1; cases e1)
    · exact F.out b hb hV
  · obtain ⟨v, r, k⟩ := hs p hm
    refine ⟨v, ?_, k.imp id fun ⟨k1, c, k2, k3⟩ => ⟨k1, c, k2, isCell_keeps G.toGrOk F.at_ x k3⟩⟩
    exact (r.avoid h0).mono fun b o e1 nV nf nm => x.v G.toGrOk F.at_ b o e1 (fun h => nV (.tail _ h)) nf nm
omit G in
theorem Fm.handled {env : Env} {s : Shared} {e : Addr} (h0 : g.hd = none) (F : Fm { g with hd := some e, V := e :: g.V } fi env s σ) : Fm g fi env s σ := by
  obtain ⟨m, hn, hp, hs⟩ := F.ns
  refine { sc := F.sc, fk := F.fk, gl := F.gl, bi := F.bi, fn := F.fn, cd := F.cd, ql := F.ql, own := F.own, inj := F.inj, cells := F.cells, top := F.top, out := fun b hb hV => F.out b hb (.tail _ hV), ns := ⟨m, hn, hp, fun p hm => ?_⟩, at_ := ⟨F.at_.keep, F.at_.tab, fun b hb => F.at_.vol b (.tail _ hb), F.at_.pos, F.at_.frs, fun y hy => by rw [h0] at hy; cases hy⟩ }
  obtain ⟨v, r, k⟩ := hs p hm
  exact ⟨v, r.less fun b hb => .tail _ hb, k⟩

/-- `try: … except X: …` whose body raises -/
theorem EX1.try_raise {body : List Stmt} {X T : String} {x : Str} {np hpos pos : Pos} {b₀ : Stmt} {suite : List Stmt} {Φ : AF → Prop} (h0 : g.hd = none) (hm : fi.mine = true) (h : XR prog w g fi n σ body T)
    (hexc : isSubtype (.type X) (.type "BaseException") = pure true) (hnt : isSubtype (.type ((Manifest.find? X).elim "type" fun x => x.metatype)) (.type "tuple") = pure false) (hsub : isSubtype (.type T) (.type X) = pure true)
    (hx : ∀ e, EV prog w { g with hd := some e, V := e :: g.V } fi n σ (.Name x np) (.raw (.type X)))
    (hs : ∀ e, EX prog w { g with hd := some e, V := e :: g.V } fi n σ (b₀ :: suite) Φ) (hne : ∀ T, ¬ Φ (.exc T)) : EX1 prog w g fi n σ (.Try body [.ExceptHandler (some (.Name x np)) none (b₀ :: suite) hpos] [] [] pos) Φ := by
  intro A env s Q E a F q _
  refine wpAny_Try_except (h A env s _ _ a F fun e s₁ fl x₁ r₁ f₁ => ?_)
  obtain ⟨⟨outer, top⟩, tl⟩ := F.top hm
  have a₁ := F.at_.step x₁
  have l₁ := x₁.lives G F.at_
  refine note_ok (s₀ := s) G a.2.2.2 top tl F.at_ a₁ l₁ r₁ f₁ fun s₂ w₂ l₂ r₂ => ?_
  have nf : ∀ {b o}, s.heap.get? b = some o → ¬ After s.heap b := fun {b o} e h => by
    have h' : s.heap.get? b = none := h
    rw [e] at h'; cases h'
  have x₂ : Step g s s₂ := ((Step.w (X := fun _ => False) x₁).back w₂ fun b o e hb => nf e hb).step fun _ _ _ => id
  have a₂ := F.at_.step x₂
  refine flight_ok (s₀ := s) G F.at_ a₂ r₂ fun s₃ w₃ l₃ r₃ => ?_
  have x₃ : Step g s s₃ := ((Step.w (X := fun _ => False) x₂).back w₃ fun b o e hb => nf e hb).step fun _ _ _ => id
  have a₃ := F.at_.step x₃
  have mk : ∀ {s' : Shared} {fl}, Step g s s' → ExcR s.heap s'.heap e T fl → Fm { g with hd := some e, V := e :: g.V } fi env s' σ := fun {s' fl} x r => by
    obtain ⟨h0, hT, oe, vs, he, hc, hd, h2, hm⟩ := r
    refine F.handling G x h0 he hd h2 ⟨fun (q : oe.cls = .type "code") => hT (by rw [hc] at q; cases q; rfl), fun (q : oe.cls = .none) => (by rw [hc] at q; cases q), fun q t h => ?_⟩
    cases fl with
    | none => rw [hm] at h; cases h
    | some v => obtain ⟨Tb, _, _, h1, _⟩ := hm; rw [h1] at h; cases h
  have ok' : OkA ({ g with hd := some e, V := e :: g.V } : Gr).fr (some e) (A.mark (some (.ref e))) n := ⟨a.1, a.2.1, rfl, a.2.2.2⟩
  have F₃ := mk x₃ r₃
  refine wpAny_handleBy_builtin hexc hnt hsub (hx e _ env s₃ _ _ ok' F₃ fun v s₄ x₄ r₄ => ?_)
  have x₄' : Step g s₃ s₄ := ⟨x₄.keep, x₄.keepF, x₄.tab, x₄.gens, x₄.drawn, x₄.os, x₄.tk⟩
  have x5 := x₃.trans x₄'
  have a₄ := F.at_.step x5
  have r₄' : ExcR s.heap s₄.heap e T (some .none) := by
    obtain ⟨h0, hT, oe, vs, he, hc, hd, h2, Tb, oT, ts, h1, hTe, hT0, hTb, hTc, hTd, h3⟩ := r₃
    have nT := notT_new G (after_hB G F.at_ (b := e) h0)
    have nT2 := notT_new G (after_hB G F.at_ (b := Tb) hT0)
    exact ⟨h0, hT, oe, vs, x₄.keep e oe nT (a₃.notF he fun _ _ h => by rw [hd] at h; cases h) he, hc, hd, h2, Tb, oT, ts, h1, hTe, hT0, x₄.keep Tb oT nT2 (a₃.notF hTb fun _ _ h => by rw [hTd] at h; cases h) hTb, hTc, hTd, h3⟩
  have tyE : s₄.TypeIs (.ref e) T := by
    obtain ⟨h0, hT, oe, vs, he, hc, _⟩ := r₄'
    exact ⟨oe, he, hc⟩
  refine ⟨r₄, tyE, ?_⟩
  simp only [if_true]
  refine flight_ok (s₀ := s) G F.at_ a₄ r₄' fun s₅ w₅ l₅ r₅ => ?_
  have x₅ : Step g s s₅ := ((Step.w (X := fun _ => False) x5).back w₅ fun b o e hb => nf e hb).step fun _ _ _ => id
  have F₅ := mk x₅ r₅
  refine hs e _ env s₅ _ _ ok' F₅ (fun fl s₆ af hf x₆ a₆ o => ?_) fun _ _ T _ hT => absurd hT (hne T)
  have w₆ : WStep g (Own fi env) s s₆ := (x₅.w).trans ⟨x₆.keep, x₆.keepF, x₆.frs, x₆.tab, x₆.gens, x₆.drawn, x₆.os, x₆.tk⟩
  have a6 : At g s₆ := ⟨a₆.keep, a₆.tab, fun b hb => a₆.vol b (.tail _ hb), a₆.pos, a₆.frs, fun y hy => by rw [h0] at hy; cases hy⟩
  refine q fl s₆ af hf w₆ a6 ?_
  cases af with
  | next σ' => obtain ⟨rfl, F6⟩ := o; exact ⟨rfl, F6.handled h0⟩
  | brk σ' => obtain ⟨rfl, F6⟩ := o; exact ⟨rfl, F6.handled h0⟩
  | cont σ' => obtain ⟨rfl, F6⟩ := o; exact ⟨rfl, F6.handled h0⟩
  | ret c => obtain ⟨v, rfl, r⟩ := o; exact ⟨v, rfl, r.less fun b hb => .tail _ hb⟩
  | exc T => exact o.elim
/-- `try: …` whose body does not raise -/
theorem EX1.try_ok {body : List Stmt} {hd : ExceptHandler} {pos : Pos} {Φ : AF → Prop} (h : EX prog w g fi n σ body Φ) (hne : ∀ T, ¬ Φ (.exc T)) : EX1 prog w g fi n σ (.Try body [hd] [] [] pos) Φ := by
  intro A env s Q E a F q _
  refine wpAny_Try_except (h A env s _ _ a F (fun fl s₁ af hf x ha o => ?_) fun _ _ T _ hT => absurd hT (hne T))
  cases af with
  | next σ' => obtain ⟨rfl, F'⟩ := o; exact wpAny_execs_nil (q _ _ _ hf x ha ⟨rfl, F'⟩)
  | brk σ' => obtain ⟨rfl, F'⟩ := o; exact q _ _ _ hf x ha ⟨rfl, F'⟩
  | cont σ' => obtain ⟨rfl, F'⟩ := o; exact q _ _ _ hf x ha ⟨rfl, F'⟩
  | ret c => obtain ⟨v, rfl, r⟩ := o; exact q _ _ _ hf x ha ⟨v, rfl, r⟩
  | exc T => exact o.elim
end
end Mine
end
section
open PySem PySem.W PySem.Calls PyProof.Rows Builtin
set_option maxRecDepth 100000
namespace Mine

theorem ln_kind : builtinKind "list.__new__" = some .builtinFn := by decide +kernel
theorem ln_split : splitId "list.__new__" = some ("list", "__new__") := by decide +kernel
abbrev LnArgs (args : Args) : Prop := (match Manifest.signature? "list.__new__" with | some sig => Bind.checkArgs "list.__new__" sig args | none => pure ()) = pure ()
theorem ln_args1 (c a : Value) : LnArgs ⟨[c, a], []⟩ := by unfold LnArgs; kernel_rfl
theorem ln_args0 (c : Value) : LnArgs ⟨[c], []⟩ := by unfold LnArgs; kernel_rfl

def makesLIn (K : Frag) (C : Addr) : Bool := match K.lookup C with
  | some ⟨_, _, .cls cd, sl⟩ => !cd.abstract && !cd.hasDel && (sl.toList[4]?).join == some (.builtin "list.__new__") && !cd.mro.isEmpty && cd.mro.contains (.ref C) && cd.mro.contains (.type "list") &&
      specialIn K (.ref C) "__call__" == some (some (.builtin "type.__call__")) && instIn K (.ref C) (.type "type") == some true
  | _ => false
structure MakesL (M : Model) (h : Heap) (C : Addr) : Prop where
  obj : ∃ oc od cd sl, h.get? C = some ⟨oc, od, .cls cd, sl⟩ ∧ cd.abstract = false ∧ cd.hasDel = false ∧ cd.mro.isEmpty = false
  made : Looks M h (Bind.madeBy (.ref C)) (some "list.__new__")
  base : Looks M h (Bind.staticBase (.ref C)) (.ref C)
  self : Looks M h (isSubtype (.ref C) (.ref C)) true
  top : Looks M h (isSubtype (.ref C) (.type "list")) true
  call : Looks M h (specialOf (.ref C) "__call__") (some (.builtin "type.__call__"))
  typ : Looks M h (isInstance (.ref C) (.type "type")) true
theorem makesL_of {K : Frag} {M : Model} {h : Heap} (X : K.In h) {C : Addr} (e : makesLIn K C = true) : MakesL M h C := by
  unfold makesLIn at e
  split at e
  · rename_i oc od cd sl ho
    simp only [Bool.and_eq_true, Bool.not_eq_true', beq_iff_eq] at e
    obtain ⟨⟨⟨⟨⟨⟨⟨e1, e2⟩, e3⟩, e4⟩, e5⟩, e6⟩, e7⟩, e8⟩ := e
    have hc : clsIn K C = some cd := by unfold clsIn; rw [ho]
    have hm : Looks M h (mroOf (.ref C)) cd.mro := (looks_clsIn X hc).andThen .now
    obtain ⟨c, l, hl⟩ : ∃ c l, cd.mro = c :: l := by cases q : cd.mro with | nil => rw [q] at e4; cases e4 | cons c l => exact ⟨c, l, rfl⟩
    have made : Looks M h (Bind.madeBy (.ref C)) (some "list.__new__") := by
      intro A Q E s k q
      unfold Bind.madeBy
      refine wpAny_bind (hm A _ E s k ?_)
      rw [hl, List.forIn_cons]
      refine wpAny_bind (wpAny_bind (wpAny_bind (wpAny_bind (wpAny_loadPart (k _ _ (X _ _ ho)) (wpAny_pure ?_)))))
      dsimp only
      rw [← Array.getElem?_toList, e3]
      exact wpAny_pure (wpAny_pure (wpAny_pure q))
    refine ⟨⟨oc, od, cd, sl, X _ _ ho, e1, e2, e4⟩, made, ?_, looks_mroIn X ?_, looks_mroIn X ?_, looks_specialIn X e7, looks_instIn X e8⟩
    · intro A Q E s k q
      unfold Bind.staticBase
      refine wpAny_bind (hm A _ E s k ?_)
      rw [hl, List.forIn_cons]
      exact wpAny_bind (wpAny_bind (wpAny_bind (made A _ E s k (wpAny_pure (wpAny_pure (wpAny_pure q))))))
    · unfold mroIn; rw [hc, Option.bind_some, if_neg (by rw [e4]; decide), e5]
    · unfold mroIn; rw [hc, Option.bind_some, if_neg (by rw [e4]; decide), e6]
  · cases e

abbrev bareList (C dx : Addr) : Obj := { cls := .ref C, dict := some dx, data := .seq #[] }

section
variable {prog : Program} {w : World} {A : Around} {C : Addr} {R : Result → Shared → Prop} {h : Heap} {g : Array GenState} {d : Drawn} {t : Nat} {os : OsState}
theorem new_L {rest : List Value} (Y : MakesL (model prog w) h C) (ha : LnArgs ⟨.ref C :: rest, []⟩)
    (hq : R (.ok (.ret (.ref (h.objs.size + 1)))) ⟨(h.push emptyDict).push (bareList C h.objs.size), g, d, t, os⟩) :
    codeAny (model prog w) A (.call (.builtin "list.__new__") ⟨.ref C :: rest, []⟩) R ⟨h, g, d, t, os⟩ := by
  obtain ⟨⟨oc, od, cd, sl, hC, e1, e2, e4⟩, made, base, self, top, call, typ⟩ := Y
  refine codeAny_call_builtin_code (Code.quiet_builtin _ (by decide +kernel)) ?_
  unfold checkBuiltinCall
  simp only [ln_kind, ln_split]
  have ha' := ha
  unfold LnArgs at ha'
  repeat (first | simp only [bne_self_eq_false, Bool.false_eq_true, if_false] | lk)
  refine codeAny_builtin_stack F.entry_list_new rfl fun p st => ?_
  rw [Around.under_plainId F.plain_list_new _]
  have hown := owner_list_new
  simp only [hown]
  repeat (first | simp only [Bool.not_true, Bool.false_eq_true, if_false] | lk)
  refine wpAny_load (Heap.get?_push_of_some _ (Heap.get?_push_of_some _ hC)) (wpAny_pure ?_)
  rw [e2]
  refine wpAny_pure (wpAny_pure ?_)
  show R _ _
  rw [Heap.size_push]
  exact hq

theorem make_L {rest : List Value} {init : Value} (Y : MakesL (model prog w) h C) (ha : LnArgs ⟨.ref C :: rest, []⟩) (hi : Looks (model prog w) h (typeLookup (.ref C) "__init__") (some init))
    (hb : ∀ self, Looks (model prog w) h (bindSpecial init self) (init, [self]))
    (hq : codeAny (model prog w) (A.under (.builtin "type.__call__" ⟨.ref C :: rest, []⟩)) (.call init ⟨.ref (h.objs.size + 1) :: rest, []⟩) (InitBack (h.objs.size + 1) R) ⟨(h.push emptyDict).push (bareList C h.objs.size), g, d, t, os⟩) :
    codeAny (model prog w) A (.call (.ref C) ⟨rest, []⟩) R ⟨h, g, d, t, os⟩ := by
  have Y' := Y
  obtain ⟨⟨oc, od, cd, sl, hC, e1, e2, e4⟩, made, base, self, top, call, typ⟩ := Y
  refine codeAny_of_tree ?_
  show wpAny _ _ (callAny (.ref C) _) _ _ _
  refine nd_load hC ?_
  show wpAny _ _ (callAny.viaDunder (.ref C) _) _ _ _
  unfold callAny.viaDunder
  refine wpAny_bind (call.at ?_)
  dsimp only
  rw [tc_bind]
  refine wpAny_bind (wpAny_pure (wpAny_bind (wpAny_pure ?_)))
  refine wpAny_pure (a := Fin.again (.call (.builtin "type.__call__") ⟨.ref C :: rest, []⟩)) (And.intro rfl ?_)
  refine codeAny_call_builtin_at (Code.quiet_builtin _ (by decide +kernel)) entry_typeCall (check_slot tc_kind tc_split typ (tc_args _ _ _) ?_)
  unfold Builtin.«type.__call__»
  have hm : Looks (model prog w) h (mroOf (.ref C)) cd.mro := ((Looks.ld (part := none) hC).andThen .now).andThen .now
  repeat (first | simp only [e4, Bool.false_eq_true, if_false] | with_reducible refine wpAny_call ?_ | lk)
  refine new_L Y' ha ?_
  have k : ∀ b o, h.get? b = some o → ((h.push emptyDict).push (bareList C h.objs.size)).get? b = some o := fun b o e => Heap.get?_push_of_some _ (Heap.get?_push_of_some _ e)
  have hx : ((h.push emptyDict).push (bareList C h.objs.size)).get? (h.objs.size + 1) = some (bareList C h.objs.size) := by heap_get
  have t1 : Looks (model prog w) ((h.push emptyDict).push (bareList C h.objs.size)) (typeOf (.ref (h.objs.size + 1))) (.ref C) := (Looks.ld hx).andThen .now
  have s1 := self.keeps k
  have i1 := hi.keeps k
  have b1 := (hb (.ref (h.objs.size + 1))).keeps k
  unfold isInstance callSpecial? specialOf
  repeat (first | with_reducible refine wpAny_call ?_ | lk)
  refine codeAny_mono hq fun r s' z => ?_
  rcases r with e | (v | _ | _ | _) <;> first | exact z | exact z.elim | skip
  obtain ⟨rfl, z⟩ := z
  exact wpAny_pure (wpAny_pure z)
end
end Mine
end
section
open PySem PySem.W PySem.Calls PyProof.Rows Builtin
set_option maxRecDepth 100000
namespace Mine

theorem tcr_weight (C : Addr) (rest : List Value) : (Code.builtin "type.__call__" ⟨.ref C :: rest, []⟩).weight = 1 := by kernel_rfl
theorem tcr_units (C : Addr) (rest : List Value) : (Code.builtin "type.__call__" ⟨.ref C :: rest, []⟩).cUnits = 1 := by kernel_rfl
theorem OkA.tc {fr : List Env} {hd : Option Addr} {A : Around} {n : Nat} (h : OkA fr hd A (n + 1)) (C : Addr) (rest : List Value) : OkA fr hd (A.under (.builtin "type.__call__" ⟨.ref C :: rest, []⟩)) n := by
  have h1 : (A.under (.builtin "type.__call__" ⟨.ref C :: rest, []⟩)).depth = A.depth + 1 := by show A.depth + _ = _; rw [tcr_weight]
  have h2 : (A.under (.builtin "type.__call__" ⟨.ref C :: rest, []⟩)).units = A.units + 1 := by show A.units + _ = _; rw [tcr_units]
  refine ⟨by rw [h1]; have := h.1; omega, by rw [h2]; have := h.2.1; omega, h.2.2.1, ?_⟩
  have := h.2.2.2
  show pushEnvs (Code.builtin "type.__call__" ⟨.ref C :: rest, []⟩).envs A.frames = _
  rw [this]; rfl

/-- an object under way -/
structure Bare (g : Gr) (C x dx : Addr) (s : Shared) : Prop where
  hx : s.heap.get? x = some (bareList C dx)
  hd : s.heap.get? dx = some emptyDict
  ne : x ≠ dx
  bx : g.hB.get? x = none
  bd : g.hB.get? dx = none
  vx : x ∉ g.V
  vd : dx ∉ g.V
  fd : dx ∉ g.F

/-- what an __init__ must do -/
def INI (prog : Program) (w : World) (g : Gr) (n : Nat) (C : Addr) (f : Value) (args : List CV) (p : Bool) (l : List CV) : Prop :=
  ∀ A s x dx vs (R : Result → Shared → Prop), OkA g.fr g.hd A n → At g s → Bare g C x dx s → Rps (x :: dx :: g.V) s.heap args vs →
    (∀ s', WStep g (fun b => b = x ∨ b = dx) s s' → Rp g.V s'.heap (.acc C p l) (.ref x) → R (.ok (.ret .none)) s') → codeAny (model prog w) A (.call f ⟨.ref x :: vs, []⟩) R s

section
variable {prog : Program} {w : World} {g : Gr} (G : Gr2 g) {K : Frag} (k : KIn g K)
include G k
theorem FN.make {n : Nat} {C f : Addr} {args : List CV} {p : Bool} {l : List CV} (h1 : makesLIn K C = true) (h2 : findIn K (.ref C) "__init__" = some (some (.ref f))) (h3 : typeIn K (.ref f) = some (.type "function"))
    (ha : ∀ vs : List Value, vs.length = args.length → LnArgs ⟨.ref C :: vs, []⟩) (h : INI prog w g n C (.ref f) args p l) : FN prog w g (n + 1) (.ref C) args (.acc C p l) := by
  intro A s vs R ok a r q
  have X := k.at a
  obtain ⟨hh, gg, d, t, os⟩ := s
  have n1 : hh.get? hh.objs.size = none := Heap.get?_none_of_le (Nat.le_refl _)
  have n2 : hh.get? (hh.objs.size + 1) = none := Heap.get?_none_of_le (Nat.le_succ _)
  refine make_L (makesL_of X h1) (ha vs r.length) (looks_findIn X h2) (fun self => bind_fn X self h3) ?_
  have x0 : Step g ⟨hh, gg, d, t, os⟩ ⟨(hh.push emptyDict).push (bareList C hh.objs.size), gg, d, t, os⟩ := Step.grow0 G.toGrOk fun b o e => Heap.get?_push_of_some _ (Heap.get?_push_of_some _ e)
  have a0 := a.step x0
  have r0 : Rps ((hh.objs.size + 1) :: hh.objs.size :: g.V) hh args vs := (r.avoid n1).avoid n2
  have r1 := r0.mono (h' := (hh.push emptyDict).push (bareList C hh.objs.size)) (fun b o e _ _ _ => Heap.get?_push_of_some _ (Heap.get?_push_of_some _ e))
  refine h _ _ (hh.objs.size + 1) hh.objs.size vs _ (ok.tc _ _) a0 ⟨by heap_get, by heap_get, Nat.succ_ne_self _, At.fresh G a (Nat.le_succ _), At.fresh G a (Nat.le_refl _), ?_, a.out, a.notFn n1⟩ r1 fun s' x' r' => ⟨rfl, q _ s' ?_ r'⟩
  · intro hv
    obtain ⟨o, e⟩ := (a.vol _ hv).2
    have e : hh.get? (hh.objs.size + 1) = some o := e
    rw [n2] at e; cases e
  · refine ((Step.w (X := fun _ => False) x0).back x' fun b o e hb => ?_).step fun _ _ _ h => h
    have e : hh.get? b = some o := e
    rcases hb with rfl | rfl
    · rw [n2] at e; cases e
    · rw [n1] at e; cases e
end
end Mine
end
section
open PySem PySem.W PySem.Calls PyProof.Rows Builtin
set_option maxRecDepth 100000
namespace Mine

theorem slot_wd_get : Slot "wrapper_descriptor" "__get__" "wrapper_descriptor.__get__" := .of (owner := "wrapper_descriptor") (n := "__get__") (by rw [typeLookup_type, builtinLookup_eq_fast]; kernel_rfl) (by decide +kernel) (by decide +kernel) (by decide +kernel)
  (by first | exact .inl (by decide +kernel) | exact .inr (by decide +kernel)) (by rw [isSubtype_type]; kernel_rfl)
theorem entry_wd_get : entryFor table "wrapper_descriptor.__get__" = some Builtin.«wrapper_descriptor.__get__» := entryFor_of_tree (by kernel_rfl)
theorem args_wd_get (a b c : Value) : argsOk "wrapper_descriptor.__get__" ⟨[a, b, c], []⟩ := by unfold argsOk; kernel_rfl
theorem wd_kind : builtinKind "wrapper_descriptor.__get__" = some .slot := by decide +kernel
theorem wd_split : splitId "wrapper_descriptor.__get__" = some ("wrapper_descriptor", "__get__") := by decide +kernel
theorem wd_plain : plainId "wrapper_descriptor.__get__" = true := by decide +kernel
theorem type_li {M : Model} {h : Heap} : Looks M h (typeOf (.builtin "list.__init__")) (.type "wrapper_descriptor") := Looks.of_pure (by kernel_rfl)
theorem sub_wd : isSubtype (.type "wrapper_descriptor") (.type "wrapper_descriptor") = pure true := by rw [isSubtype_type]; kernel_rfl

theorem wd_eq (x C : Addr) : Builtin.«wrapper_descriptor.__get__» ⟨[.builtin "list.__init__", .ref x, .ref C], []⟩ = ((do
    if !(← isInstance (.ref x) (.type "list")) then
      rule "descr.get.wrong-instance"
      raiseError "TypeError" s!"descriptor '{("__init__" : Str).toString}' for '{← typeName (.type "list")}' objects doesn't apply to a '{← typeNameOf (.ref x)}' object" : Sem Unit) >>= fun _ => newFields "method-wrapper" [.builtin "list.__init__", .ref x] >>= fun v => ret v) := by kernel_rfl

section
variable {prog : Program} {w : World} {A : Around} {E : Value → Shared → Prop} {s : Shared}
theorem wd_call {x C : Addr} {Q : Value → Shared → Prop} (hi : Looks (model prog w) s.heap (isInstance (.ref x) (.type "list")) true)
    (hq : Q (.ref s.heap.objs.size) { s with heap := s.heap.push { cls := .type "method-wrapper", data := .fields #[.builtin "list.__init__", .ref x] } }) :
    wpAny (model prog w) A (PySem.call (.builtin "wrapper_descriptor.__get__") [.builtin "list.__init__", .ref x, .ref C] []) Q E s := by
  have hT : Looks (model prog w) s.heap (typeOf (.builtin "list.__init__") >>= fun t => isSubtype t (.type "wrapper_descriptor")) true := type_li.andThen (Looks.of_pure sub_wd)
  have hT2 : Looks (model prog w) s.heap (isInstance (.builtin "list.__init__") (.type "wrapper_descriptor")) true := hT
  refine wpAny_call (codeAny_call_builtin wd_plain entry_wd_get (@check_slot (model prog w) _ _ s "wrapper_descriptor.__get__" "wrapper_descriptor" "__get__" (.builtin "list.__init__") [.ref x, .ref C] [] _ wd_kind wd_split hT2 (args_wd_get _ _ _) ?_))
  obtain ⟨hh, g, d, t, os⟩ := s
  rw [wd_eq]
  refine wpAny_bind (wpAny_bind (hi.here (wpAny_pure ?_)))
  refine wpAny_bind (wpAny_newObj_type (wpAny_pure hq))
end

section
variable {prog : Program} {w : World} {A : Around} {E : Value → Shared → Prop} {h : Heap} {g : Array GenState} {d : Drawn} {t : Nat} {os : OsState}
abbrev mwObj (x : Addr) : Obj := { cls := .type "method-wrapper", data := .fields #[.builtin "list.__init__", .ref x] }
theorem wd_lk : typeLookup (.type "wrapper_descriptor") "__get__" = pure (some (.builtin "wrapper_descriptor.__get__")) := slot_wd_get.lookup
theorem sg_init {so D x C : Addr} {l₀ l : List Value} {K : Frag} {tk : Tok} {Q : Fin → Shared → Prop}
    (hso : h.get? so = some { cls := .type "super", dict := none, data := .fields #[.ref D, .ref x, .ref C], slots := #[] }) (hno : Looks (model prog w) h (opaqueClassAbove (.ref C)) none)
    (hC : Looks (model prog w) h (mroOf (.ref C)) l₀) (hl : (l₀.dropWhile (· != .ref D)).drop 1 = l) (X : K.In h)
    (hf : alongIn K "__init__" l = some (some (.builtin "list.__init__"))) (hi : Looks (model prog w) h (isInstance (.ref x) (.type "list")) true) (hxC : x ≠ C)
    (hq : Q (.done (.ret (.ref h.objs.size))) ⟨h.push (mwObj x), g, d, t, os⟩) :
    wpAny (model prog w) A (Builtin.«super.__getattribute__» ⟨[.ref so, .str "__init__" tk], []⟩) Q E ⟨h, g, d, t, os⟩ := by
  have hlk := wd_lk
  have hne : (Value.ref x == Value.ref C) = false := by simp [hxC]
  have hn : (("__init__" : Str) == ("__class__" : Str)) = false := by decide
  have hdt : ({ cls := .type "super", dict := none, data := .fields #[.ref D, .ref x, .ref C], slots := #[] } : Obj).data = .fields #[.ref D, .ref x, .ref C] := rfl
  have f0 : (#[.ref D, .ref x, .ref C] : Array Value)[0]? = some (.ref D) := rfl
  have f1 : (#[.ref D, .ref x, .ref C] : Array Value)[1]? = some (.ref x) := rfl
  have f2 : (#[.ref D, .ref x, .ref C] : Array Value)[2]? = some (.ref C) := rfl
  have hT : Looks (model prog w) h (typeOf (.builtin "list.__init__")) (.type "wrapper_descriptor") := type_li
  unfold Builtin.«super.__getattribute__»
  repeat (first
    | (with_reducible refine wpAny_field hso hdt f0 ?_) | (with_reducible refine wpAny_field hso hdt f1 ?_) | (with_reducible refine wpAny_field hso hdt f2 ?_)
    | (with_reducible refine ks_wpAny_notOpaque hno ?_)
    | (with_reducible refine Looks.at hC ?_; rw [hl])
    | (refine ks_forIn_along X (fun _ _ => rfl) rfl ?_ hf)
    | (with_reducible refine Looks.at hT ?_)
    | (with_reducible refine wd_call hi ?_)
    | (with_reducible refine ⟨_, rfl, ?_⟩)
    | (simp only [hn, hne, Bool.or_false, Bool.false_eq_true, if_false])
    | wp_step
    | dsimp only)
  all_goals exact hq

theorem gm_init {so D x C : Addr} {l₀ l : List Value} {K : Frag} {pl : Sem Bool} {Q : Value × List Value → Shared → Prop}
    (hso : h.get? so = some { cls := .type "super", dict := none, data := .fields #[.ref D, .ref x, .ref C], slots := #[] }) (hno : Looks (model prog w) h (opaqueClassAbove (.ref C)) none)
    (hC : Looks (model prog w) h (mroOf (.ref C)) l₀) (hl : (l₀.dropWhile (· != .ref D)).drop 1 = l) (X : K.In h)
    (hf : alongIn K "__init__" l = some (some (.builtin "list.__init__"))) (hi : Looks (model prog w) h (isInstance (.ref x) (.type "list")) true) (hxC : x ≠ C)
    (hq : Q (.ref h.objs.size, []) ⟨h.push (mwObj x), g, d, t + 1, os⟩) :
    wpAny (model prog w) A (getMethod (.ref so) "__init__" pl) Q E ⟨h, g, d, t, os⟩ := by
  have hlk := PySem.F.ks_slot_super_ga.lookup
  have hcan := PySem.F.ks_canon_super_ga
  have hT : ∀ t', (⟨h, g, d, t', os⟩ : Shared).TypeIs (.ref so) "super" := fun _ => ⟨_, hso, rfl⟩
  unfold getMethod
  refine wpAny_bind (wpAny_specialOf (hT _) hlk ?_)
  show wpAny _ _ (if (Manifest.canonical "super.__getattribute__" != "object.__getattribute__") = true then _ else _) _ _ _
  rw [if_pos hcan]
  unfold getAttr getAttrBy
  refine wpAny_bind (wpAny_bind (wpAny_mkText (wpAny_holding (wpAny_bind (wpAny_typeOf (hT _) (wpAny_bind (wpAny_of_eq hlk ?_)))))))
  show wpAny _ _ (getAttrByItsOwn (.ref so) (.str "__init__" t) (.type "super") (.builtin "super.__getattribute__") true false) _ _ _
  unfold getAttrByItsOwn hookBefore callGetattribute boundAndCalled
  refine wpAny_bind (wpAny_of_eq (show (if onTheHeap (.type "super") then typeLookup (.type "super") "__getattr__" else pure none) = pure none from rfl) ?_)
  refine wpAny_bind (wpAny_attempt (wpAny_holding ?_))
  show wpAny _ _ (bindSpecial (.builtin "super.__getattribute__") (.ref so) >>= _) _ _ _
  refine wpAny_bind (wpAny_of_eq (PySem.F.ks_slot_super_ga.bind _) ?_)
  refine wpAny_mono (Q := fun v s' => v = .ref h.objs.size ∧ s' = ⟨h.push (mwObj x), g, d, t + 1, os⟩) (E := fun _ _ => False)
    (wpAny_call_entry PySem.F.ks_slot_super_ga (hT _) PySem.F.ks_entry_super_ga (sg_init hso hno hC hl X hf hi hxC ⟨_, rfl, rfl, rfl⟩) (PySem.F.ks_gaArgs_super _ _)) (fun v s' hv => ?_) fun _ _ z => z.elim
  obtain ⟨rfl, rfl⟩ := hv
  exact wpAny_pure (wpAny_pure hq)

theorem cb_li1 (x a : Value) : checkBoundCall "list.__init__" ⟨[x, a], []⟩ = pure () := by kernel_rfl
theorem cb_li0 (x : Value) : checkBoundCall "list.__init__" ⟨[x], []⟩ = pure () := by kernel_rfl
theorem mw_call {s : Shared} {b x : Addr} {rest : List Value} {R : Result → Shared → Prop} (hb : s.heap.get? b = some (mwObj x)) (hc : checkBoundCall "list.__init__" ⟨.ref x :: rest, []⟩ = pure ())
    (hq : wpAny (model prog w) A.in1 (Builtin.«list.__init__» ⟨.ref x :: rest, []⟩) (fun fin s' => match fin with | .done f => R (.ok f) s' | .again c' => c'.quiet = true ∧ codeAny (model prog w) A c' R s') (fun e s' => R (.error e) s') s) :
    codeAny (model prog w) A (.call (.ref b) ⟨rest, []⟩) R s := by
  refine codeAny_of_tree ?_
  show wpAny _ A.in1 (callAny (.ref b) _) _ _ _
  unfold callAny
  refine wpAny_bind (wpAny_load hb ?_)
  show wpAny _ _ (checkBoundCall "list.__init__" ⟨.ref x :: rest, []⟩ >>= _) _ _ _
  rw [hc]
  refine wpAny_pure (And.intro (plainId_quiet PySem.F.slot_list_init.plain _) (codeAny_builtin PySem.F.entry_list_init ?_))
  rw [Around.under_plainId PySem.F.slot_list_init.plain _]
  exact hq
end
end Mine
end
section
open PySem PySem.W PySem.Calls PyProof.Rows Builtin
set_option maxRecDepth 100000
namespace Mine

abbrev lobj (C dx : Addr) (vs : Array Value) (c : Nat) : Obj := ⟨.ref C, some dx, .seq vs c, #[]⟩
abbrev gobj (C : Value) (dx : Option Addr) (vs : Array Value) (c : Nat) : Obj := ⟨C, dx, .seq vs c, #[]⟩
section
variable {prog : Program} {w : World} {A : Around} {s : Shared} {R : Result → Shared → Prop} {x : Addr} {C : Value} {dx : Option Addr}
theorem li_start {it : Value} {c : Nat} (hx : s.heap.get? x = some (gobj C dx #[] c))
    (h : ∀ h' c', (∀ b o, b ≠ x → s.heap.get? b = some o → h'.get? b = some o) → h'.get? x = some (gobj C dx #[] c') →
      wpAny (model prog w) A.in1 (Builtin.List.listExtendWith (.ref x) it .none) (fun fin s' => match fin with | .done f => R (.ok f) s' | .again c' => c'.quiet = true ∧ codeAny (model prog w) A c' R s') (fun e s' => R (.error e) s') { s with heap := h' }) :
    wpAny (model prog w) A.in1 (Builtin.«list.__init__» ⟨[.ref x, it], []⟩) (fun fin s' => match fin with | .done f => R (.ok f) s' | .again c' => c'.quiet = true ∧ codeAny (model prog w) A c' R s') (fun e s' => R (.error e) s') s := by
  show wpAny _ A.in1 (do let old ← Builtin.List.listItems (.ref x); Builtin.List.listUpdate (.ref x) (fun _ => #[]); letGo old.toList.reverse; Builtin.List.listExtendWith (.ref x) it .none) _ _ s
  refine wpAny_bind ?_
  unfold Builtin.List.listItems
  refine wpAny_bind (wpAny_seqItems hx rfl (wpAny_pure ?_))
  show wpAny _ A.in1 (updateSeq x (fun _ => #[]) >>= fun _ => letGo (#[] : Array Value).toList.reverse >>= fun _ => Builtin.List.listExtendWith (.ref x) it .none) _ _ s
  refine wpAny_bind (wpAny_updateSeq hx rfl ?_)
  have hx2 := Heap.get?_update_self (Obj.mapSeq (fun _ => (#[] : Array Value))) hx rfl
  refine wpAny_bind (wpAny_letGo ?_)
  exact h _ _ (fun b o hb e => (Heap.get?_update_other _ _ (Ne.symm hb)).trans e) hx2
theorem le_list {a : Addr} {oa : Obj} {vs : Array Value} {c n : Nat} (hx : s.heap.get? x = some (gobj C dx #[] c)) (ha : s.heap.get? a = some oa) (hc : oa.cls = .type "list") (hd : oa.data = .seq vs n) (hz : vs.size ≤ 1000)
    (q : ∀ h' c', (∀ b o, b ≠ x → s.heap.get? b = some o → h'.get? b = some o) → h'.get? x = some (gobj C dx vs c') → R (.ok (.ret .none)) { s with heap := h' }) :
    wpAny (model prog w) A.in1 (Builtin.List.listExtendWith (.ref x) (.ref a) .none) (fun fin s' => match fin with | .done f => R (.ok f) s' | .again c' => c'.quiet = true ∧ codeAny (model prog w) A c' R s') (fun e s' => R (.error e) s') s := by
  unfold Builtin.List.listExtendWith
  refine wpAny_bind (wpAny_typeOf ⟨_, ha, hc⟩ ?_)
  have h2 : (Builtin.List.listSameRef (.ref x) (.ref a) || (Value.type "list" == Value.type "list") || (Value.type "list" == Value.type "tuple")) = true := by simp
  simp only [h2, if_true]
  unfold Builtin.List.listItems
  refine wpAny_bind (wpAny_bind (wpAny_seqItems ha hd (wpAny_pure ?_)))
  refine wpAny_bind (wpAny_bind (wpAny_seqItems hx rfl (wpAny_pure ?_)))
  show wpAny _ A.in1 (updateSeq x (· ++ vs) >>= fun _ => ret .none) _ _ s
  refine wpAny_bind (wpAny_updateSeq hx rfl ?_ (hz := by size_fits) (_hz' := by rw [sizeLine_eq]; simp; omega))
  have hx2 := Heap.get?_update_self (Obj.mapSeq (· ++ vs)) hx rfl
  have e2 : Obj.mapSeq (· ++ vs) (gobj C dx #[] c) = gobj C dx vs (if (vs.size == 0) = true then c else c + 1) := by
    show Obj.mk _ _ (.seq (#[] ++ vs) (if ((#[] ++ vs).size == 0) = true then c else c + 1)) _ = _
    rw [show (#[] : Array Value) ++ vs = vs by simp]
  rw [e2] at hx2
  exact wpAny_pure (q _ _ (fun b o hb e => (Heap.get?_update_other _ _ (Ne.symm hb)).trans e) hx2)
end
end Mine
end
section
open PySem PySem.W PySem.Calls PyProof.Rows Builtin
set_option maxRecDepth 100000
namespace Mine

/-- the exception handled is plain, and away from x and it -/
def HOk (A : Around) (h : Heap) (x it : Addr) : Prop := A.handled = none ∨ ∃ e o vs, A.handled = some (.ref e) ∧ h.get? e = some o ∧ o.data = .fields vs ∧ vs[2]? = some .none ∧ e ≠ it ∧ e ≠ x
theorem HOk.keep {A : Around} {h h' : Heap} {x it : Addr} (H : HOk A h x it) (k : ∀ b o, b ≠ x → b ≠ it → h.get? b = some o → h'.get? b = some o) : HOk A h' x it := by
  rcases H with H | ⟨e, o, vs, h1, h2, h3, h4, h5, h6⟩
  · exact .inl H
  · exact .inr ⟨e, o, vs, h1, k e o h6 h5 h2, h3, h4, h5, h6⟩
section
variable {prog : Program} {w : World} {A : Around} {R : Result → Shared → Prop} {x it a : Addr} {C : Value} {dx : Option Addr} {res : Value} {its : Array Value} {oa : Obj} {m : Nat}
theorem le_loop (hd : oa.data = .seq its m) (hz : its.size ≤ 1000) (n1 : x ≠ it) (n2 : x ≠ a) (n3 : it ≠ a) : ∀ (rest pre : List Value) (s : Shared) (c : Nat), its.toList = pre ++ rest → HOk A s.heap x it → s.heap.IsListIter it a pre.length → s.heap.get? a = some oa →
    s.heap.get? x = some (gobj C dx pre.toArray c) →
    (∀ h' c', (∀ b o, b ≠ x → b ≠ it → s.heap.get? b = some o → h'.get? b = some o) → h'.get? x = some (gobj C dx its c') → R (.ok (.ret res)) { s with heap := h' }) →
    codeAny (model prog w) A (.builtin "list.extend.loop" ⟨[.ref x, .ref it, res], []⟩) R s := by
  intro rest
  induction rest with
  | nil =>
    intro pre s c e H hit ha hx q
    refine codeAny_builtin F.entry_extend_loop ?_
    rw [Around.under_plainId F.plain_extend_loop _]
    show wpAny _ A.in1 (pyNext (.ref it) >>= _) _ _ s
    have hn : its[pre.length]? = none := by rw [← Array.getElem?_toList, e]; simp
    refine wpAny_bind (next_end (H.imp id fun ⟨e, o, vs, h1, h2, h3, h4, h5, h6⟩ => ⟨e, o, vs, h1, h2, h3, h4, h5⟩) hit ha hd hn fun h' k => ?_)
    have hi : its = pre.toArray := by rw [← Array.toArray_toList (xs := its), e]; simp
    subst hi
    exact wpAny_pure (q h' c (fun b o _ h2 eb => k b o h2 eb) (k x _ n1 hx))
  | cons v rest ih =>
    intro pre s c e H hit ha hx q
    refine codeAny_builtin F.entry_extend_loop ?_
    rw [Around.under_plainId F.plain_extend_loop _]
    show wpAny _ A.in1 (pyNext (.ref it) >>= _) _ _ s
    have hs : its[pre.length]? = some v := by rw [← Array.getElem?_toList, e]; simp
    have hlen : pre.length < 1000 := by
      have : its.toList.length = pre.length + (rest.length + 1) := by rw [e]; simp
      rw [Array.length_toList] at this; omega
    refine wpAny_bind (next_item hit ha hd hs fun h' hit' k => ?_)
    have hx' : h'.get? x = some (gobj C dx pre.toArray c) := (k.2 x n1).trans hx
    show wpAny _ A.in1 (updateSeq x (·.push v) >>= _) _ _ _
    have hx2 := Heap.get?_update_self (Obj.mapSeq (·.push v)) hx' rfl
    have e2 : Obj.mapSeq (·.push v) (gobj C dx pre.toArray c) = gobj C dx (pre ++ [v]).toArray (if ((pre ++ [v]).length == pre.length) = true then c else c + 1) := by
      show Obj.mk _ _ (.seq (pre.toArray.push v) (if ((pre.toArray.push v).size == pre.toArray.size) = true then c else c + 1)) _ = _
      simp
    rw [e2] at hx2
    have oth : ∀ b o, b ≠ x → b ≠ it → s.heap.get? b = some o → (h'.update x (Obj.mapSeq (·.push v))).get? b = some o := fun b o h1 h2 eb => (Heap.get?_update_other _ _ (Ne.symm h1)).trans ((k.2 b h2).trans eb)
    refine wpAny_bind (wpAny_updateSeq hx' rfl (wpAny_pure (And.intro (plainId_quiet F.plain_extend_loop _) (ih (pre ++ [v]) _ _ (by rw [e]; simp) (H.keep oth) ?_ (oth a oa (Ne.symm n2) (Ne.symm n3) ha) hx2 fun h'' c' k' hx'' => ?_)))
      (hz := by rw [sizeLine_eq]; simp; omega) (_hz' := by rw [sizeLine_eq]; simp; omega))
    · obtain ⟨o, ho, hc, hdt⟩ := hit'
      exact ⟨o, (Heap.get?_update_other _ _ n1).trans ho, hc, by simpa using hdt⟩
    · exact q h'' c' (fun b o h1 h2 eb => k' b o h1 h2 (oth b o h1 h2 eb)) hx''
end
end Mine
end
section
open PySem PySem.W PySem.Calls PyProof.Rows Builtin
set_option maxRecDepth 100000
namespace Mine
theorem split_ll : splitId "list.__len__" = some ("list", "__len__") := by decide +kernel
section
variable {prog : Program} {w : World} {g : Gr} {K : Frag} {n : Nat}
theorem lh_acc (k : KIn g K) {C : Addr} {p : Bool} {l : List CV} (a : AccK K C) (hl : l.length ≤ 1000) {A : Around} {s : Shared} {v : Value} {Q : Bool → Shared → Prop} {E : Value → Shared → Prop} (ok : OkA g.fr g.hd A n) (at_ : At g s) (r : Rp g.V s.heap (.acc C p l) v)
    (q : ∀ b t, s.toks ≤ t → Q b { s with toks := t }) : wpAny (model prog w) A (Builtin.List.listLengthHint v) Q E s := by
  have r0 := r
  obtain ⟨x, d, vs, m, od, rfl, _, _, e, ed, I, _, rs⟩ := r.acc
  have X := k.at at_
  have hi := inst_list (M := model prog w) X I a
  unfold Builtin.List.listLengthHint
  refine wpAny_bind (sp X I a.len ?_)
  dsimp only
  simp only [split_ll]
  refine wpAny_bind (hi.here ?_)
  simp only [Bool.not_true, Bool.false_eq_true, if_false]
  rw [if_pos (by decide +kernel)]
  refine wpAny_bind (I.type.here ?_)
  dsimp only
  refine wpAny_bind (Calls.call_function_entry kind_len plain_len entry_len (args_len1 _) (len_body X I a (by rw [rs.length]; omega) ?_))
  refine ⟨_, rfl, ?_⟩
  exact wpAny_bind (wpAny_pure (wpAny_pure (q _ _ (by show s.toks ≤ s.toks + 1 + 1; omega))))

/-- an extension by an object of a class below list -/
theorem le_acc (G : Gr2 g) (k : KIn g K) {C : Addr} {C' : Value} {dx : Option Addr} {p : Bool} {l : List CV} (a : AccK K C) (hl : l.length ≤ 1000) {A : Around} {s : Shared} {x : Addr} {c : Nat} {v : Value} {R : Result → Shared → Prop} (ok : OkA g.fr g.hd A (n + 1)) (at_ : At g s) (r : Rp g.V s.heap (.acc C p l) v)
    (hx : s.heap.get? x = some (gobj C' dx #[] c)) (hV : x ∈ g.V)
    (q : ∀ h' t vs c', s.toks ≤ t → (∀ b o, b ≠ x → s.heap.get? b = some o → h'.get? b = some o) → h'.get? x = some (gobj C' dx (List.toArray vs) c') → Rps g.V s.heap l vs → R (.ok (.ret .none)) { s with heap := h', toks := t }) :
    wpAny (model prog w) A.in1 (Builtin.List.listExtendWith (.ref x) v .none) (fun fin s' => match fin with | .done f => R (.ok f) s' | .again c' => c'.quiet = true ∧ codeAny (model prog w) A c' R s') (fun e s' => R (.error e) s') s := by
  have r0 := r
  obtain ⟨y, d, vs, m, od, rfl, nV, _, e, ed, I, _, rs⟩ := r.acc
  have X := k.at at_
  have nxy : x ≠ y := fun h => nV (h ▸ hV)
  obtain ⟨l', o', vs', m', el, _, e', d', _, hp⟩ := SeqIt.acc k a s _ at_ r0
  cases el
  rw [e] at e'; cases e'; cases d'
  unfold Builtin.List.listExtendWith
  refine wpAny_bind (I.type.here ?_)
  have h1 : (Builtin.List.listSameRef (.ref x) (.ref y) || (Value.ref C == Value.type "list") || (Value.ref C == Value.type "tuple")) = false := by
    have : Builtin.List.listSameRef (.ref x) (.ref y) = false := by simp [Builtin.List.listSameRef, nxy]
    rw [this]; rfl
  simp only [h1, Bool.false_eq_true, if_false]
  refine wpAny_bind (hp _ _ _ _ _ ?_)
  have x1 : Step g s { s with heap := s.heap.push { cls := .type "list_iterator", data := .fields #[.ref y, .int 0 0] } } := Step.push0 G.toGrOk
  have up : ∀ b o, s.heap.get? b = some o → (s.heap.push { cls := .type "list_iterator", data := .fields #[.ref y, .int 0 0] }).get? b = some o := fun b o e => Heap.get?_push_of_some _ e
  refine wpAny_bind (wpAny_holding (lh_acc (n := n) (p := p) k a hl ok.in1 (at_.step x1) (Rp.step G.toGrOk at_ x1 r0) fun b t ht => ?_))
  have hx1 := up _ _ hx
  have hit : (s.heap.push { cls := .type "list_iterator", data := .fields #[.ref y, .int 0 0] }).IsListIter s.heap.objs.size y 0 := ⟨_, Heap.get?_push_size _ rfl, rfl, rfl⟩
  have n1 : x ≠ s.heap.objs.size := Nat.ne_of_lt (Heap.lt_size hx)
  have n3 : s.heap.objs.size ≠ y := Ne.symm (Nat.ne_of_lt (Heap.lt_size e))
  have H : HOk A s.heap x s.heap.objs.size := by
    rcases hd : g.hd with _ | e1
    · exact .inl (ok.hh hd)
    · obtain ⟨hV1, o1, vs1, eo, d1, v2, _⟩ := at_.hdv e1 hd
      refine .inr ⟨e1, o1, vs1, by rw [ok.2.2.1, hd]; rfl, eo, d1, v2, Nat.ne_of_lt (Heap.lt_size eo), fun h => ?_⟩
      subst h
      rw [hx] at eo; cases eo; cases d1
  have loop : ∀ (h1 : Heap) (c1 : Nat), (∀ b o, b ≠ x → (s.heap.push { cls := .type "list_iterator", data := .fields #[.ref y, .int 0 0] }).get? b = some o → h1.get? b = some o) → h1.get? x = some (gobj C' dx #[] c1) →
      codeAny (model prog w) A (.builtin "list.extend.loop" ⟨[.ref x, .ref s.heap.objs.size, .none], []⟩) R { s with heap := h1, toks := t } := fun h1 c1 k1 hx1 => by
    refine le_loop (oa := accObj C d vs m) (m := m) (its := vs.toArray) rfl (by have := rs.length; simp; omega) n1 nxy n3 vs [] { s with heap := h1, toks := t } c1 (by simp) (H.keep fun b o h1 h2 eb => k1 b o h1 (up b o eb)) ?_ (k1 _ _ (Ne.symm nxy) (up _ _ e)) hx1 fun h' c' kk hx' => ?_
    · obtain ⟨o, ho, hc, hdt⟩ := hit
      exact ⟨o, k1 _ _ (Ne.symm n1) ho, hc, hdt⟩
    · exact q h' t vs c' ht (fun b o hb eb => kk b o hb (Nat.ne_of_lt (Heap.lt_size eb)) (k1 b o hb (up b o eb))) hx' rs
  split
  · refine wpAny_bind (wpAny_rule ?_)
    show wpAny _ _ ((updateSeq x (·.push .none) >>= fun _ => updateSeq x (·.pop)) >>= _) _ _ _
    refine wpAny_bind (wpAny_bind (wpAny_updateSeq hx1 rfl ?_))
    have hx2 := Heap.get?_update_self (Obj.mapSeq (·.push Value.none)) hx1 rfl
    refine wpAny_updateSeq (hz := by seq_fits) hx2 rfl ?_
    have hx3 := Heap.get?_update_self (Obj.mapSeq (·.pop)) hx2 rfl
    refine wpAny_pure (And.intro (plainId_quiet F.plain_extend_loop _) (loop _ _ (fun b o hb eb => ?_) hx3))
    exact (Heap.get?_update_other _ _ (Ne.symm hb)).trans ((Heap.get?_update_other _ _ (Ne.symm hb)).trans eb)
  · exact wpAny_pure (And.intro (plainId_quiet F.plain_extend_loop _) (loop _ _ (fun _ _ _ e => e) hx1))
end
end Mine
end
section
open PySem PySem.W PySem.Calls PyProof.Rows Builtin Builtin.ObjectAttr
set_option maxRecDepth 100000
namespace Mine
theorem refuse_list (self : Value) : refuseLoop self "__setattr__" [.type "list", .type "object"] = pure () := by kernel_rfl
def underList : List Value → Bool
  | [.type n, .type m] => n == "list" && m == "object"
  | .ref _ :: r => underList r
  | _ => false
theorem refuse_under (self : Value) : ∀ {l : List Value}, underList l = true → refuseLoop self "__setattr__" l = pure ()
  | [.type n, .type m], e => by
    simp only [underList, Bool.and_eq_true, beq_iff_eq] at e
    rw [e.1, e.2]; exact refuse_list self
  | .ref c :: r, e => by rw [refuseLoop_ref]; exact refuse_under self (by cases r <;> first | exact e | cases e)
theorem under_has : ∀ {l : List Value}, underList l = true → l.contains (.type "object") = true
  | [.type n, .type m], e => by
    simp only [underList, Bool.and_eq_true, beq_iff_eq] at e
    rw [e.2]; simp
  | .ref c :: r, e => by rw [List.contains_cons, under_has (l := r) (by cases r <;> first | exact e | cases e), Bool.or_true]

section
variable {prog : Program} {w : World} {A : Around} {s : Shared} {R : Result → Shared → Prop} {K : Frag} {x dx C : Addr}
theorem osa_put {ox od : Obj} {name : Str} {tk : Tok} {v : Value} (X : K.In s.heap) (I : InstAt s.heap x ox C (some od)) (hdx : ox.dict = some dx) (hm : (clsIn K C).any (fun cd => underList cd.mro && cd.hasDict) = true) (ht : findIn K (.ref C) name = some none)
    (hn : s.heap.get? dx = some emptyDict)
    (q : ∀ h', h'.Ns dx (fun y => if y = name then some v else none) → Heap.SameBut dx s.heap h' → R (.ok (.ret .none)) { s with heap := h', toks := s.toks + 1 }) :
    codeAny (model prog w) A (.call (.builtin "object.__setattr__") ⟨[.ref x, .str name tk, v], []⟩) R s := by
  have SF := PySem.F.store_object
  obtain ⟨cd, hc, ho⟩ := any_some hm
  rw [Bool.and_eq_true] at ho
  obtain ⟨ho, hdict⟩ := ho
  have ne : cd.mro.isEmpty = false := by cases q : cd.mro with | nil => rw [q] at ho; cases ho | cons _ _ => rfl
  have sub : Looks (model prog w) s.heap (isInstance (.ref x) (.type "object")) true := I.type.andThen (looks_mroIn X (by unfold mroIn; rw [hc, Option.bind_some, if_neg (by rw [ne]; decide), under_has ho]))
  refine codeAny_call_builtin SF.slot.plain SF.entry (@check_slot (model prog w) _ _ s "object.__setattr__" "object" "__setattr__" (.ref x) [.str name tk, v] [] _ SF.kind SF.split sub (SF.args (.ref x) (.str name tk) v) ?_)
  have hmro : Looks (model prog w) s.heap (mroOf (.ref C)) cd.mro := (looks_clsIn X hc).andThen .now
  have L3 : Looks (model prog w) s.heap (storeTaker? none) none := .now
  rw [osa_eq, refuse_eq]
  refine wpAny_bind (wpAny_bind (I.type.here (wpAny_bind (hmro.here ?_))))
  rw [refuse_under _ ho]
  refine wpAny_pure (wpAny_bind (I.type.here (wpAny_bind ((looks_findIn X ht).here (wpAny_bind (L3.here ?_))))))
  obtain ⟨hx, hcl, hnn, -⟩ := I
  obtain ⟨oc, odi, oda, osl⟩ := ox
  dsimp only at hcl hdx
  subst hcl hdx
  refine wpAny_bind (wpAny_pure (wpAny_bind (wpAny_bind (wpAny_loadPart hx (wpAny_bind ((looks_clsIn X hc).here ?_))))))
  rw [hdict]
  refine wpAny_pure (a := some dx) (wpAny_bind (wpAny_pure (wpAny_bind ?_)))
  have e : ∀ hh key, Obj.putName name hh key v emptyDict = { cls := .type "dict", data := .dict #[⟨hh, key, v⟩] 1 } := fun hh key => by simp [Obj.putName_eq, Obj.putNameByArray]
  unfold nsSet
  refine wpAny_bind (wpAny_bind (wpAny_askSetting (wpAny_pure (wpAny_bind (wpAny_mkText (wpAny_bind (wpAny_loadPart hn ?_)))))))
  have c : aRefKeyMayBeTheName name (#[] : Array DictEntry) = false := by simp [aRefKeyMayBeTheName_eq, aRefKeyMayBeTheNameByArray]
  dsimp only
  rw [c]
  have D' := Heap.get?_update_self (Obj.putName name (PyData.keyHash w.params name) (.str name s.toks) v) hn (by rw [e]; rfl)
  have hsb : Heap.SameBut dx s.heap (s.heap.update dx (Obj.putName name (PyData.keyHash w.params name) (.str name s.toks) v)) := Heap.SameBut.update ..
  rw [e] at D'
  refine wpAny_updatePart hn ?_
  refine wpAny_bind (wpAny_lookBehind D' (pastItsLine_dict (by rw [sizeLine_eq]; simp)) ?_)
  refine wpAny_pure (q _ ⟨_, _, _, D', rfl, ?_, fun y => ?_⟩ hsb)
  · intro en he
    simp only [List.mem_toArray, Array.mem_def, List.mem_singleton] at he
    subst he
    exact ⟨_, _, rfl⟩
  · have h0 := findBy_push (fun n v => v.isStr n) #[] name y (PyData.keyHash w.params name) (.str name s.toks) v (fun y => by
      show (name == y) = decide (y = name)
      by_cases h : y = name
      · subst h; simp
      · have : ¬ name = y := fun e => h e.symm
        simp [h, this]) (by simp)
    exact h0
theorem set_put {ox od : Obj} {name : Str} {v : Value} {Q : Unit → Shared → Prop} {E : Value → Shared → Prop} (X : K.In s.heap) (I : InstAt s.heap x ox C (some od)) (hdx : ox.dict = some dx) (hm : (clsIn K C).any (fun cd => underList cd.mro && cd.hasDict) = true) (ht : findIn K (.ref C) name = some none)
    (hs : findIn K (.ref C) "__setattr__" = some (some (.builtin "object.__setattr__"))) (hn : s.heap.get? dx = some emptyDict)
    (q : ∀ h', h'.Ns dx (fun y => if y = name then some v else none) → Heap.SameBut dx s.heap h' → Q () { s with heap := h', toks := s.toks + 1 + 1 }) :
    wpAny (model prog w) A (setAttr (.ref x) name v) Q E s := by
  refine set_plain X I hs (osa_put (s := { s with toks := s.toks + 1 }) X I hdx hm ht hn fun h' hn' hb => ?_)
  exact q h' hn' hb
end
end Mine
end
section
open PySem PySem.W PySem.Calls PyProof.Rows Builtin
set_option maxRecDepth 100000
namespace Mine

/-- an object under way, in the hidden part of the ground -/
structure Und (g : Gr) (C x dx : Addr) (p : Option Bool) (l : List CV) (s : Shared) : Prop where
  ne : x ≠ dx
  bx : g.hB.get? x = none
  bd : g.hB.get? dx = none
  vx : x ∈ g.V
  vd : dx ∈ g.V
  fd : dx ∉ g.F
  hx : ∃ vs c, s.heap.get? x = some (lobj C dx (List.toArray vs) c) ∧ Rps g.V s.heap l vs
  hd : match p with | none => s.heap.get? dx = some emptyDict | some b => s.heap.Ns dx (fun y => if y = ("provided" : Str) then some (.bool b) else none)
theorem Und.nf {g : Gr} {C x dx : Addr} {p : Option Bool} {l : List CV} {s : Shared} (U : Und g C x dx p l s) (a : At g s) : x ∉ g.F ∧ dx ∉ g.F := by
  obtain ⟨vs, c, e, _⟩ := U.hx
  exact ⟨a.notFs e rfl, U.fd⟩
theorem Und.dict {g : Gr} {C x dx : Addr} {p : Option Bool} {l : List CV} {s : Shared} (U : Und g C x dx p l s) : ∃ o es ep, s.heap.get? dx = some o ∧ o.data = .dict es ep := by
  have h := U.hd
  cases p with
  | none => exact ⟨_, _, _, h, rfl⟩
  | some b =>
    obtain ⟨o, es, ep, e, d, _⟩ := h
    exact ⟨o, es, ep, e, d⟩

section
variable {g : Gr} (G : Gr2 g) {C x dx : Addr} {p : Option Bool} {l : List CV} {s : Shared} {fi : FI} {env : Env} {σ : Loc}
include G
/-- a change of the object alone -/
theorem At.chg (a : At g s) (U : Und g C x dx p l s) {h' : Heap} {t : Nat} (ht : s.toks ≤ t) (k : ∀ b o, b ≠ x → b ≠ dx → s.heap.get? b = some o → h'.get? b = some o) (ex : ∃ o, h'.get? x = some o) (ed : ∃ o, h'.get? dx = some o) :
    At g { s with heap := h', toks := t } ∧ WStep g (fun b => b = x ∨ b = dx) s { s with heap := h', toks := t } := by
  have nf := U.nf a
  have tb : g.TabOk s.heap → g.TabOk h' := fun ht => G.tabK _ _ (fun b o e hk => have hf := hk.fields; k b o (fun q => by
    subst q
    obtain ⟨vs, c, e', _⟩ := U.hx
    obtain ⟨fs, hf⟩ := hf
    rw [e] at e'; cases e'; cases hf) (fun q => by
    subst q
    obtain ⟨o', es, ep, e', d'⟩ := U.dict
    obtain ⟨fs, hf⟩ := hf
    rw [e] at e'; cases e'; rw [hf] at d'; cases d') e) ht
  refine ⟨⟨fun b o nT e => k b o (fun q => by rw [q, U.bx] at e; cases e) (fun q => by rw [q, U.bd] at e; cases e) (a.keep b o nT e), tb a.tab, fun b hb => ⟨(a.vol b hb).1, ?_⟩, Nat.le_trans a.pos ht, fun e he => ?_, fun e he => ?_⟩, ⟨fun b o _ _ nx e => k b o (fun q => nx (.inl q)) (fun q => nx (.inr q)) e, fun b o hF nx e => ⟨o.slots, k b o (fun q => nx (.inl q)) (fun q => nx (.inr q)) e⟩, fun L hL f => ?_, tb, ⟨#[], by simp, AllBare.empty⟩, rfl, rfl, ht⟩⟩
  · by_cases h1 : b = x
    · subst h1; exact ex
    · by_cases h2 : b = dx
      · subst h2; exact ed
      · obtain ⟨o, e⟩ := (a.vol b hb).2
        exact ⟨o, k b o h1 h2 e⟩
  · obtain ⟨kk, L, hL, hB, f⟩ := a.frs e he
    have hF : L ∈ g.F := List.mem_filterMap.mpr ⟨e, he, hL⟩
    exact ⟨kk, L, hL, hB, f.data fun o eo => ⟨o.slots, k L o (fun q => nf.1 (q ▸ hF)) (fun q => nf.2 (q ▸ hF)) eo⟩⟩
  · obtain ⟨hv, o, vs, eo, d, v2⟩ := a.hdv e he
    refine ⟨hv, o, vs, k e o (fun q => ?_) (fun q => ?_) eo, d, v2⟩
    · subst q
      obtain ⟨vs', c, e', _⟩ := U.hx
      rw [eo] at e'; cases e'; cases d
    · subst q
      obtain ⟨o', es, ep, e', d'⟩ := U.dict
      rw [eo] at e'; cases e'; rw [d] at d'; cases d'
  · exact f.data fun o eo => ⟨o.slots, k L o (fun q => nf.1 (q ▸ hL)) (fun q => nf.2 (q ▸ hL)) eo⟩
theorem Fm.chg (F : Fm g fi env s σ) (U : Und g C x dx p l s) {h' : Heap} {t : Nat} (ht : s.toks ≤ t) (k : ∀ b o, b ≠ x → b ≠ dx → s.heap.get? b = some o → h'.get? b = some o) (ex : ∃ o, h'.get? x = some o) (ed : ∃ o, h'.get? dx = some o) : Fm g fi env { s with heap := h', toks := t } σ := by
  obtain ⟨m, hn, hp, hs⟩ := F.ns
  have kv : KeepsV g.V s.heap h' := fun b o e nv _ _ => k b o (fun q => nv (q ▸ U.vx)) (fun q => nv (q ▸ U.vd)) e
  have ki : ∀ {c v}, s.heap.IsCell c v → h'.IsCell c v := fun {c v} hc => by
    obtain ⟨o, e, d⟩ := hc
    have n1 : c ≠ x := fun q => by
      subst q
      obtain ⟨vs, n, e', _⟩ := U.hx
      rw [e] at e'; cases e'; cases d
    have n2 : c ≠ dx := fun q => by
      subst q
      obtain ⟨o', es, ep, e', d'⟩ := U.dict
      rw [e] at e'; cases e'; rw [d] at d'; cases d'
    exact ⟨o, k c o n1 n2 e, d⟩
  have nl : env.locals ≠ x ∧ env.locals ≠ dx := ⟨fun q => F.out _ (.inl rfl) (q ▸ U.vx), fun q => F.out _ (.inl rfl) (q ▸ U.vd)⟩
  refine { F with ns := ⟨m, ?_, hp, fun q hm => ?_⟩, cells := fun y hm hy => ?_, at_ := (At.chg G F.at_ U ht k ex ed).1 }
  · obtain ⟨o, es, ep, e, r⟩ := hn
    exact ⟨o, es, ep, k _ _ nl.1 nl.2 e, r⟩
  · obtain ⟨v, r, kk⟩ := hs q hm
    exact ⟨v, r.mono kv, kk.imp id fun ⟨k1, c, k2, k3⟩ => ⟨k1, c, k2, ki k3⟩⟩
  · obtain ⟨c, v, e, i⟩ := F.cells y hm hy
    exact ⟨c, v, e, ki i⟩
end
end Mine
end
section
open PySem PySem.W PySem.Calls PyProof.Rows Builtin
set_option maxRecDepth 100000
namespace Mine

section
variable (prog : Program) (w : World) (g : Gr) (C x dx : Addr) (fi : FI) (n : Nat)
/-- statements of an __init__ -/
def SX (σ : Loc) (p : Option Bool) (l : List CV) (ss : List Stmt) (p' : Option Bool) (l' : List CV) : Prop :=
  ∀ A env body s (Q : Flow → Shared → Prop) E, OkA g.fr g.hd A n → Fm g fi env s σ → Und g C x dx p l s →
    (∀ s', WStep g (fun b => Own fi env b ∨ b = x ∨ b = dx) s s' → At g s' → Und g C x dx p' l' s' → Q .next s') → _root_.PySem.wpAt (model prog w) A (.func body env) (execs ss env) Q E s
/-- one of them, which keeps the names -/
def SX1 (σ : Loc) (p : Option Bool) (l : List CV) (st : Stmt) (σ' : Loc) (p' : Option Bool) (l' : List CV) : Prop :=
  ∀ A env body s (Q : Flow → Shared → Prop) E, OkA g.fr g.hd A n → Fm g fi env s σ → Und g C x dx p l s →
    (∀ s', WStep g (fun b => Own fi env b ∨ b = x ∨ b = dx) s s' → Fm g fi env s' σ' → Und g C x dx p' l' s' → Q .next s') → _root_.PySem.wpAt (model prog w) A (.func body env) (exec st env) Q E s
end
section
variable {prog : Program} {w : World} {g : Gr} (G : Gr2 g) {C x dx : Addr} {fi : FI} {n : Nat} {σ σ' : Loc} {p p' p'' : Option Bool} {l l' l'' : List CV}
theorem SX.nil : SX prog w g C x dx fi n σ p l [] p l := by
  intro A env body s Q E a F U q
  exact wpAt_of_any (wpAny_execs_nil (q s .refl F.at_ U))
theorem SX.cons {st : Stmt} {rest : List Stmt} (h1 : SX1 prog w g C x dx fi n σ p l st σ' p' l') (h2 : SX prog w g C x dx fi n σ' p' l' rest p'' l'') : SX prog w g C x dx fi n σ p l (st :: rest) p'' l'' := by
  intro A env body s Q E a F U q
  refine ks_wpAt_execs_cons (h1 A env body s _ E a F U fun s' y F' U' => ?_)
  exact h2 A env body s' Q E a F' U' fun s'' z a'' U'' => q s'' (y.trans z) a'' U''
include G
theorem Und.step {s s' : Shared} (U : Und g C x dx p l s) (a : At g s) (y : Step g s s') : Und g C x dx p l s' := by
  have nT : ∀ b, g.hB.get? b = none → b ∉ g.T := fun b h => notT_new G h
  obtain ⟨vs, c, e, r⟩ := U.hx
  refine { U with hx := ⟨vs, c, y.keep _ _ (nT _ U.bx) (U.nf a).1 e, Rps.step G.toGrOk a y r⟩, hd := ?_ }
  have h := U.hd
  cases p with
  | none => exact y.keep _ _ (nT _ U.bd) U.fd h
  | some b =>
    obtain ⟨o, es, ep, e1, r1⟩ := h
    exact ⟨o, es, ep, y.keep _ _ (nT _ U.bd) U.fd e1, r1⟩
theorem SX.ite {t : Expr} {b o : List Stmt} {pos : Pos} {z : Bool} (h : ET prog w g fi n σ t z) (h1 : z = true → SX prog w g C x dx fi n σ p l b p' l') (h2 : z = false → SX prog w g C x dx fi n σ p l o p' l') : SX prog w g C x dx fi n σ p l [.If t b o pos] p' l' := by
  intro A env body s Q E a F U q
  refine ks_wpAt_execs_cons (ks_wpAt_If (wpAt_of_wpAny (h A env s _ E a F fun s' y => ?_)))
  have F' := F.step G.toGrOk y
  have U' := Und.step G U F.at_ y
  have q' : ∀ s'', WStep g (fun b => Own fi env b ∨ b = x ∨ b = dx) s' s'' → At g s'' → Und g C x dx p' l' s'' → _root_.PySem.wpAt (model prog w) A (.func body env) (execs [] env) Q E s'' := fun s'' z a'' U'' => wpAt_of_wpAny (wpAny_execs_nil (q s'' (y.w.trans z) a'' U''))
  cases z with
  | true => exact h1 rfl A env body s' _ E a F' U' q'
  | false => exact h2 rfl A env body s' _ E a F' U' q'

/-- self.provided = e -/
theorem SX1.put {K : Frag} (k : KIn g K) {self : Str} {sp' ap pos : Pos} {e : Expr} {b : Bool} (hm : (clsIn K C).any (fun cd => underList cd.mro && cd.hasDict) = true) (ht : findIn K (.ref C) "provided" = some none) (hs : findIn K (.ref C) "__setattr__" = some (some (.builtin "object.__setattr__")))
    (he : EV prog w g fi n σ e (.bool b)) (hself : EV prog w g fi n σ (.Name self sp') (.raw (.ref x)))
    (hw : ∀ env, swapsWith e (some (.Attribute (.Name self sp') "provided" ap)) pos.line env = pure false := by intro env; rfl) : SX1 prog w g C x dx fi n σ none l (.Assign [.Attribute (.Name self sp') "provided" ap] e pos) σ (some b) l := by
  intro A env body s Q E a F U q
  refine ks_wpAt_Assign_Attr (wpAt_of_wpAny (he A env s _ E a F fun v s₁ y₁ r₁ => ?_)) (hw env)
  cases r₁
  have F₁ := F.step G.toGrOk y₁
  have U₁ := Und.step G U F.at_ y₁
  refine hself A env s₁ _ E a F₁ fun v s₂ y₂ r₂ => ?_
  cases r₂
  have F₂ := F₁.step G.toGrOk y₂
  have U₂ := Und.step G U₁ F₁.at_ y₂
  obtain ⟨vs, c, ex, rs⟩ := U₂.hx
  have ed : s₂.heap.get? dx = some emptyDict := U₂.hd
  have X := k.at F₂.at_
  refine set_put X (I := ⟨ex, rfl, rfl, ed⟩) rfl hm ht hs ed fun h' hn hb => ?_
  have kk : ∀ b o, b ≠ x → b ≠ dx → s₂.heap.get? b = some o → h'.get? b = some o := fun b o _ n2 e => (hb.2 b n2).trans e
  have ex' : h'.get? x = some (lobj C dx vs.toArray c) := (hb.2 x U.ne).trans ex
  obtain ⟨od, es, ep, e1, r1⟩ := id hn
  have F₃ := Fm.chg G F₂ U₂ (t := s₂.toks + 1 + 1) (by omega) kk ⟨_, ex'⟩ ⟨_, e1⟩
  have y₃ := (At.chg G F₂.at_ U₂ (t := s₂.toks + 1 + 1) (by omega) kk ⟨_, ex'⟩ ⟨_, e1⟩).2
  refine q _ ((y₁.trans y₂).w.trans (y₃.mono fun _ h => .inr h)) F₃ { U with hx := ⟨vs, c, ex', rs.mono fun b o eb nv _ _ => kk b o (fun q => nv (q ▸ U.vx)) (fun q => nv (q ▸ U.vd)) eb⟩, hd := hn }
end
end Mine
end
section
open PySem PySem.W PySem.Calls PyProof.Rows Builtin
set_option maxRecDepth 100000
namespace Mine

/-- what super() needs of the function's own frame -/
structure SupK (prog : Program) (g : Gr) (K : Frag) (fi : FI) (me : Str) (f D : Addr) : Prop where
  fn : fi.func = some f
  fo : ∃ o fd ar, g.hB.get? f = some o ∧ o.data = .func fd ∧ (fd.params.posonlyargs ++ fd.params.args).head? = some ar ∧ ar.arg = me
  code : ∃ c oc vs file tf, fi.code = .ref c ∧ c ∉ g.T ∧ g.hB.get? c = some oc ∧ oc.data = .fields vs ∧ vs[2]? = some (.str file tf) ∧ ((prog.main.file : Str) == file) = true
  top : (prog.main.scope.names.lookup ("super" : Str)).isSome = false
  ks : fi.scope.names.lookup ("super" : Str) = some .globalImplicit
  kc : fi.scope.names.lookup ("__class__" : Str) = some .free
  mg : g.mg "super" = none
  mb : g.mb "super" = some (.type "super")
  D : ∃ cd, clsIn K D = some cd
section
variable {prog : Program} {w : World} {g : Gr} (G : Gr2 g) {K : Frag} (k : KIn g K) {C x D f : Addr} {fi : FI} {n : Nat} {σ : Loc} {self : Str}
include G k
theorem super_base (S : SupK prog g K fi self f D) {A : Around} {env : Env} {s : Shared} {body : List Stmt} {p0 p1 : Pos} {attr : Str} {whole : Sem Value} {Q : Value → Shared → Prop} {E : Value → Shared → Prop} {ox : Obj}
    (F : Fm g fi env s σ) (hc : (("__class__" : Str), CV.raw (.ref D)) ∈ σ) (hself : (self, CV.raw (.ref x)) ∈ σ) (hx : s.heap.get? x = some ox) (hxc : ox.cls = .ref C) (hnc : ∀ c, ox.data ≠ .cls c)
    (hsub : mroIn K C (.ref D) = some true) (hat : (attr == ("__class__" : Str)) = false)
    (hsl : fi.scope.names.lookup self = some .local ∨ fi.scope.names.lookup self = some .cell)
    (q : ∀ s' so, Step g s s' → s.heap.get? so = none → s'.heap.get? so = some (ks_superObj D x C) → Q (.ref so) s') :
    _root_.PySem.wpAt (model prog w) A (.func body env) (attributeBase (.Call (.Name "super" p0) [] [] p1) attr env whole) Q E s := by
  obtain ⟨of, fd, ar, hof, hfd, hp, har⟩ := S.fo
  obtain ⟨cc, oc, vs, file, tf, hco, hcT, hcc, hoc, hvs, hfile⟩ := S.code
  subst har
  have hk : env.scope.kind = .function := by rw [F.sc]; exact F.fk
  have X := k.at F.at_
  obtain ⟨cd, hD⟩ := S.D
  obtain ⟨oD, hD1, hD2⟩ : ∃ oD, s.heap.get? D = some oD ∧ oD.data = .cls cd := by
    unfold clsIn at hD
    split at hD
    · rename_i c d cd' sl ho
      cases hD
      exact ⟨_, X _ _ ho, rfl⟩
    · cases hD
  have kcE : env.kindOf "__class__" = some .free := by rw [Env.kindOf, F.sc]; exact S.kc
  refine ks_wpAt_super_base (by rw [Env.kindOf, F.sc]; exact S.ks) kcE hat (F.fn.trans S.fn) (At.fn G F.at_ hof hfd) hfd hp (F.cd.trans hco) (F.at_.keep _ _ hcT hcc) hoc hvs hfile S.top ?_
  refine ks_loadName_global hk (by rw [Env.kindOf, F.sc]; exact S.ks) (loadGlobal_builtin (env := env) (by rw [F.gl]; exact F.at_.glob G.toGrOk) S.mg (by rw [F.bi]; exact F.at_.blt G.toGrOk) S.mb ⟨rfl, ?_⟩)
  obtain ⟨m, hn, _, hs⟩ := F.ns
  obtain ⟨v1, r1, k1⟩ := hs _ hc
  cases r1
  obtain ⟨v2, r2, k2⟩ := hs _ hself
  cases r2
  rcases k1 with ⟨k1, _⟩ | ⟨_, c1, e1, i1⟩
  · rw [S.kc] at k1; cases k1
  have fin : wpAny (model prog w) A (isType (.ref D)) (fun b s₄ => b = true ∧ wpAny (model prog w) A (PySem.call (.type "super") [.ref D, .ref x]) Q E s₄) E s := by
    obtain ⟨hh, gg, d, t, os⟩ := s
    refine ks_wpAny_isType_cls hD1 hD2 ⟨rfl, ?_⟩
    refine ks_wpAny_call_super hD1 hD2 hx hxc hnc (looks_mroIn X hsub) fun h' e kk => ?_
    exact q _ _ (Step.grow0 G.toGrOk kk) (Heap.get?_none_of_le (Nat.le_refl _)) e
  refine wpAny_loadName_free hk kcE e1 i1 ?_
  rcases k2 with ⟨k2, e2⟩ | ⟨k2, c2, e2, i2⟩
  · exact wpAny_loadName_local hk (by rw [Env.kindOf, F.sc]; exact k2) hn e2 fin
  · rcases k2 with k2 | k2
    · exact wpAny_loadName_cell hk (by rw [Env.kindOf, F.sc]; exact k2) e2 i2 fin
    · rcases hsl with h | h <;> rw [h] at k2 <;> cases k2
end
end Mine
end
section
open PySem PySem.W PySem.Calls PyProof.Rows Builtin
set_option maxRecDepth 100000
namespace Mine

section
variable {prog : Program} {w : World} {g : Gr} (G : Gr2 g) {K : Frag} (k : KIn g K) {C x dx D f : Addr} {fi : FI} {n : Nat} {σ : Loc} {me : Str} {p : Option Bool} {l : List CV}
/-- what list's own __init__ does with a value -/
def Fill (prog : Program) (w : World) (g : Gr) (C x dx : Addr) (n : Nat) (c : CV) (p : Option Bool) (l : List CV) : Prop :=
  ∀ A s v (R : Result → Shared → Prop), OkA g.fr g.hd A (n + 1) → At g s → Und g C x dx p [] s → Rp g.V s.heap c v →
    (∀ h' t, s.toks ≤ t → Und g C x dx p l { s with heap := h', toks := t } → (∀ b o, b ≠ x → b ≠ dx → s.heap.get? b = some o → h'.get? b = some o) → R (.ok (.ret .none)) { s with heap := h', toks := t }) →
    wpAny (model prog w) A.in1 (Builtin.«list.__init__» ⟨[.ref x, v], []⟩) (fun fin s' => match fin with | .done f => R (.ok f) s' | .again c' => c'.quiet = true ∧ codeAny (model prog w) A c' R s') (fun e s' => R (.error e) s') s
include G
theorem Und.list {s : Shared} {l' : List CV} {vs : List Value} {c : Nat} (U : Und g C x dx p l s) {h' : Heap} {t : Nat} (kk : ∀ b o, b ≠ x → s.heap.get? b = some o → h'.get? b = some o) (hx : h'.get? x = some (lobj C dx (List.toArray vs) c)) (r : Rps g.V s.heap l' vs) : Und g C x dx p l' { s with heap := h', toks := t } := by
  refine { U with hx := ⟨vs, c, hx, r.mono fun b o e nv _ _ => kk b o (fun q => nv (q ▸ U.vx)) e⟩, hd := ?_ }
  have h := U.hd
  cases p with
  | none => exact kk _ _ (Ne.symm U.ne) h
  | some b =>
    obtain ⟨o, es, ep, e1, r1⟩ := h
    exact ⟨o, es, ep, kk _ _ (Ne.symm U.ne) e1, r1⟩
theorem Fill.lst (hl : l.length ≤ 1000) : Fill prog w g C x dx n (.lst l) p l := by
  intro A s v R ok a U r q
  obtain ⟨y, vs, m, rfl, nV, e, rs⟩ := r
  obtain ⟨ws, c, ex, rw0⟩ := U.hx
  cases rw0
  have nyx : y ≠ x := fun h => nV (h ▸ U.vx)
  refine li_start (R := R) ex fun h1 c1 k1 hx1 => ?_
  refine le_list (s := { s with heap := h1 }) hx1 (k1 _ _ nyx e) rfl rfl (by have := rs.length; simp; omega) fun h2 c2 k2 hx2 => ?_
  have kk : ∀ b o, b ≠ x → s.heap.get? b = some o → h2.get? b = some o := fun b o hb eb => k2 b o hb (k1 b o hb eb)
  have ed : ∃ o, h2.get? dx = some o := by
    obtain ⟨o, es, ep, e', _⟩ := U.dict
    exact ⟨o, kk _ _ (Ne.symm U.ne) e'⟩
  have y1 := At.chg G a U (t := s.toks) (Nat.le_refl _) (fun b o hb _ eb => kk b o hb eb) ⟨_, hx2⟩ ed
  exact q h2 s.toks (Nat.le_refl _) (Und.list (t := s.toks) G U kk hx2 rs) fun b o hb _ eb => kk b o hb eb
theorem Fill.acc (k : KIn g K) {C' : Addr} {b : Bool} (ak : AccK K C') (hl : l.length ≤ 1000) : Fill prog w g C x dx n (.acc C' b l) p l := by
  intro A s v R ok a U r q
  obtain ⟨ws, c, ex, rw0⟩ := U.hx
  cases rw0
  refine li_start (R := R) ex fun h1 c1 k1 hx1 => ?_
  have ed1 : ∃ o, h1.get? dx = some o := by
    obtain ⟨o, es, ep, e', _⟩ := U.dict
    exact ⟨o, k1 _ _ (Ne.symm U.ne) e'⟩
  have y1 := At.chg G a U (t := s.toks) (Nat.le_refl _) (fun b o hb _ eb => k1 b o hb eb) ⟨_, hx1⟩ ed1
  have r1 := r.mono (h' := h1) fun b o e nv _ _ => k1 b o (fun q => nv (q ▸ U.vx)) e
  refine le_acc (n := n) (s := { s with heap := h1 }) G k ak hl ok y1.1 r1 hx1 U.vx fun h2 t vs c2 ht k2 hx2 rs => ?_
  have U1 : Und g C x dx p [] { s with heap := h1 } := Und.list (t := s.toks) (vs := []) (l' := []) G U k1 hx1 rfl
  have ed : ∃ o, h2.get? dx = some o := by
    obtain ⟨o, e'⟩ := ed1
    exact ⟨o, k2 _ _ (Ne.symm U.ne) e'⟩
  have y2 := At.chg G y1.1 U1 (t := t) ht (fun b o hb _ eb => k2 b o hb eb) ⟨_, hx2⟩ ed
  exact q h2 t ht (Und.list (t := t) G U1 k2 hx2 rs) fun b o hb _ eb => k2 b o hb (k1 b o hb eb)
end
end Mine
end
section
open PySem PySem.W PySem.Calls PyProof.Rows Builtin
set_option maxRecDepth 100000
namespace Mine

theorem keeper_mw {M : Model} {h : Heap} {b x : Addr} (e : h.get? b = some (mwObj x)) : ∃ k, (k = Keeper.frame ∨ k = Keeper.machine ∨ k = Keeper.boundFrame) ∧ Looks M h (keeperOf (.ref b)) k :=
  ⟨.machine, .inr (.inl rfl), (Looks.ld (part := none) e).andThen .now⟩
theorem canon_init : (("__init__" : Str) == ("__class__" : Str)) = false := by decide
section
variable {prog : Program} {w : World} {g : Gr} (G : Gr2 g) {K : Frag} (k : KIn g K) {C x dx D f : Addr} {fi : FI} {n : Nat} {σ : Loc} {me : Str} {p : Option Bool} {l : List CV}
include G k
/-- super().__init__(value) -/
theorem SX1.init (S : SupK prog g K fi me f D) (ak : AccK K C) (ho : nsIn K cStatics "thirdparty.any" = some none) (hc : (("__class__" : Str), CV.raw (.ref D)) ∈ σ) (hself : (me, CV.raw (.ref x)) ∈ σ) (hsub : mroIn K C (.ref D) = some true)
    (hal : ks_superIn K C D "__init__" = some (some (.builtin "list.__init__"))) (hsl : fi.scope.names.lookup me = some .local ∨ fi.scope.names.lookup me = some .cell)
    {p0 p1 ap cp pos : Pos} {e : Expr} {c : CV} (he : EVs prog w g fi (n + 1) σ [e] [c]) (hf : Fill prog w g C x dx n c p l)
    (hev : ∀ env, ∃ pl, PySem.eval (.Call (.Attribute (.Call (.Name "super" p0) [] [] p1) "__init__" ap) [e] [] cp) env = (do
      let ov ← attributeBase (.Call (.Name "super" p0) [] [] p1) "__init__" env (PySem.eval (.Call (.Name "super" p0) [] [] p1) env)
      standAt ap.atName
      let (f, first) ← holding [ov] (getMethod ov "__init__" pl)
      callWith cp f first (backTo cp (starEach [e] env)) []) := by intro env; exact ⟨_, rfl⟩)
    (hi : ∀ env, env.scope = fi.scope → interactive env = false := by intro env h; unfold interactive; rw [h]; rfl) (hs : ∀ env, swapsWith (.Call (.Attribute (.Call (.Name "super" p0) [] [] p1) "__init__" ap) [e] [] cp) none pos.line env = pure false := by intro env; rfl)
    (hplain : ∀ env, (backTo cp (starEach [e] env)).any (·.1) = false := by intro env; rfl) :
    SX1 prog w g C x dx fi (n + 1) σ p [] (.Expr (.Call (.Attribute (.Call (.Name "super" p0) [] [] p1) "__init__" ap) [e] [] cp) pos) σ p l := by
  intro A env body s Q E a F U q
  obtain ⟨pl, hpl⟩ := hev env
  refine ks_wpAt_Expr_any (ks_wpAt_MethodCall (pl := pl) ?_ hpl) (hi env F.sc) (hs env)
  obtain ⟨ws, c0, ex, rw0⟩ := U.hx
  refine super_base G k S F hc hself ex rfl (fun c h => by cases h) hsub canon_init hsl fun s₁ so y₁ hn hso => ?_
  have F₁ := F.step G.toGrOk y₁
  have U₁ := Und.step G U F.at_ y₁
  have X₁ := k.at F₁.at_
  clear rw0 ex
  obtain ⟨ws, c0, ex, rw0⟩ := U₁.hx
  obtain ⟨od, es, ep, ed, _⟩ := U₁.dict
  have I : InstAt s₁.heap x (lobj C dx ws.toArray c0) C (some od) := ⟨ex, rfl, rfl, ed⟩
  obtain ⟨cd, hcd⟩ : ∃ cd, clsIn K C = some cd := by obtain ⟨cd, h, _⟩ := ak.dict; exact ⟨cd, h⟩
  have hmro : Looks (model prog w) s₁.heap (mroOf (.ref C)) cd.mro := (looks_clsIn X₁ hcd).andThen .now
  have hal' : alongIn K "__init__" ((cd.mro.dropWhile (· != .ref D)).drop 1) = some (some (.builtin "list.__init__")) := by
    unfold ks_superIn at hal; rw [hcd] at hal; exact hal
  have y₂ : Step g s₁ { s₁ with heap := s₁.heap.push (mwObj x), toks := s₁.toks + 1 } := Step.push G.toGrOk
  have F₂ := F₁.step G.toGrOk y₂
  have U₂ := Und.step G U₁ F₁.at_ y₂
  have hmw : (s₁.heap.push (mwObj x)).get? s₁.heap.objs.size = some (mwObj x) := Heap.get?_push_size _ rfl
  have hmwT : s₁.heap.objs.size ∉ g.T := notT_new G (At.fresh G F₁.at_ (Nat.le_refl _))
  have hmwF : s₁.heap.objs.size ∉ g.F := F₁.at_.notFn (Heap.get?_none_of_le (Nat.le_refl _))
  have gm : wpAny (model prog w) A (getMethod (.ref so) "__init__" pl) (fun fx s₂ => wpAny (model prog w) A (callWith cp fx.1 fx.2 (backTo cp (starEach [e] env)) []) (fun _ => Q .next) E s₂) E s₁ := by
    obtain ⟨hh, gg, d, t, os⟩ := s₁
    refine gm_init hso (looks_opaque X₁ ho) hmro rfl X₁ hal' (inst_list X₁ I ak) (ks_ne X₁ I hcd) ?_
    refine callWith_of (P := fun h => h.get? hh.objs.size = some (mwObj x)) (by rw [hplain env]; rfl) (fun h e => keeper_mw e) (evalArgs_any (hplain env) ?_)
    refine he A env _ cp _ E a F₂ fun vs s₃ y₃ r₃ => ?_
    have hm3 : s₃.heap.get? hh.objs.size = some (mwObj x) := y₃.keep _ _ hmwT hmwF hmw
    refine ⟨hm3, ?_⟩
    obtain ⟨v, _, rfl, r₃, rfl⟩ := r₃
    have F₃ := F₂.step G.toGrOk y₃
    have U₃ := Und.step G U₂ F₂.at_ y₃
    refine wpAny_call (mw_call (rest := [v]) hm3 (cb_li1 _ _) ?_)
    refine hf A s₃ v (wants (fun _ => Q .next) E) a F₃.at_ U₃ r₃ fun h₄ t₄ ht U₄ k₄ => ?_
    obtain ⟨ws', c', ex', _⟩ := U₄.hx
    obtain ⟨od', es', ep', ed', _⟩ := U₄.dict
    have F₄ := Fm.chg G F₃ U₃ ht k₄ ⟨_, ex'⟩ ⟨_, ed'⟩
    have y₄ := (At.chg G F₃.at_ U₃ ht k₄ ⟨_, ex'⟩ ⟨_, ed'⟩).2
    exact q _ ((((y₁.trans y₂).trans y₃).w).trans (y₄.mono fun _ h => .inr h)) F₄ U₄
  exact gm
end
end Mine
end
section
open PySem PySem.W PySem.Calls PyProof.Rows Builtin
set_option maxRecDepth 100000
namespace Mine
section
variable {prog : Program} {w : World} {g : Gr} (G : Gr2 g) {C x dx : Addr} {p : Option Bool}
include G
theorem fill_none {A : Around} {s : Shared} {R : Result → Shared → Prop} (a : At g s) (U : Und g C x dx p [] s)
    (q : ∀ h' t, s.toks ≤ t → Und g C x dx p [] { s with heap := h', toks := t } → (∀ b o, b ≠ x → b ≠ dx → s.heap.get? b = some o → h'.get? b = some o) → R (.ok (.ret .none)) { s with heap := h', toks := t }) :
    wpAny (model prog w) A.in1 (Builtin.«list.__init__» ⟨[.ref x], []⟩) (fun fin s' => match fin with | .done f => R (.ok f) s' | .again c' => c'.quiet = true ∧ codeAny (model prog w) A c' R s') (fun e s' => R (.error e) s') s := by
  obtain ⟨ws, c, ex, rw0⟩ := U.hx
  cases rw0
  show wpAny _ A.in1 (do let old ← Builtin.List.listItems (.ref x); Builtin.List.listUpdate (.ref x) (fun _ => #[]); letGo old.toList.reverse; ret .none) _ _ s
  refine wpAny_bind ?_
  unfold Builtin.List.listItems
  refine wpAny_bind (wpAny_seqItems ex rfl (wpAny_pure ?_))
  show wpAny _ A.in1 (updateSeq x (fun _ => #[]) >>= fun _ => letGo (#[] : Array Value).toList.reverse >>= fun _ => ret .none) _ _ s
  refine wpAny_bind (wpAny_updateSeq ex rfl ?_)
  have hx2 := Heap.get?_update_self (Obj.mapSeq (fun _ => (#[] : Array Value))) ex rfl
  refine wpAny_bind (wpAny_letGo ?_)
  have kk : ∀ b o, b ≠ x → s.heap.get? b = some o → (s.heap.update x (Obj.mapSeq (fun _ => (#[] : Array Value)))).get? b = some o := fun b o hb e => (Heap.get?_update_other _ _ (Ne.symm hb)).trans e
  exact wpAny_pure (q _ s.toks (Nat.le_refl _) (Und.list (t := s.toks) (vs := []) G U kk hx2 rfl) fun b o hb _ e => kk b o hb e)
end
section
variable {prog : Program} {w : World} {g : Gr} (G : Gr2 g) {K : Frag} (k : KIn g K) {C x dx D f : Addr} {fi : FI} {n : Nat} {σ : Loc} {me : Str} {p : Option Bool}
include G k
/-- super().__init__() -/
theorem SX1.init0 (S : SupK prog g K fi me f D) (ak : AccK K C) (ho : nsIn K cStatics "thirdparty.any" = some none) (hc : (("__class__" : Str), CV.raw (.ref D)) ∈ σ) (hself : (me, CV.raw (.ref x)) ∈ σ) (hsub : mroIn K C (.ref D) = some true)
    (hal : ks_superIn K C D "__init__" = some (some (.builtin "list.__init__"))) (hsl : fi.scope.names.lookup me = some .local ∨ fi.scope.names.lookup me = some .cell)
    {p0 p1 ap cp pos : Pos} 
    (hev : ∀ env, ∃ pl, PySem.eval (.Call (.Attribute (.Call (.Name "super" p0) [] [] p1) "__init__" ap) [] [] cp) env = (do
      let ov ← attributeBase (.Call (.Name "super" p0) [] [] p1) "__init__" env (PySem.eval (.Call (.Name "super" p0) [] [] p1) env)
      standAt ap.atName
      let (f, first) ← holding [ov] (getMethod ov "__init__" pl)
      callWith cp f first (backTo cp (starEach [] env)) []) := by intro env; exact ⟨_, rfl⟩)
    (hi : ∀ env, env.scope = fi.scope → interactive env = false := by intro env h; unfold interactive; rw [h]; rfl) (hs : ∀ env, swapsWith (.Call (.Attribute (.Call (.Name "super" p0) [] [] p1) "__init__" ap) [] [] cp) none pos.line env = pure false := by intro env; rfl)
    (hplain : ∀ env, (backTo cp (starEach [] env)).any (·.1) = false := by intro env; rfl) :
    SX1 prog w g C x dx fi (n + 1) σ p [] (.Expr (.Call (.Attribute (.Call (.Name "super" p0) [] [] p1) "__init__" ap) [] [] cp) pos) σ p [] := by
  intro A env body s Q E a F U q
  obtain ⟨pl, hpl⟩ := hev env
  refine ks_wpAt_Expr_any (ks_wpAt_MethodCall (pl := pl) ?_ hpl) (hi env F.sc) (hs env)
  obtain ⟨ws, c0, ex, rw0⟩ := U.hx
  refine super_base G k S F hc hself ex rfl (fun c h => by cases h) hsub canon_init hsl fun s₁ so y₁ hn hso => ?_
  have F₁ := F.step G.toGrOk y₁
  have U₁ := Und.step G U F.at_ y₁
  have X₁ := k.at F₁.at_
  clear rw0 ex
  obtain ⟨ws, c0, ex, rw0⟩ := U₁.hx
  obtain ⟨od, es, ep, ed, _⟩ := U₁.dict
  have I : InstAt s₁.heap x (lobj C dx ws.toArray c0) C (some od) := ⟨ex, rfl, rfl, ed⟩
  obtain ⟨cd, hcd⟩ : ∃ cd, clsIn K C = some cd := by obtain ⟨cd, h, _⟩ := ak.dict; exact ⟨cd, h⟩
  have hmro : Looks (model prog w) s₁.heap (mroOf (.ref C)) cd.mro := (looks_clsIn X₁ hcd).andThen .now
  have hal' : alongIn K "__init__" ((cd.mro.dropWhile (· != .ref D)).drop 1) = some (some (.builtin "list.__init__")) := by
    unfold ks_superIn at hal; rw [hcd] at hal; exact hal
  have y₂ : Step g s₁ { s₁ with heap := s₁.heap.push (mwObj x), toks := s₁.toks + 1 } := Step.push G.toGrOk
  have F₂ := F₁.step G.toGrOk y₂
  have U₂ := Und.step G U₁ F₁.at_ y₂
  have hmw : (s₁.heap.push (mwObj x)).get? s₁.heap.objs.size = some (mwObj x) := Heap.get?_push_size _ rfl
  have hmwT : s₁.heap.objs.size ∉ g.T := notT_new G (At.fresh G F₁.at_ (Nat.le_refl _))
  have hmwF : s₁.heap.objs.size ∉ g.F := F₁.at_.notFn (Heap.get?_none_of_le (Nat.le_refl _))
  have gm : wpAny (model prog w) A (getMethod (.ref so) "__init__" pl) (fun fx s₂ => wpAny (model prog w) A (callWith cp fx.1 fx.2 (backTo cp (starEach [] env)) []) (fun _ => Q .next) E s₂) E s₁ := by
    obtain ⟨hh, gg, d, t, os⟩ := s₁
    refine gm_init hso (looks_opaque X₁ ho) hmro rfl X₁ hal' (inst_list X₁ I ak) (ks_ne X₁ I hcd) ?_
    refine callWith_of (P := fun h => h.get? hh.objs.size = some (mwObj x)) (by rw [hplain env]; rfl) (fun h e => keeper_mw e) (evalArgs_any (hplain env) ?_)
    refine (EVs.nil : EVs prog w g fi (n + 1) σ [] []) A env _ cp _ E a F₂ fun vs s₃ y₃ r₃ => ?_
    have hm3 : s₃.heap.get? hh.objs.size = some (mwObj x) := y₃.keep _ _ hmwT hmwF hmw
    refine ⟨hm3, ?_⟩
    cases r₃
    have F₃ := F₂.step G.toGrOk y₃
    have U₃ := Und.step G U₂ F₂.at_ y₃
    refine wpAny_call (mw_call (rest := []) hm3 (cb_li0 _) ?_)
    refine fill_none (R := wants (fun _ => Q .next) E) G F₃.at_ U₃ fun h₄ t₄ ht U₄ k₄ => ?_
    obtain ⟨ws', c', ex', _⟩ := U₄.hx
    obtain ⟨od', es', ep', ed', _⟩ := U₄.dict
    have F₄ := Fm.chg G F₃ U₃ ht k₄ ⟨_, ex'⟩ ⟨_, ed'⟩
    have y₄ := (At.chg G F₃.at_ U₃ ht k₄ ⟨_, ex'⟩ ⟨_, ed'⟩).2
    exact q _ ((((y₁.trans y₂).trans y₃).w).trans (y₄.mono fun _ h => .inr h)) F₄ U₄
  exact gm
end
end Mine
end
section
open PySem PySem.W PySem.Calls PyProof.Rows Builtin
set_option maxRecDepth 100000
namespace Mine
section
variable {prog : Program} {w : World} {g : Gr} (G : Gr2 g) {C x dx : Addr} {fi : FI} {n : Nat} {σ σ' : Loc} {p : Option Bool} {l : List CV}
include G
/-- a step that changes names alone keeps the object under way -/
theorem Und.own {s s' : Shared} {env : Env} (U : Und g C x dx p l s) (F : Fm g fi env s σ) (y : WStep g (Own fi env) s s') : Und g C x dx p l s' := by
  have nx : ¬ Own fi env x := fun h => F.out _ h U.vx
  have nd : ¬ Own fi env dx := fun h => F.out _ h U.vd
  have kv := WStep.v G F.at_ y fun b o h e => by
    rcases h with rfl | ⟨z, hm, hz, hl⟩
    · obtain ⟨m, hn, hp, _⟩ := F.ns
      exact .inr (.inl (.inr ⟨m, hn, hp⟩))
    · obtain ⟨c, v, e', i⟩ := F.cells z hm hz
      rw [hl] at e'; cases e'
      exact .inr (.inl (.inl ⟨v, i⟩))
  obtain ⟨vs, c, e, r⟩ := U.hx
  refine { U with hx := ⟨vs, c, y.keep _ _ (notT_new G U.bx) (U.nf F.at_).1 nx e, r.mono kv⟩, hd := ?_ }
  have h := U.hd
  cases p with
  | none => exact y.keep _ _ (notT_new G U.bd) U.fd nd h
  | some b =>
    obtain ⟨o, es, ep, e1, r1⟩ := h
    exact ⟨o, es, ep, y.keep _ _ (notT_new G U.bd) U.fd nd e1, r1⟩
theorem SX1.of {st : Stmt} (h : EX1 prog w g fi n σ st (fun a => a = .next σ')) : SX1 prog w g C x dx fi n σ p l st σ' p l := by
  intro A env body s Q E a F U q
  refine wpAt_of_wpAny (h A env s Q E a F (fun fl s' af hf y a' o => ?_) fun x s' T fl hf => by cases hf)
  subst hf
  obtain ⟨rfl, F'⟩ := o
  exact q s' (y.mono fun _ h => .inl h) F' (Und.own G U F y)
end
end Mine
end
section
open PySem PySem.W PySem.Calls PyProof.Rows Builtin
set_option maxRecDepth 100000
namespace Mine
section
variable {prog : Program} {w : World} {g : Gr} (G : Gr2 g) {C : Addr} {n : Nat} {p : Bool} {l : List CV}
include G
theorem INI.of_body {f : Addr} {fd : FuncData} {body : List Stmt} {args : List CV} {cb : Addr → List (Str × CV)} {σ₀ : Loc} {σ : Addr → Loc} (D : Def g f fd body) (Cl : ∀ V, Closed (g.wV V) fd.scope fd.closure σ₀)
    (hb : ∀ V x s vs, At (g.wV V) s → Rps V s.heap args vs → ∃ bs, BindsTo s fd ⟨.ref x :: vs, []⟩ bs ∧ BndV V s.heap bs (cb x)) (B : ∀ x, Bnd fd.scope σ₀ (cb x) (σ x))
    (h : ∀ x dx fr, SX prog w { g with V := x :: dx :: g.V, fr := fr } C x dx (FuncData.fi fd f) n (σ x) none [] body (some p) l) (hgen : fd.scope.isGenerator = false := by rfl) : INI prog w g (n + 1) C (.ref f) args p l := by
  intro A s x dx vs R ok a U r q
  have aV : At (g.wV (x :: dx :: g.V)) s := At.under (g := g.wV (dx :: g.V)) (At.under a (notT_new G U.bd) U.bd U.hd) (notT_new G U.bx) U.bx U.hx
  obtain ⟨o, ho, hd⟩ := D.obj
  obtain ⟨bs, hbs, hv⟩ := hb _ x s vs aV r
  refine codeAny_call_function ok.room (At.fn G a ho hd) hd D.co hgen D.body (At.codeRec a D) (hbs _ _ _ _ ?_)
  rw [D.gl, D.bi]
  refine newEnv_ok (g2V G _) D.kind aV (Cl _) (B x) hv fun env s₁ x₁ F₁ _ own hfr => ?_
  have U₀ : Und (g.wV (x :: dx :: g.V)) C x dx none [] s := ⟨U.ne, U.bx, U.bd, .head _, .tail _ (.head _), U.fd, ⟨[], 0, U.hx, rfl⟩, U.hd⟩
  have U₁ := Und.step (g2V G _) U₀ aV x₁
  refine ⟨At.lim G (a.step ⟨x₁.keep, x₁.keepF, x₁.tab, x₁.gens, x₁.drawn, x₁.os, x₁.tk⟩), ks_codeAny_funcAt (h x dx (env :: g.fr) _ env _ s₁ _ _ (ok.deep env) F₁ { U₁ with fd := ?_ } fun s₂ y a₂ U₂ => ?_)⟩
  · show dx ∉ List.filterMap (·.frame) (env :: g.fr)
    rw [List.filterMap_cons, hfr]
    intro hm
    rcases List.mem_cons.mp hm with e | e
    · exact F₁.out _ (.inl rfl) (e ▸ (.tail _ (.head _) : dx ∈ x :: dx :: g.V))
    · exact U.fd e
  · obtain ⟨vs₂, c₂, e₂, r₂⟩ := U₂.hx
    obtain ⟨od, es, ep, d1, d2⟩ : s₂.heap.Ns dx _ := U₂.hd
    have yy : WStep (g.wV (x :: dx :: g.V)) (fun b => b = x ∨ b = dx) s s₂ := (Step.w x₁).back (WStep.pop (g := g.wV (x :: dx :: g.V)) hfr y) fun b o e hb => by
      rcases hb with (hb | hb) | hb
      · rw [own b hb] at e; cases e
      · exact hb
      · rw [own b (.inl hb)] at e; cases e
    refine q s₂ ⟨yy.keep, yy.keepF, yy.frs, yy.tab, yy.gens, yy.drawn, yy.os, yy.tk⟩ ⟨x, dx, vs₂, c₂, _, rfl, U.vx, U.vd, e₂, ⟨od, es, ep, d1, d2⟩, fun y => rfl, ?_⟩
    exact r₂.less fun b hb => .tail _ (.tail _ hb)
end
end Mine
end
section
open PySem PySem.W PySem.Calls PyProof.Rows Builtin
set_option maxRecDepth 100000
namespace Mine

/-- the ground as it stands now, without what is under way -/
abbrev Gr.base (g : Gr) (h : Heap) : Gr := { g with hB := hideAll h (g.V ++ g.F) }
section
variable {g : Gr} (G : Gr2 g) {s : Shared}
include G
theorem base_get (a : At g s) {b : Addr} {o : Obj} (e : g.hB.get? b = some o) (nT : b ∉ g.T) : (g.base s.heap).hB.get? b = some o :=
  hideAll_get _ (a.keep b o nT e) fun h => (List.mem_append.mp h).elim (fun hV => by rw [(a.vol b hV).1.2] at e; cases e) fun hF => a.notFB e hF
theorem gr_base (a : At g s) (hT : g.TabOk (hideAll s.heap (g.V ++ g.F))) : Gr2 (g.base s.heap) where
  glob := by obtain ⟨o, es, ep, e, r⟩ := G.glob; exact ⟨o, es, ep, base_get G a e G.gT, r⟩
  blt := by obtain ⟨o, es, ep, e, r⟩ := G.blt; exact ⟨o, es, ep, base_get G a e G.bT, r⟩
  gT := G.gT
  bT := G.bT
  lim := by
    obtain ⟨m, ⟨o, es, ep, e, r⟩, hm⟩ := G.lim
    exact ⟨m, ⟨o, es, ep, base_get G a e G.limT, r⟩, hm⟩
  limT := G.limT
  tabF := G.tabF
  tabK := G.tabK
  tB := fun b hb => by
    obtain ⟨o, vs, e, d, _⟩ := G.tabF s.heap b hb a.tab
    refine ⟨o, hideAll_get _ e fun h => (List.mem_append.mp h).elim (fun hV => (a.vol b hV).1.1 hb) fun hF => a.notF e (fun _ _ q => by rw [d] at q; cases q) hF⟩
  tab0 := hT
omit G in
theorem at_base (a : At g s) : At (g.base s.heap) s := ⟨fun b o _ e => of_hideAll _ e, a.tab, fun b hb => ⟨⟨(a.vol b hb).1.1, hideAll_none _ (List.mem_append_left _ hb)⟩, (a.vol b hb).2⟩, a.pos, fun e he => by
  obtain ⟨kk, L, hL, _, f⟩ := a.frs e he
  exact ⟨kk, L, hL, hideAll_none _ (List.mem_append_right _ (List.mem_filterMap.mpr ⟨e, he, hL⟩)), f⟩, a.hdv⟩
omit G in
theorem Step.unbase {h : Heap} {s s' : Shared} (x : Step (g.base h) s s') : Step g s s' := ⟨x.keep, x.keepF, x.tab, x.gens, x.drawn, x.os, x.tk⟩
end
end Mine
end
section
open PySem PySem.W PySem.Calls PyProof.Rows Builtin
set_option maxRecDepth 100000
namespace Mine

/-- a lambda, as it stands in the ground -/
structure DefE (g : Gr) (f : Addr) (fd : FuncData) (body : Expr) : Prop where
  obj : ∃ o, g.hB.get? f = some o ∧ o.data = .func fd
  code : ∃ c oc vs tq, fd.code = .ref c ∧ c ∉ g.T ∧ g.hB.get? c = some oc ∧ oc.data = .fields vs ∧ vs[1]? = some (.str fd.qualname tq)
  body : fd.body = .expr body
  gl : fd.globals = mainGlobals
  bi : fd.builtins = builtinsNs
  co : fd.scope.isCoroutine = false
  kind : fd.scope.kind = .function
section
variable {prog : Program} {w : World} {g : Gr} (G : Gr2 g)
include G
theorem FN.of_expr {n : Nat} {f : Addr} {fd : FuncData} {body : Expr} {args : List CV} {cb : List (Str × CV)} {σ₀ σ : Loc} {c : CV}
    (D : DefE g f fd body) (C : (∃ s, At g s) → Closed g fd.scope fd.closure σ₀)
    (hb : ∀ s vs, At g s → Rps g.V s.heap args vs → ∃ bs, BindsTo s fd ⟨vs, []⟩ bs ∧ BndV g.V s.heap bs cb) (B : Bnd fd.scope σ₀ cb σ)
    (h : ∀ l, EV prog w { g with fr := l } (FuncData.fi fd f) n σ body c) (hgen : fd.scope.isGenerator = false) : FN prog w g (n + 1) (.ref f) args c := by
  intro A s vs R ok a r q
  obtain ⟨o, ho, hd⟩ := D.obj
  obtain ⟨bs, hbs, hv⟩ := hb s vs a r
  have crec : s.heap.CodeRec fd.code fd.qualname := by
    obtain ⟨c, oc, vs, tq, h1, h2, h3, h4, h5⟩ := D.code
    exact ⟨c, oc, vs, tq, h1, a.keep c oc h2 h3, h4, h5⟩
  refine kla_callFunE ok.room (At.fn G a ho hd) hd D.co hgen D.body crec (hbs _ _ _ _ ?_)
  rw [D.gl, D.bi]
  refine newEnv_ok G D.kind a (C ⟨_, a⟩) B hv fun env s₁ x₁ F₁ _ own hfr => ?_
  refine ⟨At.lim G (a.step x₁), kla_codeExpr (h (env :: g.fr) _ env s₁ _ _ (ok.deep env) F₁ fun v s₂ x₂ rv => ?_)⟩
  have x₃ : Step g s s₂ := ((Step.w (X := fun _ => False) x₁).back (WStep.pop hfr (x₂.w (X := fun _ => False))) fun b o e hb => by
    rcases hb with hb | hb
    · exact hb
    · rw [own b (.inl hb)] at e; cases e).step fun _ _ _ => id
  exact q v s₂ x₃ rv
end
end Mine
end
section
open PySem PySem.W PySem.Calls PyProof.Rows Builtin
set_option maxRecDepth 100000
namespace Mine

/-- a table of code that grows by a lambda -/
structure LamTab (g : Gr) (pos : Pos) (qual : Str) (c P : Addr) : Prop where
  hd : CodeHd g.hB c P
  cT : c ∉ g.T
  pT : P ∈ g.T
  now : ∀ h, g.TabOk h → ∃ ps, h.get? P = some (tabObj ps) ∧ TriplesOk ps.toList ∧ (codeAmong pos ps.toList = none ∨ ∃ c', codeAmong pos ps.toList = some (.ref c') ∧ c' ∉ g.T ∧ h.CodeRec (.ref c') qual)
  grow : ∀ h h' ps c', g.TabOk h → h.get? P = some (tabObj ps) → Heap.ExtBut P h h' → h.objs.size ≤ c' → h'.CodeRec (.ref c') qual → h'.get? P = some (tabObj (ps ++ #[rawInt pos.line, rawInt pos.col, .ref c'])) → g.TabOk h'
/-- the module of the builtins -/
def BMod (g : Gr) : Prop := ∃ bm o, g.mg "__builtins__" = some (.ref bm) ∧ bm ≠ builtinsNs ∧ bm ≠ mainGlobals ∧ bm ∉ g.T ∧ g.hB.get? bm = some o ∧ o.cls = .type "module" ∧ o.dict = some builtinsNs ∧ o.data = .plain
section
variable {g : Gr} (G : Gr2 g) {fi : FI} {σ : Loc} {M : Model} {A : Around} {E : Value → Shared → Prop} {s : Shared} {env : Env} {Q : Value → Shared → Prop}
include G
theorem lam_eval {params : Arguments} {body : Expr} {scope : Scope} {pos : Pos} {c P : Addr} {clos : List (Str × Addr)} (T : LamTab g pos (fi.qual ++ "<lambda>") c P) (bm : BMod g) (F : Fm g fi env s σ) (hcode : fi.code = .ref c)
    (hdef : defaultsOf params env = ([], [])) (hcl : closureFor scope env = pure clos)
    (q : ∀ f c' ctv s', Step g s s' → s.heap.get? f = none → s'.heap.get? f = some (kla_obj "<lambda>" (fi.qual ++ "<lambda>") params body scope clos ((g.mg "__name__").getD .none) c' ctv) → c' ∉ g.T → s'.heap.CodeRec (.ref c') (fi.qual ++ "<lambda>") → Q (.ref f) s') :
    wpAny M A (eval (.Lambda params body scope pos) env) Q E s := by
  have a := F.at_
  refine wpAny_toks ?_
  refine kla_eval hdef ?_
  rw [F.ql]
  obtain ⟨ps, hP, ht, hc⟩ := T.now _ a.tab
  have C : CodeHd s.heap c P := by
    obtain ⟨o, vs, file, tf, flags, tg, inF, text, tt, e, r⟩ := T.hd
    exact ⟨o, vs, file, tf, flags, tg, inF, text, tt, a.keep _ _ T.cT e, r⟩
  have hbm : s.heap.BuiltinsAt g.mg P := by
    obtain ⟨bm, o, h1, h2, h3, h4, h5, r⟩ := bm
    exact ⟨bm, o, h1, h2, h3, fun e => h4 (e ▸ T.pT), a.keep _ _ h4 h5, r⟩
  have gP : mainGlobals ≠ P := fun e => G.gT (e ▸ T.pT)
  rcases hc with hn | ⟨c', hc', nT, hr⟩
  · refine kla_makeFunction (mg := g.mg) hcl F.gl (a.glob G.toGrOk) (F.cd.trans hcode) C hP ht hn gP hbm fun c' ctv h' tk hx hge hlt hrec htb => ?_
    have nT : c' ∉ g.T := fun h => by
      obtain ⟨o, vs, e, _⟩ := G.tabF _ _ h a.tab
      exact absurd (Heap.lt_size e) (Nat.not_lt_of_le hge)
    intro htk
    have up : ∀ b o, h'.get? b = some o → (h'.push (kla_obj "<lambda>" (fi.qual ++ "<lambda>") params body scope clos ((g.mg "__name__").getD .none) c' ctv)).get? b = some o := fun b o e => Heap.get?_push_of_some _ e
    have nf : s.heap.get? h'.objs.size = none := Heap.get?_none_of_le (Nat.le_of_lt (Nat.lt_of_le_of_lt hge hlt))
    have hrec' : (h'.push (kla_obj "<lambda>" (fi.qual ++ "<lambda>") params body scope clos ((g.mg "__name__").getD .none) c' ctv)).CodeRec (.ref c') (fi.qual ++ "<lambda>") := by
      obtain ⟨c₂, oc, vs, t, e2, hoc, r⟩ := hrec
      exact ⟨c₂, oc, vs, t, e2, up _ _ hoc, r⟩
    refine q _ c' ctv _ ⟨fun b o nT' nF e => up b o (hx b o (fun q => nT' (q ▸ T.pT)) e), fun b o hF e => ⟨o.slots, up b o (hx b o (fun q => ?_) e)⟩, fun ht => T.grow s.heap _ ps c' ht hP (fun b o nb e => up b o (hx b o nb e)) hge hrec' (up _ _ htb), ⟨#[], by simp, AllBare.empty⟩, rfl, rfl, ?_⟩ nf (Heap.get?_push_size _ rfl) nT hrec'
    · subst q
      exact a.notF hP (fun _ _ h => by cases h) hF
    · exact htk
  · refine kla_makeFunctionHit (mg := g.mg) hcl F.gl (a.glob G.toGrOk) (F.cd.trans hcode) C hP ht hc' hbm fun ctv h' tk hk hsz => ?_
    intro htk
    have up : ∀ b o, s.heap.get? b = some o → (h'.push (kla_obj "<lambda>" (fi.qual ++ "<lambda>") params body scope clos ((g.mg "__name__").getD .none) c' ctv)).get? b = some o := fun b o e => Heap.get?_push_of_some _ (hk b o e)
    refine q _ c' ctv _ (Step.grow G.toGrOk up htk) (Heap.get?_none_of_le hsz) (Heap.get?_push_size _ rfl) nT ?_
    obtain ⟨c₂, oc, vs, t, e2, hoc, r⟩ := hr
    exact ⟨c₂, oc, vs, t, e2, up _ _ hoc, r⟩
end
end Mine
end
section
open PySem PySem.W PySem.Calls PyProof.Rows Builtin
set_option maxRecDepth 100000
namespace Mine

/-- a later ground: what stood stands -/
structure Ext (g g₂ : Gr) : Prop where
  G : Gr2 g₂
  mg : g₂.mg = g.mg
  mb : g₂.mb = g.mb
  T : g₂.T = g.T
  tab : g₂.TabOk = g.TabOk
  keep : ∀ b o, b ∉ g.T → g.hB.get? b = some o → g₂.hB.get? b = some o
  p0 : g₂.p0 = g.p0

mutual
theorem Rp.avoidD {V : List Addr} {h : Heap} {b : Addr} (hb : ∀ c vs m, h.get? b ≠ some (seqObj c vs m)) : ∀ {c : CV} {v : Value}, c.isDat = true → Rp V h c v → Rp (b :: V) h c v
  | .none, _, _, e => e
  | .bool _, _, _, e => e
  | .int _, _, _, e => e
  | .str _, _, _, e => e
  | .raw _, _, d, _ => by cases d
  | .tup l, _, d, ⟨a, vs, n, e, nv, o, r⟩ => ⟨a, vs, n, e, fun q => (List.mem_cons.mp q).elim (fun q => hb _ _ _ (q ▸ o)) nv, o, Rps.avoidD hb (by simpa [CV.isDat] using d) r⟩
  | .lst l, _, d, ⟨a, vs, n, e, nv, o, r⟩ => ⟨a, vs, n, e, fun q => (List.mem_cons.mp q).elim (fun q => hb _ _ _ (q ▸ o)) nv, o, Rps.avoidD hb (by simpa [CV.isDat] using d) r⟩
  | .acc _ _ _, _, d, _ => by cases d
  | .rng _, _, d, _ => by cases d
theorem Rps.avoidD {V : List Addr} {h : Heap} {b : Addr} (hb : ∀ c vs m, h.get? b ≠ some (seqObj c vs m)) : ∀ {cs : List CV} {vs : List Value}, CV.areDat cs = true → Rps V h cs vs → Rps (b :: V) h cs vs
  | [], _, _, e => e
  | _ :: _, _, d, ⟨v, us, e, r, rs⟩ => by
    simp only [CV.areDat, Bool.and_eq_true] at d
    exact ⟨v, us, e, Rp.avoidD hb d.1 r, Rps.avoidD hb d.2 rs⟩
end
theorem areDat_iff {l : List CV} : CV.areDat l = true ↔ ∀ c ∈ l, c.isDat = true := by
  induction l with
  | nil => simp [CV.areDat]
  | cons c l ih => simp [CV.areDat, ih]
theorem getD_dat {l : List CV} (h : ∀ c ∈ l, c.isDat = true) (i : Nat) : (l.getD i .none).isDat = true := by
  rcases Nat.lt_or_ge i l.length with hi | hi
  · exact h _ (mem_getD hi)
  · rw [List.getD_eq_getElem?_getD, List.getElem?_eq_none hi]; rfl
theorem katRev_mem {α : Type} {b : Bool} {l : List α} {x : α} (h : x ∈ katRev b l) : x ∈ l := rev_mem h
theorem sortedC_dat {b : Bool} {lt : CV → CV → Bool} {keys cs : List CV} (h : ∀ c ∈ cs, c.isDat = true) : (CV.lst (sortedC b lt keys cs)).isDat = true := by
  show CV.areDat _ = true
  rw [areDat_iff]
  intro c hc
  have h1 := katRev_mem hc
  obtain ⟨i, _, rfl⟩ := List.mem_map.mp h1
  exact getD_dat (fun c hc => h c (katRev_mem hc)) i

/-- fewer lists under way -/
theorem At.fewer {g : Gr} {s : Shared} (a : At g s) {V : List Addr} (hs : ∀ b ∈ V, b ∈ g.V) (hh : ∀ e, g.hd = some e → e ∈ V) : At (g.wV V) s :=
  ⟨a.keep, a.tab, fun b hb => a.vol b (hs b hb), a.pos, a.frs, fun e he => ⟨hh e he, (a.hdv e he).2⟩⟩

section
variable {prog : Program} {w : World} {g : Gr} (G : Gr2 g) {C x dx : Addr} {fi : FI} {n : Nat} {σ σ' : Loc}
include G

/-- the later ground in which an object under way is an object like others -/
theorem under_ext {s : Shared} (a : At g s) (V : List Addr) (hV : V = g.hd.toList) : Ext g ((g.wV V).base s.heap) ∧ At ((g.wV V).base s.heap) s := by
  have hs : ∀ b ∈ V, b ∈ g.V := fun b hb => by
    subst hV
    cases hd : g.hd with
    | none => rw [hd] at hb; cases hb
    | some e =>
      rw [hd] at hb
      rcases List.mem_cons.mp hb with rfl | h
      · exact (a.hdv _ hd).1
      · cases h
  have a' := At.fewer a hs fun e he => by subst hV; rw [he]; exact .head _
  refine ⟨⟨gr_base (g2V G V) a' ?_, rfl, rfl, rfl, rfl, fun b o nT e => base_get (g2V G V) a' e nT, rfl⟩, at_base a'⟩
  refine G.tabK _ _ (fun b o e hk => ?_) a.tab
  obtain ⟨vs, hf⟩ := hk.fields
  refine hideAll_get _ e fun h => ?_
  rcases List.mem_append.mp h with h | h
  · subst hV
    cases hd : g.hd with
    | none => have h' : b ∈ g.hd.toList := h; rw [hd] at h'; cases h'
    | some y =>
      have h' : b ∈ g.hd.toList := h
      rw [hd] at h'
      rcases List.mem_cons.mp h' with rfl | h'
      · obtain ⟨_, o', vs', e', d', v2, h1, h2, h3⟩ := a.hdv _ hd
        rw [e] at e'; cases e'
        exact not_held d' h3 h2 hk
      · cases h'
  · exact a.notF e (fun _ _ q => by rw [hf] at q; cases q) h

theorem FN.lam {n : Nat} {f c' : Addr} {ctv pm : Value} {lscope : Scope} {qual : Str} {params : Arguments} {body : Expr} {cl : List (Str × Addr)} {xn me : Str} {arg self : CV} {r : CV} (hB : g.hB.get? f = some (kla_obj "<lambda>" qual params body lscope cl pm c' ctv))
    (hc : ∃ oc vs tq, c' ∉ g.T ∧ g.hB.get? c' = some oc ∧ oc.data = .fields vs ∧ vs[1]? = some (.str qual tq))
    (hsc : lscope.names = [(xn, .local), (me, .free)]) (hne : (me == xn) = false) (hnx : xn ≠ ("provided" : Str)) (hk : lscope.kind = .function) (hco : lscope.isCoroutine = false) (hgen : lscope.isGenerator = false)
    (hbind : ∀ fd : FuncData, fd.params = params → fd.defaults = .none → ∀ v, bindArgs fd ⟨[v], []⟩ = pure [(xn, v)])
    (C : (∃ s, At g s) → Closed g lscope cl [(me, self)])
    (h : ∀ l, EV prog w { g with fr := l } ⟨lscope, qual ++ ".<locals>.", some f, .ref c', true⟩ n [(xn, arg), (me, self)] body r) : FN prog w g (n + 1) (.ref f) [arg] r := by
  obtain ⟨oc, vs, tq, h1, h2, h3, h4⟩ := hc
  have hxm : me ≠ xn := fun q => by rw [q] at hne; simp at hne
  have hlx : lscope.names.lookup xn = some .local := by rw [hsc]; simp [List.lookup]
  refine FN.of_expr (fd := kla_fn "<lambda>" qual params body lscope cl pm (.ref c') ctv) (σ₀ := [(me, self)]) (cb := [(xn, arg)]) G ⟨⟨_, hB, rfl⟩, ⟨c', oc, vs, tq, rfl, h1, h2, h3, h4⟩, rfl, rfl, rfl, hco, hk⟩ C (fun s vs a rv => ?_) (.cons (.keep hxm .nil) (.inl hlx) hnx .nil) h hgen
  obtain ⟨v, _, rfl, rv, rfl⟩ := rv
  exact ⟨[(xn, v)], BindsTo.of_eq (hbind _ rfl rfl v), .cons rv .nil⟩

/-- `values = sorted(values, key=lambda x: …, reverse=True)` in an __init__ -/
theorem SX1.sortKey {c P : Addr} {np vp cpos kp rp lpos pos : Pos} {kk : Nat} {cp : Pos} {ve body : Expr} {vn xn me : Str} {params : Arguments} {lscope : Scope} {cs : List CV} {kf : CV → CV} {κ : SortKind} {lt : CV → CV → Bool}
    (T : LamTab g lpos (fi.qual ++ "<lambda>") c P) (bm : BMod g) (hcode : fi.code = .ref c) (hV : g.V = x :: dx :: g.hd.toList)
    (hso : EV prog w g fi (n + 3) σ (.Name "sorted" np) (.raw (.builtin "sorted"))) (hval : EVs prog w g fi (n + 3) σ [ve] [.lst cs]) (hself : (me, CV.raw (.ref x)) ∈ σ) (hcell : fi.scope.names.lookup me = some .cell)
    (hsc : lscope.names = [(xn, .local), (me, .free)]) (hne : (me == xn) = false) (hnx : xn ≠ ("provided" : Str)) (hk : lscope.kind = .function) (hco : lscope.isCoroutine = false) (hgen : lscope.isGenerator = false)
    (hbind : ∀ fd : FuncData, fd.params = params → fd.defaults = .none → ∀ v, bindArgs fd ⟨[v], []⟩ = pure [(xn, v)]) (hdef : ∀ env, defaultsOf params env = ([], []))
    (hdat : ∀ c ∈ cs, c.isDat = true) (h5 : cs.length ≤ 5)
    (hkey : ∀ g₂, Ext g g₂ → g₂.hd = g.hd → ∀ f cd, ∀ c ∈ cs, EV prog w g₂ ⟨lscope, (fi.qual ++ "<lambda>") ++ ".<locals>.", some f, cd, true⟩ n [(xn, c), (me, .acc C true [])] body (kf c))
    (O : ∀ V, KeyOrd prog w V (cs.map kf) κ lt)
    (d : Del vn σ σ') (hvn : fi.scope.names.lookup vn = some .local) (hnp : vn ≠ ("provided" : Str))
    (hse : ∀ env, starEach [ve] env = [(false, eval ve env)] := by intro env; rfl)
    (hs : ∀ env, swapsWith (.Call (.Name "sorted" np) [ve] [⟨some "key", .Lambda params body lscope lpos, kp⟩, ⟨some "reverse", .Constant (.bool true) kk cp, rp⟩] cpos) (some (.Name vn vp)) pos.line env = pure false := by intro env; rfl) :
    SX1 prog w g C x dx fi (n + 3) σ (some true) [] (.Assign [.Name vn vp] (.Call (.Name "sorted" np) [ve] [⟨some "key", .Lambda params body lscope lpos, kp⟩, ⟨some "reverse", .Constant (.bool true) kk cp, rp⟩] cpos) pos)
      ((vn, .lst (sortedC true lt (cs.map kf) cs)) :: σ') (some true) [] := by
  intro A env bd s Q E a F U q
  refine wpAt_of_wpAny (wpAny_Assign_Name ?_ (hs env))
  refine wpAny_Call_ofName (hso A env s _ E a F fun v s₁ y₁ r₁ => ?_)
  cases r₁
  have F₁ := F.step G.toGrOk y₁
  have U₁ := Und.step G U F.at_ y₁
  refine callWith_kw ?_ (by rw [hse env]; rfl) (by rw [hse env]; rfl) rfl rfl
  refine hval A env s₁ cpos _ E a F₁ fun vs s₂ y₂ r₂ => ?_
  obtain ⟨v, _, rfl, r₂, rfl⟩ := r₂
  have F₂ := F₁.step G.toGrOk y₂
  have U₂ := Und.step G U₁ F₁.at_ y₂
  -- the lambda
  obtain ⟨m, hn, hp, hh⟩ := F₂.ns
  obtain ⟨sv, rsv, hsv⟩ := hh _ hself
  cases rsv
  obtain ⟨cc, hcc, hci⟩ : ∃ cc, env.cells.lookup me = some cc ∧ s₂.heap.IsCell cc (some (.ref x)) := by
    rcases hsv with ⟨h1, _⟩ | ⟨_, c, h2, h3⟩
    · rw [hcell] at h1; cases h1
    · exact ⟨c, h2, h3⟩
  have hclos : closureFor lscope env = pure [(me, cc)] := by
    rw [closureFor_go (fun y hy => ?_), hsc]
    · simp [closGo, hcc]
    · rw [hsc] at hy
      simp at hy
      exact ⟨cc, by rw [hy]; exact hcc⟩
  refine kws_cons (lam_eval G T bm F₂ hcode (hdef env) hclos fun f c' ctv s₃ y₃ hf0 hf hcT hrec => ?_)
  refine kws_cons (wpAny_Constant_bool ?_)
  refine kws_nil ?_
  have F₃ := F₂.step G.toGrOk y₃
  have U₃ := Und.step G U₂ F₂.at_ y₃
  have r₃ := Rp.step G.toGrOk F₂.at_ y₃ r₂
  have hci₃ := isCell_keeps G.toGrOk F₂.at_ y₃ hci
  show wpAny (model prog w) A (PySem.call (.builtin "sorted") [v] [(Str.ofString "key", .ref f), (Str.ofString "reverse", .bool true)]) _ E s₃
  obtain ⟨X, a₃⟩ := under_ext G F₃.at_ g.hd.toList rfl
  generalize hg₂ : (g.wV g.hd.toList).base s₃.heap = g₂ at X a₃
  have hB : ∀ b o, s₃.heap.get? b = some o → b ∉ g.hd.toList ++ g.F → g₂.hB.get? b = some o := fun b o e hb => by subst hg₂; exact hideAll_get _ e hb
  have nhd : ∀ b o, s₃.heap.get? b = some o → (∀ vs, o.data = .fields vs → ∃ q t, vs[1]? = some (.str q t)) → b ∉ g.hd.toList := fun b o e hf h => by
    cases hd : g.hd with
    | none => rw [hd] at h; cases h
    | some y =>
      rw [hd] at h
      rcases List.mem_cons.mp h with rfl | h
      · obtain ⟨_, o', vs', e', d', v2, h1, h2, h3⟩ := F₃.at_.hdv _ hd
        rw [e] at e'; cases e'
        obtain ⟨q, t, h4⟩ := hf _ d'
        exact h3 q t h4
      · cases h
  have hB' : ∀ b o, s₃.heap.get? b = some o → (∀ vs, o.data = .fields vs → ∃ q t, vs[1]? = some (.str q t)) → b ∉ g.F → g₂.hB.get? b = some o := fun b o e h hF => hB b o e fun q => (List.mem_append.mp q).elim (nhd b o e h) hF
  obtain ⟨ws, c0, ex, rw0⟩ := U₃.hx
  obtain rfl : ws = [] := rw0
  obtain ⟨od, es, ep, ed, dd, dr⟩ : s₃.heap.Ns dx _ := U₃.hd
  obtain ⟨nFx, nFd⟩ := U₃.nf F₃.at_
  have exB := hB' x _ ex (fun vs h => by cases h) nFx
  have edB := hB' dx _ ed (fun vs h => by rw [dd] at h; cases h) nFd
  obtain ⟨oc, eoc, doc⟩ := hci₃
  have eocB := hB' cc _ eoc (fun vs h => by rw [doc] at h; cases h) (F₃.at_.notF eoc fun _ _ h => by rw [doc] at h; cases h)
  have hfF : f ∉ g.F := F₃.at_.notF hf fun _ _ h => by cases h
  have hfB := hB' f _ hf (fun vs h => by cases h) hfF
  obtain ⟨c₂, ok, vk, tq, e2, eok, dok, vok⟩ := hrec
  cases e2
  have hcB := hB' c' _ eok (fun vs h => by rw [dok] at h; cases h; exact ⟨_, _, vok⟩) (F₃.at_.notF eok fun _ _ h => by rw [dok] at h; cases h)
  have g2V' : ∀ V, Ext g (g₂.wV V) := fun V => ⟨g2V X.G V, X.mg, X.mb, X.T, X.tab, X.keep, X.p0⟩
  have lamFN : ∀ V, ∀ c ∈ cs, FN prog w (g₂.wV V) (n + 1) (.ref f) [c] (kf c) := fun V c hc => by
    refine FN.lam (g := g₂.wV V) (g2V X.G V) hfB ⟨ok, vk, tq, by show c' ∉ g₂.T; rw [X.T]; exact hcT, hcB, dok, vok⟩ hsc hne hnx hk hco hgen hbind ?_ fun l => hkey { g₂ with V := V, fr := l } ⟨g2F (g2V X.G V) l, X.mg, X.mb, X.T, X.tab, X.keep, X.p0⟩ (by subst hg₂; rfl) f (.ref c') c hc
    rintro ⟨s', a'⟩
    have nv : ∀ b o, g₂.hB.get? b = some o → b ∉ V := fun b o e h => by
      have h1 := (a'.vol b h).1.2
      have h1' : g₂.hB.get? b = none := h1
      rw [e] at h1'; cases h1'
    refine ⟨List.pairwise_singleton _ _, fun p hp => ?_, fun y hy z hm => ?_, fun p hp => ?_⟩
    · rcases List.mem_cons.mp hp with rfl | hp
      · exact ⟨_, oc, eocB, doc⟩
      · cases hp
    · rcases List.mem_cons.mp hm with e | hm
      · cases e
        rw [hsc] at hy
        simp [List.lookup, hne] at hy
      · cases hm
    · rcases List.mem_cons.mp hp with rfl | hp
      · refine ⟨by rw [hsc]; simp [List.lookup, hne], cc, .ref x, fun k => ?_, ⟨oc, eocB, doc⟩, ?_⟩
        · rw [hsc]
          simp [cellsFrom]
        · exact ⟨x, dx, [], c0, _, rfl, nv _ _ exB, nv _ _ edB, exB, ⟨od, es, ep, edB, dd, dr⟩, fun y => rfl, rfl⟩
      · cases hp
  have a3 : OkA g₂.fr g₂.hd A (n + 1 + 2) := by subst hg₂; exact a
  have rr : Rp g₂.V s₃.heap (.lst cs) v := by
    subst hg₂
    refine Rp.less (fun b hb => ?_) r₃
    rw [hV]; exact .tail _ (.tail _ hb)
  refine sorted_keyed X.G h5 (fun V c hc => (lamFN V c hc).w) O a3 a₃ rr fun v' s₄ y₄ r₄ => ?_
  have y₄' : Step g s₃ s₄ := by subst hg₂; exact ⟨y₄.keep, y₄.keepF, y₄.tab, y₄.gens, y₄.drawn, y₄.os, y₄.tk⟩
  have F₄ := F₃.step G.toGrOk y₄'
  have U₄ := Und.step G U₃ F₃.at_ y₄'
  have r₄' : Rp g.V s₄.heap (.lst (sortedC true lt (cs.map kf) cs)) v' := by
    have dt := sortedC_dat (b := true) (lt := lt) (keys := cs.map kf) hdat
    obtain ⟨ws, c0, ex, _⟩ := U₄.hx
    obtain ⟨od, es, ep, ed, dd, dr⟩ : s₄.heap.Ns dx _ := U₄.hd
    have hv2 : g₂.V = g.hd.toList := by subst hg₂; rfl
    rw [hv2] at r₄
    rw [hV]
    refine Rp.avoidD (fun _ _ _ e => ?_) dt (Rp.avoidD (fun _ _ _ e => ?_) dt r₄)
    · rw [ex] at e; cases e
    · rw [ed] at e; cases e; cases dd
  exact store_ok G F₄ r₄' d (.inl hvn) hnp fun s₅ y₅ F₅ => q s₅ ((((y₁.trans y₂).trans (y₃.trans y₄')).w).trans (y₅.mono fun _ h => .inl h)) F₅ (Und.own G U₄ F₄ y₅)
end
end Mine
end
section
open PySem PySem.W PySem.Calls PyProof.Rows Builtin
set_option maxRecDepth 100000
namespace Mine

/-- keys of a sort: a tuple of bools and an int -/
abbrev keyC (k : List Bool × Int) : CV := .tup [.tup (k.1.map .bool), .int k.2]
def fB (op : CmpOp) : CV → CV → Bool
  | .bool a, .bool b => ordI op (if a then 1 else 0) (if b then 1 else 0)
  | _, _ => false
def ltK : CV → CV → Bool
  | .tup [.tup a, .int q], .tup [.tup b, .int r] => if (CV.tup a).eqv (.tup b) then (if (CV.int q).eqv (.int r) then false else ordI .Lt q r) else lexC .Lt CV.eqv (fB .Lt) a b
  | _, _ => false
theorem bools_dat (l : List Bool) : (CV.tup (l.map .bool)).isDat = true := by
  show CV.areDat _ = true
  rw [areDat_iff]
  intro c hc
  obtain ⟨b, _, rfl⟩ := List.mem_map.mp hc
  rfl
theorem bool_depth (b : Bool) : (CV.bool b).dat.depth ≤ 1 := by cases b <;> decide
theorem bools_depth (l : List Bool) : (CV.tup (l.map .bool)).dat.depth ≤ 5 := by
  have h : ∀ l : List Bool, PyData.depthAll (CV.dats (l.map .bool)) ≤ 2 := by
    intro l
    induction l with
    | nil => simp [CV.dats, PyData.depthAll]
    | cons b l ih => simp only [List.map_cons, CV.dats, PyData.depthAll]; have := bool_depth b; omega
  have := h l
  simp only [CV.dat, PyData.depth]; omega
theorem EQ.le {V : List Addr} {k m : Nat} {x y : CV} {b : Bool} (h : EQ V k x y b) (l : k ≤ m) : EQ V m x y b := fun prog w A s u v Q E hu => h prog w A s u v Q E (by omega)
theorem RC.le {V : List Addr} {k m : Nat} {op : CmpOp} {x y : CV} {b : Bool} (h : RC V k op x y b) (l : k ≤ m) : RC V m op x y b := fun prog w A s u v Q E hu => h prog w A s u v Q E (by omega)
theorem rc_bools {V : List Addr} {op : CmpOp} (hop : IsOrd op) (a b : List Bool) : RC V 10 op (.tup (a.map .bool)) (.tup (b.map .bool)) (lexC op CV.eqv (fB op) (a.map .bool) (b.map .bool)) := by
  refine (RC.tup (k := 8) hop (fun x hx y hy => ?_) fun x hx y hy _ => ?_)
  · obtain ⟨p, _, rfl⟩ := List.mem_map.mp hx
    obtain ⟨q, _, rfl⟩ := List.mem_map.mp hy
    exact EQ.dat rfl rfl (Nat.le_trans (bool_depth p) (by decide))
  · obtain ⟨p, _, rfl⟩ := List.mem_map.mp hx
    obtain ⟨q, _, rfl⟩ := List.mem_map.mp hy
    exact RC.bool hop

section
variable {prog : Program} {w : World}
theorem key_tups {V : List Addr} {h : Heap} : ∀ (keys : List (List Bool × Int)) (kvs : List Value), Rps V h (keys.map keyC) kvs → ∃ fs, KatTups h kvs fs ∧ fs.length = keys.length ∧ ∀ v ∈ fs, ∃ a vs n, v = .ref a ∧ h.get? a = some (seqObj "tuple" (List.toArray vs) n)
  | [], _, r => by cases r; exact ⟨[], .nil, rfl, fun _ h => nomatch h⟩
  | k :: ks, _, r => by
    obtain ⟨v, us, rfl, ⟨a, vs, n, rfl, _, o, rv⟩, rs⟩ := r
    obtain ⟨fs, t, hl, hf⟩ := key_tups (V := V) ks us rs
    obtain ⟨b, r1, rfl, ⟨a1, vs1, n1, rfl, _, o1, _⟩, _⟩ := rv
    refine ⟨.ref a1 :: fs, .cons o rfl rfl rfl t, by simp [hl], fun v hv => ?_⟩
    rcases List.mem_cons.mp hv with rfl | hv
    · exact ⟨a1, vs1, n1, rfl, o1⟩
    · exact hf v hv
theorem keys_ord {V : List Addr} {keys : List (List Bool × Int)} : KeyOrd prog w V (keys.map keyC) (tuples' false) ltK := by
  constructor
  · intro A s kvs Q E h2 _ r q
    obtain ⟨fs, t, hl, hf⟩ := key_tups keys kvs r
    rw [List.length_map] at h2
    refine kat_kind (T := .type "tuple") t (by omega) (fun v hv => ?_) (by decide) q
    obtain ⟨a, vs, n, rfl, o⟩ := hf v hv
    exact (Looks.ld o).andThen .now
  · intro x hx y hy A s u v Q E hu rx ry q
    obtain ⟨⟨a, i⟩, _, rfl⟩ := List.mem_map.mp hx
    obtain ⟨⟨b, j⟩, _, rfl⟩ := List.mem_map.mp hy
    obtain ⟨ax, vx, nx, rfl, _, ox, ux, rx', rfl, rx1, ix, _, rfl, rx2, rfl⟩ := rx
    obtain ⟨ay, vy, ny, rfl, _, oy, uy, ry', rfl, ry1, iy, _, rfl, ry2, rfl⟩ := ry
    refine kat_lt ox rfl oy rfl (kat_cons ?_)
    refine (EQ.dat (V := V) (bools_dat a) (bools_dat b) (bools_depth a)) prog w A s _ _ _ _ (by omega) rx1 ry1 ?_
    have e : ltK (keyC (a, i)) (keyC (b, j)) = if (CV.tup (a.map .bool)).eqv (.tup (b.map .bool)) then (if (CV.int i).eqv (.int j) then false else ordI .Lt i j) else lexC .Lt CV.eqv (fB .Lt) (a.map .bool) (b.map .bool) := rfl
    rw [e] at q
    refine kat_go (fun h => ?_) fun h => ?_
    · rw [h, if_pos rfl] at q
      refine kat_yes (kat_cons ?_)
      refine (EQ.dat (V := V) (x := .int i) (y := .int j) rfl rfl (k := 5) (by simp [CV.dat, PyData.depth])) prog w A s _ _ _ _ (by omega) rx2 ry2 ?_
      refine kat_go (fun h => ?_) fun h => ?_
      · rw [h, if_pos rfl] at q
        exact kat_yes (kat_nil q)
      · rw [h, if_neg (by decide)] at q
        refine kat_no (kat_one _ _ ?_)
        exact RC.int (V := V) (k := 5) (.inl rfl) prog w A s _ _ _ _ (by omega) rx2 ry2 q
    · rw [h, if_neg (by decide)] at q
      refine kat_no (kat_one _ _ ?_)
      exact rc_bools (V := V) (.inl rfl) a b prog w A s _ _ _ _ (by omega) rx1 ry1 q
end
end Mine
end
section
open PySem PySem.W PySem.Calls PyProof.Rows Builtin
set_option maxRecDepth 100000
namespace Mine

section
variable {g : Gr} (G : Gr2 g) {fi : FI} {σ : Loc} {M : Model} {A : Around} {E : Value → Shared → Prop} {s : Shared} {env : Env}
include G
/-- the code of a generator expression -/
theorem gen_code {scope : Scope} {pos : Pos} {c P : Addr} {Q : Value → Shared → Prop} (T : LamTab g pos (fi.qual ++ "<genexpr>") c P) (F : Fm g fi env s σ) (hcode : fi.code = .ref c)
    (q : ∀ code h' tk, Step g s { s with heap := h', toks := tk } → s.heap.objs.size ≤ h'.objs.size → Q code { s with heap := h', toks := tk }) : wpAny M A (genexprCode env pos (env.qual ++ "<genexpr>") scope) Q E s := by
  have a := F.at_
  refine wpAny_toks ?_
  rw [F.ql]
  obtain ⟨ps, hP, ht, hc⟩ := T.now _ a.tab
  have C : CodeHd s.heap c P := by
    obtain ⟨o, vs, file, tf, flags, tg, inF, text, tt, e, r⟩ := T.hd
    exact ⟨o, vs, file, tf, flags, tg, inF, text, tt, a.keep _ _ T.cT e, r⟩
  rcases hc with hn | ⟨c', hc', nT, hr⟩
  · refine wpAny_genexprCodeX (F.cd.trans hcode) (C.code hP ht) (C.tab hP) hn fun c' h' tk hx hge hlt _ hrec htb _ => ?_
    intro htk
    refine q _ _ _ ⟨fun b o nT' nF e => hx b o (fun q => nT' (q ▸ T.pT)) e, fun b o hF e => ⟨o.slots, hx b o (fun q => ?_) e⟩, fun ht => T.grow s.heap _ ps c' ht hP (fun b o nb e => hx b o nb e) hge hrec htb.2, ⟨#[], by simp, AllBare.empty⟩, rfl, rfl, htk⟩ (Nat.le_trans hge (Nat.le_of_lt hlt))
    subst q
    exact a.notF hP (fun _ _ h => by cases h) hF
  · exact wpAny_genexprCode_hit (F.cd.trans hcode) (C.code hP ht) hc' fun _ => q _ s.heap s.toks .refl (Nat.le_refl _)

/-- a generator at its start -/
def GenR (prog : Program) (w : World) (g : Gr) (A : Around) (s s₅ : Shared) (a : Addr) (n : Nat) (P : Nat → Value → Prop) : Prop :=
  ∃ fp wr St k, WalksS prog w A.in4 a fp wr (GenOnlyQ k) n P St ∧ St 0 s₅ ∧ (∀ b ∈ fp, b < s₅.heap.objs.size) ∧ a ∈ fp ∧ (∀ i u, St i u → u.TypeIs (.ref a) "generator") ∧ (∀ b ∈ wr, s.heap.get? b = none) ∧
    (∃ l y, s₅.gens = (s.gens ++ l).push y ∧ AllBare l ∧ y.bare = true ∧ k = (s.gens ++ l).size) ∧
    (∀ u (Q : Option Value → Shared → Prop) E, 0 < n → St 0 u → (∀ v u', P 0 v → Moved wr (GenOnlyQ k) u u' → Q (some v) u') → wpAny (model prog w) A.in1 (callSpecial? (.ref a) (Str.ofString "__next__")) Q E u) ∧
    (∀ u : Heap, (∀ b o, b ∉ wr → s₅.heap.get? b = some o → u.get? b = some o) → g.TabOk u)
end

theorem passing_idx (pz : Nat → Bool) (n : Nat) : passing pz n 0 = (List.range n).filter pz := by simp [passing]

section
variable {prog : Program} {w : World} {A : Around}
/-- the first item of a generator expression -/
theorem gen_first {E : Value → Shared → Prop} {a : Addr} {k : Nat} {C : Addr} {fp wr : List Addr} {pz : Nat → Bool} {n₀ : Nat} {F : Nat → Value → Prop} {s : Shared} (hh : A.handled = none) (haC : a ≠ C) (haf : a ∉ fp) (hsub : ∀ b ∈ wr, b ∈ fp) (hroom : A.depth < recursionLimit) {Q : Option Value → Shared → Prop}
    (hn : 0 < (passing pz n₀ 0).length) (st : GenAt prog w A.in4 a k C fp wr pz n₀ F 0 s) (q : ∀ v s', (∃ i, (passing pz n₀ 0)[0]? = some i ∧ F i v) → Moved (C :: wr) (GenOnlyQ k) s s' → Q (some v) s') :
    wpAny (model prog w) A.in1 (callSpecial? (.ref a) (Str.ofString "__next__")) Q E s := by
  obtain ⟨hg, hl, gs, hgs, hgo⟩ := st
  obtain ⟨m, hm⟩ : ∃ m, (passing pz n₀ 0).length - 0 = m + 1 := ⟨(passing pz n₀ 0).length - 1, by omega⟩
  rw [hm] at hgo
  refine wpAny_toks ?_
  refine wpAny_of_in1 (A := A.in1) (wpAny_of_in1 (A := A.in1.in1) (wpAny_of_in1 (A := A.in1.in1.in1) ?_))
  refine (wpAny_callSpecial?_slot (name := Str.ofString "__next__") hg.typeIs slot_gen_next
    (wpAny_call_entry slot_gen_next hg.typeIs entry_gen_next ?_ (args_gen_next _)))
  show wpAny _ _ (Builtin.Generator.genWake (.ref a) (.send .none)) _ _ s
  unfold Builtin.Generator.genWake
  refine wpAny_bind (wpAny_holding (wpAny_genNumber hg (wpAny_bind (wpAny_genState hgs ?_))))
  have hgo' := hgo { s.setGen k .running with } fun _ _ _ e => e
  cases gs with
  | running => exact hgo'.elim
  | finished => exact hgo'.elim
  | _ =>
    refine wpAny_bind (wpAny_roomToWake hl hroom ?_)
    show wpAny _ _ (.resume k (.send .none) [] _) _ _ s
    refine wpAny_resumeQ hgs hgo' (fun x s₁ hx => ?_) (fun v s₁ gs' hb hv => ?_)
    · obtain ⟨rfl, hp, _⟩ := hx
      exact absurd hp (Nat.succ_ne_zero m)
    · obtain ⟨⟨i, hi, hF⟩, ⟨h₁, tk₁, rfl, hk₁⟩, hkap⟩ := hv
      have hidx : (passing pz n₀ 0).length - 1 - (m + 1 - 1) = 0 := by omega
      rw [hidx] at hi
      refine wpAny_pure ⟨v, rfl, fun htk => q v _ ⟨i, hi, hF⟩ ?_⟩
      exact ⟨fun b o hb e => hk₁ b o (fun h => hb (h ▸ List.mem_cons_self ..)) (fun h => hb (List.mem_cons_of_mem _ h)) e, GenOnlyQ.of ((GenOnly.setGen s k .running).trans (GenOnly.setGen _ k gs')) (setGen_self (gs := .running) (setGen_self hgs)) hb, rfl, rfl, htk⟩
end

section
variable {prog : Program} {w : World} {g : Gr} (G : Gr2 g) {fi : FI} {n : Nat} {σ : Loc} {A : Around} {E : Value → Shared → Prop} {s : Shared} {env : Env}
include G
theorem gen_make {elt iter : Expr} {x : Str} {px : Pos} {ifs : List Expr} {scope : Scope} {cl : List (Str × Addr)} {pos : Pos} {c P : Addr} {cs : List CV} {Q : Value → Shared → Prop}
    (T : LamTab g pos (fi.qual ++ "<genexpr>") c P) (bm : BMod g) (hcode : fi.code = .ref c) (h0 : g.hd = none)
    (hco : scope.isCoroutine = false) (hcell : ∀ y ∈ scope.names, y.2 ≠ .cell) (hz : scope.names.lookup (".0" : Str) = some NameKind.local) (hx : scope.names.lookup x = some .local) (hkind : scope.kind = .function)
    (hi : EV prog w g fi n σ iter (.lst cs)) (a : OkA g.fr g.hd A n) (F : Fm g fi env s σ) (hclos : closureFor scope env = pure cl)
    (pz : Nat → Bool) (hq : ∀ (vs : List Value) s₁, Step g s s₁ → Rps g.V s₁.heap cs vs → ∃ (Fv : Nat → Value → Prop),
      (∀ (cenv : Env) (A' : Around) E' i v (u : Shared) m₂, A'.handled = none → vs[i]? = some v → cenv.scope = scope → cenv.cells = cl → u.heap.Ns cenv.locals m₂ → m₂ x = some v → (∀ b o, b ∉ g.T → b ∉ g.F → s₁.heap.get? b = some o → u.heap.get? b = some o) →
        wpAny (model prog w) A' (forIn ifs true fun c r => if r = true then do let ok ← isTrue c cenv (eval c cenv); pure (ForInStep.yield ok) else pure (ForInStep.yield r)) (fun ok s₃ => ok = pz i ∧ Keeps u s₃) E' u) ∧
      (∀ (cenv : Env) (A' : Around) E' i v (u : Shared) m₂, A'.handled = none → vs[i]? = some v → pz i = true → cenv.scope = scope → cenv.cells = cl → u.heap.Ns cenv.locals m₂ → m₂ x = some v → (∀ b o, b ∉ g.T → b ∉ g.F → s₁.heap.get? b = some o → u.heap.get? b = some o) →
        wpAny (model prog w) A' (eval elt cenv) (fun y s₃ => Fv i y ∧ Keeps u s₃) E' u) ∧
      (∀ a s₅, Step g s s₅ → (∀ b o, b ∉ g.T → b ∉ g.F → s₁.heap.get? b = some o → s₅.heap.get? b = some o) → GenR prog w g A s s₅ a ((List.range cs.length).filter pz).length (fun j y => ∃ i, ((List.range cs.length).filter pz)[j]? = some i ∧ Fv i y) → Q (.ref a) s₅))
    (hs : ∀ x, genFold iter env x = pure x) :
    wpAny (model prog w) A (eval (.GeneratorExp elt [⟨.Name x px, iter, ifs, 0⟩] scope pos) env) Q E s := by
  have hh : A.handled = none := a.hh h0
  refine wpAny_toks ?_
  refine wpAny_GeneratorExp_walksQ hh hco hclos hcell hz hx hkind a.room ?_ hs
  refine hi A env s _ E a F fun xv s₁ y₁ r₁ => ?_
  have F₁ := F.step G.toGrOk y₁
  obtain ⟨l, vs, k₁, rfl, hlV, hl, rl⟩ := r₁
  obtain ⟨Fv, hqt, hqe, hqq⟩ := hq vs s₁ y₁ rl
  have hlen : vs.length = cs.length := rl.length
  refine wpAny_pyIter_list ⟨_, hl, rfl, k₁, rfl⟩ ?_
  have y₂ : Step g s₁ { s₁ with heap := s₁.heap.push { cls := .type "list_iterator", data := .fields #[.ref l, .int 0 0] } } := Step.push0 G.toGrOk
  have F₂ := F₁.step G.toGrOk y₂
  refine ⟨At.lim G F₂.at_, ?_⟩
  refine gen_code G (fi := fi) (σ := σ) T F₂ hcode fun code h' tk y₃ hsz => ?_
  have F₃ := F₂.step G.toGrOk y₃
  obtain ⟨bm1, o, b1, b2, b3, b4, b5, b6, b7, b8⟩ := bm
  refine wpAny_builtinsFor (by rw [F.gl]; exact F₃.at_.glob G.toGrOk) b1 b2 (F₃.at_.keep _ _ b4 b5) b6 b7 b8 ?_
  have nI : s₁.heap.objs.size ∉ g.T := notT_new G (At.fresh G F₁.at_ (Nat.le_refl _))
  have nIF : s₁.heap.objs.size ∉ g.F := F₁.at_.notFn (Heap.get?_none_of_le (Nat.le_refl _))
  have hI₃ : h'.get? s₁.heap.objs.size = some { cls := .type "list_iterator", data := .fields #[.ref l, .int 0 0] } := y₃.keep _ _ nI nIF (Heap.get?_push_size _ rfl)
  have hlI : l ≠ s₁.heap.objs.size := Nat.ne_of_lt (Heap.lt_size hl)
  have nlT : l ∉ g.T := fun h => by
    obtain ⟨o', vs', e, d, _⟩ := G.tabF _ _ h F₁.at_.tab
    rw [hl] at e; cases e; cases d
  have nlF : l ∉ g.F := F₁.at_.notFs hl rfl
  have hl₃ : h'.get? l = some (seqObj "list" vs.toArray k₁) := (y₂.trans y₃).keep _ _ nlT nlF hl
  have old₃ : ∀ b o, b ∉ g.T → b ∉ g.F → s₁.heap.get? b = some o → h'.get? b = some o := fun b o nT nF e => (y₂.trans y₃).keep _ _ nT nF e
  have hlim := At.lim G F₃.at_
  have hcI : cStatics ≠ s₁.heap.objs.size := fun q => by
    obtain ⟨mc, ⟨oc, _, _, ec, _⟩, _⟩ := At.lim G F₁.at_
    exact absurd (Heap.lt_size ec) (by rw [q]; exact Nat.lt_irrefl _)
  have kq : ∀ (href u : Heap), (∀ b o, h'.get? b = some o → href.get? b = some o) → (∀ b ∈ List.range h'.objs.size, b ∉ [s₁.heap.objs.size] → ∀ o, href.get? b = some o → u.get? b = some o) → ∀ b o, b ∉ g.T → b ∉ g.F → s₁.heap.get? b = some o → u.get? b = some o := fun href u hr hu b o nT nF e => by
    have e3 := old₃ b o nT nF e
    refine hu b (List.mem_range.mpr (Heap.lt_size e3)) (fun q => ?_) o (hr b o e3)
    rw [List.mem_singleton] at q
    exact absurd (Heap.lt_size e) (by rw [q]; exact Nat.lt_irrefl _)
  have hsize : vs.toArray.size = cs.length := by simp [hlen]
  refine ⟨s₁.heap.objs.size, [s₁.heap.objs.size, l], [s₁.heap.objs.size], vs.toArray.size, (fun i v => vs.toArray[i]? = some v), (fun i h => h.IsListIter s₁.heap.objs.size l i ∧ h.IsList l vs.toArray), pz, Fv, rfl,
    fun A' hA => Walks.list hA _ l hlI vs.toArray, ⟨⟨_, hI₃, rfl, rfl⟩, ⟨_, hl₃, rfl, _, rfl⟩⟩, fun b hb => ?_, hlim, fun q => hcI (List.mem_singleton.mp q), fun href hr => ⟨?_, ?_⟩, fun a' h₅ tk' gs hbare hlt hs5 hkeep W GA => fun htk => ?_⟩
  · rcases List.mem_cons.mp hb with rfl | hb
    · exact Heap.lt_size hI₃
    · rw [List.mem_singleton.mp hb]; exact Heap.lt_size hl₃
  · intro A' E' i v u m₂ hA hP hn hm hk
    exact hqt _ A' E' i v u m₂ hA (by simpa using hP) rfl rfl hn hm (kq href u.heap hr hk)
  · intro A' E' i v u m₂ hA hP hp hn hm hk
    exact hqe _ A' E' i v u m₂ hA (by simpa using hP) hp rfl rfl hn hm (kq href u.heap hr hk)
  · have z := (y₁.trans y₂).trans y₃
    obtain ⟨lg, eg, hlg⟩ := z.gens
    have eg' : s₁.gens = s.gens ++ lg := eg
    have nolds : ∀ b, h'.objs.size ≤ b → s.heap.get? b = none := fun b hb => by
      cases e : s.heap.get? b with
      | none => rfl
      | some o =>
        obtain ⟨o', e'⟩ := z.lives G F.at_ b o e
        exact absurd (Heap.lt_size e') (Nat.not_lt_of_le hb)
    have nI0 : s.heap.get? s₁.heap.objs.size = none := by
      cases e : s.heap.get? s₁.heap.objs.size with
      | none => rfl
      | some o =>
        obtain ⟨o', e'⟩ := y₁.lives G F.at_ _ o e
        exact absurd (Heap.lt_size e') (Nat.lt_irrefl _)
    rw [hsize, passing_idx] at W
    rw [hsize] at GA
    refine hqq a' _ ⟨fun b o nT nF e => hkeep b o (z.keep b o nT nF e), fun b o hF e => ?_, fun ht => G.tabK _ _ (fun b o e _ => hkeep b o e) (z.tab ht), ⟨lg.push gs, ?_, hlg.push hbare⟩, z.drawn, z.os, htk⟩ (fun b o nT nF e => hkeep b o (old₃ b o nT nF e)) ?_
    · obtain ⟨sl, e'⟩ := z.keepF b o hF e
      exact ⟨sl, hkeep _ _ e'⟩
    · show s₁.gens.push gs = _
      rw [eg', Array.append_push]
    · refine ⟨_, _, _, _, W, GA, fun b hb => ?_, List.mem_cons_self .., fun i u st => st.1.typeIs, fun b hb => ?_, ⟨lg, gs, ?_, hlg, hbare, ?_⟩, fun u Q' E' hn st q' => ?_, fun u hu => ?_⟩
      · show b < h₅.objs.size
        rw [hs5]
        rcases List.mem_cons.mp hb with rfl | hb
        · exact Nat.lt_succ_self _
        · rcases List.mem_cons.mp hb with rfl | hb
          · exact Nat.lt_succ_of_lt hlt
          · exact Nat.lt_succ_of_lt (Nat.lt_trans (List.mem_range.mp hb) hlt)
      · rcases List.mem_cons.mp hb with rfl | hb
        · exact nolds _ (Nat.le_refl _)
        · rw [List.mem_singleton.mp hb]; exact nI0
      · show s₁.gens.push gs = _
        rw [eg']
      · show s₁.gens.size = _
        rw [eg']
      · refine gen_first (A := A) hh (fun q => ?_) (fun q => ?_) (fun b hb => ?_) a.room (by rw [passing_idx]; exact hn) st fun v u' hv hm => q' v u' (by rw [passing_idx] at hv; exact hv) hm
        · rw [q] at hlt; exact Nat.lt_irrefl _ hlt
        · exact absurd (List.mem_range.mp q) (Nat.not_lt_of_lt hlt)
        · rw [List.mem_singleton.mp hb]; exact List.mem_range.mpr (Heap.lt_size hI₃)
      · refine G.tabK _ _ (fun b o e hk => hu b o (fun hb => ?_) (hkeep b o e)) F₃.at_.tab
        rcases List.mem_cons.mp hb with rfl | hb
        · exact Nat.lt_irrefl _ (Heap.lt_size e)
        · rw [List.mem_singleton.mp hb, hI₃] at e
          cases e
          exact not_held rfl (fun q t h => by simp at h) (by simp) hk
end
end Mine
end
section
open PySem PySem.W PySem.Calls PyProof.Rows Builtin
set_option maxRecDepth 100000
namespace Mine

theorem genOnlyQ_push {a b : Array GenState} {y : GenState} (h : GenOnlyQ a.size (a.push y) b) (hy : y.bare = true) : ∃ y', b = a.push y' ∧ y'.bare = true := by
  rcases h with rfl | ⟨⟨hs, ho⟩, hb⟩
  · exact ⟨y, rfl, hy⟩
  · have hsz : b.size = a.size + 1 := by rw [hs, Array.size_push]
    have hlt : a.size < b.size := by omega
    refine ⟨b[a.size], ?_, hb _ (Array.getElem?_eq_getElem hlt)⟩
    apply Array.ext_getElem?
    intro i
    by_cases e : i = a.size
    · subst e
      rw [Array.getElem?_push_size, Array.getElem?_eq_getElem hlt]
    · rw [ho i e]
      rw [Array.getElem?_push, Array.getElem?_push]
      simp [e]

section
variable {prog : Program} {w : World} {g : Gr} {A : Around}
theorem gen_step {s s₅ s' : Shared} {wr : List Addr} {k : Nat} (z : Step g s s₅) (hw : ∀ b ∈ wr, s.heap.get? b = none) (hg : ∃ l y, s₅.gens = (s.gens ++ l).push y ∧ AllBare l ∧ y.bare = true ∧ k = (s.gens ++ l).size)
    (ht : ∀ u : Heap, (∀ b o, b ∉ wr → s₅.heap.get? b = some o → u.get? b = some o) → g.TabOk u) (m : Moved wr (GenOnlyQ k) s₅ s') : Step g s s' := by
  have nw : ∀ {b o}, s.heap.get? b = some o → b ∉ wr := fun {b o} e h => by rw [hw b h] at e; cases e
  refine ⟨fun b o nT nF e => m.heap b o (nw e) (z.keep b o nT nF e), fun b o hF e => ?_, fun _ => ht _ m.heap, ?_, m.drawn.trans z.drawn, m.os.trans z.os, Nat.le_trans z.tk m.toks⟩
  · obtain ⟨sl, e'⟩ := z.keepF b o hF e
    exact ⟨sl, m.heap _ _ (nw e) e'⟩
  · obtain ⟨l, y, eg, hl, hy, rfl⟩ := hg
    have h := m.gens
    rw [eg] at h
    obtain ⟨y', e', hy'⟩ := genOnlyQ_push h hy
    exact ⟨l.push y', by rw [e', Array.append_push], hl.push hy'⟩
end

theorem kind_next : builtinKind "next" = none := by decide +kernel
theorem plain_next : plainId "next" = true := by decide +kernel

section
variable {prog : Program} {w : World} {g : Gr} (G : Gr2 g) {fi : FI} {n : Nat} {σ : Loc}
include G
theorem kv_of {s₁ s₂ : Shared} (a : At g s₁) (k : ∀ b o, b ∉ g.T → b ∉ g.F → s₁.heap.get? b = some o → s₂.heap.get? b = some o) : KeepsV g.V s₁.heap s₂.heap := fun b o e _ nf nm => k b o (fun hb => by
  obtain ⟨o', vs, e', d, cl⟩ := G.tabF _ b hb a.tab
  rw [e] at e'; cases e'; exact no_range (nf vs d) cl) (fun hF => nm (.inr (a.mutF hF).1)) e

/-- `tuple(x != '..' for x in ..)` -/
theorem EV.tuple_ne {np px gpos pos p1 p2 p3 : Pos} {k : Nat} {z x : Str} {iter : Expr} {scope : Scope} {c Pt : Addr} {ws : List Str}
    (T : LamTab g gpos (fi.qual ++ "<genexpr>") c Pt) (bm : BMod g) (hcode : fi.code = .ref c) (h0 : g.hd = Option.none)
    (hco : scope.isCoroutine = false) (hcell : ∀ y ∈ scope.names, y.2 ≠ .cell) (hfree : ∀ y ∈ scope.names, y.2 ≠ .free) (hz : scope.names.lookup (".0" : Str) = some NameKind.local) (hx : scope.names.lookup x = some .local) (hkind : scope.kind = .function) (hdx : (x == ("__debug__" : Str)) = false)
    (hf : EV prog w g fi n σ (.Name "tuple" np) (.raw (.type "tuple"))) (hi : EV prog w g fi n σ iter (.lst (ws.map .str))) (hl : ws.length ≤ 10000)
    (hs : ∀ env x, genFold iter env x = pure x)
    (hse : ∀ env, starEach [(.GeneratorExp (.Compare (.Name x p1) [.NotEq] [.Constant (.str z) k p2] p3) [⟨.Name x px, iter, [], 0⟩] scope gpos)] env = [(false, eval (.GeneratorExp (.Compare (.Name x p1) [.NotEq] [.Constant (.str z) k p2] p3) [⟨.Name x px, iter, [], 0⟩] scope gpos) env)] := by intro env; rfl) :
    EV prog w g fi n σ (.Call (.Name "tuple" np) [.GeneratorExp (.Compare (.Name x p1) [.NotEq] [.Constant (.str z) k p2] p3) [⟨.Name x px, iter, [], 0⟩] scope gpos] [] pos) (.tup (ws.map fun t => .bool (!decide (t = z)))) := by
  intro A env s Q E ok F q
  refine wpAny_Call_ofName (hf A env s _ E ok F fun v s₀ y₀ r => ?_)
  cases r
  have F₀ := F.step G.toGrOk y₀
  have hplain : (backTo pos (starEach [(.GeneratorExp (.Compare (.Name x p1) [.NotEq] [.Constant (.str z) k p2] p3) [⟨.Name x px, iter, [], 0⟩] scope gpos)] env)).any (·.1) = false := by rw [hse]; rfl
  refine callWith_of (P := fun h => ∃ s, At g s ∧ s.heap = h) (by rw [hplain]; rfl) Keep.type (evalArgs_any hplain ?_)
  have hclos : closureFor scope env = pure [] := by
    rw [closureFor_go fun y hy => absurd rfl (hfree _ hy)]
    have : ∀ (l : List (Str × NameKind)) (acc : List (Str × Addr)), (∀ y ∈ l, y.2 ≠ .free) → closGo env l acc = acc := by
      intro l
      induction l with
      | nil => intro acc _; rfl
      | cons y l ih => intro acc h; unfold closGo; rw [if_neg (h y (.head _))]; exact ih acc fun y hy => h y (.tail _ hy)
    rw [this _ _ hfree]
  rw [hse]
  refine spliced_cons (gen_make G T bm hcode h0 hco hcell hz hx hkind hi ok F₀ hclos (fun _ => true) (fun vs s₁ y₁ r₁ => ?_) (hs env))
  obtain ⟨ps, rfl, hps⟩ := rps_strs' ws r₁
  have at? : ∀ {i : Nat} {v : Value}, (strValues ps)[i]? = some v → ∃ t u, ws[i]? = some t ∧ v = .str t u := fun {i v} h => by
    simp only [strValues, List.getElem?_map, Option.map_eq_some_iff] at h
    obtain ⟨p, hp, rfl⟩ := h
    exact ⟨p.1, p.2, by rw [← hps, List.getElem?_map, hp]; rfl, rfl⟩
  refine ⟨fun i y => ∃ t, ws[i]? = some t ∧ y = .bool (!decide (t = z)), fun cenv A' E' i v u m₂ hA hv hsc hcl hn hm hk => wpAny_pure ⟨rfl, u.heap, u.toks, rfl, fun _ _ e => e⟩, fun cenv A' E' i v u m₂ hA hv _ hsc hcl hn hm hk => ?_, fun a s₅ y₅ k₅ R => ?_⟩
  · obtain ⟨t, tk, ht, rfl⟩ := at? hv
    refine wpAny_Compare1 (wpAny_Name (wpAny_loadName_local (by rw [hsc]; exact hkind) (by rw [Env.kindOf, hsc]; exact hx) hn hm ?_) hdx) (by with_unfolding_all rfl)
    refine wpAny_Constant_str ?_
    refine P.ne_str ⟨⟨t, ht, congrArg Value.bool ?_⟩, u.heap, u.toks + 1, rfl, fun _ _ e => e⟩
    rw [← str_beq]; rfl
  · refine spliced_nil ?_
    have y5 := y₀.trans y₅
    refine ⟨⟨s₅, F.at_.step y5, rfl⟩, ?_⟩
    obtain ⟨fp, wr, St, kk, W, hst, hfp, ha, hT, hw, hg, _, htab⟩ := R
    have hn' : ((List.range (ws.map CV.str).length).filter fun _ => true).length = ws.length := by rw [List.filter_eq_self.mpr fun _ _ => rfl]; simp
    rw [hn'] at W
    refine call_tuple_gen (WalksS.in4_3 W) hT hst hfp ha (fun s' acc hm hacc => ?_) (by rw [sizeLine_eq]; omega)
    have zst := gen_step y₅ hw hg htab hm
    have zz := (y₀.trans zst).trans (Step.push0 G.toGrOk (o := { cls := .type "tuple", data := .seq acc }))
    refine q _ _ zz ⟨_, acc.toList, 0, rfl, At.out (F.at_.step (y₀.trans zst)), (by have h := Heap.get?_push_size s'.heap (o := { cls := .type "tuple", data := .seq acc }) rfl; simpa using h), ?_⟩
    obtain ⟨h1, h2⟩ := hacc
    have h3 : acc.toList = ws.map fun t => Value.bool (!decide (t = z)) := by
      apply List.ext_getElem?
      intro i
      cases hi : acc.toList[i]? with
      | none =>
        have : ws.length ≤ i := by
          have := List.getElem?_eq_none_iff.mp hi
          simpa [h1] using this
        simp [this]
      | some v =>
        obtain ⟨j, hj, t, ht, rfl⟩ := h2 i v (by simpa using hi)
        have hlt : i < ws.length := by
          have := (List.getElem?_eq_some_iff.mp hi).1
          simpa [h1] using this
        have : j = i := by
          rw [List.filter_eq_self.mpr fun _ _ => rfl, List.length_map, List.getElem?_range hlt] at hj
          exact (Option.some.inj hj).symm
        subst this
        simp [ht]
    rw [h3]
    have : ∀ (l : List Str) V h, Rps V h (l.map fun t => CV.bool (!decide (t = z))) (l.map fun t => Value.bool (!decide (t = z))) := by
      intro l V h
      induction l with
      | nil => rfl
      | cons t l ih => exact ⟨_, _, rfl, rfl, ih⟩
    exact this _ _ _
end
end Mine
end
section
open PySem PySem.W PySem.Calls PyProof.Rows Builtin
set_option maxRecDepth 100000
namespace Mine
theorem gm_gen {prog : Program} {w : World} {A : Around} {E : Value → Shared → Prop} {s : Shared} {x : Str} {t : Tok} {name : Str} {id : String} {pl : Sem Bool} {Q : Value × List Value → Shared → Prop} (slot : Slot "str" name id) (hty : typeOf (.builtin id) = pure (.type "method_descriptor")) (q : Q (.builtin id, [.str x t]) s) : wpAny (model prog w) A (getMethod (.str x t) name pl) Q E s :=
  getMethod_builtin (typeIs_str _ _ _) F.plainAttrs_str slot hty (fun _ h => by cases h) q
theorem gm_sw {prog : Program} {w : World} {A : Around} {E : Value → Shared → Prop} {s : Shared} {x : Str} {t : Tok} {pl : Sem Bool} {Q : Value × List Value → Shared → Prop} (q : Q (.builtin "str.startswith", [.str x t]) s) : wpAny (model prog w) A (getMethod (.str x t) "startswith" pl) Q E s :=
  (@gm_gen prog w A E s x t _ _ pl Q F.slot_str_startswith F.type_str_startswith) q
section
variable {prog : Program} {w : World} {g : Gr} (G : Gr2 g) {fi : FI} {n : Nat} {σ : Loc}
include G
theorem find_filter {ws : List Str} {p : Str → Bool} {t : Str} (h : ws.find? p = some t) : ∃ i, ws[i]? = some t ∧ ((List.range ws.length).filter fun i => (ws[i]?.map p).getD false)[0]? = some i := by
  have hm := idx_map ws p
  have h1 : (ws.filter p)[0]? = some t := by
    rw [← List.head?_eq_getElem?, List.head?_filter]; exact h
  have h2 := congrArg (fun l => l[0]?) hm
  simp only [List.getElem?_map, h1, Option.map_some] at h2
  cases h3 : ((List.range ws.length).filter fun i => (ws[i]?.map p).getD false)[0]? with
  | none => rw [h3] at h2; cases h2
  | some i => rw [h3] at h2; exact ⟨i, Option.some.inj h2, rfl⟩

/-- `next(x for x in .. if x.startswith(y))` -/
theorem EV.next_sw {np px gpos pos p1 p2 p3 p4 p5 : Pos} {x y r : Str} {iter : Expr} {scope : Scope} {c Pt : Addr} {ws : List Str} {t : Str}
    (T : LamTab g gpos (fi.qual ++ "<genexpr>") c Pt) (bm : BMod g) (hcode : fi.code = .ref c) (h0 : g.hd = Option.none)
    (hco : scope.isCoroutine = false) (hsc : scope.names = [((".0" : Str), NameKind.local), (x, NameKind.local), (y, NameKind.free)]) (hxy : (y == x) = false) (hx0 : (x == (".0" : Str)) = false) (hy0 : (y == (".0" : Str)) = false) (hkind : scope.kind = .function) (hdx : (x == ("__debug__" : Str)) = false) (hdy : (y == ("__debug__" : Str)) = false) (hcy : (y == ("__classdict__" : Str)) = false)
    (hy : (y, CV.str r) ∈ σ) (hcell : fi.scope.names.lookup y = some .cell)
    (hf : EV prog w g fi n σ (.Name "next" np) (.raw (.builtin "next"))) (hi : EV prog w g fi n σ iter (.lst (ws.map .str))) (hfind : ws.find? (fun s => Txt.startswith s r) = some t)
    (hs : ∀ env x, genFold iter env x = pure x)
    (hline : (p2.endLine == p4.line) = true := by rfl)
    (hse : ∀ env, starEach [(.GeneratorExp (.Name x p5) [⟨.Name x px, iter, [.Call (.Attribute (.Name x p1) "startswith" p2) [.Name y p3] [] p4], 0⟩] scope gpos)] env = [(false, eval (.GeneratorExp (.Name x p5) [⟨.Name x px, iter, [.Call (.Attribute (.Name x p1) "startswith" p2) [.Name y p3] [] p4], 0⟩] scope gpos) env)] := by intro env; rfl) :
    EV prog w g fi n σ (.Call (.Name "next" np) [.GeneratorExp (.Name x p5) [⟨.Name x px, iter, [.Call (.Attribute (.Name x p1) "startswith" p2) [.Name y p3] [] p4], 0⟩] scope gpos] [] pos) (.str t) := by
  intro A env s Q E ok F q
  refine wpAny_Call_ofName (hf A env s _ E ok F fun v s₀ y₀ r₀ => ?_)
  cases r₀
  have F₀ := F.step G.toGrOk y₀
  have hplain : (backTo pos (starEach [(.GeneratorExp (.Name x p5) [⟨.Name x px, iter, [.Call (.Attribute (.Name x p1) "startswith" p2) [.Name y p3] [] p4], 0⟩] scope gpos)] env)).any (·.1) = false := by rw [hse]; rfl
  refine callWith_of (P := fun h => ∃ s, At g s ∧ s.heap = h) (by rw [hplain]; rfl) Keep.builtin (evalArgs_any hplain ?_)
  obtain ⟨m, hn, hp, hh⟩ := F₀.ns
  obtain ⟨sv, ⟨tk, rfl⟩, hsv⟩ := hh _ hy
  obtain ⟨cc, hcc, hci⟩ : ∃ cc, env.cells.lookup y = some cc ∧ s₀.heap.IsCell cc (some (.str r tk)) := by
    rcases hsv with ⟨h1, _⟩ | ⟨_, c, h2, h3⟩
    · rw [hcell] at h1; cases h1
    · exact ⟨c, h2, h3⟩
  have hclos : closureFor scope env = pure [(y, cc)] := by
    rw [closureFor_go (fun z hz => ?_), hsc]
    · simp [closGo, hcc]
    · rw [hsc] at hz
      simp at hz
      exact ⟨cc, by rw [hz]; exact hcc⟩
  have hx : scope.names.lookup x = some .local := by rw [hsc]; simp [List.lookup, hx0]
  have hyf : scope.names.lookup y = some .free := by rw [hsc]; simp [List.lookup, hy0, hxy]
  have hci_keep : ∀ {u : Heap}, (∀ b o, b ∉ g.T → b ∉ g.F → s₀.heap.get? b = some o → u.get? b = some o) → u.IsCell cc (some (.str r tk)) := fun {u} k => by
    obtain ⟨o, e, d⟩ := hci
    refine ⟨o, k cc o (fun h => ?_) (F₀.at_.notF e fun _ _ h => by rw [d] at h; cases h) e, d⟩
    obtain ⟨o', vs', e', d', _⟩ := G.tabF _ _ h F₀.at_.tab
    rw [e] at e'; cases e'; rw [d] at d'; cases d'
  rw [hse]
  refine spliced_cons (gen_make G T bm hcode h0 hco (by rw [hsc]; simp) (by rw [hsc]; simp [List.lookup]) hx hkind hi ok F₀ hclos (fun i => (ws[i]?.map fun s => Txt.startswith s r).getD false) (fun vs s₁ y₁ r₁ => ?_) (hs env))
  obtain ⟨ps, rfl, hps⟩ := rps_strs' ws r₁
  have at? : ∀ {i : Nat} {v : Value}, (strValues ps)[i]? = some v → ∃ t u, ws[i]? = some t ∧ v = .str t u := fun {i v} h => by
    simp only [strValues, List.getElem?_map, Option.map_eq_some_iff] at h
    obtain ⟨p, hp, rfl⟩ := h
    exact ⟨p.1, p.2, by rw [← hps, List.getElem?_map, hp]; rfl, rfl⟩
  have kk : ∀ {u : Heap}, (∀ b o, b ∉ g.T → b ∉ g.F → s₁.heap.get? b = some o → u.get? b = some o) → u.IsCell cc (some (.str r tk)) := fun {u} k => hci_keep fun b o nT nF e => k b o nT nF (y₁.keep b o nT nF e)
  refine ⟨fun i y => ∃ t u, ws[i]? = some t ∧ y = .str t u, fun cenv A' E' i v u m₂ hA hv hsc' hcl hn hm hk => ?_, fun cenv A' E' i v u m₂ hA hv _ hsc' hcl hn hm hk => ?_, fun a s₅ y₅ k₅ R => ?_⟩
  · obtain ⟨t', tk', ht', rfl⟩ := at? hv
    have hkf : cenv.scope.kind = .function := by rw [hsc']; exact hkind
    rw [List.forIn_cons]
    simp only [if_true]
    refine wpAny_bind (wpAny_bind (wpAny_isTrue_value ?_ (by rfl)))
    rw [arm_eval_Call]
    refine wpAny_bind (wpAny_Name (wpAny_loadName_local hkf (by rw [Env.kindOf, hsc']; exact hx) hn hm ?_) hdx)
    refine wpAny_bind (wpAny_standAt ?_)
    have hpos : methodCallPos true (.Name x p1) cenv p2 p4 = pure p4 := by unfold methodCallPos; simp [hline]
    unfold methodCall
    have hform : methodCallForm (([.Name y p3] : List Expr).length + ([] : List Keyword).length) (backTo p4 (starEach [.Name y p3] cenv)) (backToKw p4 (keywordEach [] cenv)) = true := by rfl
    rw [hform]
    refine wpAny_bind (wpAny_holding (gm_sw ?_))
    refine wpAny_bind (wpAny_of_eq hpos ?_)
    refine callWith_of (P := fun _ => True) rfl (fun _ _ => ⟨.machine, .inr (.inl rfl), .now⟩) (evalArgs_any rfl ?_)
    refine spliced_cons (wpAny_Name (wpAny_loadName_free hkf (by rw [Env.kindOf, hsc']; exact hyf) (by rw [hcl]; simp [List.lookup]) (kk hk) ?_ hcy) hdy)
    refine spliced_nil ⟨trivial, ?_⟩
    refine SC.startswith ?_
    refine wpAny_truthy_bool (wpAny_pure (wpAny_pure ⟨by rw [ht']; rfl, u.heap, u.toks, rfl, fun _ _ e => e⟩))
  · obtain ⟨t', tk', ht', rfl⟩ := at? hv
    exact wpAny_Name (wpAny_loadName_local (by rw [hsc']; exact hkind) (by rw [Env.kindOf, hsc']; exact hx) hn hm ⟨⟨t', tk', ht', rfl⟩, u.heap, u.toks, rfl, fun _ _ e => e⟩) hdx
  · refine spliced_nil ?_
    have y5 := y₀.trans y₅
    refine ⟨⟨s₅, F.at_.step y5, rfl⟩, ?_⟩
    obtain ⟨fp, wr, St, kk, W, hst, hfp, ha, hT, hw, hg, hnx, htab⟩ := R
    obtain ⟨i, hi1, hi2⟩ := find_filter G hfind
    have hlen : (ws.map CV.str).length = ws.length := by simp
    rw [hlen] at hnx
    refine call_function_tree kind_next plain_next kdk_entry_next (kdk_args_next _) ?_
    unfold Builtin.«next»
    refine wpAny_bind (m := someArgs "next" 1 2 _) (wpAny_of_eq (a := [Value.ref a]) (by first | rfl | kernel_rfl!) ?_)
    dsimp only
    refine wpAny_bind (wpAny_specialOf (name := Str.ofString "__next__") (hT _ _ hst) slot_gen_next.lookup ?_)
    refine wpAny_ite_split (fun hab => absurd hab (by decide)) (fun _ => ?_)
    refine wpAny_bind (hnx s₅ _ _ ?_ hst fun v u' hv hm => ?_)
    · exact (List.getElem?_eq_some_iff.mp hi2).1
    · obtain ⟨j, hj, t', tk', ht', rfl⟩ := hv
      rw [hi2] at hj
      cases hj
      rw [hi1] at ht'
      cases ht'
      have z := gen_step y₅ hw hg htab hm
      exact wpAny_pure (q _ _ (y₀.trans z) ⟨_, rfl⟩)
end
end Mine
end
section
open PySem PySem.W PySem.Calls PyProof.Rows Builtin
set_option maxRecDepth 100000
namespace Mine
section
variable {prog : Program} {w : World} {g : Gr} (G : Gr2 g) {K : Frag} (k : KIn g K) {n : Nat}
include G k
/-- `list(x)` of an Accept -/
theorem FW.list_acc {C : Addr} {p : Bool} {l : List CV} (a : AccK K C) (hl : l.length ≤ 1000) : FW prog w g (n + 2) (.type "list") [.acc C p l] (.lst l) := by
  intro A s vs Q E ok at_ r q
  obtain ⟨v, _, rfl, r, rfl⟩ := r
  have hS : (s.heap.push { cls := .type "list", data := .seq #[] }).get? s.heap.objs.size = some { cls := .type "list", data := .seq #[] } := Heap.get?_push_size _ rfl
  refine callType_codes (Q₁ := fun obj s₁ => obj = .ref s.heap.objs.size ∧ s₁ = { s with heap := s.heap.push { cls := .type "list", data := .seq #[] } }) F.called_list (F.typeCall_list_1 _) F.entry_list_init
    (code_list_new _ ⟨rfl, rfl⟩) fun obj s₁ h₁ => ?_
  obtain ⟨rfl, rfl⟩ := h₁
  refine ⟨⟨_, hS, rfl⟩, F.args_list_init_2 _ _, ?_⟩
  have y : Step g s { s with heap := s.heap.push { cls := .type "list", data := .seq #[] } } := Step.push0 G.toGrOk
  have a1 := at_.step y
  have r1 := Rp.step G.toGrOk at_ y r
  have nB := At.fresh G at_ (Nat.le_refl _)
  have a2 : At (g.wV (s.heap.objs.size :: g.V)) { s with heap := s.heap.push { cls := .type "list", data := .seq #[] } } := At.under a1 (notT_new G nB) nB hS
  have r2 := r.avoid (b := s.heap.objs.size) (Heap.get?_none_of_le (Nat.le_refl _))
  have r3 : Rp (s.heap.objs.size :: g.V) (s.heap.push { cls := .type "list", data := .seq #[] }) (.acc C p l) v := r2.mono fun b o e _ _ _ => Heap.get?_push_of_some _ e
  refine li_start (C := .type "list") (dx := none) (c := 0) hS fun h' c' kk hx => ?_
  have x2 : WStep (g.wV (s.heap.objs.size :: g.V)) (fun b => b = s.heap.objs.size) { s with heap := s.heap.push { cls := .type "list", data := .seq #[] } } { s with heap := h' } := by
    refine ⟨fun b o _ _ nb e => kk b o nb e, fun b o _ nb e => ⟨o.slots, kk b o nb e⟩, fun L hL f => f.data fun o e => ⟨o.slots, kk L o (fun q => ?_) e⟩, fun ht => G.tabK _ _ (fun b o e hk => kk b o (fun q => ?_) e) ht, ⟨#[], by simp, AllBare.empty⟩, rfl, rfl, Nat.le_refl _⟩
    · subst q
      exact a2.notFs hS rfl hL
    · subst q
      rw [hS] at e; cases e
      obtain ⟨_, h⟩ := hk.fields; cases h
  have a3 : At (g.wV (s.heap.objs.size :: g.V)) { s with heap := h' } := ⟨fun b o n e => kk b o (fun q => by subst q; rw [nB] at e; cases e) (a2.keep b o n e), x2.tab a2.tab, fun b hb => ⟨(a2.vol b hb).1, by
    by_cases q : b = s.heap.objs.size
    · subst q; exact ⟨_, hx⟩
    · obtain ⟨o, e⟩ := (a2.vol b hb).2
      exact ⟨o, kk b o q e⟩⟩, a2.pos, fun e he => by
    obtain ⟨k1, L, hL, hB, f⟩ := a2.frs e he
    exact ⟨k1, L, hL, hB, x2.frs L (List.mem_filterMap.mpr ⟨e, he, hL⟩) f⟩, fun e he => by
    obtain ⟨hv, o, vs', eo, d, v2⟩ := a2.hdv e he
    exact ⟨hv, o, vs', kk e o (fun q => by subst q; rw [hS] at eo; cases eo; cases d) eo, d, v2⟩⟩
  have r4 : Rp (s.heap.objs.size :: g.V) h' (.acc C p l) v := r3.mono fun b o e nV _ _ => kk b o (fun q => nV (q ▸ .head _)) e
  refine le_acc (g := g.wV (s.heap.objs.size :: g.V)) (K := K) (n := n) (A := A.in1) (g2V G _) ⟨k.inn, k.notT⟩ a hl ok.in1 a3 r4 hx (.head _) fun h'' t us c'' ht k'' hx'' rs => ?_
  refine ⟨rfl, ?_⟩
  have up : ∀ b o, s.heap.get? b = some o → h''.get? b = some o := fun b o e => by
    have nb : b ≠ s.heap.objs.size := Nat.ne_of_lt (Heap.lt_size e)
    exact k'' b o nb (kk b o nb (Heap.get?_push_of_some _ e))
  refine q _ _ (Step.grow G.toGrOk up ht) ⟨_, us, c'', rfl, At.out at_, hx'', ?_⟩
  exact (rs.mono fun b o e nV _ _ => k'' b o (fun q => nV (q ▸ .head _)) e).less fun b hb => .tail _ hb
end
end Mine
end
section
open PySem PySem.W PySem.Calls PyProof.Rows Builtin
set_option maxRecDepth 100000
namespace Mine

/-- what a turn of the generator changes -/
def VK (hb : Heap) (L S : Addr) (s₀ s₁ : Shared) : Prop := ∃ h' tk, s₁ = { s₀ with heap := h', toks := tk } ∧ (∀ b o, b ≠ L → hb.get? b = some o → s₀.heap.get? b = some o → h'.get? b = some o) ∧ (∀ o, s₀.heap.get? S = some o → h'.get? S = some o)
theorem VK.refl {hb : Heap} {L S : Addr} {s : Shared} : VK hb L S s s := ⟨s.heap, s.toks, rfl, fun _ _ _ _ e => e, fun _ e => e⟩
theorem VK.step {hb : Heap} {L S : Addr} {s₀ s : Shared} (x : VK hb L S s₀ s) {h' : Heap} {tk : Nat} (k : ∀ b o, b ≠ L → hb.get? b = some o → s.heap.get? b = some o → h'.get? b = some o) (kS : ∀ o, s.heap.get? S = some o → h'.get? S = some o) : VK hb L S s₀ { s with heap := h', toks := tk } := by
  obtain ⟨h₁, t₁, rfl, k₁, kS₁⟩ := x
  exact ⟨h', tk, rfl, fun b o hL hb e => k b o hL hb (k₁ b o hL hb e), fun o e => kS o (kS₁ o e)⟩
abbrev VR (hb : Heap) (L S : Addr) : GenEnd := fun n s₀ r s₁ => r = .ok (.ret .none) ∧ n = 0 ∧ VK hb L S s₀ s₁
abbrev VY (hb : Heap) (L S : Addr) (fs : List Value) : Protocol := fun m s₀ v s kap => fs[fs.length - 1 - m]? = some v ∧ VK hb L S s₀ s ∧ ∀ s'' : Shared, Heap.SameBut S s.heap s''.heap → kap (.send .none) s''

section
variable {prog : Program} {w : World} {A : Around} {hb : Heap} {L S I x0 : Addr} {vs fs : List Value} {env : Env} {ox : Obj} {mx : Nat}
theorem seg_vals {kont : Result → Sem Fin} {c : Code} {p : Pos} {iname : Str} {p1 p2 p3 p4 p5 p6 : Pos} {kc : Nat} (hh : A.handled = none) (hk : kont (.ok .next) = leafOf (.ok (.ret .none)))
    (hL : env.locals = L) (hkf : env.scope.kind = .function) (hloc : env.scope.names.lookup iname = some .local) (hco : env.scope.isCoroutine = false) (hi : interactive env = false) (hd : (iname == ("__debug__" : Str)) = false)
    (hx : hb.get? x0 = some ox) (hxd : ox.data = .seq (List.toArray vs) mx) (hxL : x0 ≠ L) (hIL : I ≠ L) (hIS : I ≠ S) (hIb : hb.get? I = none) (hSL : S ≠ L) (hSb : hb.get? S = none) (hlen : fs.length = vs.length)
    (hv : ∀ (i : Nat) (v : Value), vs[i]? = some v → ∃ (t : Addr) (ws : List Value) (m : Nat) (y : Value), v = .ref t ∧ t ≠ L ∧ hb.get? t = some (seqObj "tuple" (List.toArray ws) m) ∧ ws[0]? = some y ∧ fs[i]? = some y) :
    ∀ (k i : Nat) (s₀ s : Shared) (m : Str → Option Value), vs.length - i = k → i ≤ vs.length → s.heap.IsListIter I x0 i → (∀ b o, b ≠ L → hb.get? b = some o → s.heap.get? b = some o) → s.heap.Ns L m → VK hb L S s₀ s →
      Seg (model prog w) A (VR hb L S) (VY hb L S fs) (vs.length - i) s₀ (.forLoop (.Name iname p1) (.ref I) [.Expr (.Yield (some (.Subscript (.Name iname p2) (.Constant (.int 0) kc p3) p4)) p5) p6] [] env)
        ((model prog w).den (.forLoop (.Name iname p1) (.ref I) [.Expr (.Yield (some (.Subscript (.Name iname p2) (.Constant (.int 0) kc p3) p4)) p5) p6] [] env)) [.ret kont none false [] c p []] s := by
  have hloc' : env.kindOf iname = some .local := hloc
  intro k
  induction k with
  | zero =>
    intro i s₀ s m hk' hi' hit hkp hn K
    have e : i = vs.length := by omega
    subst e
    show Seg _ A _ _ _ s₀ _ ((forTurn _ _ _ _ env).onRaise (fun x => do noteFrame x env; theTreesLotGoes x)) _ s
    rw [Sem.onRaise_eq_wrap]
    unfold forTurn
    refine seg_bind_wrap (wpAny_standAt ?_)
    refine seg_bind_wrap (wpAny_onRaise ?_)
    refine next_end (.inl hh) hit (hkp _ _ hxL hx) hxd (by simp) fun h' he => ?_
    refine seg_again rfl ?_
    show Seg _ A _ _ _ s₀ _ (leafOf (.ok .next)) _ _
    refine seg_leaf (.ok .next) ?_
    rw [hk]
    refine seg_end (.ok (.ret .none)) ⟨rfl, Nat.sub_self _, K.step (fun b o hL' hb' e => he b o (fun q => ?_) e) fun o e => he S o (Ne.symm hIS) e⟩
    subst q
    rw [hIb] at hb'; cases hb'
  | succ k ih =>
    intro i s₀ s m hk' hi' hit hkp hn K
    have hlt : i < vs.length := by omega
    obtain ⟨v, hvi⟩ : ∃ v, vs[i]? = some v := ⟨_, List.getElem?_eq_getElem hlt⟩
    obtain ⟨t, ws, mt, y, rfl, htL, ht, hw, hf⟩ := hv i v hvi
    show Seg _ A _ _ _ s₀ _ ((forTurn _ _ _ _ env).onRaise (fun x => do noteFrame x env; theTreesLotGoes x)) _ s
    rw [Sem.onRaise_eq_wrap]
    unfold forTurn
    refine seg_bind_wrap (wpAny_standAt ?_)
    refine seg_bind_wrap (wpAny_onRaise ?_)
    refine next_item hit (hkp _ _ hxL hx) hxd (x := .ref t) (by simpa using hvi) fun h₁ hit₁ hs₁ => ?_
    have hkp₁ : ∀ b o, b ≠ L → hb.get? b = some o → h₁.get? b = some o := fun b o hL' e => (hs₁.2 b fun q => by subst q; rw [hIb] at e; cases e).trans (hkp b o hL' e)
    have hn₁ : h₁.Ns L m := hn.at' fun o e => (hs₁.2 L (Ne.symm hIL)).trans e
    refine seg_bind_wrap (wpAny_of_eq (rfl : letOwnedTupleGo (.Name iname p1) (.ref I) (.ref t) = pure ()) ?_)
    refine seg_bind_wrap (wpAny_assign_Name (wpAny_storeName_local hloc' (by rw [hL]; exact hn₁) (fun h₂ hn₂ hs₂ => ?_) (by rw [hkf]; rfl)))
    rw [hL] at hn₂ hs₂
    have hkp₂ : ∀ b o, b ≠ L → hb.get? b = some o → h₂.get? b = some o := fun b o hL' e => (hs₂.2 b hL').trans (hkp₁ b o hL' e)
    have hit₂ : h₂.IsListIter I x0 (i + 1) := hit₁.at fun o e => (hs₂.2 I hIL).trans e
    have oldS : ∀ o, s.heap.get? S = some o → h₂.get? S = some o := fun o e => (hs₂.2 S hSL).trans ((hs₁.2 S (Ne.symm hIS)).trans e)
    rw [Sem.bind_eq_wrap', Sem.wrap_wrap]
    refine seg_execs_cons ?_
    have hm : vs.length - i = (vs.length - (i + 1)) + 1 := by omega
    rw [hm]
    refine seg_Expr_Yield rfl rfl rfl ?_ hco hi
    refine Subscript_ (wpAny_Name (wpAny_loadName_local hkf hloc' (by rw [hL]; exact hn₂) (if_pos rfl) ?_) hd)
    refine wpAny_Constant_int ?_
    have ht₂ : h₂.get? t = some (seqObj "tuple" (List.toArray ws) mt) := hkp₂ t _ htL ht
    have hj : seqIndex? 0 ws.length = some 0 := by
      cases ws with
      | nil => cases hw
      | cons _ _ => simp [seqIndex?]
    refine item_tupleT (j := 0) (x := y) ⟨_, ht₂, rfl, _, rfl⟩ (by decide) (by decide) hj hw ?_
    intro kap hkap
    refine ⟨?_, K.step (fun b o hL' hb' e => ?_) oldS, fun s'' hsb => hkap _ s'' ?_⟩
    · have : fs.length - 1 - (vs.length - (i + 1)) = i := by omega
      rw [this]; exact hf
    · exact hkp₂ b o hL' hb'
    · show Seg _ A _ _ _ s'' _ _ _ s''
      refine seg_execs_nil ?_
      refine seg_again rfl ?_
      refine ih (i + 1) s'' s'' _ (by omega) hlt (hit₂.at fun o e => (hsb.2 I hIS).trans e) (fun b o hL' e => ?_) (hn₂.at' fun o e => (hsb.2 L (Ne.symm hSL)).trans e) .refl
      exact (hsb.2 b fun q => by subst q; rw [hSb] at e; cases e).trans (hkp₂ b o hL' e)

/-- the generator's body, from its start -/
theorem seg_gen {iname self : Str} {p1 p2 p3 p4 p5 p6 p7 p8 : Pos} {kc : Nat} (hh : A.handled = none)
    (hL : env.locals = L) (hkf : env.scope.kind = .function) (hloc : env.scope.names.lookup iname = some .local) (hself : env.scope.names.lookup self = some .local) (hco : env.scope.isCoroutine = false) (hi : interactive env = false) (hd : (iname == ("__debug__" : Str)) = false) (hds : (self == ("__debug__" : Str)) = false)
    (hx : hb.get? x0 = some ox) (hxd : ox.data = .seq (List.toArray vs) mx) (hxL : x0 ≠ L) (hSL : S ≠ L) (hSb : hb.get? S = none) (hlen : fs.length = vs.length)
    (hv : ∀ (i : Nat) (v : Value), vs[i]? = some v → ∃ (t : Addr) (ws : List Value) (m : Nat) (y : Value), v = .ref t ∧ t ≠ L ∧ hb.get? t = some (seqObj "tuple" (List.toArray ws) m) ∧ ws[0]? = some y ∧ fs[i]? = some y)
    (hiter : ∀ (A : Around) (u : Shared) (Q : Value → Shared → Prop) E, (∀ b o, b ≠ L → hb.get? b = some o → u.heap.get? b = some o) → Q (.ref u.heap.objs.size) { u with heap := u.heap.push { cls := .type "list_iterator", data := .fields #[.ref x0, .int 0 0] } } → wpAny (model prog w) A (pyIter (.ref x0)) Q E u)
    (s : Shared) (m : Str → Option Value) (hkp : ∀ b o, b ≠ L → hb.get? b = some o → s.heap.get? b = some o) (hn : s.heap.Ns L m) (hm : m self = some (.ref x0)) (hS : S < s.heap.objs.size) (hbs : hb.objs.size ≤ s.heap.objs.size) :
    Seg (model prog w) A (VR hb L S) (VY hb L S fs) vs.length s (.func [.For (.Name iname p1) (.Name self p7) [.Expr (.Yield (some (.Subscript (.Name iname p2) (.Constant (.int 0) kc p3) p4)) p5) p6] [] p8] env)
      ((model prog w).den (.func [.For (.Name iname p1) (.Name self p7) [.Expr (.Yield (some (.Subscript (.Name iname p2) (.Constant (.int 0) kc p3) p4)) p5) p6] [] p8] env)) [] s := by
  refine seg_func (seg_execs_cons ?_)
  rw [exec_For]
  refine seg_bind_wrap (wpAny_standAt ?_)
  refine seg_bind_wrap (wpAny_Name (wpAny_loadName_local hkf hself (by rw [hL]; exact hn) hm ?_) hds)
  refine seg_bind_wrap (wpAny_of_eq (rfl : foldedSetIterable (.Name self p7) env (.ref x0) = pure (.ref x0)) ?_)
  refine seg_bind_wrap (wpAny_standAt ?_)
  refine seg_bind_wrap (wpAny_holding (hiter _ s _ _ hkp ?_))
  have hIS : s.heap.objs.size ≠ S := fun q => absurd hS (by rw [q]; exact Nat.lt_irrefl _)
  have hIL : s.heap.objs.size ≠ L := fun q => absurd hn.lt (by rw [q]; exact Nat.lt_irrefl _)
  refine seg_call fun p => ?_
  refine seg_vals (mx := mx) (ox := ox) (m := m) hh ?hk hL hkf hloc hco hi hd hx hxd hxL hIL hIS (Heap.get?_none_of_le hbs) hSL hSb hlen hv vs.length 0 s _ rfl (Nat.zero_le _) ⟨_, Heap.get?_push_size _ rfl, rfl, rfl⟩ (fun b o hL' e => Heap.get?_push_of_some _ (hkp b o hL' e)) (hn.push _) ⟨_, s.toks, rfl, fun b o _ _ e => Heap.get?_push_of_some _ e, fun o e => Heap.get?_push_of_some _ e⟩
  rfl
end
end Mine
end
section
open PySem PySem.W PySem.Calls PyProof.Rows Builtin
set_option maxRecDepth 100000
namespace Mine

theorem setGen_push {s : Shared} {base : Array GenState} {y x : GenState} (h : s.gens = base.push y) : (s.setGen base.size x).gens = base.push x := by
  simp only [Shared.setGen, h]
  apply Array.ext_getElem?
  intro i
  rw [Array.getElem?_setIfInBounds, Array.getElem?_push, Array.getElem?_push]
  by_cases e : base.size = i
  · subst e; simp
  · simp [e, Ne.symm e]

/-- a generator over items, when i of them are taken -/
structure VJ (prog : Program) (w : World) (A : Around) (a : Addr) (base : Array GenState) (hb : Heap) (L S : Addr) (fs : List Value) (s₀ : Shared) (i : Nat) (s : Shared) : Prop where
  keep : ∀ b o, b ≠ L → hb.get? b = some o → s.heap.get? b = some o
  gens : ∃ y, s.gens = base.push y ∧ y.bare = true ∧ ∀ s'' : Shared, Heap.SameBut S s.heap s''.heap → y.Goes (model prog w) A.in1 (VR hb L S) (VY hb L S fs) (fs.length - i) (.send .none) s''
  drawn : s.drawn = s₀.drawn
  os : s.os = s₀.os
  tk : s₀.toks ≤ s.toks
/-- the generator's end -/
structure VE (base : Array GenState) (hb : Heap) (L : Addr) (s₀ s : Shared) : Prop where
  keep : ∀ b o, b ≠ L → hb.get? b = some o → s.heap.get? b = some o
  gens : ∃ y, s.gens = base.push y ∧ y.bare = true
  drawn : s.drawn = s₀.drawn
  os : s.os = s₀.os
  tk : s₀.toks ≤ s.toks

section
variable {prog : Program} {w : World} {A : Around} {E : Value → Shared → Prop} {a : Addr} {base : Array GenState} {hb : Heap} {L S : Addr} {fs : List Value} {s₀ s : Shared} {i : Nat}
theorem vals_next {Q : Option Value → Shared → Prop} (hh : A.handled = none) (hroom : A.depth < recursionLimit) (hg : hb.IsGen a base.size) (haL : a ≠ L) (hl : hb.NoLimit) (hcL : cStatics ≠ L)
    (J : VJ prog w A a base hb L S fs s₀ i s) (hi : i ≤ fs.length) (hSb : hb.get? S = none) (hS : ∃ o, s.heap.get? S = some o)
    (item : i < fs.length → ∀ v s', fs[i]? = some v → VJ prog w A a base hb L S fs s₀ (i + 1) s' → (∀ o, s.heap.get? S = some o → s'.heap.get? S = some o) → Q (some v) s')
    (done : i = fs.length → ∀ s', VE base hb L s₀ s' → (∀ o, s.heap.get? S = some o → s'.heap.get? S = some o) → Q none s') : wpAny (model prog w) A (pyNext (.ref a)) Q E s := by
  have hg' : s.heap.IsGen a base.size := by
    obtain ⟨o, nm, qn, ho, r⟩ := hg
    exact ⟨o, nm, qn, J.keep a o haL ho, r⟩
  have hl' : s.heap.NoLimit := by
    obtain ⟨mc, hns, hnn⟩ := hl
    exact ⟨mc, hns.at' fun o e => J.keep cStatics o hcL e, hnn⟩
  obtain ⟨gs, eg, hbare, hgo⟩ := J.gens
  have hgs : s.gens[base.size]? = some gs := by rw [eg]; exact Array.getElem?_push_size ..
  have hgo' := hgo (s.setGen base.size .running) ⟨rfl, fun _ _ => rfl⟩
  refine wpAny_toks ?_
  unfold pyNext
  refine wpAny_bind (wpAny_attempt (wpAny_callSpecial?_slot (name := Str.ofString "__next__") hg'.typeIs slot_gen_next
    (wpAny_call_entry slot_gen_next hg'.typeIs entry_gen_next ?_ (args_gen_next _))))
  show wpAny _ A.in1 (Builtin.Generator.genWake (.ref a) (.send .none)) _ _ s
  unfold Builtin.Generator.genWake
  refine wpAny_bind (wpAny_holding (wpAny_genNumber hg' (wpAny_bind (wpAny_genState hgs ?_))))
  cases gs with
  | running => exact hgo'.elim
  | finished => exact hgo'.elim
  | _ =>
    refine wpAny_bind (wpAny_roomToWake hl' hroom ?_)
    show wpAny _ A.in1 (.resume base.size (.send .none) [] _) _ _ s
    refine wpAny_resumeQ hgs hgo' (fun x s₁ hx => ?_) (fun v s₁ gs' hb' hv => ?_)
    · obtain ⟨rfl, hn, h₁, tk₁, rfl, k₁, kS⟩ := hx
      show wpAny _ A.in1 (newExc (.type "StopIteration") [] >>= _) _ _ _
      refine wpAny_bind ?_
      simp only [newExc, newTuple]
      refine wpAny_bind (wpAny_newObj_type ?_ (by size_fits))
      refine wpAny_bind (m := firstArgMember _ _) (wpAny_of_eq (a := Value.none) (by first | rfl | (simp only [firstArgMember]; rfl)) ?_)
      refine wpAny_newObj_type ?_ (by size_fits)
      simp only [raiseNew]
      refine wpAny_bind (wpAny_bind (wpAny_handled ?_))
      first | rw [show A.in1.handled = none from hh] | rw [hh]
      refine wpAny_throw ?_
      refine wpAny_bind (wpAny_isInstance (T := "StopIteration") (b := true) ⟨_, Heap.get?_push_size _ rfl, rfl⟩ isSubtype_stop ?_)
      refine wpAny_pure fun htk => done (by omega) _ ⟨fun b o hbL e => Heap.get?_push_of_some _ (Heap.get?_push_of_some _ (k₁ b o hbL e (J.keep b o hbL e))), ⟨.finished, ?_, rfl⟩, J.drawn, J.os, Nat.le_trans J.tk htk⟩ fun o e => Heap.get?_push_of_some _ (Heap.get?_push_of_some _ (kS o e))
      exact setGen_push (base := base) (y := .running) (setGen_push eg)
    · obtain ⟨hi', ⟨h₁, tk₁, rfl, k₁, kS⟩, hkap⟩ := hv
      refine wpAny_pure ⟨v, rfl, wpAny_pure fun htk => ?_⟩
      rcases Nat.lt_or_ge i fs.length with hlt | hge
      · obtain ⟨m, hm⟩ : ∃ m, fs.length - i = m + 1 := ⟨fs.length - i - 1, by omega⟩
        rw [hm] at hi' hkap
        have e : fs.length - 1 - (m + 1 - 1) = i := by omega
        rw [e] at hi'
        refine item hlt v _ hi' ⟨fun b o hbL e => k₁ b o hbL e (J.keep b o hbL e), ⟨gs', setGen_push (base := base) (y := .running) (setGen_push eg), hb', fun s'' hsb => ?_⟩, J.drawn, J.os, Nat.le_trans J.tk htk⟩ kS
        have e2 : fs.length - (i + 1) = m := by omega
        rw [e2]
        exact hkap s'' hsb
      · exfalso
        have : fs.length - i = 0 := by omega
        rw [this] at hkap
        exact hkap _ ⟨rfl, fun _ _ => rfl⟩
end
end Mine
end
section
open PySem PySem.W PySem.Calls PyProof.Rows Builtin
set_option maxRecDepth 100000
namespace Mine
section
variable {prog : Program} {w : World} {A : Around} {E : Value → Shared → Prop} {a : Addr} {base : Array GenState} {hb : Heap} {L S : Addr} {fs : List Value} {s₀ s : Shared} {i : Nat}
theorem VJ.upd (J : VJ prog w A a base hb L S fs s₀ i s) (hSb : hb.get? S = none) {h' : Heap} (k : Heap.SameBut S s.heap h') : VJ prog w A a base hb L S fs s₀ i { s with heap := h' } := by
  obtain ⟨y, e1, e2, e3⟩ := J.gens
  refine ⟨fun b o hL e => (k.2 b fun q => by subst q; rw [hSb] at e; cases e).trans (J.keep b o hL e), ⟨y, e1, e2, fun s'' h => e3 s'' ⟨h.1.trans k.1, fun b hbS => (h.2 b hbS).trans (k.2 b hbS)⟩⟩, J.drawn, J.os, J.tk⟩

theorem le_gen_loop {R : Result → Shared → Prop} {res : Value} (hh : A.handled = none) (hroom : A.depth < recursionLimit) (hg : hb.IsGen a base.size) (haL : a ≠ L) (hl : hb.NoLimit) (hcL : cStatics ≠ L) (hSb : hb.get? S = none) (hz : fs.length ≤ 1000) :
    ∀ (k i : Nat) (s : Shared) (c : Nat), fs.length - i = k → i ≤ fs.length → VJ prog w A.in1 a base hb L S fs s₀ i s → s.heap.get? S = some (gobj (.type "list") none (List.toArray (fs.take i)) c) →
      (∀ s' c', VE base hb L s₀ s' → s'.heap.get? S = some (gobj (.type "list") none (List.toArray fs) c') → R (.ok (.ret res)) s') →
      codeAny (model prog w) A (.builtin "list.extend.loop" ⟨[.ref S, .ref a, res], []⟩) R s := by
  intro k
  induction k with
  | zero =>
    intro i s c hk hi J hS q
    refine codeAny_builtin F.entry_extend_loop ?_
    rw [Around.under_plainId F.plain_extend_loop _]
    show wpAny _ A.in1 (pyNext (.ref a) >>= _) _ _ s
    refine wpAny_bind (vals_next (A := A.in1) hh hroom hg haL hl hcL J hi hSb ⟨_, hS⟩ (fun h => absurd h (by omega)) fun _ s' Ve kS => ?_)
    have e : i = fs.length := by omega
    subst e
    rw [List.take_length] at hS
    exact wpAny_pure (q s' c Ve (kS _ hS))
  | succ k ih =>
    intro i s c hk hi J hS q
    refine codeAny_builtin F.entry_extend_loop ?_
    rw [Around.under_plainId F.plain_extend_loop _]
    show wpAny _ A.in1 (pyNext (.ref a) >>= _) _ _ s
    refine wpAny_bind (vals_next (A := A.in1) hh hroom hg haL hl hcL J hi hSb ⟨_, hS⟩ (fun hlt v s' hv J' hk' => ?_) (fun h => absurd h (by omega)))
    have hS' := hk' _ hS
    show wpAny _ A.in1 (updateSeq S (·.push v) >>= _) _ _ _
    have hx2 := Heap.get?_update_self (Obj.mapSeq (·.push v)) hS' rfl
    have et : fs.take (i + 1) = fs.take i ++ [v] := by rw [List.take_add_one, hv]; rfl
    have e2 : Obj.mapSeq (·.push v) (gobj (.type "list") none (List.toArray (fs.take i)) c) = gobj (.type "list") none (List.toArray (fs.take (i + 1))) (if ((fs.take (i + 1)).length == (fs.take i).length) = true then c else c + 1) := by
      show Obj.mk _ _ (.seq ((fs.take i).toArray.push v) (if (((fs.take i).toArray.push v).size == (fs.take i).toArray.size) = true then c else c + 1)) _ = _
      rw [et]; simp
    rw [e2] at hx2
    refine wpAny_bind (wpAny_updateSeq hS' rfl (wpAny_pure (And.intro (plainId_quiet F.plain_extend_loop _) (ih (i + 1) _ _ (by omega) hlt (J'.upd hSb (Heap.SameBut.update ..)) hx2 q)))
      (hz := by rw [sizeLine_eq]; simp; omega) (_hz' := by rw [sizeLine_eq]; simp; omega))

theorem list_gen {Q : Value → Shared → Prop} (hh : A.handled = none) (hroom : A.depth < recursionLimit) (hg : hb.IsGen a base.size) (haL : a ≠ L) (hl : hb.NoLimit) (hcL : cStatics ≠ L) (hSb : hb.get? s.heap.objs.size = none) (hz : fs.length ≤ 1000)
    (J : VJ prog w A.in1.in1 a base hb L s.heap.objs.size fs s₀ 0 { s with heap := s.heap.push { cls := .type "list", data := .seq #[] } })
    (q : ∀ s' c', VE base hb L s₀ s' → s'.heap.get? s.heap.objs.size = some (gobj (.type "list") none (List.toArray fs) c') → Q (.ref s.heap.objs.size) s') :
    wpAny (model prog w) A (PySem.call (.type "list") [.ref a]) Q E s := by
  have hS : (s.heap.push { cls := .type "list", data := .seq #[] }).get? s.heap.objs.size = some { cls := .type "list", data := .seq #[] } := Heap.get?_push_size _ rfl
  refine callType_codes (Q₁ := fun obj s₁ => obj = .ref s.heap.objs.size ∧ s₁ = { s with heap := s.heap.push { cls := .type "list", data := .seq #[] } }) F.called_list (F.typeCall_list_1 _) F.entry_list_init
    (code_list_new _ ⟨rfl, rfl⟩) fun obj s₁ h₁ => ?_
  obtain ⟨rfl, rfl⟩ := h₁
  refine ⟨⟨_, hS, rfl⟩, F.args_list_init_2 _ _, ?_⟩
  -- what is left: the list takes the generator's items
  have main : ∀ (h' : Heap) (c' : Nat), Heap.SameBut s.heap.objs.size (s.heap.push { cls := .type "list", data := .seq #[] }) h' → h'.get? s.heap.objs.size = some (gobj (.type "list") none #[] c') →
      wpAny (model prog w) A.in1.in1 (Builtin.List.listExtendWith (.ref s.heap.objs.size) (.ref a) .none)
        (fun fin s' => match fin with | .done f => wants (fun r s₂ => r = .none ∧ Q (.ref s.heap.objs.size) s₂) E (.ok f) s' | .again c' => c'.quiet = true ∧ codeAny (model prog w) A.in1 c' (wants (fun r s₂ => r = .none ∧ Q (.ref s.heap.objs.size) s₂) E) s')
        (fun e s' => wants (fun r s₂ => r = .none ∧ Q (.ref s.heap.objs.size) s₂) E (.error e) s') { s with heap := h' } := fun h' c' k hS' => by
    have J' := J.upd hSb k
    have hTy : ({ s with heap := h' } : Shared).TypeIs (.ref a) "generator" := by
      obtain ⟨o, nm, qn, ho, hc, r⟩ := hg
      exact ⟨o, J'.keep a o haL ho, hc⟩
    have haS : s.heap.objs.size ≠ a := fun q => by
      obtain ⟨o, nm, qn, ho, r⟩ := hg
      rw [← q, hSb] at ho; cases ho
    unfold Builtin.List.listExtendWith
    refine wpAny_bind (wpAny_typeOf hTy ?_)
    have h1 : (Builtin.List.listSameRef (.ref s.heap.objs.size) (.ref a) || (Value.type "generator" == Value.type "list") || (Value.type "generator" == Value.type "tuple")) = false := by
      have : Builtin.List.listSameRef (.ref s.heap.objs.size) (.ref a) = false := by simp [Builtin.List.listSameRef, haS]
      rw [this]; decide
    simp only [h1, Bool.false_eq_true, if_false]
    have hg' : h'.IsGen a base.size := by
      obtain ⟨o, nm, qn, ho, r⟩ := hg
      exact ⟨o, nm, qn, J'.keep a o haL ho, r⟩
    refine wpAny_bind (wpAny_pyIter_gen hg' ?_)
    refine wpAny_bind (wpAny_holding ?_)
    unfold Builtin.List.listLengthHint
    refine wpAny_bind (wpAny_specialOf hTy F.gen_no_len ?_)
    show wpAny _ _ (specialOf (Value.ref a) (Str.ofString "__length_hint__") >>= _) _ _ _
    refine wpAny_bind (wpAny_specialOf hTy F.gen_no_hint ?_)
    refine wpAny_pure ?_
    refine wpAny_bind (wpAny_rule ?_)
    show wpAny _ _ ((updateSeq s.heap.objs.size (·.push .none) >>= fun _ => updateSeq s.heap.objs.size (·.pop)) >>= _) _ _ _
    refine wpAny_bind (wpAny_bind (wpAny_updateSeq hS' rfl ?_))
    have hx2 := Heap.get?_update_self (Obj.mapSeq (·.push Value.none)) hS' rfl
    refine wpAny_updateSeq (hz := by seq_fits) hx2 rfl ?_
    have hx3 := Heap.get?_update_self (Obj.mapSeq (·.pop)) hx2 rfl
    refine wpAny_pure (And.intro (plainId_quiet F.plain_extend_loop _) ?_)
    have sb : Heap.SameBut s.heap.objs.size h' ((h'.update s.heap.objs.size (Obj.mapSeq (·.push Value.none))).update s.heap.objs.size (Obj.mapSeq (·.pop))) :=
      ⟨((Heap.SameBut.update ..).1.trans (Heap.SameBut.update ..).1), fun b hbS => (Heap.get?_update_other _ _ (Ne.symm hbS)).trans (Heap.get?_update_other _ _ (Ne.symm hbS))⟩
    exact le_gen_loop (A := A.in1) hh hroom hg haL hl hcL hSb hz fs.length 0 _ _ rfl (Nat.zero_le _) (J'.upd hSb sb) hx3 fun s' c'' V hS'' => ⟨rfl, q s' c'' V hS''⟩
  show wpAny _ A.in1.in1 (do let old ← Builtin.List.listItems (.ref s.heap.objs.size); Builtin.List.listUpdate (.ref s.heap.objs.size) (fun _ => #[]); letGo old.toList.reverse; Builtin.List.listExtendWith (.ref s.heap.objs.size) (.ref a) .none) _ _ _
  refine wpAny_bind ?_
  unfold Builtin.List.listItems
  refine wpAny_bind (wpAny_seqItems hS rfl (wpAny_pure ?_))
  show wpAny _ _ (updateSeq s.heap.objs.size (fun _ => #[]) >>= fun _ => letGo (#[] : Array Value).toList.reverse >>= fun _ => Builtin.List.listExtendWith (.ref s.heap.objs.size) (.ref a) .none) _ _ _
  refine wpAny_bind (wpAny_updateSeq hS rfl ?_)
  have hx2 := Heap.get?_update_self (Obj.mapSeq (fun _ => (#[] : Array Value))) hS rfl
  refine wpAny_bind (wpAny_letGo ?_)
  exact main _ _ (Heap.SameBut.update ..) hx2
end
end Mine
end
section
open PySem PySem.W PySem.Calls PyProof.Rows Builtin
set_option maxRecDepth 100000
namespace Mine
theorem push_bare (a : Array GenState) (y : GenState) (hy : y.bare = true) : ∃ l, a.push y = a ++ l ∧ AllBare l := ⟨#[].push y, by simp, AllBare.empty.push hy⟩
theorem firsts_of {V : List Addr} {h : Heap} : ∀ (l ds : List CV) (vs : List Value), Rps V h l vs → ds.length = l.length → (∀ (i : Nat) (c : CV), l[i]? = some c → ∃ c0 r, c = .tup (c0 :: r) ∧ ds[i]? = some c0) →
    ∃ fs : List Value, Rps V h ds fs ∧ fs.length = vs.length ∧ ∀ (i : Nat) (v : Value), vs[i]? = some v → ∃ (t : Addr) (ws : List Value) (m : Nat) (y : Value), v = .ref t ∧ h.get? t = some (seqObj "tuple" (List.toArray ws) m) ∧ ws[0]? = some y ∧ fs[i]? = some y
  | [], ds, vs, r, hl, _ => by
    cases r
    obtain rfl : ds = [] := List.length_eq_zero_iff.mp hl
    exact ⟨[], rfl, rfl, fun i v h => by simp at h⟩
  | c :: l, ds, vs, r, hl, hr => by
    obtain ⟨v, us, rfl, rv, rs⟩ := r
    obtain ⟨c0, cr, rfl, hd⟩ := hr 0 c rfl
    obtain ⟨d, ds', rfl⟩ : ∃ d ds', ds = d :: ds' := by
      cases ds with
      | nil => cases hl
      | cons d ds' => exact ⟨d, ds', rfl⟩
    simp at hd
    subst hd
    obtain ⟨fs, r1, r2, r3⟩ := firsts_of l ds' us rs (by simpa using hl) fun i c hc => by simpa using hr (i + 1) c (by simpa using hc)
    obtain ⟨t, ws, m, rfl, _, e, y, ws', rfl, ry, _⟩ := rv
    refine ⟨y :: fs, ⟨y, fs, rfl, ry, r1⟩, by simp [r2], fun i v hv => ?_⟩
    cases i with
    | zero =>
      simp at hv
      subst hv
      exact ⟨t, y :: ws', m, y, rfl, e, rfl, rfl⟩
    | succ i =>
      simp at hv
      simpa using r3 i v hv
section
variable {prog : Program} {w : World} {g : Gr} (G : Gr2 g) {K : Frag} (k : KIn g K) {fi : FI} {n : Nat} {σ : Loc}
include G k
/-- `list(x.values())`: a generator function over an Accept's items -/
theorem EV.list_values {np ap cp pos p1 p2 p3 p4 p5 p6 p7 p8 : Pos} {kc : Nat} {iname self mname : Str} {o : Expr} {C f : Addr} {fd : FuncData} {p : Bool} {l ds : List CV}
    (ak : AccK K C) (hfind : findIn K (.ref C) mname = some (some (.ref f))) (hty : typeIn K (.ref f) = some (.type "function")) (hmn : mname ≠ ("provided" : Str)) (D : Def g f fd [.For (.Name iname p1) (.Name self p7) [.Expr (.Yield (some (.Subscript (.Name iname p2) (.Constant (.int 0) kc p3) p4)) p5) p6] [] p8])
    (hgen : fd.scope.isGenerator = true) (hcl : fd.closure = []) (hloc : fd.scope.names.lookup iname = some .local) (hself : fd.scope.names.lookup self = some .local) (hd : (iname == ("__debug__" : Str)) = false) (hds : (self == ("__debug__" : Str)) = false) (hsp : self ≠ ("provided" : Str))
    (hbind : ∀ v, bindArgs fd ⟨[v], []⟩ = pure [(self, v)]) (h0 : g.hd = Option.none)
    (hn : EV prog w g fi n σ (.Name "list" np) (.raw (.type "list"))) (ho : EV prog w g fi n σ o (.acc C p l)) (hl : l.length ≤ 1000) (hlen : ds.length = l.length)
    (hrow : ∀ (i : Nat) (c : CV), l[i]? = some c → ∃ c0 r, c = .tup (c0 :: r) ∧ ds[i]? = some c0)
    (hbase : ∀ env, attributeBase o mname env (eval o env) = eval o env := by intro env; rfl)
    (hline : (ap.endLine == cp.line) = true := by rfl)
    (hse : ∀ env, starEach [(.Call (.Attribute o mname ap) [] [] cp)] env = [(false, eval (.Call (.Attribute o mname ap) [] [] cp) env)] := by intro env; rfl) :
    EV prog w g fi n σ (.Call (.Name "list" np) [.Call (.Attribute o mname ap) [] [] cp] [] pos) (.lst ds) := by
  intro A env s Q E ok F q
  refine wpAny_Call_ofName (hn A env s _ E ok F fun v s₀ y₀ r₀ => ?_)
  cases r₀
  have F₀ := F.step G.toGrOk y₀
  have hplain : (backTo pos (starEach [(.Call (.Attribute o mname ap) [] [] cp)] env)).any (·.1) = false := by rw [hse]; rfl
  refine callWith_of (P := fun h => ∃ s, At g s ∧ s.heap = h) (by rw [hplain]; rfl) Keep.type (evalArgs_any hplain ?_)
  rw [hse]
  refine spliced_cons ?_
  rw [arm_eval_Call, hbase]
  refine wpAny_bind (ho A env s₀ _ E ok F₀ fun v s₁ y₁ r₁ => ?_)
  refine wpAny_bind (wpAny_standAt ?_)
  have hpos : methodCallPos true o env ap cp = pure cp := by unfold methodCallPos; simp [hline]
  unfold methodCall
  have F₁ := F₀.step G.toGrOk y₁
  have hform : methodCallForm (([] : List Expr).length + ([] : List Keyword).length) (backTo cp (starEach [] env)) (backToKw cp (keywordEach [] env)) = true := by rfl
  rw [hform]
  refine wpAny_bind (wpAny_holding ((Mth.acc (prog := prog) (w := w) k ak hfind hty hmn) _ A s₁ v _ E F₁.at_ r₁ ?_))
  refine wpAny_bind (wpAny_of_eq hpos ?_)
  refine callWith_of (P := fun h => ∃ s, At g s ∧ s.heap = h) rfl (Keep.def_ G D) (evalArgs_any rfl ?_)
  refine spliced_nil ⟨⟨s₁, F₁.at_, rfl⟩, ?_⟩
  -- the call makes the generator
  obtain ⟨of, hof, hdf⟩ := D.obj
  refine wpAny_call (codeAny_call_generator ok.room (At.fn G F₁.at_ hof hdf) hdf D.co hgen D.body (At.codeRec F₁.at_ D) (BindsTo.of_eq (hbind v) _ _ _ _ ?_))
  rw [D.gl, D.bi]
  refine newEnv_ok G D.kind F₁.at_ (cb := [(self, .acc C p l)]) (σ₀ := []) (σ := [(self, .acc C p l)]) (by rw [hcl]; exact Closed.nil) (.cons .nil (.inl hself) hsp .nil) (.cons r₁ .nil) fun env' s₂ y₂ F₂ _ own hfr => ?_
  have a₂ := F₁.at_.step y₂
  refine ⟨At.lim G a₂, ?_⟩
  refine spliced_nil ?_
  -- the state behind it
  generalize hob : ({ cls := .type "generator", data := .fields #[.int s₂.gens.size 0, .str fd.name s₂.toks, .str fd.qualname (s₂.toks + 1)] } : Obj) = og
  have y₃ : Step g s₂ { s₂ with gens := s₂.gens.push (.fresh (.func [.For (.Name iname p1) (.Name self p7) [.Expr (.Yield (some (.Subscript (.Name iname p2) (.Constant (.int 0) kc p3) p4)) p5) p6] [] p8] env')), toks := s₂.toks + 1 + 1, heap := s₂.heap.push og } :=
    ⟨fun b o _ _ e => Heap.get?_push_of_some _ e, fun b o _ e => ⟨o.slots, Heap.get?_push_of_some _ e⟩, fun ht => G.tabK _ _ (fun b o e _ => Heap.get?_push_of_some _ e) ht, push_bare _ _ rfl, rfl, rfl, by show s₂.toks ≤ s₂.toks + 1 + 1; omega⟩
  have y03 := ((y₀.trans y₁).trans y₂).trans y₃
  refine ⟨⟨_, F.at_.step y03, rfl⟩, ?_⟩
  -- what stands in the heap
  have hh : A.handled = Option.none := ok.hh h0
  obtain ⟨m, hns, hprov, hσ⟩ := F₂.ns
  obtain ⟨sv, rsv, hsv⟩ := hσ _ (.head _)
  have hm : m self = some sv := by
    rcases hsv with ⟨_, h⟩ | ⟨h, _⟩
    · exact h
    · exfalso
      rcases h with h | h <;> (rw [hself] at h; cases h)
  have rsv' := rsv
  obtain ⟨x0, dx, vs, m0, od, rfl, nV, _, ex, ed, I, hlk, rs⟩ := rsv.acc
  have hndx : dx ≠ env'.locals := by
    obtain ⟨x1, d1, vs1, n1, mm, e1, _, _, o1, hn1, hm1, _⟩ := rsv'
    cases e1
    rw [ex] at o1; cases o1
    intro q
    exact not_mut_prov hn1 (by rw [hm1, if_pos rfl]) (.inr ⟨m, q ▸ hns, hprov⟩)
  have hLt : env'.locals < s₂.heap.objs.size := hns.lt
  have hLd : ∀ {b : Addr} {o : Obj}, s₂.heap.get? b = some o → (∀ es ep, o.data ≠ .dict es ep) → b ≠ env'.locals := fun {b o} e h q => by
    obtain ⟨o', es, ep, e', d, _⟩ := hns
    rw [← q, e] at e'; cases e'; exact h _ _ d
  have hLB : g.hB.get? env'.locals = Option.none := F₂.own _ (.inl rfl)
  have hsc : env'.scope = fd.scope := F₂.sc
  obtain ⟨fs, rfs, hfl, hfv⟩ := firsts_of l ds vs rs hlen hrow
  have up : ∀ {b : Addr} {o : Obj}, s₂.heap.get? b = some o → (s₂.heap.push og).get? b = some o := fun e => Heap.get?_push_of_some _ e
  have hcL : cStatics ≠ env'.locals := fun q => by
    obtain ⟨mc, ⟨oc, _, _, ec, _⟩, _⟩ := G.lim
    rw [q, hLB] at ec; cases ec
  have hgen' : (s₂.heap.push og).IsGen s₂.heap.objs.size s₂.gens.size := by
    subst hob
    exact ⟨_, _, _, Heap.get?_push_size _ rfl, rfl, rfl, rfl⟩
  have hz : vs.length = l.length := rs.length
  refine list_gen (s := { s₂ with gens := s₂.gens.push (.fresh (.func [.For (.Name iname p1) (.Name self p7) [.Expr (.Yield (some (.Subscript (.Name iname p2) (.Constant (.int 0) kc p3) p4)) p5) p6] [] p8] env')), toks := s₂.toks + 1 + 1, heap := s₂.heap.push og })
    (hb := s₂.heap.push og) (L := env'.locals) (base := s₂.gens) (fs := fs) (s₀ := s₂) hh ok.room hgen' (fun q => by rw [← q] at hLt; exact Nat.lt_irrefl _ hLt) ((At.lim G a₂).keeps fun _ _ e => up e) hcL (Heap.get?_none_of_le (Nat.le_refl _)) (by omega) ?_ fun s' c' Ve hS' => ?_
  · refine ⟨fun b o _ e => Heap.get?_push_of_some _ e, ⟨_, rfl, rfl, fun s'' hsb => ⟨rfl, ?_⟩⟩, rfl, rfl, by show s₂.toks ≤ s₂.toks + 1 + 1; omega⟩
    have hSL : (s₂.heap.push og).objs.size ≠ env'.locals := fun q => by rw [Heap.size_push] at q; rw [← q] at hLt; exact absurd hLt (Nat.not_lt_of_le (Nat.le_succ _))
    have kp : ∀ b o, b ≠ env'.locals → (s₂.heap.push og).get? b = some o → s''.heap.get? b = some o := fun b o _ e => (hsb.2 b (Nat.ne_of_lt (Heap.lt_size e))).trans (Heap.get?_push_of_some _ e)
    have hsz : s''.heap.objs.size = (s₂.heap.push og).objs.size + 1 := by rw [hsb.1, Heap.size_push]
    rw [Nat.sub_zero, hfl]
    refine seg_gen (A := A.in1.in1.in1) (ox := accObj C dx vs m0) (mx := m0) (x0 := x0) hh rfl (by rw [hsc]; exact D.kind) (by rw [hsc]; exact hloc) (by rw [hsc]; exact hself) (by rw [hsc]; exact D.co) (by unfold interactive; rw [hsc, D.kind]; rfl) hd hds (up ex) rfl (hLd ex fun _ _ h => by cases h) hSL (Heap.get?_none_of_le (Nat.le_refl _)) hfl (fun i v hv => ?_) (fun A' u Q' E' hk' q' => ?_) s'' m kp ((((hns.push _).push _)).at' fun o e => (hsb.2 _ (Ne.symm hSL)).trans e) hm (by rw [hsz]; exact Nat.lt_succ_self _) (by rw [hsz]; exact Nat.le_succ _)
    · obtain ⟨t, ws, mt, y, rfl, et, hw, hf⟩ := hfv i v hv
      exact ⟨t, ws, mt, y, rfl, hLd et (fun _ _ h => by cases h), up et, hw, hf⟩
    · refine iter_acc (K := K) (C := C) (ox := accObj C dx vs m0) (od := some od) (fun b o h => hk' b o (fun q => ?_) (up (k.at a₂ b o h))) ⟨hk' _ _ (hLd ex fun _ _ h => by cases h) (up ex), I.cls, I.no, hk' _ _ hndx (up ed)⟩ ak A' Q' E' q'
      have := k.inn b o h
      rw [q, hLB] at this; cases this
  · have nL : ∀ {b : Addr} {o : Obj}, s₁.heap.get? b = some o → b ≠ env'.locals := fun {b o} e q => by
      have h1 := own _ (.inl rfl)
      rw [← q, e] at h1; cases h1
    obtain ⟨lg, eg, hlg⟩ := y₂.gens
    obtain ⟨yg, eyg, hyg⟩ := Ve.gens
    have z : Step g s₁ s' := by
      refine ⟨fun b o nT nF e => Ve.keep b o (nL e) (up (y₂.keep b o nT nF e)), fun b o hF e => ?_, fun ht => G.tabK s₂.heap s'.heap (fun b o e hk => have hf := hk.fields; Ve.keep b o (hLd e fun _ _ h => by obtain ⟨_, hf⟩ := hf; rw [hf] at h; cases h) (up e)) (y₂.tab ht), ⟨lg.push yg, by rw [eyg, eg, Array.append_push], hlg.push hyg⟩, Ve.drawn.trans y₂.drawn, Ve.os.trans y₂.os, Nat.le_trans y₂.tk Ve.tk⟩
      obtain ⟨sl, e'⟩ := y₂.keepF b o hF e
      exact ⟨sl, Ve.keep _ _ (nL e) (up e')⟩
    refine q _ s' ((y₀.trans y₁).trans z) ⟨_, fs, c', rfl, At.out (F.at_.step y03), hS', ?_⟩
    exact rfs.mono fun b o e _ _ nm => Ve.keep b o (fun q => nm (.inr ⟨m, q ▸ hns, hprov⟩)) (up e)
end
end Mine
end
section
open PySem PySem.W PySem.Calls PyProof.Rows Builtin Builtin.Re
set_option maxRecDepth 100000
namespace Mine

/-- the matching machine, for at most k turns -/
def drv : Nat → Sre.M → Option Sre.M
  | 0, _ => none
  | k + 1, m => if (m.runFor 4).outcome.isSome then some (m.runFor 4) else drv k (m.runFor 4)
/-- the next match: none = not known, some none = there is none -/
def found (code text : Array Nat) (start : Nat) (must : Bool) : Option (Option Sre.M) := match drv 400 (Sre.forSearch code text 0 start text.size must) with
  | some m => (match m.outcome with | some .matched => some (some m) | some .failed => some none | _ => none)
  | none => none
def splitGo (code text : Array Nat) (most : Int) : Nat → Nat → Nat → Bool → Int → Option (List (Array Nat) × Nat)
  | 0, _, _, _, _ => none
  | k + 1, start, last, must, n => if (most != 0 && decide (n ≥ most)) = true then some ([], last) else match found code text start must with
    | none => none
    | some none => some ([], last)
    | some (some m) => (splitGo code text most k m.handed m.handed (m.handed == m.start) (n + 1)).map fun r => (text.extract last m.start :: r.1, r.2)
/-- `re.split`, as far as the machine ends -/
def reSplit (code : Array Nat) (most : Int) (x : Str) : Option (List Str) := (splitGo code x.cps most (2 * x.cps.size + 3) 0 0 false 0).map fun r => r.1.map (⟨·⟩) ++ [⟨x.cps.extract r.2 x.cps.size⟩]

section
variable {M : Model} {A : Around} {E : Value → Shared → Prop} {s : Shared}
theorem drive_ok {Q : Sre.M → Shared → Prop} : ∀ (k t : Nat) (m m' : Sre.M), drv k m = some m' → Q m' s → wpAny M A (reDrive (t + k) m) Q E s
  | 0, _, _, _, h, _ => by cases h
  | k + 1, t, m, m', h, q => by
    show wpAny M A (let m := m.runFor reTurnSteps; if m.outcome.isSome then pure m else do rule "sre.turn"; reDrive (t + k) m) Q E s
    unfold drv at h
    by_cases ho : (m.runFor 4).outcome.isSome = true
    · rw [if_pos ho] at h
      cases h
      show wpAny M A (if (m.runFor 4).outcome.isSome = true then pure (m.runFor 4) else _) Q E s
      rw [if_pos ho]
      exact wpAny_pure q
    · rw [if_neg ho] at h
      show wpAny M A (if (m.runFor 4).outcome.isSome = true then pure (m.runFor 4) else do rule "sre.turn"; reDrive (t + k) (m.runFor 4)) Q E s
      rw [if_neg ho]
      exact wpAny_bind (wpAny_rule (drive_ok k t _ _ h q))
theorem rules_ok {α : Type} {Q : PUnit → Shared → Prop} {body : α → PUnit → Sem (ForInStep PUnit)} (hb : ∀ x (R : ForInStep PUnit → Shared → Prop), R (.yield ⟨⟩) s → wpAny M A (body x ⟨⟩) R E s) : ∀ l : List α, Q ⟨⟩ s → wpAny M A (forIn l ⟨⟩ body) Q E s
  | [], q => by rw [List.forIn_nil]; exact wpAny_pure q
  | x :: l, q => by
    rw [List.forIn_cons]
    exact wpAny_bind (hb x _ (rules_ok hb l q))
theorem found_ok {code text : Array Nat} {start : Nat} {must : Bool} {r : Option Sre.M} {Q : Option Sre.M → Shared → Prop} {t : ReTarget} (hc : t.code = code) (ht : t.text = text) (hg : t.groups = 0) (hl : t.lim = text.size) (h : found code text start must = some r) (q : Q r s) :
    wpAny M A (reNextFound t start must) Q E s := by
  subst hc ht
  unfold found at h
  cases hd : drv 400 (Sre.forSearch t.code t.text 0 start t.text.size must) with
  | none => rw [hd] at h; cases h
  | some m =>
    rw [hd] at h
    unfold reNextFound reRunToEnd
    rw [hg, hl]
    have e : (2 ^ 64 : Nat) = (2 ^ 64 - 400) + 400 := by decide
    rw [e]
    refine wpAny_bind (drive_ok 400 _ _ m hd ?_)
    refine wpAny_bind (rules_ok (fun i R hR => ?_) _ ?_)
    · split
      · exact wpAny_bind (wpAny_rule (wpAny_pure hR))
      · exact wpAny_pure hR
    · cases ho : m.outcome with
      | none => simp only [ho] at h; cases h
      | some oc =>
        cases oc with
        | matched => simp only [ho] at h; cases h; exact wpAny_pure q
        | failed => simp only [ho] at h; cases h; exact wpAny_pure q
        | stuck why => simp only [ho] at h; cases h
end
end Mine
end
section
open PySem PySem.W PySem.Calls PyProof.Rows Builtin Builtin.Re
set_option maxRecDepth 100000
namespace Mine

/-- a compiled pattern, as it stands in a heap -/
def ReAt (h : Heap) (re ci : Addr) (code : Array Nat) : Prop := ∃ o fs oc its m, h.get? re = some o ∧ o.cls = .type "re.Pattern" ∧ o.dict = none ∧ o.data = .fields fs ∧ reRawNat (fs.getD 6 .none) = 0 ∧ reRawNat (fs.getD 2 .none) = 0 ∧ fs.getD 5 .none = .ref ci ∧
  h.get? ci = some oc ∧ oc.data = .seq its m ∧ (its.map reRawOf).map (·.toNat) = code
section
variable {M : Model} {A : Around} {E : Value → Shared → Prop} {s : Shared}
theorem target_ok {re ci : Addr} {code : Array Nat} {x : Str} {tk : Tok} {Q : ReTarget → Shared → Prop} (R : ReAt s.heap re ci code)
    (q : ∀ t : ReTarget, t.code = code → t.text = x.cps → t.groups = 0 → t.lim = x.cps.size → t.kind = 0 → Q t s) : wpAny M A (reWholeTarget (.ref re) (.str x tk)) Q E s := by
  obtain ⟨o, fs, oc, its, m, ho, _, _, hd, h6, h2, h5, hoc, hdc, hcode⟩ := R
  unfold reWholeTarget
  refine wpAny_bind (wpAny_fieldsOf ho hd ?_)
  unfold reTextOf
  refine wpAny_bind (wpAny_bind (m := asStr? (.str x tk)) (wpAny_pure (wpAny_pure ?_)))
  dsimp only
  rw [h6]
  simp only [show ((0 : Nat) == 0) = true from rfl, show ((0 : Nat) == 1) = false from rfl, Bool.and_false, Bool.false_and, Bool.true_and, Bool.false_eq_true, if_false]
  unfold reNoCollectionInside
  simp only [show ((0 : Nat) == 1) = false from rfl, Bool.false_eq_true, if_false]
  refine wpAny_bind (wpAny_pure ?_)
  unfold reRawItems
  rw [h5]
  refine wpAny_bind (wpAny_bind (wpAny_seqItems hoc hdc (wpAny_pure (wpAny_pure ?_))))
  exact q _ hcode rfl h2 rfl rfl

abbrev SplitSt := Array Value × Nat × Nat × Bool × Int × Bool
def splitBody (t : ReTarget) (most : Int) (_x : Nat) (__s : SplitSt) : Sem (ForInStep SplitSt) :=
  if (!__s.snd.snd.snd.snd.snd) = true then do
    let __do_lift ← (if (most != 0 && decide (__s.snd.snd.snd.snd.fst ≥ most)) = true then pure none else reNextFound t __s.snd.fst __s.snd.snd.snd.fst)
    match __do_lift with
      | none =>
        pure
          (ForInStep.yield
            (__s.fst, __s.snd.fst, __s.snd.snd.fst, __s.snd.snd.snd.fst, __s.snd.snd.snd.snd.fst, true))
      | some m => do
        let __do_lift ← reSlice t.text t.kind __s.snd.snd.fst m.start
        let __s_1 ←
          forIn (List.range t.groups) (__s.fst.push __do_lift) fun g __s => do
              let __do_lift ← reMachineGroup t m (g + 1) (pure Value.none)
              pure (ForInStep.yield (__s.push __do_lift))
        pure
            (ForInStep.yield
              (__s_1, m.handed, m.handed, m.handed == m.start, __s.snd.snd.snd.snd.fst + 1,
                __s.snd.snd.snd.snd.snd))
  else
    pure
      (ForInStep.yield
        (__s.fst, __s.snd.fst, __s.snd.snd.fst, __s.snd.snd.snd.fst, __s.snd.snd.snd.snd.fst,
          __s.snd.snd.snd.snd.snd))
theorem over_ok {t : ReTarget} {most : Int} {o : Array Value} {a b : Nat} {c : Bool} {n : Int} {Q : SplitSt → Shared → Prop} : ∀ l : List Nat, Q (o, a, b, c, n, true) s → wpAny M A (forIn l ((o, a, b, c, n, true) : SplitSt) (splitBody t most)) Q E s
  | [], q => by rw [List.forIn_nil]; exact wpAny_pure q
  | x :: l, q => by
    rw [List.forIn_cons]
    show wpAny M A ((pure _ : Sem _) >>= _) Q E s
    exact wpAny_bind (wpAny_pure (over_ok l q))
theorem slice_ok {t : ReTarget} {b e : Nat} {Q : Value → Shared → Prop} (hk : t.kind = 0) (hz : t.text.size ≤ 10000) (q : Q (.str ⟨t.text.extract b e⟩ s.toks) { s with toks := s.toks + 1 }) : wpAny M A (reSlice t.text t.kind b e) Q E s := by
  unfold reSlice
  rw [hk, if_pos (by rfl)]
  refine wpAny_mkStr q (by
    show (t.text.extract b e).size ≤ sizeLine
    rw [sizeLine_eq, Array.size_extract]; omega)
theorem loop_ok {t : ReTarget} {code : Array Nat} {most : Int} (hc : t.code = code) (hg : t.groups = 0) (hl : t.lim = t.text.size) (hk : t.kind = 0) (hz : t.text.size ≤ 10000) {last' : Nat} : ∀ (l : List Nat) (ps : List (Str × Tok)) (o : Array Value) (start last : Nat) (must : Bool) (n : Int) (pieces : List (Array Nat)) (s : Shared) (Q : SplitSt → Shared → Prop),
    splitGo code t.text most l.length start last must n = some (pieces, last') → o = List.toArray (strValues ps) →
    (∀ ps' a c n' tk, s.toks ≤ tk → ps'.map (·.1) = ps.map (·.1) ++ pieces.map (fun p => (⟨p⟩ : Str)) → Q (List.toArray (strValues ps'), a, last', c, n', true) { s with toks := tk }) → wpAny M A (forIn l ((o, start, last, must, n, false) : SplitSt) (splitBody t most)) Q E s
  | [], _, _, _, _, _, _, _, _, _, h, _, _ => by cases h
  | x :: l, ps, o, start, last, must, n, pieces, s, Q, h, ho, q => by
    rw [List.forIn_cons]
    have eb : splitBody t most x (o, start, last, must, n, false) = ((if (most != 0 && decide (n ≥ most)) = true then pure none else reNextFound t start must) >>= fun r => match r with
      | none => pure (ForInStep.yield (o, start, last, must, n, true))
      | some m => do
        let p ← reSlice t.text t.kind last m.start
        let o' ← forIn (List.range t.groups) (o.push p) fun g st => do
          let v ← reMachineGroup t m (g + 1) (pure Value.none)
          pure (ForInStep.yield (st.push v))
        pure (ForInStep.yield (o', m.handed, m.handed, m.handed == m.start, n + 1, false))) := rfl
    rw [eb]
    rw [List.length_cons] at h
    unfold splitGo at h
    by_cases hm : (most != 0 && decide (n ≥ most)) = true
    · rw [if_pos hm] at h
      cases h
      rw [if_pos hm]
      refine wpAny_bind (wpAny_bind (wpAny_pure (wpAny_pure ?_)))
      subst ho
      exact over_ok l (q ps start must n s.toks (Nat.le_refl _) (by simp))
    · rw [if_neg hm] at h
      rw [if_neg hm]
      cases hf : found code t.text start must with
      | none => rw [hf] at h; cases h
      | some r =>
        rw [hf] at h
        refine wpAny_bind (wpAny_bind (found_ok hc rfl hg hl hf ?_))
        cases r with
        | none =>
          cases h
          refine wpAny_pure ?_
          subst ho
          exact over_ok l (q ps start must n s.toks (Nat.le_refl _) (by simp))
        | some m =>
          simp only at h
          cases hr : splitGo code t.text most l.length m.handed m.handed (m.handed == m.start) (n + 1) with
          | none => rw [hr] at h; cases h
          | some r =>
            obtain ⟨pc, lp⟩ := r
            rw [hr] at h
            cases h
            refine wpAny_bind (slice_ok hk hz ?_)
            rw [hg]
            refine wpAny_bind (wpAny_pure (wpAny_pure ?_))
            refine loop_ok hc hg hl hk hz l (ps ++ [((⟨t.text.extract last m.start⟩ : Str), s.toks)]) _ m.handed m.handed (m.handed == m.start) (n + 1) pc _ Q hr (by subst ho; simp [strValues]) fun ps' a c n' tk htk hps => ?_
            exact q ps' a c n' tk (Nat.le_trans (Nat.le_succ _) htk) (by rw [hps]; simp)
theorem split_ok {re ci : Addr} {code : Array Nat} {x : Str} {tk : Tok} {rest : List Value} {most : Int} {out : List Str} {Q : Value → Shared → Prop} (R : ReAt s.heap re ci code) (hx : x.cps.size ≤ 10000)
    (hr : (rest = [] ∧ most = 0) ∨ ∃ t, rest = [.int most t] ∧ 0 ≤ most ∧ most < 100) (h : reSplit code most x = some out)
    (q : ∀ vs tk, s.toks ≤ tk → (∃ ps, vs = strValues ps ∧ ps.map (·.1) = out) → Q (.ref s.heap.objs.size) { s with heap := s.heap.push (seqObj "list" (List.toArray vs) 0), toks := tk }) :
    wpAny M A (Builtin.«re.Pattern.split» ⟨.ref re :: .str x tk :: rest, []⟩) (fun fin s' => ∃ v, fin = .done (.ret v) ∧ Q v s') E s := by
  have main : ∀ (s' : Shared), s'.heap = s.heap → s.toks ≤ s'.toks → s'.gens = s.gens → s'.drawn = s.drawn → s'.os = s.os →
      wpAny M A (do
        let t ← reWholeTarget (.ref re) (.str x tk)
        let __s ← forIn (List.range (reMostMatches t)) ((#[], 0, 0, false, 0, false) : SplitSt) (splitBody t most)
        if (!__s.snd.snd.snd.snd.snd) = true then do
          unsupported "internal:re:more-matches-than-can-be"
          let __do_lift ← reSlice t.text t.kind __s.snd.snd.fst t.lim
          let __do_lift ← newList (__s.fst.push __do_lift).toList
          ret __do_lift
        else do
          let __do_lift ← reSlice t.text t.kind __s.snd.snd.fst t.lim
          let __do_lift ← newList (__s.fst.push __do_lift).toList
          ret __do_lift) (fun fin s' => ∃ v, fin = .done (.ret v) ∧ Q v s') E s' := by
    rintro ⟨h', g', d', t', os'⟩ rfl htk rfl rfl rfl
    refine wpAny_bind (target_ok R fun t h1 h2 h3 h4 h5 => ?_)
    unfold reSplit at h
    cases hs : splitGo code x.cps most (2 * x.cps.size + 3) 0 0 false 0 with
    | none => rw [hs] at h; cases h
    | some r =>
      obtain ⟨pc, lp⟩ := r
      rw [hs] at h
      cases h
      have hlen : (List.range (reMostMatches t)).length = 2 * x.cps.size + 3 := by rw [List.length_range]; unfold reMostMatches; rw [h2]
      refine wpAny_bind (loop_ok (last' := lp) h1 h3 (by rw [h4, h2]) h5 (by rw [h2]; exact hx) _ [] #[] 0 0 false 0 pc _ _ (by rw [hlen, h2]; exact hs) rfl fun ps a c n' tk' htk' hps => ?_)
      simp only [Bool.not_true, Bool.false_eq_true, if_false]
      refine wpAny_bind (slice_ok h5 (by rw [h2]; exact hx) ?_)
      have hps2 : ps.map (·.1) = pc.map fun p => (⟨p⟩ : Str) := by simpa using hps
      have hlen2 : ps.length = pc.length := by simpa using congrArg List.length hps2
      have hpl : ∀ (k start last : Nat) (must : Bool) (n : Int) (pc : List (Array Nat)) (lp : Nat), splitGo code x.cps most k start last must n = some (pc, lp) → pc.length ≤ k := by
        intro k
        induction k with
        | zero => intro _ _ _ _ _ _ h; cases h
        | succ k ih =>
          intro start last must n pc lp h
          unfold splitGo at h
          split at h
          · cases h; exact Nat.zero_le _
          · split at h
            · cases h
            · cases h; exact Nat.zero_le _
            · rename_i m _
              cases hr : splitGo code x.cps most k m.handed m.handed (m.handed == m.start) (n + 1) with
              | none => rw [hr] at h; cases h
              | some r =>
                rw [hr] at h
                cases h
                have := ih _ _ _ _ r.1 r.2 hr
                simp; exact this
      have hb := hpl _ _ _ _ _ _ _ hs
      refine wpAny_bind (wpAny_newList ?_ (by
        show (_ : Array Value).toList.length ≤ _
        rw [Array.length_toList, Array.size_push, List.size_toArray]
        simp only [strValues, List.length_map]
        rw [sizeLine_eq]; omega))
      refine wpAny_pure ⟨_, rfl, ?_⟩
      have hq := q (strValues (ps ++ [((⟨t.text.extract lp t.lim⟩ : Str), tk')])) (tk' + 1) (by have : t' ≤ tk' := htk'; have : s.toks ≤ t' := htk; omega) ⟨_, rfl, by simp [hps2, h2, h4]⟩
      have e : (List.toArray (strValues ps)).push (.str ⟨t.text.extract lp t.lim⟩ tk') = List.toArray (strValues (ps ++ [((⟨t.text.extract lp t.lim⟩ : Str), tk')])) := by simp [strValues]
      rw [← e] at hq
      exact hq
  unfold Builtin.«re.Pattern.split»
  dsimp only
  rcases hr with ⟨rfl, rfl⟩ | ⟨mt, rfl, hm0, hm1⟩
  · refine wpAny_bind (wpAny_of_eq (a := [some (.str x tk), none]) (by first | rfl | kernel_rfl!) ?_)
    dsimp only
    refine wpAny_bind (wpAny_pure ?_)
    exact main s rfl (Nat.le_refl _) rfl rfl rfl
  · refine wpAny_bind (wpAny_of_eq (a := [some (.str x tk), some (.int most mt)]) (by first | rfl | kernel_rfl!) ?_)
    dsimp only
    refine wpAny_bind ?_
    unfold reSsize asIndex
    refine wpAny_bind (wpAny_bind (m := asInt? (.int most mt)) (wpAny_pure (wpAny_pure ?_)))
    have hno : ¬ ((decide (most < -(2 ^ 63)) || decide (most ≥ 2 ^ 63)) = true) := by simp; omega
    rw [if_neg hno]
    exact wpAny_pure (main s rfl (Nat.le_refl _) rfl rfl rfl)
end
end Mine
end
section
open PySem PySem.W PySem.Calls PyProof.Rows Builtin Builtin.Re
set_option maxRecDepth 100000
namespace Mine
theorem re_slot : Slot "re.Pattern" "split" "re.Pattern.split" :=
  .of (owner := "re.Pattern") (n := "split") (by rw [typeLookup_type, builtinLookup_eq_fast]; kernel_rfl) (by decide +kernel) (by decide +kernel) (by decide +kernel)
    (by first | exact .inl (by decide +kernel) | exact .inr (by decide +kernel)) (by rw [isSubtype_type]; kernel_rfl)
theorem re_type : typeOf (.builtin "re.Pattern.split") = pure (.type "method_descriptor") := by show builtinType _ = _; rw [builtinType_eq_fast]; kernel_rfl
theorem re_entry : entryFor table "re.Pattern.split" = some Builtin.«re.Pattern.split» := entryFor_of_tree (by kernel_rfl)
theorem re_plain : PlainAttrs "re.Pattern" :=
  ⟨⟨"object.__getattribute__", by rw [typeLookup_type, builtinLookup_eq_fast]; kernel_rfl, by decide +kernel⟩, by rw [typeLookup_type, builtinLookup_eq_fast]; kernel_rfl⟩
theorem re_args2 (a b : Value) : argsOk "re.Pattern.split" ⟨[a, b], []⟩ := by unfold argsOk; kernel_rfl
theorem re_args3 (a b c : Value) : argsOk "re.Pattern.split" ⟨[a, b, c], []⟩ := by unfold argsOk; kernel_rfl
section
variable {prog : Program} {w : World} {g : Gr} (G : Gr2 g) {n : Nat}
theorem re_at {re ci : Addr} {code : Array Nat} {s : Shared} (R : ReAt g.hB re ci code) (h1 : re ∉ g.T) (h2 : ci ∉ g.T) (a : At g s) : ReAt s.heap re ci code := by
  obtain ⟨o, fs, oc, its, m, ho, e1, e2, e3, e4, e5, e6, hoc, e7⟩ := R
  exact ⟨o, fs, oc, its, m, a.keep _ _ h1 ho, e1, e2, e3, e4, e5, e6, a.keep _ _ h2 hoc, e7⟩
theorem Mth.re {re ci : Addr} {code : Array Nat} (R : ReAt g.hB re ci code) (h1 : re ∉ g.T) (h2 : ci ∉ g.T) : Mth prog w g "split" (.raw (.ref re)) (.builtin "re.Pattern.split") := by
  rintro pl A s _ Q E a rfl q
  obtain ⟨o, fs, oc, its, m, ho, e1, e2, _⟩ := re_at R h1 h2 a
  exact (@getMethod_builtin (model prog w) A E s (.ref re) "re.Pattern" _ _ pl Q ⟨o, ho, e1⟩ re_plain re_slot re_type (fun b hb => by cases hb; exact ⟨o, ho, e2⟩)) q
include G
theorem FW.resplit {re ci : Addr} {code : Array Nat} {x : Str} {out : List Str} (R : ReAt g.hB re ci code) (h1 : re ∉ g.T) (h2 : ci ∉ g.T) (hx : x.cps.size ≤ 10000) (h : reSplit code 0 x = some out) : FW prog w g n (.builtin "re.Pattern.split") [.raw (.ref re), .str x] (.lst (out.map .str)) := by
  rintro A s _ Q E ok a ⟨_, _, rfl, rfl, _, _, rfl, ⟨t, rfl⟩, rfl⟩ q
  have R' := re_at R h1 h2 a
  obtain ⟨o, fs, oc, its, m, ho, e1, e2, _⟩ := id R'
  refine wpAny_call_entry re_slot ⟨o, ho, e1⟩ re_entry ?_ (re_args2 _ _)
  refine split_ok (most := 0) R' hx (.inl ⟨rfl, rfl⟩) h fun vs tk htk hps => ?_
  obtain ⟨ps, rfl, hp⟩ := hps
  refine q _ _ (Step.push G.toGrOk htk) ⟨_, strValues ps, 0, rfl, At.out a, Heap.get?_push_size _ rfl, ?_⟩
  rw [← hp]
  have := rps_strs (V := g.V) (h := s.heap.push (seqObj "list" (strValues ps).toArray 0)) ps
  rw [List.map_map]
  exact this
theorem FW.resplit1 {re ci : Addr} {code : Array Nat} {x : Str} {out : List Str} {k : Int} (hk0 : 0 ≤ k) (hk1 : k < 100) (R : ReAt g.hB re ci code) (h1 : re ∉ g.T) (h2 : ci ∉ g.T) (hx : x.cps.size ≤ 10000) (h : reSplit code k x = some out) : FW prog w g n (.builtin "re.Pattern.split") [.raw (.ref re), .str x, .int k] (.lst (out.map .str)) := by
  rintro A s _ Q E ok a ⟨_, _, rfl, rfl, _, _, rfl, ⟨t, rfl⟩, _, _, rfl, ⟨u, rfl⟩, rfl⟩ q
  have R' := re_at R h1 h2 a
  obtain ⟨o, fs, oc, its, m, ho, e1, e2, _⟩ := id R'
  refine wpAny_call_entry re_slot ⟨o, ho, e1⟩ re_entry ?_ (re_args3 _ _ _)
  refine split_ok (most := k) R' hx (.inr ⟨u, rfl, hk0, hk1⟩) h fun vs tk htk hps => ?_
  obtain ⟨ps, rfl, hp⟩ := hps
  refine q _ _ (Step.push G.toGrOk htk) ⟨_, strValues ps, 0, rfl, At.out a, Heap.get?_push_size _ rfl, ?_⟩
  rw [← hp]
  have := rps_strs (V := g.V) (h := s.heap.push (seqObj "list" (strValues ps).toArray 0)) ps
  rw [List.map_map]
  exact this
end
/-- the two patterns of the text -/
def mimeCode : Array Nat := #[14, 4, 0, 1, 4294967295, 7, 5, 16, 47, 15, 31, 29, 24, 11, 0, 4294967295, 13, 6, 16, 32, 16, 9, 0, 1, 16, 59, 24, 11, 0, 4294967295, 13, 6, 16, 32, 16, 9, 0, 1, 15, 2, 0, 1]
def langCode : Array Nat := #[14, 9, 4, 1, 1, 16, 95, 16, 45, 0, 13, 6, 16, 95, 16, 45, 0, 1]
example : reSplit mimeCode 0 "text/html ; b=2;a=1" = some (["text", "html", "b=2", "a=1"] : List Str) := by decide +kernel
example : reSplit langCode 1 "de_AT" = some (["de", "AT"] : List Str) := by decide +kernel
end Mine
end
section
open PySem PySem.W PySem.Calls PyProof.Rows Builtin Builtin.ObjectAttr Builtin.Getset_descriptor
set_option maxRecDepth 100000
namespace Mine
section
variable {prog : Program} {w : World} {g : Gr} {fi : FI} {n : Nat} {σ : Loc}
theorem FW.of {f : Value} {args : List CV} {c : CV} (h : FW prog w g 0 f args c) : FW prog w g n f args c := FW.le h (Nat.zero_le _)
/-- an order of data, as an operation -/
theorem Bin.rc {k : Nat} {op : CmpOp} {x y : CV} {b : Bool} (h : RC g.V k op x y b) (hk : k ≤ 90) (hop : IsOrd op) : Bin prog w g n (compareOp op) x y (.bool b) := by
  intro A s u v Q E ok at_ ru rv q
  have hu : A.units + k < cLine := by have := ok.2.1; show A.units + k < 9900; omega
  have e : compareOp op u v = richCompare op u v := by
    rcases hop with rfl | rfl | rfl <;> rfl
  rw [e]
  exact h prog w A s u v Q E hu ru rv (q _ _ .refl rfl)
theorem Tru.tup {l : List CV} (hl : l.length ≤ 10000) (G : GrOk g) : Tru prog w g n (.tup l) (!l.isEmpty) := by
  intro A s v Q E ok at_ r q
  obtain ⟨a, vs, m, rfl, _, o, rs⟩ := r
  refine ktl_truthy o (by rw [List.size_toArray, rs.length]; omega) ?_
  have e : (!(List.toArray vs).isEmpty) = !l.isEmpty := by
    cases l with
    | nil => cases rs; rfl
    | cons c l => obtain ⟨v, us, rfl, _⟩ := rs; rfl
  rw [e]
  exact q _ (.tok (by show s.toks ≤ s.toks + 1 + 1; omega))

/-- and | or of bools, as values -/
def EBs (prog : Program) (w : World) (g : Gr) (fi : FI) (n : Nat) (σ : Loc) (pos : Pos) (op : BoolOp) (es : List Expr) (b : Bool) : Prop :=
  ∀ A env s (Q : Value → Shared → Prop) E, OkA g.fr g.hd A n → Fm g fi env s σ → (∀ s', Step g s s' → Q (.bool b) s') → wpAny (model prog w) A (boolOp pos op (evalEach es env)) Q E s
theorem EBs.one {pos : Pos} {op : BoolOp} {e : Expr} {b : Bool} (h : EV prog w g fi n σ e (.bool b)) (hs : ∀ env, evalEach [e] env = [eval e env] := by intro env; rfl) : EBs prog w g fi n σ pos op [e] b := by
  intro A env s Q E ok F q
  rw [hs]
  exact h A env s Q E ok F fun v s' x r => by cases r; exact q _ x
theorem EBs.and (G : GrOk g) {pos : Pos} {e e2 : Expr} {es : List Expr} {b c : Bool} (h : EV prog w g fi n σ e (.bool b)) (t : b = true → EBs prog w g fi n σ pos .And (e2 :: es) c) (hs : ∀ env, evalEach (e :: e2 :: es) env = eval e env :: evalEach (e2 :: es) env := by intro env; rfl)
    (hs2 : ∀ env, evalEach (e2 :: es) env = eval e2 env :: evalEach es env := by intro env; rfl) : EBs prog w g fi n σ pos .And (e :: e2 :: es) (b && c) := by
  intro A env s Q E ok F q
  rw [hs, hs2]
  show wpAny _ A (eval e env >>= _) Q E s
  refine wpAny_bind (h A env s _ E ok F fun v s' x r => ?_)
  cases r
  refine wpAny_bind (wpAny_standAt (wpAny_bind (wpAny_holding (wpAny_truthy_bool ?_))))
  cases b with
  | false => exact wpAny_pure (q _ x)
  | true =>
    have := t rfl A env s' Q E ok (F.step G x) fun s'' y => q _ (x.trans y)
    rw [hs2] at this
    exact this
theorem EBs.or (G : GrOk g) {pos : Pos} {e e2 : Expr} {es : List Expr} {b c : Bool} (h : EV prog w g fi n σ e (.bool b)) (t : b = false → EBs prog w g fi n σ pos .Or (e2 :: es) c) (hs : ∀ env, evalEach (e :: e2 :: es) env = eval e env :: evalEach (e2 :: es) env := by intro env; rfl)
    (hs2 : ∀ env, evalEach (e2 :: es) env = eval e2 env :: evalEach es env := by intro env; rfl) : EBs prog w g fi n σ pos .Or (e :: e2 :: es) (b || c) := by
  intro A env s Q E ok F q
  rw [hs, hs2]
  show wpAny _ A (eval e env >>= _) Q E s
  refine wpAny_bind (h A env s _ E ok F fun v s' x r => ?_)
  cases r
  refine wpAny_bind (wpAny_standAt (wpAny_bind (wpAny_holding (wpAny_truthy_bool ?_))))
  cases b with
  | true => exact wpAny_pure (q _ x)
  | false =>
    have := t rfl A env s' Q E ok (F.step G x) fun s'' y => q _ (x.trans y)
    rw [hs2] at this
    exact this
theorem EV.bools {op : BoolOp} {es : List Expr} {pos : Pos} {b : Bool} (h : EBs prog w g fi n σ pos op es b) : EV prog w g fi n σ (.BoolOp op es pos) (.bool b) := by
  intro A env s Q E ok F q
  rw [arm_eval_BoolOp]
  exact h A env s Q E ok F fun s' x => q _ _ x rfl
/-- not e, as a value -/
theorem EV.not {e : Expr} {c : CV} {b : Bool} {pos : Pos} (h : EV prog w g fi n σ e c) (t : Tru prog w g n c b) (G : GrOk g) : EV prog w g fi n σ (.UnaryOp .Not e pos) (.bool (!b)) := by
  refine EV.un G h ?_
  intro A s u Q E ok at_ r q
  show wpAny _ A (holding [u] (do return .bool (!(← truthy u)))) Q E s
  exact wpAny_holding (wpAny_bind (t A s u _ E ok at_ r fun s' x => wpAny_pure (q _ _ x rfl)))

/-- isinstance -/
theorem FW.isi_list {K : Frag} (k : KIn g K) {l : List CV} {c : Value} {b : Bool} (e : kitOne K (.type "list") c = some b) : FW prog w g n (.builtin "isinstance") [.lst l, .raw c] (.bool b) := by
  rintro A s _ Q E ok a ⟨v, _, rfl, ⟨x, vs, m, rfl, _, o, _⟩, _, _, rfl, rfl, rfl⟩ q
  exact wpAny_toks (kia_one kitx_list (k.at a) ⟨_, o, rfl⟩ e (fun h => by cases h) fun tk htk => q _ _ (.tok htk) rfl)
theorem FW.isi_str {K : Frag} (k : KIn g K) {x : Str} {c : Value} {b : Bool} (e : kitOne K (.type "str") c = some b) : FW prog w g n (.builtin "isinstance") [.str x, .raw c] (.bool b) := by
  rintro A s _ Q E ok a ⟨v, _, rfl, ⟨t, rfl⟩, _, _, rfl, rfl, rfl⟩ q
  exact wpAny_toks (kia_one kitx_str (k.at a) trivial e (fun h => by cases h) fun tk htk => q _ _ (.tok htk) rfl)
theorem FW.isi_int {K : Frag} (k : KIn g K) {x : Int} {c : Value} {b : Bool} (e : kitOne K (.type "int") c = some b) : FW prog w g n (.builtin "isinstance") [.int x, .raw c] (.bool b) := by
  rintro A s _ Q E ok a ⟨v, _, rfl, ⟨t, rfl⟩, _, _, rfl, rfl, rfl⟩ q
  exact wpAny_toks (kia_one kitx_int (k.at a) trivial e (fun h => by cases h) fun tk htk => q _ _ (.tok htk) rfl)
theorem FW.isi_acc {K : Frag} (k : KIn g K) {C D : Addr} {p : Bool} {l : List CV} (e : isIn K (.ref C) D = true) : FW prog w g n (.builtin "isinstance") [.acc C p l, .raw (.ref D)] (.bool true) := by
  rintro A s _ Q E ok a ⟨v, _, rfl, r, _, _, rfl, rfl, rfl⟩ q
  obtain ⟨x, d, vs, m, od, rfl, _, _, ex, ed, I, hl, rs⟩ := r.acc
  exact isi_call (k.at a) (fun M => I.type) e (fun h => by cases h) (q _ _ .refl rfl)
end
end Mine
end
section
open PySem PySem.W PySem.Calls PyProof.Rows Builtin Builtin.ObjectAttr Builtin.Getset_descriptor
set_option maxRecDepth 100000
namespace Mine
section
variable {prog : Program} {w : World} {A : Around} {E : Value → Shared → Prop} {s : Shared} {K : Frag}
theorem lgi_kind : builtinKind "list.__getitem__" = some .method := by decide +kernel
theorem lgi_split : splitId "list.__getitem__" = some ("list", "__getitem__") := by decide +kernel
/-- a method that a built-in type hands out -/
theorem gm_type {T : String} {name : Str} {v : Value} {pl : Sem Bool} {Q : Value × List Value → Shared → Prop} (X : K.In s.heap) (ht : typeOf (.type T) = pure (.type "type")) (hs : Manifest.isStub T = false)
    (e : findCls K (.type T) (.type "type") name = some (.val v)) (hh : handedIn v = true) (h : Q (v, []) { s with toks := s.toks + 1 }) : wpAny (model prog w) A (getMethod (.type T) name pl) Q E s := by
  have hstub : opaqueClassAbove (.type T) = pure none := by unfold opaqueClassAbove; dsimp only; rw [hs]; rfl
  have L0 : Looks (model prog w) s.heap (typeOf (.type T)) (.type "type") := Looks.of_pure ht
  have hg : findIn K (.type "type") "__getattribute__" = some (some (.builtin "type.__getattribute__")) := type_tga
  unfold getMethod specialOf
  refine wpAny_bind (wpAny_bind (L0.here ((looks_findIn X hg).here ?_)))
  dsimp only
  rw [if_pos canon_tga]
  refine wpAny_bind (wpAny_mono (Q := fun v => Q (v, [])) (E := E) ?_ (fun _ _ z => wpAny_pure z) fun _ _ z => z)
  have LO : Looks (model prog w) s.heap (opaqueClassAbove (.type T)) none := Looks.of_pure hstub
  refine cls_open X LO L0 hg (looks_hook X (r := none) (by rfl)) (by show subIn K _ _ = _; rfl) e
    (wpAny_pure (by show wpAny _ _ (handedOut v) _ _ _; rw [handedOut_of hh]; exact wpAny_pure h))
theorem lgi_check {M : Model} {self : Value} {rest : List Value} {Q : Unit → Shared → Prop}
    (hi : Looks M s.heap (isInstance self (.type "list")) true) (ha : argsOk "list.__getitem__" ⟨self :: rest, []⟩) (q : Q () s) :
    wpAny M A (checkBuiltinCall "list.__getitem__" ⟨self :: rest, []⟩) Q E s := by
  simp only [checkBuiltinCall, lgi_kind, lgi_split]
  refine wpAny_bind (hi.here ?_)
  simp only [Bool.not_true, Bool.false_eq_true, if_false]
  cases hsig : Manifest.signature? "list.__getitem__" with
  | none => exact wpAny_pure q
  | some sig =>
    simp only [argsOk, hsig] at ha
    simp only [ha]
    exact wpAny_pure q
theorem lgi_call {x C d : Addr} {vs : List Value} {m : Nat} {od : Option Obj} {i : Int} {t : Tok} {x' : Value} {Q : Value → Shared → Prop} (X : K.In s.heap) (I : InstAt s.heap x (accObj C d vs m) C od) (a : AccK K C) (h0 : 0 ≤ i) (hfit : i < 2 ^ 63) (hx : (List.toArray vs)[i.toNat]? = some x') (q : Q x' s) :
    wpAny (model prog w) A (PySem.call (.builtin "list.__getitem__") [.ref x, .int i t] []) Q E s := by
  have hin := inst_list (M := model prog w) X I a
  refine wpAny_call ?_
  refine codeAny_call_builtin F.slot_list_getitem.plain F.entry_list_getitem ?_
  refine lgi_check hin (F.args_list_getitem_2 _ _) ?_
  show wpAny _ _ (Builtin.List.listSubscript? (.int i t) >>= _) _ _ s
  refine wpAny_bind (wpAny_listSubscript_int (fitsIndex_of h0 hfit) ?_)
  clear hfit
  obtain ⟨j, rfl⟩ := Int.eq_ofNat_of_zero_le h0
  have hx' : (List.toArray vs)[j]? = some x' := hx
  show wpAny _ _ ((seqItemAt x j >>= fun r => pure (r.map (j, ·))) >>= _) _ _ s
  refine wpAny_bind (wpAny_bind (wpAny_seqItemAt I.at_ rfl (wpAny_pure ?_)))
  rw [hx']
  first
    | exact wpAny_bind (wpAny_pure q)
    | exact wpAny_pure q
/-- the name of an own class -/
theorem tyn_get {C : Addr} {oc : Obj} {v tp : Value} {R : Result → Shared → Prop} (ho : s.heap.get? C = some oc) (hc : oc.cls = .type "type") (hs : (oc.slots[2]?).join = some v)
    (h : R (.ok (.ret v)) s) : codeAny (model prog w) A (.call (.builtin "getset_descriptor.__get__") ⟨[.builtin "type.__name__", .ref C, tp], []⟩) R s := by
  have L0 : Looks (model prog w) s.heap (typeOf (.ref C)) (.type "type") := by
    rw [← hc]
    exact (Looks.ld ho).andThen .now
  have L1 : Looks (model prog w) s.heap (isSubtype (.type "type") (.type "type")) true := Looks.of_pure (by rw [isSubtype_type]; kernel_rfl)
  have dga : descrGetArgs ⟨[.builtin "type.__name__", .ref C, tp], []⟩ = pure (.builtin "type.__name__", some (.ref C), given tp) := by kernel_rfl
  refine codeAny_call_builtin KF.slot_gs.plain KF.entry_gs (KF.slot_gs.check _ _ _ _ _ _ _ _ ktyn_type (KF.args_gs _ _ _) ?_)
  unfold Builtin.«getset_descriptor.__get__» descrGet
  rw [dga]
  refine wpAny_bind (wpAny_pure ?_)
  unfold descrGetter descrCheckInstance descrNameAndClass isInstance
  simp only [ktyn_owner]
  obtain ⟨hh, gg, dr, t, os⟩ := s
  repeat lk
  refine ⟨Code.quiet_builtin _ (by decide +kernel), codeAny_builtin ktyn_entry ?_⟩
  unfold Builtin.«type.__name__»
  dsimp only
  unfold keptObject slotAt
  refine wpAny_bind (wpAny_bind (wpAny_loadPart ho (wpAny_pure ?_)))
  rw [hs]
  first
    | exact wpAny_pure h
    | exact wpAny_bind (wpAny_pure h)
    | exact wpAny_bind (m := ret v) (wpAny_pure (wpAny_pure h))
end
section
variable {prog : Program} {w : World} {g : Gr} (G : Gr2 g) {fi : FI} {n : Nat} {σ : Loc} {K : Frag} (k : KIn g K)
include G
/-- `e!r` of a text -/
theorem EV.fmt_repr {e : Expr} {pos : Pos} {x : Str} (h : EV prog w g fi n σ e (.str x)) (hl : (reprText x).length ≤ 10000) : EV prog w g fi n σ (.FormattedValue e 114 Option.none pos) (.str (reprText x)) := by
  intro A env s Q E a F q
  show wpAny _ A (do let v ← eval e env; standAt pos; formatted pos (← holding [v] (converted 114 v)) Option.none) Q E s
  refine wpAny_bind (h A env s _ E a F fun v s₁ x₁ r => ?_)
  obtain ⟨t, rfl⟩ := r
  refine wpAny_bind (wpAny_standAt (wpAny_bind (wpAny_holding ?_)))
  show wpAny _ A (pyReprObj (.str x t)) _ E s₁
  refine wpAny_pyReprObj_str ?_ (by rw [sizeLine_eq]; omega)
  show wpAny _ A (formatField (.str (reprText x) s₁.toks) Str.empty) _ E _
  exact wpAny_toks (formatField_str (fun t' kk h => q _ _ (x₁.trans (.tok (Nat.le_trans (Nat.le_succ _) h))) ⟨_, rfl⟩) (by rw [sizeLine_eq]; omega))
include k
/-- `list.__getitem__(x, i)` -/
theorem FW.list_getitem {C : Addr} {p : Bool} {l : List CV} {i : Int} {c : CV} (a : AccK K C) (h0 : 0 ≤ i) (hfit : i < 2 ^ 63) (hc : l[i.toNat]? = some c) : FW prog w g n (.builtin "list.__getitem__") [.acc C p l, .int i] c := by
  rintro A s _ Q E ok at_ ⟨v, _, rfl, r, _, _, rfl, ⟨t, rfl⟩, rfl⟩ q
  obtain ⟨x, d, vs, m, od, rfl, _, _, ex, ed, I, hl, rs⟩ := r.acc
  obtain ⟨v, hv, rv⟩ := rs.get hc
  exact lgi_call (k.at at_) I a h0 hfit (x' := v) (by simpa using hv) (q _ _ .refl rv)
/-- a call of what a built-in type hands out -/
theorem EV.tmeth {x : Str} {np ap pos : Pos} {T : String} {mname : Str} {f : Value} {args : List Expr} {cs : List CV} {r : CV} (hf : EV prog w g fi n σ (.Name x np) (.raw (.type T))) (ht : typeOf (.type T) = pure (.type "type")) (hs : Manifest.isStub T = false)
    (e : findCls K (.type T) (.type "type") mname = some (.val f)) (hh : handedIn f = true) (ha : EVs prog w g fi n σ args cs) (hk : Keep prog w g f) (h : FW prog w g n f cs r)
    (hplain : ∀ env, (backTo pos (starEach args env)).any (·.1) = false := by intro env; rfl) (hkw : ∀ env, backToKw pos (keywordEach [] env) = [] := by intro env; rfl)
    (hform : ∀ env, methodCallForm (args.length + ([] : List Keyword).length) (backTo pos (starEach args env)) (backToKw pos (keywordEach [] env)) = true := by intro env; rfl)
    (hline : (ap.endLine == pos.line) = true := by rfl) : EV prog w g fi n σ (.Call (.Attribute (.Name x np) mname ap) args [] pos) r := by
  intro A env s Q E ok F q
  rw [arm_eval_Call]
  refine wpAny_bind (hf A env s _ E ok F fun v s₁ x₁ r₁ => ?_)
  cases r₁
  refine wpAny_bind (wpAny_standAt ?_)
  have hpos : methodCallPos true (.Name x np) env ap pos = pure pos := by unfold methodCallPos; simp [hline]
  unfold methodCall
  rw [hform]
  have F₁ := F.step G.toGrOk x₁
  refine wpAny_bind (wpAny_holding (gm_type (k.at F₁.at_) ht hs e hh ?_))
  refine wpAny_bind (wpAny_of_eq hpos ?_)
  rw [hkw env]
  have x₂ : Step g s₁ { s₁ with toks := s₁.toks + 1 } := .tok
  have F₂ := F₁.step G.toGrOk x₂
  refine callWith_of (P := fun h => ∃ s, At g s ∧ s.heap = h) (by rw [hplain env]; rfl) hk (evalArgs_any (hplain env) ?_)
  exact ha A env _ pos _ E ok F₂ fun vs s₃ x₃ r₃ => ⟨⟨s₃, F₂.at_.step x₃, rfl⟩, h A s₃ vs Q E ok (F₂.at_.step x₃) r₃ fun u s₄ x₄ r₄ => q u s₄ (((x₁.trans x₂).trans x₃).trans x₄) r₄⟩
/-- `type(x)` and `type(x).__name__` -/
theorem FW.type_acc {C : Addr} {p : Bool} {l : List CV} : FW prog w g n (.type "type") [.acc C p l] (.raw (.ref C)) := by
  rintro A s _ Q E ok at_ ⟨v, _, rfl, r, rfl⟩ q
  obtain ⟨x, d, vs, m, od, rfl, _, _, ex, ed, I, hl, rs⟩ := r.acc
  exact kto_own I (q _ _ .refl rfl)
theorem EV.cls_name {e : Expr} {C : Addr} {oc : Obj} {x : Str} {t : Tok} {pos : Pos} (h : EV prog w g fi n σ e (.raw (.ref C))) (ho : K.lookup C = some oc) (hc : oc.cls = .type "type") (hs : (oc.slots[2]?).join = some (.str x t)) (hop : nsIn K cStatics "thirdparty.any" = some Option.none)
    (hcd : (clsIn K C).isSome = true) (e2 : findCls K (.ref C) (.type "type") "__name__" = some (CFound.get (Value.builtin "getset_descriptor.__get__") (Value.builtin "type.__name__") (Value.ref C) (Value.type "type")))
    (hbase : ∀ env, attributeBase e "__name__" env (eval e env) = eval e env := by intro env; rfl) : EV prog w g fi n σ (.Attribute e "__name__" pos) (.str x) := by
  intro A env s Q E ok F q
  rw [arm_eval_Attribute, hbase]
  refine wpAny_bind (h A env s _ E ok F fun v s₁ x₁ r₁ => ?_)
  cases r₁
  have F₁ := F.step G.toGrOk x₁
  have X := k.at F₁.at_
  have hos : s₁.heap.get? C = some oc := X _ _ ho
  have L0 : Looks (model prog w) s₁.heap (typeOf (.ref C)) (.type "type") := by
    rw [← hc]
    exact (Looks.ld hos).andThen .now
  have hg : findIn K (.type "type") "__getattribute__" = some (some (.builtin "type.__getattribute__")) := type_tga
  refine wpAny_bind (wpAny_standAt (wpAny_bind (wpAny_holding ?_)))
  refine cls_open X (looks_opaque X hop) L0 hg (looks_hook X (r := Option.none) (by rfl)) (by show subIn K _ _ = _; rfl) e2 ?_
  show wpAny _ _ (do ret (← holding [Value.builtin "type.__name__"] (PySem.call (.builtin "getset_descriptor.__get__") [.builtin "type.__name__", .ref C, .type "type"]))) _ _ _
  refine wpAny_bind (wpAny_holding (wpAny_call (tyn_get (s := { s₁ with toks := s₁.toks + 1 }) hos hc hs ?_)))
  refine wpAny_pure (handed_on rfl ?_)
  exact wpAny_bind (wpAny_letTemporaryGo (wpAny_pure (q _ _ (x₁.trans .tok) ⟨_, rfl⟩)))
end
end Mine
end
section
open PySem PySem.W PySem.Calls PyProof.Rows Builtin
set_option maxRecDepth 100000
namespace Mine
section
variable {prog : Program} {w : World} {g : Gr} (G : Gr2 g) {fi : FI} {n : Nat} {σ : Loc} {K : Frag} (k : KIn g K)
omit G in
theorem load_ok {env : Env} {s : Shared} {M : Model} {A : Around} {E : Value → Shared → Prop} {Q : Value → Shared → Prop} {x : Str} {c : CV} (F : Fm g fi env s σ) (h : (x, c) ∈ σ) (hc : (x == ("__classdict__" : Str)) = false) (q : ∀ v, Rp g.V s.heap c v → Q v s) : wpAny M A (loadName env x) Q E s := by
  obtain ⟨m, hn, _, hs⟩ := F.ns
  obtain ⟨v, r, k⟩ := hs _ h
  have hk : env.scope.kind = .function := by rw [F.sc]; exact F.fk
  rcases k with ⟨k, e⟩ | ⟨k, a, e, i⟩
  · exact wpAny_loadName_local hk (by rw [Env.kindOf, F.sc]; exact k) hn e (q _ r)
  · rcases k with k | k
    · exact wpAny_loadName_cell hk (by rw [Env.kindOf, F.sc]; exact k) e i (q _ r)
    · exact wpAny_loadName_free hk (by rw [Env.kindOf, F.sc]; exact k) e i (q _ r) hc
include G k
/-- `x[i] = v`, refused by the class's own method -/
theorem XR1.setitem {o i value : Expr} {p' pos : Pos} {C f : Addr} {p : Bool} {l : List CV} {ci cv : CV} {T : String} (ho : EV prog w g fi n σ o (.acc C p l)) (hi : EV prog w g fi n σ i ci) (hv : EV prog w g fi n σ value cv)
    (hq : noSeq K C = true) (hs : findIn K (.ref C) "__setitem__" = some (some (.ref f))) (hf : isFn K (.ref f) = true) (h : FWr prog w g n (.ref f) [.acc C p l, ci, cv] T)
    (hsw : ∀ env, swapsWith value (some (.Subscript o i p')) pos.line env = pure false := by intro env; rfl) : XR1 prog w g fi n σ (.Assign [.Subscript o i p'] value pos) T := by
  intro A env s Q E ok F q
  refine wpAny_Assign_Subscript (hv A env s _ E ok F fun v s₁ y₁ r₁ => ?_) (hsw env)
  have F₁ := F.step G.toGrOk y₁
  refine ho A env s₁ _ E ok F₁ fun ov s₂ y₂ r₂ => ?_
  have F₂ := F₁.step G.toGrOk y₂
  refine hi A env s₂ _ E ok F₂ fun iv s₃ y₃ r₃ => ?_
  have F₃ := F₂.step G.toGrOk y₃
  have r₁' := Rp.step G.toGrOk F₂.at_ y₃ (Rp.step G.toGrOk F₁.at_ y₂ r₁)
  have r₂' := Rp.step G.toGrOk F₂.at_ y₃ r₂
  have r₂'' := r₂'
  obtain ⟨x, d, vs, m, od, rfl, _, _, ex, ed, I, hl, rs⟩ := r₂'.acc
  have X := k.at F₃.at_
  unfold setItem sequenceKey
  refine wpAny_holding (wpAny_bind (wpAny_bind (I.type.here ?_)))
  refine wpAny_bind ((anyM_none X hq).here ?_)
  rw [if_pos (show (!false) = true from rfl)]
  refine wpAny_pure (wpAny_bind (special_fn X I hs (beq_iff_eq.mp hf) ?_))
  refine h A s₃ [.ref x, iv, v] _ E ok F₃.at_ ⟨_, _, rfl, r₂'', _, _, rfl, r₃, _, _, rfl, r₁', rfl⟩ fun e s' y r => ?_
  have yy := (y₁.trans y₂).trans y₃
  exact q e s' _ (yy.trans y) (r.back (yy.lives G F.at_)) (.inr (.inl rfl))
/-- `del x[i]`, refused -/
theorem XR1.delitem {o i : Expr} {p' pos : Pos} {C f : Addr} {p : Bool} {l : List CV} {ci : CV} {T : String} (ho : EV prog w g fi n σ o (.acc C p l)) (hi : EV prog w g fi n σ i ci)
    (hq : noSeq K C = true) (hs : findIn K (.ref C) "__delitem__" = some (some (.ref f))) (hf : isFn K (.ref f) = true) (h : FWr prog w g n (.ref f) [.acc C p l, ci] T) : XR1 prog w g fi n σ (.Delete [.Subscript o i p'] pos) T := by
  intro A env s Q E ok F q
  refine wpAny_Delete (wpAny_deleteEach_cons (wpAny_delete_Subscript ?_))
  refine ho A env s _ E ok F fun ov s₂ y₂ r₂ => ?_
  have F₂ := F.step G.toGrOk y₂
  refine hi A env s₂ _ E ok F₂ fun iv s₃ y₃ r₃ => ?_
  have F₃ := F₂.step G.toGrOk y₃
  have r₂' := Rp.step G.toGrOk F₂.at_ y₃ r₂
  have r₂'' := r₂'
  obtain ⟨x, d, vs, m, od, rfl, _, _, ex, ed, I, hl, rs⟩ := r₂'.acc
  have X := k.at F₃.at_
  unfold delItem sequenceKey
  refine wpAny_holding (wpAny_bind (wpAny_bind (I.type.here ?_)))
  refine wpAny_bind ((anyM_none X hq).here ?_)
  rw [if_pos (show (!false) = true from rfl)]
  refine wpAny_pure (wpAny_bind (special_fn X I hs (beq_iff_eq.mp hf) ?_))
  refine h A s₃ [.ref x, iv] _ E ok F₃.at_ ⟨_, _, rfl, r₂'', _, _, rfl, r₃, rfl⟩ fun e s' y r => ?_
  have yy := y₂.trans y₃
  exact q e s' _ (yy.trans y) (r.back (yy.lives G F.at_)) (.inr (.inl rfl))
/-- `x op= v`, refused -/
theorem XR1.aug {x : Str} {p' pos : Pos} {op : Operator} {value : Expr} {C f : Addr} {p : Bool} {l : List CV} {cv : CV} {T : String} (hx : (x, CV.acc C p l) ∈ σ) (hcx : (x == ("__classdict__" : Str)) = false) (hv : EV prog w g fi n σ value cv)
    (hc : selfFirst K C = true) (hs : findIn K (.ref C) (dunderI op.info.2) = some (some (.ref f))) (hf : isFn K (.ref f) = true) (h : FWr prog w g n (.ref f) [.acc C p l, cv] T) : XR1 prog w g fi n σ (.AugAssign (.Name x p') op value pos) T := by
  intro A env s Q E ok F q
  refine wpAny_AugAssign_Name (load_ok F hx hcx fun ov r₀ => ?_)
  refine hv A env s _ E ok F fun v s₁ y₁ r₁ => ?_
  have F₁ := F.step G.toGrOk y₁
  have r₀' := Rp.step G.toGrOk F.at_ y₁ r₀
  have r₀'' := r₀'
  obtain ⟨x', d, vs, m, od, rfl, _, _, ex, ed, I, hl, rs⟩ := r₀'.acc
  have X := k.at F₁.at_
  obtain ⟨cd, rest, hcd, hm⟩ := ksp_first hc
  have L1 : Looks (model prog w) s₁.heap (typeOf (.ref x')) (.ref C) := I.type
  have L2 : Looks (model prog w) s₁.heap (fillsInplaceSlot (.ref C) op.info.2 (op == .Add)) true := ksp_fillsI X hcd hm hs
  unfold inplaceOp
  refine wpAny_holding ?_
  refine wpAny_bind (L1.here (wpAny_bind (L2.here ?_)))
  simp only [if_true]
  refine wpAny_bind ?_
  unfold tryMethod
  refine wpAny_bind (special_fn X I hs (beq_iff_eq.mp hf) ?_)
  refine h A s₁ [.ref x', v] _ E ok F₁.at_ ⟨_, _, rfl, r₀'', _, _, rfl, r₁, rfl⟩ fun e s' y r => ?_
  exact q e s' _ (y₁.trans y) (r.back (y₁.lives G F.at_)) (.inr (.inl rfl))
end
end Mine
end
section
open PySem PySem.W PySem.Calls PyProof.Rows Builtin
set_option maxRecDepth 100000
namespace Mine
def NoExc (Φ : AF → Prop) : Prop := ∀ T, ¬ Φ (.exc T)
section
variable (prog : Program) (w : World) (g : Gr) (fi : FI) (n : Nat) (σ : Loc)
/-- statements of a body, known as the code that runs -/
def EXt (ss : List Stmt) (Φ : AF → Prop) : Prop := ∀ A env body s (Q : Flow → Shared → Prop) E, OkA g.fr g.hd A n → Fm g fi env s σ →
  (∀ fl s' af, Φ af → WStep g (Own fi env) s s' → At g s' → Out g fi env fl s' af → Q fl s') → _root_.PySem.wpAt (model prog w) A (.func body env) (execs ss env) Q E s
def EXt1 (st : Stmt) (Φ : AF → Prop) : Prop := ∀ A env body s (Q : Flow → Shared → Prop) E, OkA g.fr g.hd A n → Fm g fi env s σ →
  (∀ fl s' af, Φ af → WStep g (Own fi env) s s' → At g s' → Out g fi env fl s' af → Q fl s') → _root_.PySem.wpAt (model prog w) A (.func body env) (exec st env) Q E s
end
section
variable {prog : Program} {w : World} {g : Gr} (G : Gr2 g) {fi : FI} {n : Nat} {σ : Loc}
theorem EXt.nil {Φ : AF → Prop} (h : Φ (.next σ)) : EXt prog w g fi n σ [] Φ := fun _ _ _ _ _ _ _ F q => wpAt_of_wpAny (wpAny_execs_nil (q _ _ _ h .refl F.at_ ⟨rfl, F⟩))
theorem EXt.cons {st : Stmt} {rest : List Stmt} {Φ : AF → Prop} (h : EXt1 prog w g fi n σ st fun af => match af with | .next σ' => EXt prog w g fi n σ' rest Φ | af => Φ af) : EXt prog w g fi n σ (st :: rest) Φ := by
  intro A env body s Q E a F q
  refine ks_wpAt_execs_cons (h A env body s _ E a F fun fl s' af hf x ha o => ?_)
  cases af with
  | next σ' =>
    obtain ⟨rfl, F'⟩ := o
    exact hf A env body s' Q E a F' fun fl s'' af hf' y ha' o' => q _ _ af hf' (x.trans y) ha' o'
  | ret c => obtain ⟨v, rfl, r⟩ := o; exact q _ _ _ hf x ha ⟨v, rfl, r⟩
  | brk σ' => obtain ⟨rfl, F'⟩ := o; exact q _ _ _ hf x ha ⟨rfl, F'⟩
  | cont σ' => obtain ⟨rfl, F'⟩ := o; exact q _ _ _ hf x ha ⟨rfl, F'⟩
  | exc T => exact o.elim
theorem EXt1.of {st : Stmt} {Φ : AF → Prop} (h : EX1 prog w g fi n σ st Φ) (hne : NoExc Φ) : EXt1 prog w g fi n σ st Φ := fun A env _ s Q E a F q =>
  wpAt_of_wpAny (h A env s Q E a F q fun _ _ T _ hT => absurd hT (hne T))
theorem EXt.of {ss : List Stmt} {Φ : AF → Prop} (h : EX prog w g fi n σ ss Φ) (hne : NoExc Φ) : EXt prog w g fi n σ ss Φ := fun A env _ s Q E a F q =>
  wpAt_of_wpAny (h A env s Q E a F q fun _ _ T _ hT => absurd hT (hne T))
include G
theorem EXt1.ite {t : Expr} {b o : List Stmt} {pos : Pos} {z : Bool} {Φ : AF → Prop} (h : ET prog w g fi n σ t z) (h1 : z = true → EXt prog w g fi n σ b Φ) (h2 : z = false → EXt prog w g fi n σ o Φ) : EXt1 prog w g fi n σ (.If t b o pos) Φ := by
  intro A env body s Q E a F q
  refine ks_wpAt_If (wpAt_of_wpAny (h A env s _ E a F fun s' x => ?_))
  have F' := F.step G.toGrOk x
  cases z with
  | true => exact h1 rfl A env body s' Q E a F' fun fl s'' af hf y ha o => q _ _ af hf (x.w.trans y) ha o
  | false => exact h2 rfl A env body s' Q E a F' fun fl s'' af hf y ha o => q _ _ af hf (x.w.trans y) ha o

theorem FN.of_bodyT {f : Addr} {fd : FuncData} {body : List Stmt} {args : List CV} {cb : List (Str × CV)} {σ₀ σ : Loc} {c : CV}
    (D : Def g f fd body) (C : Closed g fd.scope fd.closure σ₀)
    (hb : ∀ s vs, At g s → Rps g.V s.heap args vs → ∃ bs, BindsTo s fd ⟨vs, []⟩ bs ∧ BndV g.V s.heap bs cb) (B : Bnd fd.scope σ₀ cb σ)
    (h : ∀ l, EXt prog w { g with fr := l } (FuncData.fi fd f) n σ body (Ends c)) (hgen : fd.scope.isGenerator = false) : FN prog w g (n + 1) (.ref f) args c := by
  intro A s vs R ok a r q
  obtain ⟨o, ho, hd⟩ := D.obj
  obtain ⟨bs, hbs, hv⟩ := hb s vs a r
  refine codeAny_call_function ok.room (At.fn G a ho hd) hd D.co hgen D.body (At.codeRec a D) (hbs _ _ _ _ ?_)
  rw [D.gl, D.bi]
  refine newEnv_ok G D.kind a C B hv fun env s₁ x₁ F₁ _ own hfr => ?_
  refine ⟨At.lim G (a.step x₁), ks_codeAny_funcAt (h (env :: g.fr) _ env _ s₁ _ _ (ok.deep env) F₁ fun fl s₂ af hf x₂ a₂ o₂ => ?_)⟩
  have x₃ : Step g s s₂ := ((Step.w (X := fun _ => False) x₁).back (WStep.pop hfr x₂) fun b o e hb => by
    rcases hb with hb | hb
    · rw [own b hb] at e; cases e
    · rw [own b (.inl hb)] at e; cases e).step fun _ _ _ => id
  cases af with
  | ret d =>
    cases hf
    obtain ⟨v, rfl, rv⟩ := o₂
    exact q v s₂ x₃ rv
  | next σ' =>
    obtain ⟨rfl, _⟩ := o₂
    have hc : c = .none := hf
    subst hc
    exact q .none s₂ x₃ rfl
  | brk _ => exact hf.elim
  | cont _ => exact hf.elim
  | exc _ => exact hf.elim
omit G in
theorem Fm.raw {env : Env} {s : Shared} {x : Str} {c : CV} (F : Fm g fi env s σ) (h : (x, c) ∈ σ) : ∃ v, Rp g.V s.heap c v ∧ Fm g fi env s ((x, .raw v) :: σ) := by
  obtain ⟨m, hn, hp, hs⟩ := F.ns
  obtain ⟨v, r, k⟩ := hs _ h
  refine ⟨v, r, { F with ns := ⟨m, hn, hp, fun p hp' => ?_⟩ }⟩
  rcases List.mem_cons.mp hp' with rfl | hp'
  · exact ⟨v, rfl, k⟩
  · exact hs p hp'
/-- `x = super().m(..)` -/
theorem EXt1.super_ {K : Frag} (k : KIn g K) {C D f f2 : Addr} {me x mname : Str} {p : Bool} {l : List CV} {cs : List CV} {c : CV} {σ' : Loc} {Φ : AF → Prop} (S : SupK prog g K fi me f D) (ak : AccK K C) (ho : nsIn K cStatics "thirdparty.any" = some Option.none)
    (hc : (("__class__" : Str), CV.raw (.ref D)) ∈ σ) (hself : (me, CV.acc C p l) ∈ σ) (hsub : mroIn K C (.ref D) = some true) (hal : ks_superIn K C D mname = some (some (.ref f2))) (hty : typeIn K (.ref f2) = some (.type "function")) (hfn : fnIn K f2 = true) (hmn : (mname == ("__class__" : Str)) = false)
    (hsl : fi.scope.names.lookup me = some .local ∨ fi.scope.names.lookup me = some .cell) {p0 p1 ap cp pos xp : Pos} {args : List Expr} (ha : EVs prog w g fi n σ args cs) (hf : FN prog w g n (.ref f2) (.acc C p l :: cs) c)
    (d : Del x σ σ') (hx : fi.scope.names.lookup x = some .local ∨ (fi.mine = true ∧ fi.scope.names.lookup x = some .cell)) (np : x ≠ ("provided" : Str)) (q0 : Φ (.next ((x, c) :: σ')))
    (hev : ∀ env, ∃ pl, PySem.eval (.Call (.Attribute (.Call (.Name "super" p0) [] [] p1) mname ap) args [] cp) env = (do
      let ov ← attributeBase (.Call (.Name "super" p0) [] [] p1) mname env (PySem.eval (.Call (.Name "super" p0) [] [] p1) env)
      standAt ap.atName
      let (f, first) ← holding [ov] (getMethod ov mname pl)
      callWith cp f first (backTo cp (starEach args env)) []) := by intro env; exact ⟨_, rfl⟩)
    (hs : ∀ env, swapsWith (.Call (.Attribute (.Call (.Name "super" p0) [] [] p1) mname ap) args [] cp) (some (.Name x xp)) pos.line env = pure false := by intro env; rfl)
    (hplain : ∀ env, (backTo cp (starEach args env)).any (·.1) = false := by intro env; rfl) :
    EXt1 prog w g fi n σ (.Assign [.Name x xp] (.Call (.Attribute (.Call (.Name "super" p0) [] [] p1) mname ap) args [] cp) pos) Φ := by
  intro A env body s Q E a F q
  obtain ⟨pl, hpl⟩ := hev env
  refine ks_wpAt_Assign_Name (ks_wpAt_MethodCall (pl := pl) ?_ hpl) (hs env)
  obtain ⟨sv, rsv, Fr⟩ := F.raw hself
  have rsv' := rsv
  obtain ⟨x0, dx, vs, m0, od, rfl, nV, _, ex, ed, I, hlk, rs⟩ := rsv.acc
  refine super_base G k S Fr (.tail _ hc) (.head _) ex rfl (fun c h => by cases h) hsub hmn hsl fun s₁ so y₁ hn hso => ?_
  have F₁ := F.step G.toGrOk y₁
  have X₁ := k.at F₁.at_
  have r₁ := Rp.step G.toGrOk F.at_ y₁ rsv'
  have nT : x0 ∉ g.T := fun h => by
    obtain ⟨o', vs', e', d', _⟩ := G.tabF _ _ h F.at_.tab
    rw [ex] at e'; cases e'; cases d'
  have ex₁ : s₁.heap.get? x0 = some (accObj C dx vs m0) := y₁.keep _ _ nT (F.at_.notFs ex rfl) ex
  obtain ⟨cd, hcd⟩ : ∃ cd, clsIn K C = some cd := by obtain ⟨cd, h, _⟩ := ak.dict; exact ⟨cd, h⟩
  have hmro : Looks (model prog w) s₁.heap (mroOf (.ref C)) cd.mro := (looks_clsIn X₁ hcd).andThen .now
  have hal' : alongIn K mname ((cd.mro.dropWhile (· != .ref D)).drop 1) = some (some (.ref f2)) := by
    unfold ks_superIn at hal; rw [hcd] at hal; exact hal
  obtain ⟨of, hof, hofc⟩ : ∃ of, s₁.heap.get? f2 = some of ∧ of.cls = .type "function" := by
    have ht' : (K.lookup f2).map (·.cls) = some (.type "function") := hty
    cases z : K.lookup f2 with
    | none => rw [z] at ht'; cases ht'
    | some of => rw [z] at ht'; exact ⟨of, X₁ _ _ z, Option.some.inj ht'⟩
  have y₂ : Step g s₁ { s₁ with heap := s₁.heap.push (methodObj (.ref f2) (.ref x0)), toks := s₁.toks + 1 } := Step.push G.toGrOk
  have F₂ := F₁.step G.toGrOk y₂
  have r₂ := Rp.step G.toGrOk F₁.at_ y₂ r₁
  have hmw : (s₁.heap.push (methodObj (.ref f2) (.ref x0))).get? s₁.heap.objs.size = some (methodObj (.ref f2) (.ref x0)) := Heap.get?_push_size _ rfl
  have hmwT : s₁.heap.objs.size ∉ g.T := notT_new G (At.fresh G F₁.at_ (Nat.le_refl _))
  have hmwF : s₁.heap.objs.size ∉ g.F := F₁.at_.notFn (Heap.get?_none_of_le (Nat.le_refl _))
  have od₁ : ∃ od₁, InstAt s₁.heap x0 (accObj C dx vs m0) C (some od₁) := by
    obtain ⟨x1, d1, vs1, m1, od1, e1, _, _, ex1, ed1, I1, _, _⟩ := r₁.acc
    cases e1
    rw [ex₁] at ex1
    cases ex1
    exact ⟨od1, I1⟩
  obtain ⟨od1, I1⟩ := od₁
  have hlk2 : K.lookup f2 = some of := by
    have ht' : (K.lookup f2).map (·.cls) = some (.type "function") := hty
    cases z : K.lookup f2 with
    | none => rw [z] at ht'; cases ht'
    | some of' =>
      have := X₁ _ _ z
      rw [hof] at this
      cases this; rfl
  have gm : wpAny (model prog w) A (getMethod (.ref so) mname pl) (fun fx s₂ => wpAny (model prog w) A (callWith cp fx.1 fx.2 (backTo cp (starEach args env)) []) (fun v s₁ => wpAny (model prog w) A (storeName env x v) (fun _ => Q .next) E s₁) E s₂) E s₁ := by
    obtain ⟨hh, gg, dd, t, os⟩ := s₁
    refine ks_wpAny_getMethod_super hso (looks_opaque X₁ ho) hmro rfl X₁ hal' hof hofc (ks_ne X₁ I1 hcd) hmn ?_
    refine callWith_of (P := fun h => h.get? hh.objs.size = some (methodObj (.ref f2) (.ref x0)) ∧ K.In h) (by rw [hplain env]; rfl) (fun h e => keeps_M (f := f2) hfn h e) (evalArgs_any (hplain env) ?_)
    refine ha A env _ cp _ E a F₂ fun vs' s₃ y₃ r₃ => ?_
    have hm3 : s₃.heap.get? hh.objs.size = some (methodObj (.ref f2) (.ref x0)) := y₃.keep _ _ hmwT hmwF hmw
    have F₃ := F₂.step G.toGrOk y₃
    refine ⟨⟨hm3, k.at F₃.at_⟩, ?_⟩
    refine wpAny_call (ks_codeAny_call_bound hm3 ?_)
    refine hf A s₃ _ _ a F₃.at_ ⟨.ref x0, vs', rfl, Rp.step G.toGrOk F₂.at_ y₃ r₂, r₃⟩ fun v s₄ y₄ r₄ => ?_
    have F₄ := F₃.step G.toGrOk y₄
    exact store_ok G F₄ r₄ d hx np fun s₅ y₅ F₅ => q _ _ _ q0 ((((y₁.trans y₂).trans y₃).trans y₄).w.trans y₅) F₅.at_ ⟨rfl, F₅⟩
  exact gm
end
end Mine
end
section
open PySem PySem.W PySem.Calls PyProof.Rows Builtin
set_option maxRecDepth 100000
namespace Mine
theorem gm_append {prog : Program} {w : World} {A : Around} {E : Value → Shared → Prop} {s : Shared} {D : Addr} {vs : Array Value} {m : Nat} {pl : Sem Bool} {Q : Value × List Value → Shared → Prop} (h : s.heap.get? D = some (seqObj "list" vs m)) (q : Q (.builtin "list.append", [.ref D]) s) : wpAny (model prog w) A (getMethod (.ref D) "append" pl) Q E s :=
  (@getMethod_builtin (model prog w) A E s (.ref D) "list" _ _ pl Q ⟨_, h, rfl⟩ F.plainAttrs_list F.slot_list_append F.type_list_append (fun b hb => by cases hb; exact ⟨_, h, rfl⟩)) q
section
variable (prog : Program) (w : World) (g : Gr) (fi : FI) (n : Nat)
/-- the turns of a loop that fills a list -/
def LoopA (r : Str) (D : Addr) (target : Expr) (st0 : Stmt) (e : Expr) (Φ : List CV → Loc → Prop) : List CV → List CV → Loc → Prop
  | [], done, σ => (r, CV.raw (.ref D)) ∈ σ ∧ Φ done σ
  | c :: cs, done, σ => ∃ σ₁, AS prog w g fi n σ target c σ₁ ∧ EX1 prog w g fi n σ₁ st0 (fun af => match af with
      | .next σ₂ => ∃ d, EV prog w g fi n σ₂ e d ∧ (r, CV.raw (.ref D)) ∈ σ₂ ∧ LoopA r D target st0 e Φ cs (done ++ [d]) σ₂
      | _ => False)
end
section
variable {prog : Program} {w : World} {g : Gr} (G : Gr2 g) {fi : FI} {n : Nat}
include G
theorem forApp_ok {it : Value} {X : Addr → Prop} {J : Shared → List CV → Prop} (I : Iter prog w g n it X J) {target e : Expr} {st0 : Stmt} {rn : Str} {np ap cp xp : Pos} {D : Addr} {Φ : List CV → Loc → Prop} {env : Env} {A : Around} (a : OkA g.fr g.hd A n) (hV : D ∈ g.V)
    (hdr : (rn == ("__debug__" : Str)) = false) (hcr : (rn == ("__classdict__" : Str)) = false) (hline : (ap.endLine == cp.line) = true) (hint : ∀ env, env.scope = fi.scope → interactive env = false)
    (hse : ∀ env, starEach [e] env = [(false, eval e env)]) (hsw : ∀ env, swapsWith (.Call (.Attribute (.Name rn np) "append" ap) [e] [] cp) none xp.line env = pure false) :
    ∀ (cs done : List CV) (vs : List Value) (σ : Loc) (s : Shared) (R : Result → Shared → Prop), LoopA prog w g fi n rn D target st0 e Φ cs done σ → Fm g fi env s σ → J s cs → s.heap.PlainList D (List.toArray vs) → Rps g.V s.heap done vs → vs.length + cs.length ≤ 10000 →
      (∀ s' us done' σ', Φ done' σ' → (rn, CV.raw (.ref D)) ∈ σ' → WStep g (fun q => Own fi env q ∨ X q ∨ q = D) s s' → Fm g fi env s' σ' → s'.heap.PlainList D (List.toArray us) → Rps g.V s'.heap done' us → R (.ok .next) s') →
      codeAny (model prog w) A (.forLoop target it [st0, .Expr (.Call (.Attribute (.Name rn np) "append" ap) [e] [] cp) xp] [] env) R s := by
  have hD : ∀ {s : Shared} {vs : Array Value}, s.heap.PlainList D vs → ∀ a o, a = D → s.heap.get? a = some o → Mut s.heap a ∨ (a ∈ g.V ∧ ∃ vs m, o.data = .seq vs m) := fun {s vs} ⟨m, e⟩ a o h e' => by
    subst h; rw [e] at e'; cases e'; exact .inr ⟨hV, _, _, rfl⟩
  have nT : ∀ {s : Shared}, At g s → D ∉ g.T := fun a => (a.vol D hV).1.1
  intro cs
  induction cs with
  | nil =>
    intro done vs σ s R L F j hP rs _ q
    refine codeAny_of_tree ?_
    show wpAny _ A ((forTurn target it _ [] env).onRaise (fun x => do noteFrame x env; theTreesLotGoes x)) _ _ s
    refine wpAny_onRaise ?_
    simp only [forTurn]
    refine wpAny_bind (wpAny_standAt (wpAny_bind (wpAny_onRaise ?_)))
    refine wpAny_mono (I.fin A s (fun s' => WStep g X s s') (fun _ _ => False) a F.at_ j fun s' x => x) (fun r s₁ h => ?_) fun _ _ h => h.elim
    cases r with
    | some v => exact h.elim
    | none =>
      have F₁ := Fm.fields G F h I.new I.out fun b o hx e => I.fld _ _ _ _ j hx e
      obtain ⟨m, e⟩ := hP
      have nX : ¬ X D := fun hx => (I.out D hx) hV
      have e₁ := h.keep D _ (nT F.at_) (F.at_.notFs e rfl) nX e
      refine wpAny_pure ⟨rfl, codeAny_block (wpAny_execs_nil ?_)⟩
      exact q s₁ vs done σ L.2 L.1 (h.mono fun _ z => .inr (.inl z)) F₁ ⟨m, e₁⟩ (rs.mono (WStep.v G F.at_ h fun b o hx e => .inl (I.fld _ _ _ _ j hx e)))
  | cons c cs ih =>
    intro done vs σ s R L F j hP rs hlen q
    obtain ⟨σ₁, hA, hB⟩ := L
    refine codeAny_of_tree ?_
    show wpAny _ A ((forTurn target it _ [] env).onRaise (fun x => do noteFrame x env; theTreesLotGoes x)) _ _ s
    refine wpAny_onRaise ?_
    simp only [forTurn]
    refine wpAny_bind (wpAny_standAt (wpAny_bind (wpAny_onRaise ?_)))
    refine wpAny_mono (I.turn A s c cs target (fun v s' => WStep g X s s' ∧ J s' cs ∧ Rp g.V s'.heap c v) (fun _ _ => False) (fun h => nomatch h) a F.at_ j fun v s' x j' r => ⟨x, j', r⟩) (fun r s₁ h => ?_) fun _ _ h => h.elim
    cases r with
    | none => exact h.elim
    | some v =>
      refine wpAny_bind (wpAny_mono h (fun _ s₂ h₂ => ?_) fun _ _ h => h.elim)
      obtain ⟨x, j₂, r⟩ := h₂
      have F₂ := Fm.fields G F x I.new I.out fun b o hx e => I.fld _ _ _ _ j hx e
      have rs₂ := rs.mono (WStep.v G F.at_ x fun b o hx e => .inl (I.fld _ _ _ _ j hx e))
      have nX : ¬ X D := fun hx => (I.out D hx) hV
      obtain ⟨m, eD⟩ := hP
      have eD₂ := x.keep D _ (nT F.at_) (F.at_.notFs eD rfl) nX eD
      refine wpAny_bind (hA A env s₂ v _ _ a F₂ r fun s₃ x₃ F₃ => ?_)
      have j₃ := I.keep _ _ _ _ F₂.at_ x₃ (fun b o hb _ => .inl (own_mut G F₂ b hb)) j₂
      have rs₃ := rs₂.mono (WStep.v G F₂.at_ x₃ fun b o hb e => .inr (.inl (own_mut G F₂ b hb)))
      have eD₃ := x₃.keep D _ (nT F.at_) (F₂.at_.notFs eD₂ rfl) (fun ho => F₂.out D ho hV) eD₂
      refine wpAny_bind (wpAny_execs_cons (hB A env s₃ _ _ a F₃ (fun fl s₄ af hf x₄ a₄ o => ?_) fun _ _ _ _ hT => hT.elim))
      cases af with
      | ret _ => exact hf.elim
      | brk _ => exact hf.elim
      | cont _ => exact hf.elim
      | exc _ => exact hf.elim
      | next σ₂ =>
        obtain ⟨rfl, F₄⟩ := o
        obtain ⟨d, hE, hr, hL⟩ := hf
        have j₄ := I.keep _ _ _ _ F₃.at_ x₄ (fun b o hb _ => .inl (own_mut G F₃ b hb)) j₃
        have rs₄ := rs₃.mono (WStep.v G F₃.at_ x₄ fun b o hb e => .inr (.inl (own_mut G F₃ b hb)))
        have eD₄ := x₄.keep D _ (nT F.at_) (F₃.at_.notFs eD₃ rfl) (fun ho => F₃.out D ho hV) eD₃
        have w₄ : WStep g (fun q => Own fi env q ∨ X q ∨ q = D) s s₄ := ((x.mono fun _ z => .inr (.inl z)).trans (x₃.mono fun _ z => .inl z)).trans (x₄.mono fun _ z => .inl z)
        refine wpAny_execs_cons (wpAny_Expr ?_ (hint env F.sc) (hsw env))
        rw [arm_eval_Call]
        refine wpAny_bind (wpAny_Name (load_ok F₄ hr hcr fun v' rv' => ?_) hdr)
        cases rv'
        refine wpAny_bind (wpAny_standAt ?_)
        have hpos : methodCallPos true (.Name rn np) env ap cp = pure cp := by unfold methodCallPos; simp [hline]
        unfold methodCall
        have hform : methodCallForm (([e] : List Expr).length + ([] : List Keyword).length) (backTo cp (starEach [e] env)) (backToKw cp (keywordEach [] env)) = true := by rw [hse]; rfl
        have hplain : (backTo cp (starEach [e] env)).any (·.1) = false := by rw [hse]; rfl
        rw [hform]
        refine wpAny_bind (wpAny_holding (gm_append eD₄ ?_))
        refine wpAny_bind (wpAny_of_eq hpos ?_)
        refine callWith_of (P := fun h => True) (by rw [hplain]; rfl) (fun _ _ => ⟨.machine, .inr (.inl rfl), .now⟩) (evalArgs_any hplain ?_)
        rw [hse]
        refine spliced_cons (hE A env s₄ _ _ a F₄ fun u s₅ x₅ r₅ => ?_)
        refine spliced_nil ⟨trivial, ?_⟩
        have F₅ := F₄.step G.toGrOk x₅
        have j₅ := I.keep _ _ _ _ F₄.at_ (x₅.w (X := fun _ => False)) (fun _ _ h _ => h.elim) j₄
        have rs₅ := Rps.step G.toGrOk F₄.at_ x₅ rs₄
        have eD₅ := x₅.keep D _ (nT F.at_) (F₄.at_.notFs eD₄ rfl) eD₄
        refine wpAny_list_append_plain ⟨m, eD₅⟩ (fun h' hP' hs' => ?_) (by rw [List.size_toArray]; show vs.length ≤ 2 ^ 24; simp only [List.length_cons] at hlen; omega)
        obtain ⟨m', eD'⟩ := hP'
        obtain ⟨F₆, w₆⟩ := app_step G (t := s₅.toks) F₅ hV eD₅ rfl rfl hs' ⟨_, eD'⟩
        have j₆ := I.keep _ _ _ _ F₅.at_ w₆ (hD ⟨m, eD₅⟩) j₅
        have kv : KeepsV g.V s₅.heap h' := fun b o e nv _ _ => (hs'.2 b fun q => nv (q ▸ hV)).trans e
        refine wpAny_execs_nil (wpAny_pure ⟨rfl, ih (done ++ [d]) (vs ++ [u]) σ₂ { s₅ with heap := h' } R hL F₆ j₆ ⟨m', by rw [eD']; simp⟩ ((rs₅.snoc r₅).mono kv) (by simp only [List.length_cons, List.length_append, List.length_nil] at hlen ⊢; omega) fun s' us done' σ' hΦ hr' y F' hP' rs' => ?_⟩)
        exact q s' us done' σ' hΦ hr' ((w₄.trans (x₅.w.trans (w₆.mono fun _ z => .inr (.inr z)))).trans y) F' hP' rs'
end
end Mine
end
section
open PySem PySem.W PySem.Calls PyProof.Rows Builtin
set_option maxRecDepth 100000
namespace Mine
section
variable {prog : Program} {w : World} {g : Gr} (G : Gr2 g) {fi : FI} {n : Nat} {σ σ' : Loc}
include G
theorem Fm.hide {env : Env} {s : Shared} {o : Obj} (ho : o.isFreed = false) (F : Fm g fi env s σ) : Fm (g.wV (s.heap.objs.size :: g.V)) fi env { s with heap := s.heap.push o } σ := by
  have fresh : s.heap.get? s.heap.objs.size = none := Heap.get?_none_of_le (Nat.le_refl _)
  have x₃ : Step g s { s with heap := s.heap.push o } := Step.push0 G.toGrOk
  have Fa := F.step G.toGrOk x₃
  have hBD : g.hB.get? s.heap.objs.size = none := At.fresh G F.at_ (Nat.le_refl _)
  have eD : ∃ o', (s.heap.push o).get? s.heap.objs.size = some o' := ⟨o, Heap.get?_push_size _ ho⟩
  have at₃ : At (g.wV (s.heap.objs.size :: g.V)) { s with heap := s.heap.push o } := ⟨Fa.at_.keep, Fa.at_.tab, fun b hb => by
    rcases List.mem_cons.mp hb with rfl | hb
    · exact ⟨⟨notT_new G hBD, hBD⟩, eD⟩
    · exact Fa.at_.vol b hb, Fa.at_.pos, Fa.at_.frs, fun e he => ⟨.tail _ (Fa.at_.hdv e he).1, (Fa.at_.hdv e he).2⟩⟩
  obtain ⟨m, hn, hp, hh⟩ := F.ns
  refine { sc := Fa.sc, fk := Fa.fk, gl := Fa.gl, bi := Fa.bi, fn := Fa.fn, cd := Fa.cd, ql := Fa.ql, own := Fa.own, inj := Fa.inj, cells := Fa.cells, at_ := at₃, top := Fa.top, out := fun b hb hV => ?_, ns := ⟨m, ns_keeps G.toGrOk F.at_ x₃ hn, hp, fun p hm => ?_⟩ }
  · rcases List.mem_cons.mp hV with rfl | hV
    · rcases own_mut G F _ hb with ⟨v, o, e, _⟩ | ⟨m, ⟨o, _, _, e, _⟩, _⟩ <;> (rw [fresh] at e; cases e)
    · exact Fa.out b hb hV
  · obtain ⟨v, r, k⟩ := hh p hm
    refine ⟨v, ?_, k.imp id fun ⟨k1, c, k2, k3⟩ => ⟨k1, c, k2, isCell_keeps G.toGrOk F.at_ x₃ k3⟩⟩
    exact (r.avoid (b := s.heap.objs.size) fresh).mono fun b o e _ nf nm => x₃.keep b o (fun hb => by
      obtain ⟨o', vs, e', d, cl⟩ := G.tabF _ b hb F.at_.tab
      rw [e] at e'; cases e'; exact no_range (nf vs d) cl) (fun hF => nm (.inr (F.at_.mutF hF).1)) e
theorem EX.appLoop {rn : Str} {lp rp pos fpos np ap cp xp : Pos} {target iter e : Expr} {st0 : Stmt} {cs : List CV} {rest : List Stmt} {Φ : AF → Prop} {Ψ : List CV → Loc → Prop}
    (d : Del rn σ σ') (hr : fi.scope.names.lookup rn = some .local) (hnp : rn ≠ ("provided" : Str)) (hdr : (rn == ("__debug__" : Str)) = false) (hcr : (rn == ("__classdict__" : Str)) = false) (hlen : cs.length ≤ 10000)
    (hi : ∀ D, EO prog w (g.wV (D :: g.V)) fi n ((rn, CV.raw (.ref D)) :: σ') iter cs)
    (L : ∀ D, LoopA prog w (g.wV (D :: g.V)) fi n rn D target st0 e Ψ cs [] ((rn, CV.raw (.ref D)) :: σ'))
    (h : ∀ done σ₂, Ψ done σ₂ → ∃ τ, (∀ p ∈ τ, p ∈ σ₂) ∧ EX prog w g fi n ((rn, .lst done) :: τ) rest Φ) (hΦ : NoExc Φ)
    (hline : (ap.endLine == cp.line) = true := by rfl) (hint : ∀ env, env.scope = fi.scope → interactive env = false := by intro env h; unfold interactive; rw [h]; rfl)
    (hse : ∀ env, starEach [e] env = [(false, eval e env)] := by intro env; rfl) (hsw : ∀ env, swapsWith (.Call (.Attribute (.Name rn np) "append" ap) [e] [] cp) none xp.line env = pure false := by intro env; rfl)
    (hs : ∀ env, swapsWith (.List [] lp) (some (.Name rn rp)) pos.line env = pure false := by intro env; rfl) (hfs : ∀ env x, foldedSetIterable iter env x = pure x := by intro _ _; rfl) :
    EX prog w g fi n σ (.Assign [.Name rn rp] (.List [] lp) pos :: .For target iter [st0, .Expr (.Call (.Attribute (.Name rn np) "append" ap) [e] [] cp) xp] [] fpos :: rest) Φ := by
  intro A env s Q E a F q qe
  refine wpAny_execs_cons (wpAny_Assign_Name (wpAny_List_spliced (EVs.nil (prog := prog) (w := w) A env s lp _ E a F fun vs s₁ y₁ r₁ => ?_)) (hs env))
  cases r₁
  refine ⟨by decide, ?_⟩
  have F₁ := F.step G.toGrOk y₁
  have G' := g2V G (s₁.heap.objs.size :: g.V)
  have Fh := Fm.hide G (o := seqObj "list" #[] 0) rfl F₁
  have eD : (s₁.heap.push (seqObj "list" #[] 0)).get? s₁.heap.objs.size = some (seqObj "list" #[] 0) := Heap.get?_push_size _ rfl
  have yP : Step g s₁ { s₁ with heap := s₁.heap.push (seqObj "list" #[] 0) } := Step.push0 G.toGrOk
  refine store_ok G' Fh (c := .raw (.ref s₁.heap.objs.size)) rfl d (.inl hr) hnp fun s₂ y₂ F₂ => ?_
  have hVD : s₁.heap.objs.size ∈ (g.wV (s₁.heap.objs.size :: g.V)).V := .head _
  have nTD : s₁.heap.objs.size ∉ g.T := (F₂.at_.vol _ hVD).1.1
  have eD₂ : s₂.heap.get? s₁.heap.objs.size = some (seqObj "list" #[] 0) := y₂.keep _ _ nTD (Fh.at_.notFs eD rfl) (fun ho => Fh.out _ ho hVD) eD
  have dN : s.heap.get? s₁.heap.objs.size = none := by
    cases e : s.heap.get? s₁.heap.objs.size with
    | none => rfl
    | some o =>
      obtain ⟨o', e'⟩ := y₁.lives G F.at_ _ o e
      exact absurd (Heap.lt_size e') (Nat.lt_irrefl _)
  -- all up to here, told in the old ground
  have z₂ : WStep g (Own fi env) s s₂ := ((y₁.trans yP).w (X := Own fi env)).trans (wstepV y₂)
  refine wpAny_execs_cons (wpAny_For (hi s₁.heap.objs.size A env s₂ _ E a F₂ fun v s₃ y₃ ov => ?_) (hfs env))
  refine ov A _ E a fun it s₄ X J y₄ I j hX lift => ?_
  have F₄ := F₂.step G'.toGrOk y₄
  have hXV : ∀ b, X b → b ∉ (g.wV (s₁.heap.objs.size :: g.V)).V := fun b hb hV => by
    obtain ⟨o, e⟩ := (F₂.at_.vol b hV).2
    rw [(hX b hb).1] at e; cases e
  have eD₄ : s₄.heap.get? s₁.heap.objs.size = some (seqObj "list" #[] 0) := y₄.keep _ _ nTD (F₂.at_.notFs eD₂ rfl) eD₂
  refine forApp_ok G' (I _ hXV) a.mark hVD hdr hcr hline hint hse hsw cs [] [] _ s₄ _ (L _) F₄ j ⟨0, eD₄⟩ rfl (by simpa using hlen) fun s₅ us done σ₂ hΨ hr₂ y₅ F₅ hP rs => ?_
  obtain ⟨τ, hτ, hE⟩ := h done σ₂ hΨ
  obtain ⟨mD, eD₅⟩ := hP
  have z₅ : WStep g (Own fi env) s s₅ := (z₂.trans ((stepV y₄).w)).back (wstepV y₅) fun b o e hb => by
    rcases hb with hb | hb | hb
    · exact hb
    · exfalso
      have : Lives s.heap s₂.heap := by
        have l1 := y₁.lives G F.at_
        have l2 : Lives s₁.heap (s₁.heap.push (seqObj "list" #[] 0)) := fun b o e => ⟨o, Heap.get?_push_of_some _ e⟩
        exact (l1.trans l2).trans (own_lives G' Fh F₂ y₂)
      obtain ⟨o', e'⟩ := this b o e
      rw [(hX b hb).1] at e'; cases e'
    · exfalso
      rw [hb, dN] at e; cases e
  have a₅ : At g s₅ := ⟨F₅.at_.keep, F₅.at_.tab, fun b hb => F₅.at_.vol b (.tail _ hb), F₅.at_.pos, F₅.at_.frs, fun e he => ⟨(F.at_.hdv e he).1, (F₅.at_.hdv e he).2⟩⟩
  have F₆ : Fm g fi env s₅ ((rn, .lst done) :: τ) := by
    obtain ⟨m, hn, hp, hh⟩ := F₅.ns
    refine { sc := F₅.sc, fk := F₅.fk, gl := F₅.gl, bi := F₅.bi, fn := F₅.fn, cd := F₅.cd, ql := F₅.ql, own := F₅.own, inj := F₅.inj, cells := F₅.cells, at_ := a₅, top := F₅.top, out := fun b hb hV => F₅.out b hb (.tail _ hV), ns := ⟨m, hn, hp, fun p hm => ?_⟩ }
    rcases List.mem_cons.mp hm with rfl | hm
    · obtain ⟨v, rfl, k⟩ := hh _ hr₂
      exact ⟨_, ⟨_, us, mD, rfl, At.out F₁.at_, eD₅, rs.less fun b hb => .tail _ hb⟩, k⟩
    · obtain ⟨v, r, k⟩ := hh p (hτ p hm)
      exact ⟨v, r.less fun b hb => .tail _ hb, k⟩
  have lz : Lives s.heap s₅.heap := own_lives G (F.sub (σ' := []) (fun _ h => nomatch h)) (F₆.sub (σ' := []) (fun _ h => nomatch h)) z₅
  exact hE A env s₅ Q E a F₆ (fun fl s' af hf x ha o => q fl s' af hf (z₅.trans x) ha o) fun _ _ T _ hT => absurd hT (hΦ T)
end
end Mine
end
section
open PySem PySem.W PySem.Calls PyProof.Rows Builtin
set_option maxRecDepth 100000
namespace Mine
/-- one place in a stable row, the greatest first -/
def insI (ge : Nat → Nat → Bool) (m : List Nat) (i : Nat) : List Nat :=
  m.take (m.filter fun j => ge j i).length ++ [i] ++ m.drop (m.filter fun j => ge j i).length
def ltL (l : List Nat) (i j : Nat) : Bool := decide (i < l.length) && (decide (j < l.length) && decide (l.getD (l.length - 1 - i) 0 < l.getD (l.length - 1 - j) 0))
def byPerm (n : Nat) (lt : Nat → Nat → Bool) : List Nat := ((sortPerm n lt).map fun i => n - 1 - i).reverse
def byIns (n : Nat) (ge : Nat → Nat → Bool) : List Nat := (List.range n).foldl (insI ge) []
def tuplesN (b : Nat) : Nat → List (List Nat)
  | 0 => [[]]
  | n + 1 => (tuplesN b n).flatMap fun l => (List.range b).map fun x => x :: l
def rankOf (l : List Nat) : List Nat := l.map fun x => (l.filter fun y => decide (y < x)).length
def same (l : List Nat) : Bool := !decide (rankOf l = l) || decide (byPerm l.length (ltL l) = byIns l.length fun i j => decide (l.getD j 0 ≤ l.getD i 0))
set_option maxHeartbeats 0 in
theorem same_0 : (tuplesN 0 0).all same = true := by decide +kernel
theorem same_1 : (tuplesN 1 1).all same = true := by decide +kernel
theorem same_2 : (tuplesN 2 2).all same = true := by decide +kernel
theorem same_3 : (tuplesN 3 3).all same = true := by decide +kernel
theorem same_4 : (tuplesN 4 4).all same = true := by decide +kernel
def tuplesX (x : Nat) : List (List Nat) := (tuplesN 5 4).map fun l => x :: l
theorem same_50 : (tuplesX 0).all same = true := by decide +kernel
theorem same_51 : (tuplesX 1).all same = true := by decide +kernel
theorem same_52 : (tuplesX 2).all same = true := by decide +kernel
theorem same_53 : (tuplesX 3).all same = true := by decide +kernel
theorem same_54 : (tuplesX 4).all same = true := by decide +kernel
theorem same_5 : (tuplesN 5 5).all same = true := List.all_eq_true.mpr fun l hl => by
  obtain ⟨m, hm, h⟩ := List.mem_flatMap.mp (show l ∈ (tuplesN 5 4).flatMap fun l => (List.range 5).map fun x => x :: l from hl)
  obtain ⟨x, hx, rfl⟩ := List.mem_map.mp h
  have k : ∀ y, x :: m ∈ tuplesX x → (tuplesX x).all same = true → y = x → same (x :: m) = true := fun y h1 h2 _ => List.all_eq_true.mp h2 _ h1
  have hm' : x :: m ∈ tuplesX x := List.mem_map.mpr ⟨m, hm, rfl⟩
  have hx := List.mem_range.mp hx
  have : x = 0 ∨ x = 1 ∨ x = 2 ∨ x = 3 ∨ x = 4 := by omega
  rcases this with rfl | rfl | rfl | rfl | rfl
  · exact k 0 hm' same_50 rfl
  · exact k 1 hm' same_51 rfl
  · exact k 2 hm' same_52 rfl
  · exact k 3 hm' same_53 rfl
  · exact k 4 hm' same_54 rfl
end Mine
end
section
open PySem PySem.W PySem.Calls PyProof.Rows Builtin
set_option maxRecDepth 100000
namespace Mine
theorem filt_le {p q : Nat → Bool} : ∀ {L : List Nat}, (∀ a ∈ L, p a = true → q a = true) → (L.filter p).length ≤ (L.filter q).length
  | [], _ => Nat.le_refl _
  | a :: L, h => by
    have ih := filt_le (L := L) fun b hb => h b (.tail _ hb)
    have h1 := h a (.head _)
    by_cases hp : p a = true
    · rw [List.filter_cons_of_pos hp, List.filter_cons_of_pos (h1 hp)]; simp only [List.length_cons]; omega
    · rw [List.filter_cons_of_neg hp]
      by_cases hq : q a = true
      · rw [List.filter_cons_of_pos hq]; simp only [List.length_cons]; omega
      · rw [List.filter_cons_of_neg hq]; exact ih
theorem filt_lt {p q : Nat → Bool} : ∀ {L : List Nat}, (∀ a ∈ L, p a = true → q a = true) → (∃ a ∈ L, q a = true ∧ p a = false) → (L.filter p).length < (L.filter q).length
  | [], _, ⟨_, h, _⟩ => nomatch h
  | a :: L, h, ⟨b, hb, h2, h3⟩ => by
    have h1 := h a (.head _)
    rcases List.mem_cons.mp hb with rfl | hb
    · rw [List.filter_cons_of_neg (by rw [h3]; decide), List.filter_cons_of_pos h2]
      have := filt_le (L := L) fun b hb => h b (.tail _ hb)
      simp only [List.length_cons]; omega
    · have ih := filt_lt (L := L) (fun b hb => h b (.tail _ hb)) ⟨b, hb, h2, h3⟩
      by_cases hp : p a = true
      · rw [List.filter_cons_of_pos hp, List.filter_cons_of_pos (h1 hp)]; simp only [List.length_cons]; omega
      · rw [List.filter_cons_of_neg hp]
        by_cases hq : q a = true
        · rw [List.filter_cons_of_pos hq]; simp only [List.length_cons]; omega
        · rw [List.filter_cons_of_neg hq]; exact ih
def rk (L : List Nat) (x : Nat) : Nat := (L.filter fun y => decide (y < x)).length
theorem rk_lt {L : List Nat} {x y : Nat} (hx : x ∈ L) : rk L x < rk L y ↔ x < y := by
  constructor
  · intro h
    apply Decidable.byContradiction
    intro h'
    have : rk L y ≤ rk L x := filt_le fun a _ h => by simp only [decide_eq_true_eq] at h ⊢; omega
    omega
  · intro h
    exact filt_lt (fun a _ h => by simp only [decide_eq_true_eq] at h ⊢; omega) ⟨x, hx, by simpa using h, by simp⟩
theorem rank_eq (L : List Nat) : rankOf L = L.map (rk L) := rfl
theorem rank_rank (L : List Nat) : rankOf (rankOf L) = rankOf L := by
  rw [rank_eq L, rank_eq, List.map_map]
  refine List.map_congr_left fun x hx => ?_
  show ((L.map (rk L)).filter fun y => decide (y < rk L x)).length = rk L x
  rw [List.filter_map, List.length_map]
  show (L.filter fun y => decide (rk L y < rk L x)).length = (L.filter fun y => decide (y < x)).length
  congr 1
  refine List.filter_congr fun y hy => ?_
  rw [Bool.eq_iff_iff]
  simp only [decide_eq_true_eq]
  exact rk_lt hy
theorem tuples_mem {b : Nat} : ∀ (l : List Nat), (∀ x ∈ l, x < b) → l ∈ tuplesN b l.length
  | [], _ => .head _
  | x :: l, h => by
    show x :: l ∈ (tuplesN b l.length).flatMap _
    exact List.mem_flatMap.mpr ⟨l, tuples_mem l fun y hy => h y (.tail _ hy), List.mem_map.mpr ⟨x, List.mem_range.mpr (h x (.head _)), rfl⟩⟩
theorem same_all {n : Nat} (h : n ≤ 5) : (tuplesN n n).all same = true := by
  match n, h with
  | 0, _ => exact same_0
  | 1, _ => exact same_1
  | 2, _ => exact same_2
  | 3, _ => exact same_3
  | 4, _ => exact same_4
  | 5, _ => exact same_5
theorem insI_mem {ge : Nat → Nat → Bool} {m : List Nat} {i x : Nat} (h : x ∈ insI ge m i) : x = i ∨ x ∈ m := by
  simp only [insI, List.mem_append, List.mem_singleton] at h
  rcases h with (h | h) | h
  · exact .inr (List.mem_of_mem_take h)
  · exact .inl h
  · exact .inr (List.mem_of_mem_drop h)
theorem insI_congr {n : Nat} {ge ge' : Nat → Nat → Bool} (hg : ∀ i j, i < n → j < n → ge i j = ge' i j) : ∀ (l m : List Nat), (∀ x ∈ l, x < n) → (∀ x ∈ m, x < n) → l.foldl (insI ge) m = l.foldl (insI ge') m
  | [], _, _, _ => rfl
  | i :: l, m, hl, hm => by
    have e : insI ge m i = insI ge' m i := by
      have : (m.filter fun j => ge j i) = m.filter fun j => ge' j i := List.filter_congr fun j hj => hg j i (hm j hj) (hl i (.head _))
      unfold insI; rw [this]
    rw [List.foldl_cons, List.foldl_cons, e]
    exact insI_congr hg l _ (fun x hx => hl x (.tail _ hx)) fun x hx => by
      rcases insI_mem hx with rfl | hx
      · exact hl _ (.head _)
      · exact hm x hx
theorem sort_same {n : Nat} (hn : n ≤ 5) (c : Nat → Nat) :
    byPerm n (fun i j => decide (i < n) && (decide (j < n) && decide (c (n - 1 - i) < c (n - 1 - j)))) = byIns n fun i j => decide (c j ≤ c i) := by
  have hL : ((List.range n).map c).length = n := by simp
  generalize hLd : (List.range n).map c = L at hL
  have hm : ∀ i, i < n → c i ∈ L := fun i hi => by rw [← hLd]; exact List.mem_map.mpr ⟨i, List.mem_range.mpr hi, rfl⟩
  have hl : (rankOf L).length = n := by rw [rank_eq, List.length_map, hL]
  have hg : ∀ i, i < n → (rankOf L).getD i 0 = rk L (c i) := fun i hi => by
    rw [rank_eq, List.getD_eq_getElem?_getD, List.getElem?_map, ← hLd, List.getElem?_map, List.getElem?_range hi]
    rfl
  have hmem : rankOf L ∈ tuplesN n n := by
    have := tuples_mem (b := n) (rankOf L) fun x hx => by
      rw [rank_eq] at hx
      obtain ⟨y, hy, rfl⟩ := List.mem_map.mp hx
      have : rk L y < (L.filter fun _ => true).length := filt_lt (fun _ _ _ => rfl) ⟨y, hy, rfl, by simp⟩
      have h2 := List.length_filter_le (fun _ => true) L
      omega
    rwa [hl] at this
  have hs := List.all_eq_true.mp (same_all hn) _ hmem
  unfold same at hs
  rw [rank_rank, decide_eq_true (rfl : rankOf L = rankOf L), hl] at hs
  have hs : byPerm n (ltL (rankOf L)) = byIns n fun i j => decide ((rankOf L).getD j 0 ≤ (rankOf L).getD i 0) := by simpa using hs
  have e1 : (fun i j => decide (i < n) && (decide (j < n) && decide (c (n - 1 - i) < c (n - 1 - j)))) = ltL (rankOf L) := by
    funext i j
    unfold ltL
    rw [hl]
    by_cases hi : i < n
    · by_cases hj : j < n
      · rw [hg _ (by omega), hg _ (by omega)]
        have := rk_lt (y := c (n - 1 - j)) (hm (n - 1 - i) (by omega))
        simp [hi, hj, this]
      · simp [hj]
    · simp [hi]
  rw [e1, hs]
  refine insI_congr (n := n) (fun i j hi hj => ?_) _ _ (fun x hx => List.mem_range.mp hx) fun _ h => nomatch h
  rw [hg i hi, hg j hj]
  have := rk_lt (y := c j) (hm i hi)
  rw [Bool.eq_iff_iff]
  simp only [decide_eq_true_eq]
  omega
/-- insertion among values is insertion among places -/
theorem ins_places {α : Type} (get : Nat → α) (ge : α → α → Bool) (insV : List α → α → List α) (hins : ∀ m r, insV m r = m.take (m.filter fun x => ge x r).length ++ [r] ++ m.drop (m.filter fun x => ge x r).length) :
    ∀ (l m : List Nat), (l.map get).foldl insV (m.map get) = (l.foldl (insI fun i j => ge (get i) (get j)) m).map get
  | [], _ => rfl
  | i :: l, m => by
    rw [List.map_cons, List.foldl_cons, List.foldl_cons, ← ins_places get ge insV hins l]
    congr 1
    rw [hins, insI, List.filter_map, List.length_map]
    simp only [List.map_append, List.map_take, List.map_drop, List.map_cons, List.map_nil]
    rfl
end Mine
end
section
open PySem PySem.W PySem.Calls PyProof.Rows
set_option maxRecDepth 100000
namespace Mine
abbrev pw := PySem.Challenge.pw_bl0029_01
def stm (i : Nat) : Stmt := pw.main.body.getD i (.Pass default)
def bodyOf : Stmt → List Stmt
  | .FunctionDef _ _ b _ _ _ _ _ _ _ => b
  | .ClassDef _ _ _ b _ _ _ _ _ _ _ => b
  | _ => []
def scopeOf : Stmt → Scope
  | .FunctionDef _ _ _ _ _ _ s _ _ _ => s
  | _ => default
def parsOf : Stmt → Arguments
  | .FunctionDef _ a _ _ _ _ _ _ _ _ => a
  | _ => default
def meth (c i : Nat) : Stmt := (bodyOf (stm c)).getD i (.Pass default)

/-- the texts of a list display -/
def strList : Stmt → List Str
  | .Assign _ (.List es _) _ => es.filterMap fun | Expr.Constant (Const.str x) _ _ => some x | _ => none
  | _ => []
/-- a def of the text as it stands in the ground -/
structure DefAt (g : Gr) (f : Addr) (st : Stmt) (qual : Str) (cl : List (Str × Addr)) (dV cd : Value) : Prop where
  ex : ∃ fd, Def g f fd (bodyOf st) ∧ fd.params = parsOf st ∧ fd.scope = scopeOf st ∧ fd.closure = cl ∧ fd.defaults = dV ∧ fd.qualname = qual ∧ fd.code = cd
abbrev fiOf (st : Stmt) (qual : Str) (f : Addr) (cd : Value) : FI := ⟨scopeOf st, qual ++ ".<locals>.", some f, cd, true⟩

/-- what the written part says of a def -/
def recOf (K : Frag) (f : Addr) : Option (List Stmt × Arguments × Scope × List (Str × Addr) × Value × Str × Value × Addr × Addr) := match K.lookup f with
  | some ⟨_, _, .func fd, _⟩ => (match fd.body with | .stmts b => some (b, fd.params, fd.scope, fd.closure, fd.defaults, fd.qualname, fd.code, fd.globals, fd.builtins) | _ => none)
  | _ => none
def qualOf (K : Frag) (c : Addr) : Option Str := match K.lookup c with
  | some ⟨_, _, .fields vs, _⟩ => (match (vs[1]? : Option Value) with | some (.str x _) => some x | _ => none)
  | _ => none
theorem defAt_K {K : Frag} {g : Gr} (k : KIn g K) {f c : Addr} {st : Stmt} {qual : Str} {cl : List (Str × Addr)} {dV : Value} (hc : c ∉ g.T)
    (h1 : recOf K f = some (bodyOf st, parsOf st, scopeOf st, cl, dV, qual, .ref c, mainGlobals, builtinsNs)) (h2 : qualOf K c = some qual) (h3 : (scopeOf st).isCoroutine = false) (h4 : (scopeOf st).kind = .function) : DefAt g f st qual cl dV (.ref c) := by
  unfold recOf at h1
  split at h1
  · rename_i cls dict fd sl ho
    split at h1
    · rename_i b hb
      simp only [Option.some.injEq, Prod.mk.injEq] at h1
      obtain ⟨rfl, e2, e3, e4, e5, e6, e7, e8, e9⟩ := h1
      unfold qualOf at h2
      split at h2
      · rename_i cls' dict' vs sl' hoc
        split at h2
        · rename_i x t hv
          cases h2
          exact ⟨fd, ⟨⟨_, k.inn _ _ ho, rfl⟩, ⟨c, _, vs, t, e7, hc, k.inn _ _ hoc, rfl, by rw [hv, e6]⟩, hb, e8, e9, by rw [e3]; exact h3, by rw [e3]; exact h4⟩, e2, e3, e4, e5, e6, e7⟩
        · cases h2
      · cases h2
    · cases h1
  · cases h1

def gnames : List (Str × Value) := [("_immutable_error", .ref 45), ("Accept", .ref 280), ("_mime_split_re", .ref 287), ("_normalize_mime", .ref 294), ("MIMEAccept", .ref 342), ("_locale_delim_re", .ref 349), ("_normalize_lang", .ref 356), ("LanguageAccept", .ref 381),
  ("_law_types", .ref 384), ("_law_offers", .ref 385), ("_law_tags", .ref 386), ("_law_tongues", .ref 387), ("_law_words", .ref 388), ("_law_pieces", .ref 393), ("_law_special", .ref 398), ("_law_takes", .ref 405), ("_law_sorted", .ref 410), ("_law_found", .ref 417), ("_law_best", .ref 424), ("_law_tongue", .ref 429), ("_law_place", .ref 436), ("_law_changed", .ref 443), ("_law_holds", .ref 448)]
def bnames : List (Str × Value) := [("len", .builtin "len"), ("range", .type "range"), ("sorted", .builtin "sorted"), ("enumerate", .type "enumerate"), ("isinstance", .builtin "isinstance"), ("list", .type "list"), ("str", .type "str"), ("tuple", .type "tuple"), ("type", .type "type"), ("next", .builtin "next"), ("super", .type "super"), ("ValueError", .type "ValueError"), ("TypeError", .type "TypeError")]

def cA : Addr := 280
def cM : Addr := 342
def cL : Addr := 381
/-- the defs: address, text, qualname, cells, defaults -/
def dT (f : Addr) (st : Stmt) (q : Str) (cl : List (Str × Addr)) (dv : Value) : Addr × Stmt × Str × List (Str × Addr) × Value := (f, st, q, cl, dv)
def mT (C : Addr) (x : Str) (f : Addr) : Addr × Str × Addr := (C, x, f)
def defTable : List (Addr × Stmt × Str × List (Str × Addr) × Value) := [
  dT 45 (stm 3) "_immutable_error" [] (Value.none), dT 59 (meth 4 0) "ImmutableListMixin.__delitem__" [] (Value.none), dT 66 (meth 4 1) "ImmutableListMixin.__iadd__" [] (Value.none), dT 73 (meth 4 2) "ImmutableListMixin.__imul__" [] (Value.none),
  dT 80 (meth 4 3) "ImmutableListMixin.__setitem__" [] (Value.none), dT 87 (meth 4 4) "ImmutableListMixin.append" [] (Value.none), dT 94 (meth 4 5) "ImmutableListMixin.remove" [] (Value.none), dT 101 (meth 4 6) "ImmutableListMixin.extend" [] (Value.none),
  dT 108 (meth 4 7) "ImmutableListMixin.insert" [] (Value.none), dT 116 (meth 4 8) "ImmutableListMixin.pop" [] (Value.ref 109), dT 123 (meth 4 9) "ImmutableListMixin.reverse" [] (Value.none), dT 131 (meth 4 10) "ImmutableListMixin.sort" [] (Value.ref 124),
  dT 177 (meth 8 0) "Accept.__init__" [("__class__", 163)] (Value.ref 169), dT 184 (meth 8 1) "Accept._specificity" [] (Value.none), dT 191 (meth 8 2) "Accept._value_matches" [] (Value.none), dT 198 (meth 8 3) "Accept.__getitem__" [] (Value.none),
  dT 205 (meth 8 4) "Accept.quality" [] (Value.none), dT 212 (meth 8 5) "Accept.__contains__" [] (Value.none), dT 226 (meth 8 7) "Accept.index" [] (Value.none), dT 233 (meth 8 8) "Accept.find" [] (Value.none), dT 240 (meth 8 9) "Accept.values" [] (Value.none),
  dT 247 (meth 8 10) "Accept.to_header" [] (Value.none), dT 261 (meth 8 12) "Accept._best_single_match" [] (Value.none), dT 269 (meth 8 13) "Accept.best_match" [] (Value.ref 262), dT 276 (meth 8 14) "Accept.best" [] (Value.none),
  dT 294 (stm 10) "_normalize_mime" [] (Value.none), dT 308 (meth 11 0) "MIMEAccept._specificity" [] (Value.none), dT 315 (meth 11 1) "MIMEAccept._value_matches" [] (Value.none), dT 356 (stm 13) "_normalize_lang" [] (Value.none), dT 371 (meth 14 0) "LanguageAccept._value_matches" [] (Value.none),
  dT 378 (meth 14 1) "LanguageAccept.best_match" [("__class__", 360)] (Value.ref 372), dT 393 (stm 21) "_law_pieces" [] (Value.none), dT 398 (stm 22) "_law_special" [] (Value.none), dT 405 (stm 23) "_law_takes" [] (Value.none), dT 410 (stm 24) "_law_sorted" [] (Value.none),
  dT 417 (stm 25) "_law_found" [] (Value.none), dT 424 (stm 26) "_law_best" [] (Value.none), dT 429 (stm 27) "_law_tongue" [] (Value.none), dT 436 (stm 28) "_law_place" [] (Value.none), dT 443 (stm 29) "_law_changed" [] (Value.none), dT 448 (stm 30) "_law_holds" [] (Value.none), dT 453 (stm 31) "law" [] (Value.none)]
/-- methods: class, name, function -/
def mtab : List (Addr × Str × Addr) :=
  ([cA, cM, cL].flatMap fun C => [mT C "__delitem__" 59, mT C "__iadd__" 66, mT C "__imul__" 73, mT C "__setitem__" 80, mT C "append" 87, mT C "remove" 94, mT C "extend" 101, mT C "insert" 108, mT C "pop" 116, mT C "reverse" 123, mT C "sort" 131,
    mT C "__init__" 177, mT C "__getitem__" 198, mT C "quality" 205, mT C "__contains__" 212, mT C "index" 226, mT C "find" 233, mT C "values" 240, mT C "to_header" 247, mT C "_best_single_match" 261]) ++
  [mT cA "_specificity" 184, mT cL "_specificity" 184, mT cM "_specificity" 308, mT cA "_value_matches" 191, mT cM "_value_matches" 315, mT cL "_value_matches" 371, mT cA "best_match" 269, mT cM "best_match" 269, mT cL "best_match" 378]
def IsC (C : Addr) : Prop := C = cA ∨ C = cM ∨ C = cL
/-- what the written part says of the classes -/
structure KF (K : Frag) : Prop where
  acc : ∀ C ∈ [cA, cM, cL], AccK K C
  find : ∀ t ∈ mtab, findIn K (.ref t.1) t.2.1 = some (some (.ref t.2.2))
  ty : ∀ d ∈ defTable, typeIn K (.ref d.1) = some (.type "function")
  isFn : ∀ d ∈ defTable, isFn K (.ref d.1) = true
  fnIn : ∀ d ∈ defTable, fnIn K d.1 = true
  keepC : ∀ C ∈ [cA, cM, cL], keepIn K (.ref C) = true
  prov : ∀ C ∈ [cA, cM, cL], findIn K (.ref C) "provided" = some none
  setA : ∀ C ∈ [cA, cM, cL], findIn K (.ref C) "__setattr__" = some (some (.builtin "object.__setattr__"))
  under : ∀ C ∈ [cA, cM, cL], (clsIn K C).any (fun cd => underList cd.mro && cd.hasDict) = true
  makes : ∀ C ∈ [cA, cM, cL], makesLIn K C = true
  op : nsIn K cStatics "thirdparty.any" = some none
  noSeq : ∀ C ∈ [cA, cM, cL], noSeq K C = true
  selfFirst : ∀ C ∈ [cA, cM, cL], selfFirst K C = true
  isiL : kitOne K (.type "list") (.ref cA) = some false
  isiA : ∀ C ∈ [cA, cM, cL], isIn K (.ref C) cA = true
  isiS : kitOne K (.type "str") (.type "str") = some true
  isiI : kitOne K (.type "int") (.type "str") = some false
  lgi : findCls K (.type "list") (.type "type") "__getitem__" = some (.val (.builtin "list.__getitem__"))
  mroA : ∀ C ∈ [cA, cM, cL], mroIn K C (.ref cA) = some true
  mroL : mroIn K cL (.ref cL) = some true
  supI : ∀ C ∈ [cA, cM, cL], ks_superIn K C cA "__init__" = some (some (.builtin "list.__init__"))
  supB : ks_superIn K cL cL "best_match" = some (some (.ref 269))
  best : ∀ C ∈ [cA, cM, cL], ∃ pr rest, findIn K (.ref C) "best" = some (some (.ref pr)) ∧ specialIn K (.ref pr) "__get__" = some (some (.builtin "property.__get__")) ∧ takesIn K (.ref pr) = some true ∧ recIn K pr "property" = some (.ref 276 :: rest)
  name : ∀ C ∈ [cA, cM, cL], ∃ oc x t, K.lookup C = some oc ∧ oc.cls = .type "type" ∧ (oc.slots[2]?).join = some (.str x t) ∧ (reprText x).length ≤ 100 ∧ findCls K (.ref C) (.type "type") "__name__" = some (CFound.get (Value.builtin "getset_descriptor.__get__") (Value.builtin "type.__name__") (Value.ref C) (Value.type "type"))
  clsD : ∀ C ∈ [cA, cL], ∃ cd, clsIn K C = some cd
/-- the ground, as the proofs of the defs want it -/
structure PW (K : Frag) (g : Gr) : Prop where
  G : Gr2 g
  k : KIn g K
  kf : KF K
  T : g.T = [172, 303, 375]
  gl : ∀ p ∈ gnames, g.mg p.1 = some p.2
  bl : ∀ p ∈ bnames, g.mg p.1 = none ∧ g.mb p.1 = some p.2
  bm : BMod g
  nb : NoneBooked g.hB
  tk : 0 < g.p0
  defs : ∀ d ∈ defTable, DefAt g d.1 d.2.1 d.2.2.1 d.2.2.2.1 d.2.2.2.2 (.ref (d.1 - 1))
  t1 : LamTab g ⟨59, 40, 59, 81⟩ "Accept.__init__.<locals>.<lambda>" 176 172
  t2 : LamTab g ⟨153, 21, 153, 68⟩ "MIMEAccept._specificity.<locals>.<genexpr>" 307 303
  t3 : LamTab g ⟨202, 24, 202, 77⟩ "LanguageAccept.best_match.<locals>.<genexpr>" 377 375
  re1 : ReAt g.hB 287 286 mimeCode
  re2 : ReAt g.hB 349 348 langCode
  cell1 : g.hB.IsCell 163 (some (.ref cA))
  cell2 : g.hB.IsCell 360 (some (.ref cL))
  dv0 : ∃ n, g.hB.get? 169 = some (seqObj "tuple" #[Value.ref 168] n)
  dv1 : ∃ n, g.hB.get? 262 = some (seqObj "tuple" #[Value.none] n)
  dv2 : ∃ n, g.hB.get? 372 = some (seqObj "tuple" #[Value.none] n)
  dv3 : ∃ t n, g.hB.get? 109 = some (seqObj "tuple" #[Value.int (-1) t] n)
  dv4 : ∃ n, g.hB.get? 124 = some (seqObj "tuple" #[Value.none, Value.bool false] n)
  sup : ∀ p ∈ [((177 : Addr), (176 : Addr)), (378, 377)], ∃ oc vs file tf, g.hB.get? p.2 = some oc ∧ oc.data = .fields vs ∧ vs[2]? = some (.str file tf) ∧ ((pw.main.file : Str) == file) = true
  tabs : ∀ p ∈ [((384 : Addr), (16 : Nat)), (385, 17), (386, 18), (387, 19), (388, 20)], ∃ n vs, g.hB.get? p.1 = some (seqObj "list" (List.toArray vs) n) ∧ Rps [] g.hB ((strList (stm p.2)).map .str) vs
theorem PW.ext {K : Frag} {g g₂ : Gr} (P : PW K g) (X : Ext g g₂) : PW K g₂ := by
  have lam : ∀ {pos : Pos} {q : Str} {c p : Addr}, LamTab g pos q c p → LamTab g₂ pos q c p := fun {pos q c p} L => by
    refine ⟨?_, by rw [X.T]; exact L.cT, by rw [X.T]; exact L.pT, ?_, ?_⟩
    · obtain ⟨o, vs, file, tf, flags, tg, inF, text, tt, e, r⟩ := L.hd
      exact ⟨o, vs, file, tf, flags, tg, inF, text, tt, X.keep _ _ L.cT e, r⟩
    · rw [X.tab, X.T]; exact L.now
    · rw [X.tab]; exact L.grow
  have nt : ∀ {a : Addr}, a ∉ [172, 303, 375] → a ∉ g.T := fun h => by rw [P.T]; exact h
  have cell : ∀ {a : Addr} {v : Option Value}, a ∉ [172, 303, 375] → g.hB.IsCell a v → g₂.hB.IsCell a v := fun h ⟨o, e, d⟩ => ⟨o, X.keep _ _ (nt h) e, d⟩
  refine ⟨X.G, ⟨fun a o h => X.keep a o (P.k.notT a o h) (P.k.inn a o h), fun a o h => by rw [X.T]; exact P.k.notT a o h⟩, P.kf, X.T.trans P.T, fun p hp => by rw [X.mg]; exact P.gl p hp, fun p hp => by rw [X.mg, X.mb]; exact P.bl p hp, ?_, ?_, by rw [X.p0]; exact P.tk, fun d hd => ?_, lam P.t1, lam P.t2, lam P.t3, ?_, ?_, cell (by decide) P.cell1, cell (by decide) P.cell2, ?_, ?_, ?_, ?_, ?_, fun p hp => ?_, fun p hp => ?_⟩
  · obtain ⟨bm, o, h1, h2, h3, h4, h5, r⟩ := P.bm
    exact ⟨bm, o, by rw [X.mg]; exact h1, h2, h3, by rw [X.T]; exact h4, X.keep _ _ h4 h5, r⟩
  · obtain ⟨mc, ⟨o, es, ep, e, r⟩, h⟩ := P.nb
    exact ⟨mc, ⟨o, es, ep, X.keep _ _ P.G.limT e, r⟩, h⟩
  · obtain ⟨fd, ⟨⟨o, ho, hd'⟩, ⟨c, oc, vs, tq, c1, c2, c3, c4, c5⟩, b1, b2, b3, b4, b5⟩, r⟩ := (P.defs d hd).ex
    refine ⟨fd, ⟨⟨o, X.keep _ _ (fun hT => ?_) ho, hd'⟩, ⟨c, oc, vs, tq, c1, by rw [X.T]; exact c2, X.keep _ _ c2 c3, c4, c5⟩, b1, b2, b3, b4, b5⟩, r⟩
    obtain ⟨o', vs', e', d', _⟩ := P.G.tabF _ _ hT P.G.tab0
    rw [ho] at e'; cases e'; rw [hd'] at d'; cases d'
  · obtain ⟨o, fs, oc, its, m, ho, e1, e2, e3, e4, e5, e6, hoc, e7⟩ := P.re1
    exact ⟨o, fs, oc, its, m, X.keep _ _ (nt (by decide)) ho, e1, e2, e3, e4, e5, e6, X.keep _ _ (nt (by decide)) hoc, e7⟩
  · obtain ⟨o, fs, oc, its, m, ho, e1, e2, e3, e4, e5, e6, hoc, e7⟩ := P.re2
    exact ⟨o, fs, oc, its, m, X.keep _ _ (nt (by decide)) ho, e1, e2, e3, e4, e5, e6, X.keep _ _ (nt (by decide)) hoc, e7⟩
  · obtain ⟨n, e⟩ := P.dv0; exact ⟨n, X.keep _ _ (nt (by decide)) e⟩
  · obtain ⟨n, e⟩ := P.dv1; exact ⟨n, X.keep _ _ (nt (by decide)) e⟩
  · obtain ⟨n, e⟩ := P.dv2; exact ⟨n, X.keep _ _ (nt (by decide)) e⟩
  · obtain ⟨t, n, e⟩ := P.dv3; exact ⟨t, n, X.keep _ _ (nt (by decide)) e⟩
  · obtain ⟨n, e⟩ := P.dv4; exact ⟨n, X.keep _ _ (nt (by decide)) e⟩
  · obtain ⟨oc, vs, file, tf, e, r⟩ := P.sup p hp
    refine ⟨oc, vs, file, tf, X.keep _ _ (nt ?_) e, r⟩
    simp only [List.mem_cons, List.mem_nil_iff, or_false] at hp
    rcases hp with rfl | rfl <;> decide
  · obtain ⟨n, vs, e, r⟩ := P.tabs p hp
    refine ⟨n, vs, X.keep _ _ (nt ?_) e, ?_⟩
    · simp only [List.mem_cons, List.mem_nil_iff, or_false] at hp
      rcases hp with rfl | rfl | rfl | rfl | rfl <;> decide
    · obtain ⟨ps, rfl, hps⟩ := rps_strs' _ r
      rw [← hps, List.map_map]
      exact rps_strs ps
theorem PW.mod {K : Frag} {g : Gr} (P : PW K g) (V : List Addr) (fr : List Env) (hd : Option Addr) : PW K { g with V := V, fr := fr, hd := hd } :=
  P.ext ⟨{ glob := P.G.glob, blt := P.G.blt, gT := P.G.gT, bT := P.G.bT, lim := P.G.lim, limT := P.G.limT, tabF := P.G.tabF, tabK := P.G.tabK, tB := P.G.tB, tab0 := P.G.tab0 }, rfl, rfl, rfl, rfl, fun _ _ _ e => e, rfl⟩
end Mine
end
section
open PySem PySem.W PySem.Calls PyProof.Rows Builtin Builtin.Str
set_option maxRecDepth 100000
set_option maxHeartbeats 400000
namespace Mine
section
variable {prog : Program} {w : World} {g : Gr} (G : Gr2 g) {n : Nat} {f : Addr} {st : Stmt} {qual : Str} {cl : List (Str × Addr)} {dV cd : Value} {args : List CV} {cb : List (Str × CV)} {σ₀ σ : Loc} {c : CV}
include G
theorem FN.of_def (D : DefAt g f st qual cl dV cd) (hb : ∀ fd : FuncData, fd.params = parsOf st → fd.defaults = dV → ∀ s vs, At g s → Rps g.V s.heap args vs → ∃ bs, BindsTo s fd ⟨vs, []⟩ bs ∧ BndV g.V s.heap bs cb)
    (C : Closed g (scopeOf st) cl σ₀) (B : Bnd (scopeOf st) σ₀ cb σ) (h : ∀ l, EX prog w { g with fr := l } (fiOf st qual f cd) n σ (bodyOf st) (Ends c)) (hgen : (scopeOf st).isGenerator = false) : FN prog w g (n + 1) (.ref f) args c := by
  obtain ⟨fd, D', e1, e2, e3, e4, e5, e6⟩ := D.ex
  subst e3 e5 e6
  refine FN.of_body (fd := fd) (σ₀ := σ₀) (cb := cb) (σ := σ) G D' (by rw [e2]; exact C) (hb fd e1 e4) (by rw [e2]; exact B) (fun l => ?_) (by rw [e2]; exact hgen)
  have : FuncData.fi fd f = fiOf st fd.qualname f fd.code := by rw [FuncData.fi, e2]
  rw [this]; exact h l
theorem FN.of_defT (D : DefAt g f st qual cl dV cd) (hb : ∀ fd : FuncData, fd.params = parsOf st → fd.defaults = dV → ∀ s vs, At g s → Rps g.V s.heap args vs → ∃ bs, BindsTo s fd ⟨vs, []⟩ bs ∧ BndV g.V s.heap bs cb)
    (C : Closed g (scopeOf st) cl σ₀) (B : Bnd (scopeOf st) σ₀ cb σ) (h : ∀ l, EXt prog w { g with fr := l } (fiOf st qual f cd) n σ (bodyOf st) (Ends c)) (hgen : (scopeOf st).isGenerator = false) : FN prog w g (n + 1) (.ref f) args c := by
  obtain ⟨fd, D', e1, e2, e3, e4, e5, e6⟩ := D.ex
  subst e3 e5 e6
  refine FN.of_bodyT (fd := fd) (σ₀ := σ₀) (cb := cb) (σ := σ) G D' (by rw [e2]; exact C) (hb fd e1 e4) (by rw [e2]; exact B) (fun l => ?_) (by rw [e2]; exact hgen)
  have : FuncData.fi fd f = fiOf st fd.qualname f fd.code := by rw [FuncData.fi, e2]
  rw [this]; exact h l
theorem FNr.of_def {T : String} (D : DefAt g f st qual cl dV cd) (hb : ∀ fd : FuncData, fd.params = parsOf st → fd.defaults = dV → ∀ s vs, At g s → Rps g.V s.heap args vs → ∃ bs, BindsTo s fd ⟨vs, []⟩ bs ∧ BndV g.V s.heap bs cb)
    (C : Closed g (scopeOf st) cl σ₀) (B : Bnd (scopeOf st) σ₀ cb σ) (h : ∀ l, EX prog w { g with fr := l } (fiOf st qual f cd) n σ (bodyOf st) (Raises T)) (hgen : (scopeOf st).isGenerator = false) : FNr prog w g (n + 1) (.ref f) args T := by
  obtain ⟨fd, D', e1, e2, e3, e4, e5, e6⟩ := D.ex
  subst e3 e5 e6
  refine FNr.of_body (fd := fd) (σ₀ := σ₀) (cb := cb) (σ := σ) G D' (by rw [e2]; exact C) (hb fd e1 e4) (by rw [e2]; exact B) (fun l => ?_) (by rw [e2]; exact hgen)
  have : FuncData.fi fd f = fiOf st fd.qualname f fd.code := by rw [FuncData.fi, e2]
  rw [this]; exact h l
omit G in
theorem bndV_zip {V : List Addr} {h : Heap} : ∀ (names : List Str) (args : List CV) (vs : List Value), names.length = args.length → Rps V h args vs → BndV V h (names.zip vs) (names.zip args)
  | [], args, vs, _, _ => .nil
  | x :: xs, [], _, hl, _ => by cases hl
  | x :: xs, c :: cs, _, hl, r => by
    obtain ⟨v, us, rfl, r1, r2⟩ := r
    exact .cons r1 (bndV_zip xs cs us (by simpa using hl) r2)
omit G in
theorem bind_plain {names : List Str} (hl : names.length = args.length) (hb : ∀ fd : FuncData, fd.params = parsOf st → fd.defaults = dV → ∀ vs : List Value, vs.length = names.length → bindArgs fd ⟨vs, []⟩ = pure (names.zip vs)) :
    ∀ fd : FuncData, fd.params = parsOf st → fd.defaults = dV → ∀ s vs, At g s → Rps g.V s.heap args vs → ∃ bs, BindsTo s fd ⟨vs, []⟩ bs ∧ BndV g.V s.heap bs (names.zip args) :=
  fun fd h1 h2 s vs _ r => ⟨names.zip vs, BindsTo.of_eq (hb fd h1 h2 vs (by rw [r.length, hl])), bndV_zip names args vs hl r⟩
end
section
variable {prog : Program} {w : World} {K : Frag} {g : Gr} (P : PW K g) {fi : FI} {n : Nat} {σ : Loc}
include P
theorem EV.gn {x : Str} {v : Value} {pos : Pos} (h : fi.scope.names.lookup x = some .globalImplicit) (hm : (x, v) ∈ gnames) (hd : (x == ("__debug__" : Str)) = false := by decide) : EV prog w g fi n σ (.Name x pos) (.raw v) := EV.glob P.G.toGrOk h (P.gl _ hm) hd
theorem EV.bn {x : Str} {v : Value} {pos : Pos} (h : fi.scope.names.lookup x = some .globalImplicit) (hm : (x, v) ∈ bnames) (hd : (x == ("__debug__" : Str)) = false := by decide) : EV prog w g fi n σ (.Name x pos) (.raw v) := EV.blt P.G.toGrOk h (P.bl _ hm).1 (P.bl _ hm).2 hd
theorem Keep.of {d : Addr × Stmt × Str × List (Str × Addr) × Value} (hd : d ∈ defTable) : Keep prog w g (.ref d.1) := by
  obtain ⟨fd, D, _⟩ := (P.defs d hd).ex
  exact Keep.def_ P.G D
end
theorem len1 {α : Type} {vs : List α} (h : vs.length = 1) : ∃ a, vs = [a] := by match vs, h with | [a], _ => exact ⟨a, rfl⟩
theorem len2 {α : Type} {vs : List α} (h : vs.length = 2) : ∃ a b, vs = [a, b] := by match vs, h with | [a, b], _ => exact ⟨a, b, rfl⟩
theorem len3 {α : Type} {vs : List α} (h : vs.length = 3) : ∃ a b c, vs = [a, b, c] := by match vs, h with | [a, b, c], _ => exact ⟨a, b, c, rfl⟩
theorem len4 {α : Type} {vs : List α} (h : vs.length = 4) : ∃ a b c d, vs = [a, b, c, d] := by match vs, h with | [a, b, c, d], _ => exact ⟨a, b, c, d, rfl⟩
def compScB (scope outer : Scope) (τ : List Str) : Bool := (match scope.kind with | .function => true | _ => false) && scope.names.all (fun p => !(p.2 == .cell) && (!(p.2 == .local) || scope.names.lookup p.1 == some .local) && (!(p.2 == .free) || outer.names.lookup p.1 == some .cell))
  && τ.all fun x => scope.names.any (fun q => q.1 == x && q.2 == .free) && (relab scope outer).names.lookup x == some .cell
theorem CompSc.of {scope : Scope} {fi : FI} {τ : Loc} (hm : fi.mine = true) (h : compScB scope fi.scope (τ.map (·.1)) = true) : CompSc scope fi τ := by
  simp only [compScB, Bool.and_eq_true, List.all_eq_true, Bool.or_eq_true, Bool.not_eq_true', List.mem_map, List.any_eq_true, beq_iff_eq, forall_exists_index, and_imp] at h
  obtain ⟨⟨h1, h2⟩, h3⟩ := h
  refine ⟨?_, fun p hp e => ?_, fun p hp e => ?_, fun p hp e => ?_, hm, fun p hp => ?_⟩
  · split at h1
    · assumption
    · cases h1
  · have := ((h2 p hp).1).1
    rw [e] at this; exact absurd this (by decide)
  · have := ((h2 p hp).1).2
    rcases this with q | q
    · rw [e] at q; exact absurd q (by decide)
    · exact q
  · have := (h2 p hp).2
    rcases this with q | q
    · rw [e] at q; exact absurd q (by decide)
    · exact q
  · obtain ⟨⟨q, hq, e1, e2⟩, e3⟩ := h3 p.1 p hp rfl
    refine ⟨?_, e3⟩
    obtain ⟨q1, q2⟩ := q
    cases e1; cases e2; exact hq
section
variable {prog : Program} {w : World} {g : Gr} (G : Gr2 g) {fi : FI} {n : Nat} {τ : Loc}
include G
theorem CompOk.map {x : Str} {pos : Pos} {elt : Expr} {f : CV → CV} (hx : fi.scope.names.lookup x = some .local) (np : x ≠ ("provided" : Str)) (d : Del x τ τ) : ∀ cs : List CV, (∀ c ∈ cs, EV prog w g fi n ((x, c) :: τ) elt (f c)) → CompOk prog w g fi n τ (.Name x pos) [] elt cs (cs.map f)
  | [], _ => rfl
  | c :: cs, h => ⟨_, true, AS.name G d (.inl hx) np, fun _ hp => .tail _ hp, EIfs.nil, fun _ => ⟨_, _, rfl, h c (.head _), CompOk.map hx np d cs fun c hc => h c (.tail _ hc)⟩, fun h => nomatch h⟩
theorem CompOk.mapStr {x : Str} {pos : Pos} {elt : Expr} {f : Str → CV} (hx : fi.scope.names.lookup x = some .local) (np : x ≠ ("provided" : Str)) (d : Del x τ τ) : ∀ ws : List Str, (∀ c ∈ ws, EV prog w g fi n ((x, .str c) :: τ) elt (f c)) → CompOk prog w g fi n τ (.Name x pos) [] elt (ws.map .str) (ws.map f)
  | [], _ => rfl
  | c :: cs, h => ⟨_, true, AS.name G d (.inl hx) np, fun _ hp => .tail _ hp, EIfs.nil, fun _ => ⟨_, _, rfl, h c (.head _), CompOk.mapStr hx np d cs fun c hc => h c (.tail _ hc)⟩, fun h => nomatch h⟩
end
set_option hygiene false in
local macro_rules | `(tactic| walk_at "m_mem") => `(tactic| first | exact List.Mem.head _ | (apply List.Mem.tail; walk_at "m_mem"))
set_option hygiene false in
local macro_rules | `(tactic| walk_at "m_ne") => `(tactic| (intro h; exact absurd h (by decide)))
set_option hygiene false in
local macro_rules | `(tactic| walk_at "m_kind") => `(tactic| first | exact Or.inl (by kernel_rfl!) | exact Or.inr ⟨rfl, by kernel_rfl!⟩)
set_option hygiene false in
local macro_rules | `(tactic| walk_at "m_del") => `(tactic| first | exact Del.nil | ((with_reducible apply Del.hit); (walk_at "m_del")) | (apply Del.keep; (walk_at "m_ne"); (walk_at "m_del")))
set_option hygiene false in
local macro_rules | `(tactic| walk_at "m_bnd") => `(tactic| first | exact Bnd.nil | (apply Bnd.cons; (walk_at "m_del"); (walk_at "m_kind"); (walk_at "m_ne"); (walk_at "m_bnd")))
set_option hygiene false in
local macro_rules | `(tactic| walk_at "m_b1") => `(tactic| (intro fd h1 h2 vs hl; obtain ⟨a, rfl⟩ := len1 hl; unfold bindArgs; rw [h1, h2]; rfl))
set_option hygiene false in
local macro_rules | `(tactic| walk_at "m_b2") => `(tactic| (intro fd h1 h2 vs hl; obtain ⟨a, b, rfl⟩ := len2 hl; unfold bindArgs; rw [h1, h2]; rfl))
set_option hygiene false in
local macro_rules | `(tactic| walk_at "m_b3") => `(tactic| (intro fd h1 h2 vs hl; obtain ⟨a, b, c, rfl⟩ := len3 hl; unfold bindArgs; rw [h1, h2]; rfl))
set_option hygiene false in
local macro_rules | `(tactic| walk_at "m_b4") => `(tactic| (intro fd h1 h2 vs hl; obtain ⟨a, b, c, d, rfl⟩ := len4 hl; unfold bindArgs; rw [h1, h2]; rfl))
set_option hygiene false in
local macro_rules | `(tactic| walk_at "m_e") => `(tactic| first
  | ((with_reducible show EV _ _ _ _ _ _ (.Name _ _) _); first | exact EV.name (by walk_at "m_mem") | exact EV.gn P (by kernel_rfl!) (by walk_at "m_mem") | exact EV.bn P (by kernel_rfl!) (by walk_at "m_mem"))
  | ((with_reducible show EV _ _ _ _ _ _ (.Constant (.int _) _ _) _); exact EV.int)
  | ((with_reducible show EV _ _ _ _ _ _ (.Constant (.str _) _ _) _); exact EV.str)
  | ((with_reducible show EV _ _ _ _ _ _ (.Constant (.bool _) _ _) _); exact EV.bool)
  | ((with_reducible show EV _ _ _ _ _ _ (.Constant .none _ _) _); exact EV.none)
  | ((with_reducible show EV _ _ _ _ _ _ (.Compare _ [_] [_] _) _); exact EV.cmp G.toGrOk (by walk_at "m_e") (by walk_at "m_e") (by walk_at "m_b"))
  | ((with_reducible show EV _ _ _ _ _ _ (.BinOp _ _ _ _) _); exact EV.bin G.toGrOk (by walk_at "m_e") (by walk_at "m_e") (by walk_at "m_b"))
  | ((with_reducible show EV _ _ _ _ _ _ (.Subscript _ _ _) _); exact EV.sub G (by walk_at "m_e") (by walk_at "m_e") (by walk_at "m_b"))
  | ((with_reducible show EV _ _ _ _ _ _ (.Tuple _ _ _) _); exact EV.tuple G.toGrOk (by walk_at "m_es") (by simp))
  | ((with_reducible show EV _ _ _ _ _ _ (.List _ _) _); exact EV.list G.toGrOk (by walk_at "m_es") (by simp)))
set_option hygiene false in
local macro_rules | `(tactic| walk_at "m_es") => `(tactic| first | with_reducible exact EVs.nil | exact EVs.cons G.toGrOk (by walk_at "m_e") (by walk_at "m_es"))
set_option hygiene false in
local macro_rules | `(tactic| walk_at "m_t") => `(tactic| first
  | ((with_reducible show ET _ _ _ _ _ _ (.Compare _ [_] [_] _) _); exact ET.cmp G.toGrOk (by walk_at "m_e") (by walk_at "m_e") (by walk_at "m_b"))
  | ((with_reducible show ET _ _ _ _ _ _ (.UnaryOp .Not _ _) _); exact ET.not (by walk_at "m_t")))
set_option hygiene false in
local macro_rules | `(tactic| walk_at "m_b") => `(tactic| with_reducible first
  | exact Bin.eq_int | exact Bin.ne_int | exact Bin.lt_int | exact Bin.le_int | exact Bin.gt_int | exact Bin.ge_int | exact Bin.add_int | exact Bin.sub_int | exact Bin.eq_str | exact Bin.ne_str | exact Bin.in_str | exact Bin.notin_str | exact Bin.is_none | exact Bin.isnot_none)
set_option hygiene false in
local macro_rules | `(tactic| walk_at "m_cs") => `(tactic| exact CompSc.of rfl (by kernel_rfl!))
set_option hygiene false in
local macro_rules | `(tactic| walk_at "m_sub") => `(tactic| first | with_reducible exact (fun _ h => absurd h List.not_mem_nil) | (refine List.forall_mem_cons.mpr ⟨?_, ?_⟩; (walk_at "m_mem"); (walk_at "m_sub")))
set_option hygiene false in
local macro_rules | `(tactic| walk_at "m_swap") => `(tactic| (intro env he; cases env; dsimp only at he; subst he; kernel_rfl!))
set_option hygiene false in
local macro_rules | `(tactic| walk_at "m_vmem") => `(tactic| exact List.mem_append_right _ (by walk_at "m_mem"))
/-- pieces of a text -/
def piecesF (k : Int) (x : Str) : List Str := if k = 0 then (Txt.split (Txt.replace x "/" ";") ";").map (Txt.stripChars · " \t") else if k = 1 then Txt.split (Txt.replace x "_" "-") "-" else [x]
/-- what a text must be for the walk -/
def okT (x : Str) : Bool := decide (x.length ≤ 100) && PyData.strOk x && decide ((Txt.replace x "/" ";").length ≤ 200) && decide ((partsBetween (Txt.replace x "/" ";") (occurrences (Txt.replace x "/" ";") ";" 0 (Txt.replace x "/" ";").length ((Txt.replace x "/" ";").length + 1)) (";" : Str).length).length ≤ 200)
  && ((Txt.split (Txt.replace x "/" ";") ";").all fun y => decide (y.length ≤ 200)) && decide ((Txt.replace x "_" "-").length ≤ 200) && decide ((partsBetween (Txt.replace x "_" "-") (occurrences (Txt.replace x "_" "-") "-" 0 (Txt.replace x "_" "-").length ((Txt.replace x "_" "-").length + 1)) ("-" : Str).length).length ≤ 200)
  && decide ((Txt.split (Txt.replace x "/" ";") ";").length ≤ 1000) && decide (tooLong (Txt.lower x).length = false)

section
variable {w : World} {K : Frag} {g : Gr} (P : PW K g) {n : Nat}
include P
theorem c_pieces {k : Int} {x : Str} (hx : okT x = true) : FN pw w g (n + 1) (.ref 393) [.int k, .str x] (.lst ((piecesF k x).map .str)) := by
  simp only [okT, Bool.and_eq_true, decide_eq_true_eq, List.all_eq_true] at hx
  obtain ⟨⟨⟨⟨⟨⟨⟨⟨h1, h2⟩, h3⟩, h4⟩, h5⟩, h6⟩, h7⟩, h8⟩, h9⟩ := hx
  have D := P.defs (dT 393 (stm 21) "_law_pieces" [] .none) (List.mem_of_getElem? (i := 31) rfl)
  refine FN.of_def P.G D (bind_plain (names := ["kind", "text"]) rfl (by walk_at "m_b2")) Closed.nil (by walk_at "m_bnd") (fun l => ?_) rfl
  have P := P.mod g.V l g.hd
  have G := P.G
  refine EX.cons (EX1.ite (z := k == 0) (ET.cmp G.toGrOk (by walk_at "m_e") (by walk_at "m_e") (by walk_at "m_b")) (fun hz => ?_) (fun hz => ?_) G) G
  · have hk : k = 0 := by simpa using hz
    refine EX.cons (EX1.ret G (EV.comp G (τ := []) (cs := (Txt.split (Txt.replace x "/" ";") ";").map .str) (ds := (Txt.split (Txt.replace x "/" ";") ";").map fun p => .str (Txt.stripChars p " \t")) (by walk_at "m_cs") (fun _ h => nomatch h) (EV.meth G (EV.replace G P.nb P.tk (by walk_at "m_e") ?_) (Mth.str F.slot_str_split) (by walk_at "m_es") Keep.builtin (FW.split G rfl ?_ ?_)) (Over.list G) ?_ fun D => ?_) ?_) G
    · show x.length + (x.length + 1) * 1 ≤ _; omega
    · refine Nat.le_trans ‹_› (by decide +kernel)
    · refine Nat.le_trans ‹_› (by decide +kernel)
    · rw [List.length_map]; omega
    · have P := P.mod (D :: g.V) l g.hd
      have G := P.G
      refine CompOk.mapStr G (by kernel_rfl!) (by walk_at "m_ne") Del.nil _ fun y hy => ?_
      exact EV.meth G (by walk_at "m_e") (Mth.str F.slot_str_strip) (by walk_at "m_es") Keep.builtin (FW.strip (by have := h5 y hy; refine Nat.le_trans ‹_› (by decide +kernel)))
    · show CV.lst _ = CV.lst _
      simp only [piecesF, if_pos hk, List.map_map]; rfl
  · have hk : k ≠ 0 := by simpa using hz
    refine EX.nil ?_
    refine EX.cons (EX1.ret G (c := .lst ((piecesF k x).map .str)) (EV.ite G.toGrOk (z := k == 1) (ET.cmp G.toGrOk (by walk_at "m_e") (by walk_at "m_e") (by walk_at "m_b")) (fun hz => ?_) (fun hz => ?_)) rfl) G
    · have hk : k = 1 := by simpa using hz
      have : piecesF k x = Txt.split (Txt.replace x "_" "-") "-" := by subst hk; rfl
      rw [this]
      refine EV.meth G (EV.replace G P.nb P.tk (by walk_at "m_e") ?_) (Mth.str F.slot_str_split) (by walk_at "m_es") Keep.builtin (FW.split G rfl ?_ ?_)
      · show x.length + (x.length + 1) * 1 ≤ _; omega
      · refine Nat.le_trans ‹_› (by decide +kernel)
      · refine Nat.le_trans ‹_› (by decide +kernel)
    · have hk1 : k ≠ 1 := by simpa using hz
      have : piecesF k x = [x] := by simp [piecesF, hk, hk1]
      rw [this]
      exact EV.list G.toGrOk (cs := [.str x]) (by walk_at "m_es") (by simp)
end
def rowC (r : Str × Int) : CV := .tup [.str r.1, .int r.2]
def rowsC (rows : List (Str × Int)) : CV := .lst (rows.map rowC)
abbrev strsC (l : List Str) : CV := .lst (l.map .str)
theorem eqv_strs : ∀ l m : List Str, (strsC l).eqv (strsC m) = decide (l = m)
  | [], [] => rfl
  | [], _ :: _ => rfl
  | _ :: _, [] => rfl
  | x :: l, y :: m => by
    have ih := eqv_strs l m
    show (x == y && PyData.eqvAll (CV.dats (l.map .str)) (CV.dats (m.map .str))) = _
    have : PyData.eqvAll (CV.dats (l.map .str)) (CV.dats (m.map .str)) = decide (l = m) := ih
    rw [this, Bool.eq_iff_iff]
    simp
theorem eqv_rows : ∀ l m : List (Str × Int), (rowsC l).eqv (rowsC m) = decide (l = m)
  | [], [] => rfl
  | [], _ :: _ => rfl
  | _ :: _, [] => rfl
  | (x, i) :: l, (y, j) :: m => by
    have ih := eqv_rows l m
    have : PyData.eqvAll (CV.dats (l.map rowC)) (CV.dats (m.map rowC)) = decide (l = m) := ih
    show ((x == y && (i == j && true)) && PyData.eqvAll (CV.dats (l.map rowC)) (CV.dats (m.map rowC))) = _
    rw [this, Bool.eq_iff_iff]
    simp
theorem strs_dat {l : List Str} (h : l.all PyData.strOk = true) : (strsC l).isDat = true := by
  show CV.areDat _ = true
  rw [areDat_iff]
  intro c hc
  obtain ⟨b, hb, rfl⟩ := List.mem_map.mp hc
  exact List.all_eq_true.mp h b hb
theorem strs_depth (l : List Str) : (strsC l).dat.depth ≤ 64 := by
  have h : ∀ l : List Str, PyData.depthAll (CV.dats (l.map .str)) ≤ 1 := by
    intro l
    induction l with
    | nil => exact Nat.zero_le _
    | cons x l ih => exact Nat.max_le.mpr ⟨Nat.zero_le _, ih⟩
  exact Nat.le_trans (Nat.succ_le_succ (h l)) (by decide)
theorem rows_dat {l : List (Str × Int)} (h : ∀ r ∈ l, PyData.strOk r.1 = true) : (rowsC l).isDat = true := by
  show CV.areDat _ = true
  rw [areDat_iff]
  intro c hc
  obtain ⟨b, hb, rfl⟩ := List.mem_map.mp hc
  show (PyData.strOk b.1 && (true && true)) = true
  rw [h b hb]; rfl
theorem rows_depth (l : List (Str × Int)) : (rowsC l).dat.depth ≤ 64 := by
  have h : ∀ l : List (Str × Int), PyData.depthAll (CV.dats (l.map rowC)) ≤ 5 := by
    intro l
    induction l with
    | nil => exact Nat.zero_le _
    | cons x l ih => exact Nat.max_le.mpr ⟨by show Nat.succ (max 0 (max 0 0)) ≤ 5; decide, ih⟩
  exact Nat.le_trans (Nat.succ_le_succ (h l)) (by decide)
section
variable {prog : Program} {w : World} {g : Gr} {n : Nat}
theorem Bin.eq_strs {l m : List Str} (h : l.all PyData.strOk = true) (h' : m.all PyData.strOk = true) : Bin prog w g n (compareOp .Eq) (strsC l) (strsC m) (.bool (decide (l = m))) := by
  rw [← eqv_strs]; exact Bin.eq_dat (strs_dat h) (strs_dat h') (strs_depth l) (strs_depth m)
theorem Bin.ne_strs {l m : List Str} (h : l.all PyData.strOk = true) (h' : m.all PyData.strOk = true) : Bin prog w g n (compareOp .NotEq) (strsC l) (strsC m) (.bool (!decide (l = m))) := by
  rw [← eqv_strs]; exact Bin.ne_dat (strs_dat h) (strs_dat h') (strs_depth l) (strs_depth m)
theorem Bin.eq_rows {l m : List (Str × Int)} (h : ∀ r ∈ l, PyData.strOk r.1 = true) (h' : ∀ r ∈ m, PyData.strOk r.1 = true) : Bin prog w g n (compareOp .Eq) (rowsC l) (rowsC m) (.bool (decide (l = m))) := by
  rw [← eqv_rows]; exact Bin.eq_dat (rows_dat h) (rows_dat h') (rows_depth l) (rows_depth m)
theorem Bin.ne_rows {l m : List (Str × Int)} (h : ∀ r ∈ l, PyData.strOk r.1 = true) (h' : ∀ r ∈ m, PyData.strOk r.1 = true) : Bin prog w g n (compareOp .NotEq) (rowsC l) (rowsC m) (.bool (!decide (l = m))) := by
  rw [← eqv_rows]; exact Bin.ne_dat (rows_dat h) (rows_dat h') (rows_depth l) (rows_depth m)
end
theorem PW.kp {K : Frag} {g : Gr} (P : PW K g) {prog : Program} {w : World} (i : Nat) {f : Addr} (h : (defTable[i]?).map (·.1) = some f := by rfl) : Keep prog w g (.ref f) := by
  cases e : defTable[i]? with
  | none => rw [e] at h; cases h
  | some d => rw [e] at h; cases h; exact Keep.of P (List.mem_of_getElem? e)
theorem PW.df {K : Frag} {g : Gr} (P : PW K g) (i : Nat) {f : Addr} {st : Stmt} {q : Str} {cl : List (Str × Addr)} {dv : Value} (h : defTable[i]? = some (f, st, q, cl, dv) := by rfl) : DefAt g f st q cl dv (.ref (f - 1)) :=
  P.defs (f, st, q, cl, dv) (List.mem_of_getElem? h)
/-- how special a text is -/
def specF (k : Int) (x : Str) : List Bool := if k = 0 then (piecesF 0 x).map (fun (p : Str) => !decide (p = "*")) else [!decide (x = "*")]
/-- what a text must be -/
def okP (x : Str) : Bool := (piecesF 0 x).all PyData.strOk && (piecesF 1 x).all PyData.strOk && decide ((piecesF 0 x).length ≤ 7) && decide ((piecesF 1 x).length ≤ 7)
def okX (x : Str) : Bool := okT x && okT (Txt.lower x) && okP x && okP (Txt.lower x)
theorem okX.t {x : Str} (h : okX x = true) : okT x = true := by
  simp only [okX, Bool.and_eq_true] at h; exact h.1.1.1
theorem okX.l {x : Str} (h : okX x = true) : okT (Txt.lower x) = true := by
  simp only [okX, Bool.and_eq_true] at h; exact h.1.1.2
theorem okX.p {x : Str} (h : okX x = true) : okP x = true := by
  simp only [okX, Bool.and_eq_true] at h; exact h.1.2
theorem okX.pl {x : Str} (h : okX x = true) : okP (Txt.lower x) = true := by
  simp only [okX, Bool.and_eq_true] at h; exact h.2
theorem okT.low {x : Str} (h : okT x = true) : tooLong (Txt.lower x).length = false := by
  simp only [okT, Bool.and_eq_true, decide_eq_true_eq] at h; exact h.2
theorem okP.all {x : Str} (h : okP x = true) (k : Int) (hx : PyData.strOk x = true) : (piecesF k x).all PyData.strOk = true := by
  simp only [okP, Bool.and_eq_true, decide_eq_true_eq] at h
  by_cases h0 : k = 0
  · subst h0; exact h.1.1.1
  · by_cases h1 : k = 1
    · subst h1; exact h.1.1.2
    · simp [piecesF, h0, h1, hx]
theorem okT.s {x : Str} (h : okT x = true) : PyData.strOk x = true := by
  simp only [okT, Bool.and_eq_true, decide_eq_true_eq] at h; exact h.1.1.1.1.1.1.1.2
theorem okP.len {x : Str} (h : okP x = true) (k : Int) : (piecesF k x).length ≤ 7 := by
  simp only [okP, Bool.and_eq_true, decide_eq_true_eq] at h
  by_cases h0 : k = 0
  · subst h0; exact h.1.2
  · by_cases h1 : k = 1
    · subst h1; exact h.2
    · simp [piecesF, h0, h1]

section
variable {w : World} {K : Frag} {g : Gr} (P : PW K g) {n : Nat}
include P
theorem c_special {k : Int} {x : Str} (hx : okX x = true) : FN pw w g (n + 2) (.ref 398) [.int k, .str x] (.lst ((specF k x).map .bool)) := by
  have D := P.df 32
  refine FN.of_def P.G D (bind_plain (names := ["kind", "text"]) rfl (by walk_at "m_b2")) Closed.nil (by walk_at "m_bnd") (fun l => ?_) rfl
  have P := P.mod g.V l g.hd
  have G := P.G
  refine EX.cons (EX1.ret G (c := .lst ((specF k x).map .bool)) (EV.ite G.toGrOk (z := k == 0) (ET.cmp G.toGrOk (by walk_at "m_e") (by walk_at "m_e") (by walk_at "m_b")) (fun hz => ?_) (fun hz => ?_)) rfl) G
  · have hk : k = 0 := by simpa using hz
    subst hk
    have : (specF 0 x).map CV.bool = (piecesF 0 x).map (fun (p : Str) => CV.bool (!decide (p = "*"))) := by simp only [specF, if_pos, List.map_map]; rfl
    rw [this]
    refine EV.comp G (τ := []) (by walk_at "m_cs") (fun _ h => nomatch h) (EV.call G (by walk_at "m_e") (by walk_at "m_es") (P.kp 31) (c_pieces P (okX.t hx)).w) (Over.list G) ?_ fun D => ?_
    · rw [List.length_map]; exact Nat.le_trans (okP.len (okX.p hx) 0) (by decide)
    · have P := P.mod (D :: g.V) l g.hd
      have G := P.G
      exact CompOk.mapStr G (by kernel_rfl!) (by walk_at "m_ne") Del.nil _ fun y hy => (by walk_at "m_e")
  · have hk : k ≠ 0 := by simpa using hz
    have : specF k x = [!decide (x = "*")] := by simp [specF, hk]
    rw [this]
    refine EV.list G.toGrOk (cs := [.bool (!decide (x = "*"))]) ?_ (by simp)
    walk_at "m_es"
end
/-- the sorted texts, as a value -/
def srtC (l : List Str) : CV := .lst (sortedC false ltS (l.map .str) (l.map .str))
def okS (x : Str) : Bool := (srtC ((piecesF 0 (Txt.lower x)).drop 2)).isDat && decide ((srtC ((piecesF 0 (Txt.lower x)).drop 2)).dat.depth ≤ 64)
/-- does the text take the offer? -/
def takesF (k : Int) (t o : Str) : Bool := if k > 0 then decide (t = "*") || decide (piecesF k (Txt.lower t) = piecesF k (Txt.lower o)) else if !within "/" t then false else
  if (piecesF 0 (Txt.lower t)).getD 0 "" = "*" then decide ((piecesF 0 (Txt.lower t)).getD 1 "" = "*") else decide ((piecesF 0 (Txt.lower t)).getD 0 "" = (piecesF 0 (Txt.lower o)).getD 0 "") && (decide ((piecesF 0 (Txt.lower t)).getD 1 "" = "*") ||
    (decide ((piecesF 0 (Txt.lower t)).getD 1 "" = (piecesF 0 (Txt.lower o)).getD 1 "") && (srtC ((piecesF 0 (Txt.lower t)).drop 2)).eqv (srtC ((piecesF 0 (Txt.lower o)).drop 2))))
theorem getD_of {l : List Str} {i : Nat} (h : i < l.length) : (l.map CV.str)[i]? = some (.str (l.getD i "")) := by
  simp [List.getElem?_map, List.getD_eq_getElem?_getD, List.getElem?_eq_getElem h]
section
variable {prog : Program} {w : World} {g : Gr} (G : Gr2 g) {fi : FI} {n : Nat} {σ : Loc}
include G
theorem EV.sorted2 {x : Str} {l : List Str} {np xp p1 p2 p3 p4 : Pos} {kk : Nat} (hx : EV prog w g fi n σ (.Name x xp) (strsC l)) (hf : EV prog w g fi n σ (.Name "sorted" np) (.raw (.builtin "sorted"))) (hl : l.length ≤ 7) :
    EV prog w g fi n σ (.Call (.Name "sorted" np) [.Subscript (.Name x xp) (.Slice (Option.some (.Constant (.int 2) kk p1)) Option.none Option.none p2) p3] [] p4) (srtC (l.drop 2)) := by
  refine EV.call G hf (EVs.cons G.toGrOk (c := .lst ((l.map CV.str).drop 2)) (EV.from_ (k := 2) G hx EV.int (by rw [List.length_map]; omega)) EVs.nil) Keep.builtin ?_
  rw [← List.map_drop]
  exact FW.sorted G (by rw [List.length_map, List.length_drop]; omega) fun V => strs_ord
end

section
variable {w : World} {K : Frag} {g : Gr} (P : PW K g) {n : Nat}
include P
theorem c_takes {k : Int} {t o : Str} (hk : 0 ≤ k) (ht : okX t = true) (ho : okX o = true) (st : okS t = true) (so : okS o = true) (h2 : k = 0 → within "/" t = true → 2 ≤ (piecesF 0 (Txt.lower t)).length ∧ 2 ≤ (piecesF 0 (Txt.lower o)).length) :
    FN pw w g (n + 2) (.ref 405) [.int k, .str t, .str o] (.bool (takesF k t o)) := by
  have D := P.df 33
  refine FN.of_def P.G D (bind_plain (names := ["kind", "text", "offer"]) rfl (by walk_at "m_b3")) Closed.nil (by walk_at "m_bnd") (fun l => ?_) rfl
  have P := P.mod g.V l g.hd
  have G := P.G
  refine EX.cons (EX1.ite (z := decide (k > 0)) (by walk_at "m_t") (fun hz => ?_) (fun hz => ?_) G) G
  · have hk : k > 0 := by simpa using hz
    have e : takesF k t o = (decide (t = "*") || decide (piecesF k (Txt.lower t) = piecesF k (Txt.lower o))) := by rw [takesF, if_pos hk]
    refine EX.cons (EX1.ret G (c := .bool (takesF k t o)) ?_ rfl) G
    rw [e]
    refine EV.or2 G.toGrOk (by walk_at "m_e") fun _ => ?_
    have low : ∀ {x : Str} {σ : Loc} {nm : Str} {np ap cp : Pos}, okX x = true → (nm, CV.str x) ∈ σ → (nm == ("__debug__" : Str)) = false → (nm == ("__classdict__" : Str)) = false → (ap.endLine == cp.line) = true → EV pw w { g with fr := l } (fiOf (stm 23) "_law_takes" 405 (.ref 404)) (n + 1) σ (.Call (.Attribute (.Name nm np) "lower" ap) [] [] cp) (.str (Txt.lower x)) :=
      fun hx hm h1 h2 h3 => EV.meth G (EV.name hm h1 h2) (Mth.str F.slot_str_lower) EVs.nil Keep.builtin (FW.lower (okT.low (okX.t hx))) (hline := h3)
    refine EV.cmp G.toGrOk (EV.call G (by walk_at "m_e") (EVs.cons G.toGrOk (by walk_at "m_e") (EVs.cons G.toGrOk (low ht (by walk_at "m_mem") (by decide) (by decide) rfl) EVs.nil)) (P.kp 31) (c_pieces P (okX.l ht)).w)
      (EV.call G (by walk_at "m_e") (EVs.cons G.toGrOk (by walk_at "m_e") (EVs.cons G.toGrOk (low ho (by walk_at "m_mem") (by decide) (by decide) rfl) EVs.nil)) (P.kp 31) (c_pieces P (okX.l ho)).w) ?_
    exact Bin.eq_strs (okP.all (okX.pl ht) k (okT.s (okX.l ht))) (okP.all (okX.pl ho) k (okT.s (okX.l ho)))
  · have hk0 : k = 0 := by have : ¬ k > 0 := by simpa using hz
                           omega
    subst hk0
    refine EX.nil ?_
    refine EX.cons (EX1.ite (z := !within "/" t) (by walk_at "m_t") (fun hz => ?_) (fun hz => ?_) G) G
    · have e : takesF 0 t o = false := by rw [takesF, if_neg (by decide), if_pos hz]
      refine EX.cons (EX1.ret G EV.bool ?_) G
      rw [e]; rfl
    · refine EX.nil ?_
      have hw : within "/" t = true := by simpa using hz
      obtain ⟨l1, l2⟩ := h2 rfl hw
      have e : takesF 0 t o = if (piecesF 0 (Txt.lower t)).getD 0 "" = "*" then decide ((piecesF 0 (Txt.lower t)).getD 1 "" = "*") else decide ((piecesF 0 (Txt.lower t)).getD 0 "" = (piecesF 0 (Txt.lower o)).getD 0 "") && (decide ((piecesF 0 (Txt.lower t)).getD 1 "" = "*") ||
    (decide ((piecesF 0 (Txt.lower t)).getD 1 "" = (piecesF 0 (Txt.lower o)).getD 1 "") && (srtC ((piecesF 0 (Txt.lower t)).drop 2)).eqv (srtC ((piecesF 0 (Txt.lower o)).drop 2)))) := by rw [takesF, if_neg (by decide), if_neg (by rw [hz]; decide)]
      have low : ∀ {x : Str} {σ : Loc} {nm : Str} {np ap cp : Pos}, okX x = true → (nm, CV.str x) ∈ σ → (nm == ("__debug__" : Str)) = false → (nm == ("__classdict__" : Str)) = false → (ap.endLine == cp.line) = true → EV pw w { g with fr := l } (fiOf (stm 23) "_law_takes" 405 (.ref 404)) (n + 1) σ (.Call (.Attribute (.Name nm np) "lower" ap) [] [] cp) (.str (Txt.lower x)) :=
        fun hx hm h1 h2 h3 => EV.meth G (EV.name hm h1 h2) (Mth.str F.slot_str_lower) EVs.nil Keep.builtin (FW.lower (okT.low (okX.t hx))) (hline := h3)
      refine EX.cons (EX1.assign_swap G (EV.tuple G.toGrOk (cs := [strsC (piecesF 0 (Txt.lower t)), strsC (piecesF 0 (Txt.lower o))]) (EVs.cons G.toGrOk (EV.call G (by walk_at "m_e") (EVs.cons G.toGrOk (by walk_at "m_e") (EVs.cons G.toGrOk (low ht (by walk_at "m_mem") (by decide) (by decide) rfl) EVs.nil)) (P.kp 31) (c_pieces P (okX.l ht)).w)
        (EVs.cons G.toGrOk (EV.call G (by walk_at "m_e") (EVs.cons G.toGrOk (by walk_at "m_e") (EVs.cons G.toGrOk (low ho (by walk_at "m_mem") (by decide) (by decide) rfl) EVs.nil)) (P.kp 31) (c_pieces P (okX.l ho)).w) EVs.nil)) (by simp)) (x := "mine") (y := "other") (by walk_at "m_del") (by walk_at "m_del") (by kernel_rfl!) (by kernel_rfl!) (by walk_at "m_ne") (by walk_at "m_ne") ?_ (hw := fun env he => ?_)) G
      rotate_left
      · cases env
        dsimp only at he
        subst he
        kernel_rfl!
      generalize hm : piecesF 0 (Txt.lower t) = m at *
      generalize hq : piecesF 0 (Txt.lower o) = q at *
      have ml : m.length ≤ 7 := by rw [← hm]; exact okP.len (okX.pl ht) 0
      have ql : q.length ≤ 7 := by rw [← hq]; exact okP.len (okX.pl ho) 0
      have it : ∀ {l' : List Str} {σ : Loc} {nm : Str} {i : Int} {np ip sp : Pos} {kk : Nat}, (nm, strsC l') ∈ σ → 0 ≤ i → i < 2 → 2 ≤ l'.length → (nm == ("__debug__" : Str)) = false → (nm == ("__classdict__" : Str)) = false → EV pw w { g with fr := l } (fiOf (stm 23) "_law_takes" 405 (.ref 404)) (n + 1) σ (.Subscript (.Name nm np) (.Constant (.int i) kk ip) sp) (.str (l'.getD i.toNat "")) :=
        fun hm h0 h1 hl e1 e2 => EV.sub G (EV.name hm e1 e2) EV.int (Bin.list_item h0 (by omega) (getD_of (by omega)))
      refine EX.cons (EX1.ite (z := decide (m.getD 0 "" = "*")) (ET.cmp G.toGrOk (it (by walk_at "m_mem") (by decide) (by decide) l1 (by decide) (by decide)) EV.str Bin.eq_str) (fun hz => ?_) (fun hz => ?_) G) G
      · refine EX.cons (EX1.ret G (EV.cmp G.toGrOk (it (by walk_at "m_mem") (by decide) (by decide) l1 (by decide) (by decide)) EV.str Bin.eq_str) ?_) G
        rw [e, if_pos (by simpa using hz)]; rfl
      · refine EX.nil ?_
        refine EX.cons (EX1.ret G (c := .bool (takesF 0 t o)) ?_ rfl) G
        rw [e, if_neg (by simpa using hz)]
        refine EV.bools (EBs.and G.toGrOk (EV.cmp G.toGrOk (it (by walk_at "m_mem") (by decide) (by decide) l1 (by decide) (by decide)) (it (by walk_at "m_mem") (by decide) (by decide) l2 (by decide) (by decide)) Bin.eq_str) fun _ => EBs.one ?_)
        refine EV.bools (EBs.or G.toGrOk (EV.cmp G.toGrOk (it (by walk_at "m_mem") (by decide) (by decide) l1 (by decide) (by decide)) EV.str Bin.eq_str) fun _ => EBs.one ?_)
        refine EV.bools (EBs.and G.toGrOk (EV.cmp G.toGrOk (it (by walk_at "m_mem") (by decide) (by decide) l1 (by decide) (by decide)) (it (by walk_at "m_mem") (by decide) (by decide) l2 (by decide) (by decide)) Bin.eq_str) fun _ => EBs.one ?_)
        simp only [okS, Bool.and_eq_true, decide_eq_true_eq] at st so
        rw [hm] at st; rw [hq] at so
        exact EV.cmp G.toGrOk (EV.sorted2 G (by walk_at "m_e") (by walk_at "m_e") ml) (EV.sorted2 G (by walk_at "m_e") (by walk_at "m_e") ql) (Bin.eq_dat st.1 so.1 st.2 so.2)
end
def keyL (k : List Bool × Int) : CV := .tup [.lst (k.1.map .bool), .int k.2]
def markC (k : Int × List Bool) : CV := .tup [.int k.1, .lst (k.2.map .bool)]
theorem eqv_boolsL : ∀ l m : List Bool, (CV.lst (l.map .bool)).eqv (.lst (m.map .bool)) = decide (l = m)
  | [], [] => rfl
  | [], _ :: _ => rfl
  | _ :: _, [] => rfl
  | x :: l, y :: m => by
    have ih := eqv_boolsL l m
    show (x == y && PyData.eqvAll (CV.dats (l.map .bool)) (CV.dats (m.map .bool))) = _
    have : PyData.eqvAll (CV.dats (l.map .bool)) (CV.dats (m.map .bool)) = decide (l = m) := ih
    rw [this, Bool.eq_iff_iff]
    simp
/-- order of lists of bools -/
def ordB (op : CmpOp) (a b : List Bool) : Bool := lexC op CV.eqv (fB op) (a.map .bool) (b.map .bool)
def geK (a b : List Bool × Int) : Bool := if a.1 = b.1 then (if a.2 = b.2 then true else decide (a.2 ≥ b.2)) else ordB .GtE a.1 b.1
def gtM (a b : Int × List Bool) : Bool := if a.1 = b.1 then (if a.2 = b.2 then false else ordB .Gt a.2 b.2) else decide (a.1 > b.1)
theorem boolsL_dat (l : List Bool) : (CV.lst (l.map .bool)).isDat = true := bools_dat l
theorem boolsL_depth (l : List Bool) : (CV.lst (l.map .bool)).dat.depth ≤ 5 := bools_depth l
theorem rc_boolsL {V : List Addr} {op : CmpOp} (hop : IsOrd op) (a b : List Bool) : RC V 10 op (.lst (a.map .bool)) (.lst (b.map .bool)) (ordB op a b) := by
  refine (RC.lst (k := 8) hop (fun x hx y hy => ?_) fun x hx y hy _ => ?_)
  · obtain ⟨p, _, rfl⟩ := List.mem_map.mp hx
    obtain ⟨q, _, rfl⟩ := List.mem_map.mp hy
    exact EQ.dat rfl rfl (Nat.le_trans (bool_depth p) (by decide))
  · obtain ⟨p, _, rfl⟩ := List.mem_map.mp hx
    obtain ⟨q, _, rfl⟩ := List.mem_map.mp hy
    exact RC.bool hop
theorem tup_foldz {op : CmpOp} {prog : Program} {w : World} {A : Around} {s : Shared} {E : Value → Shared → Prop} {V : List Addr} {k : Nat} {e f : CV → CV → Bool} (hu : A.units + k < cLine)
    {body : Value × Value → Option PySem.Fin × Unit → Sem (ForInStep (Option PySem.Fin × Unit))} (hb : ∀ x y, body (x, y) (none, ()) = tupBody op x y) : ∀ (l m : List CV) (vs us : List Value) (Q : Option PySem.Fin × Unit → Shared → Prop),
    Rps V s.heap l vs → Rps V s.heap m us → (∀ x ∈ l, ∀ y ∈ m, EQ V k x y (e x y)) → (∀ p ∈ l.zip m, e p.1 p.2 = false → RC V k op p.1 p.2 (f p.1 p.2)) →
    Q ((lexO e f l m).map fun b => .done (.ret (.bool b)), ()) s → wpAny (model prog w) A (forIn (vs.zip us) (none, ()) body) Q E s
  | [], m, vs, us, Q, r1, r2, he, hf, q => by
    cases r1
    simp only [List.zip_nil_left, List.forIn_nil]
    exact wpAny_pure q
  | x :: l, [], vs, us, Q, r1, r2, he, hf, q => by
    cases r2
    simp only [List.zip_nil_right, List.forIn_nil]
    exact wpAny_pure q
  | x :: l, y :: m, _, _, Q, ⟨u, us, h1, ru, rus⟩, ⟨v, vs, h2, rv, rvs⟩, he, hf, q => by
    subst h1 h2
    rw [List.zip_cons_cons, List.forIn_cons, hb]
    unfold tupBody
    refine wpAny_bind (wpAny_bind (he x (.head _) y (.head _) prog w A s u v _ E hu ru rv ?_))
    cases hxy : e x y with
    | true =>
      simp only [Bool.not_true, Bool.false_eq_true, if_false]
      refine wpAny_pure ?_
      refine tup_foldz hu hb l m us vs Q rus rvs (fun x hx y hy => he x (.tail _ hx) y (.tail _ hy)) (fun p hp => hf p (.tail _ hp)) ?_
      simp only [lexO, hxy, if_true] at q
      exact q
    | false =>
      simp only [Bool.not_false, if_true]
      refine wpAny_bind (wpAny_rule (wpAny_bind (hf (x, y) (.head _) hxy prog w A s u v _ E hu ru rv ?_)))
      refine wpAny_bind (wpAny_pure (wpAny_pure (wpAny_pure ?_)))
      simp only [lexO, hxy, Bool.false_eq_true, if_false] at q
      exact q

theorem tuple_ordz {V : List Addr} {k : Nat} {op : CmpOp} (hop : IsOrd op) {l m : List CV} {e f : CV → CV → Bool} (he : ∀ x ∈ l, ∀ y ∈ m, EQ V k x y (e x y)) (hf : ∀ p ∈ l.zip m, e p.1 p.2 = false → RC V k op p.1 p.2 (f p.1 p.2)) (a b : Addr) (vs us : List Value) (n n2 : Nat) {B : Builtin}
    (hB : (op = .Lt ∧ B = Builtin.«tuple.__lt__») ∨ (op = .Gt ∧ B = Builtin.«tuple.__gt__») ∨ (op = .GtE ∧ B = Builtin.«tuple.__ge__»)) : Meets (B ⟨[.ref a, .ref b], []⟩)
      (fun A R s => A.in1.units + k < cLine ∧ s.heap.get? a = some (seqObj "tuple" (List.toArray vs) n) ∧ s.heap.get? b = some (seqObj "tuple" (List.toArray us) n2) ∧ Rps V s.heap l vs ∧ Rps V s.heap m us ∧ R (.ok (.ret (.bool (lexC op e f l m)))) s) := by
  intro prog w A R s h
  obtain ⟨hu, ha, hb, ra, rb, h⟩ := h
  have fin : ∀ (o : Option Bool), lexO e f l m = o → wpAny (model prog w) A.in1 (match (o.map fun b => (PySem.Fin.done (.ret (.bool b)))) with | some r => pure r | none => ret (sizesV op (List.toArray vs).size (List.toArray us).size)) (fun fin s' => match fin with | .done f => R (.ok f) s' | .again c' => c'.quiet = true ∧ codeAny (model prog w) A c' R s') (fun e s' => R (.error e) s') s := by
    intro o ho
    rw [lexC_eq, ho] at h
    cases o with
    | some b => exact wpAny_pure h
    | none =>
      refine wpAny_pure ?_
      rw [List.size_toArray, List.size_toArray, ra.length, rb.length]
      rcases hop with rfl | rfl | rfl <;> exact h
  rcases hB with ⟨rfl, rfl⟩ | ⟨rfl, rfl⟩ | ⟨rfl, rfl⟩
  all_goals
    show wpAny _ A.in1 (isInstance (.ref b) (.type "tuple") >>= _) _ _ s
    refine wpAny_bind (wpAny_isInstance ⟨_, hb, rfl⟩ AutoSeq1.sub_tuple_tuple ?_)
    show wpAny _ A.in1 (Builtin.Tuple.tupleItemsOf (.ref a) >>= _) _ _ s
    refine wpAny_bind (tI ha rfl (wpAny_bind (tI hb rfl (wpAny_bind ?_))))
    refine tup_foldz hu (fun x y => rfl) l m vs us _ ra rb he hf ?_
    have FF := fin _ rfl
    revert FF
    cases lexO e f l m <;> intro FF <;> exact FF
theorem RC.tupz {V : List Addr} {k : Nat} {op : CmpOp} (hop : IsOrd op) {l m : List CV} {e f : CV → CV → Bool} (he : ∀ x ∈ l, ∀ y ∈ m, EQ V k x y (e x y)) (hf : ∀ p ∈ l.zip m, e p.1 p.2 = false → RC V k op p.1 p.2 (f p.1 p.2)) :
    RC V (k + 2) op (.tup l) (.tup m) (lexC op e f l m) := by
  rintro prog w A s _ _ Q E hu ⟨a, vs, i, rfl, _, ea, ra⟩ ⟨b, us, j, rfl, _, eb, rb⟩ q
  have room : A.units < cLine := by omega
  have hu1 : A.in1.units + k < cLine := by show A.units + 1 + k < cLine; omega
  rcases hop with rfl | rfl | rfl
  · exact wpAny_richCompare_same_room (T := "tuple") (id := "tuple.__lt__") ⟨_, ea, rfl⟩ ⟨_, eb, rfl⟩ F.slot_tuple_lt (call_meets F.slot_tuple_lt ⟨_, ea, rfl⟩ F.entry_tuple_lt (F.args_tuple_lt_2 _ _) (tuple_ordz (.inl rfl) he hf a b vs us i j (.inl ⟨rfl, rfl⟩)) ⟨hu1, ea, eb, ra, rb, by simp, q⟩) room
  · exact wpAny_richCompare_same_room (T := "tuple") (id := "tuple.__gt__") ⟨_, ea, rfl⟩ ⟨_, eb, rfl⟩ F.slot_tuple_gt (call_meets F.slot_tuple_gt ⟨_, ea, rfl⟩ F.entry_tuple_gt (F.args_tuple_gt_2 _ _) (tuple_ordz (.inr (.inl rfl)) he hf a b vs us i j (.inr (.inl ⟨rfl, rfl⟩))) ⟨hu1, ea, eb, ra, rb, by simp, q⟩) room
  · exact wpAny_richCompare_same_room (T := "tuple") (id := "tuple.__ge__") ⟨_, ea, rfl⟩ ⟨_, eb, rfl⟩ F.slot_tuple_ge (call_meets F.slot_tuple_ge ⟨_, ea, rfl⟩ F.entry_tuple_ge (F.args_tuple_ge_2 _ _) (tuple_ordz (.inr (.inr rfl)) he hf a b vs us i j (.inr (.inr ⟨rfl, rfl⟩))) ⟨hu1, ea, eb, ra, rb, by simp, q⟩) room
def fKL (op : CmpOp) (a b : List Bool × Int) : CV → CV → Bool
  | .lst _, .lst _ => ordB op a.1 b.1
  | _, _ => ordI op a.2 b.2
theorem keyL_dat (a : List Bool × Int) {x : CV} (hx : x ∈ [CV.lst (a.1.map .bool), .int a.2]) : x.isDat = true ∧ x.dat.depth ≤ 12 := by
  simp only [List.mem_cons, List.not_mem_nil, or_false] at hx
  rcases hx with rfl | rfl
  · exact ⟨boolsL_dat _, Nat.le_trans (boolsL_depth _) (by decide)⟩
  · exact ⟨rfl, Nat.zero_le _⟩
theorem rc_ge {V : List Addr} (a b : List Bool × Int) : RC V 14 .GtE (keyL a) (keyL b) (geK a b) := by
  have h : geK a b = lexC .GtE CV.eqv (fKL .GtE a b) [.lst (a.1.map .bool), .int a.2] [.lst (b.1.map .bool), .int b.2] := by
    unfold lexC lexC lexC geK
    rw [eqv_boolsL]
    show _ = if decide (a.1 = b.1) = true then (if (a.2 == b.2) = true then _ else ordI .GtE a.2 b.2) else ordB .GtE a.1 b.1
    simp only [decide_eq_true_eq, beq_iff_eq]
    rfl
  rw [h]
  refine RC.tupz (k := 12) (.inr (.inr rfl)) (fun x hx y hy => EQ.dat (keyL_dat a hx).1 (keyL_dat b hy).1 (keyL_dat a hx).2) fun p hp _ => ?_
  simp only [List.zip_cons_cons, List.zip_nil_left, List.mem_cons, List.not_mem_nil, or_false] at hp
  rcases hp with rfl | rfl
  · exact (rc_boolsL (.inr (.inr rfl)) a.1 b.1).le (by omega)
  · exact RC.int (.inr (.inr rfl))
theorem rc_gt {V : List Addr} (a b : Int × List Bool) : RC V 14 .Gt (markC a) (markC b) (gtM a b) := by
  have h : gtM a b = lexC .Gt CV.eqv (fKL .Gt (a.2, a.1) (b.2, b.1)) [.int a.1, .lst (a.2.map .bool)] [.int b.1, .lst (b.2.map .bool)] := by
    unfold lexC lexC lexC gtM
    rw [eqv_boolsL]
    show _ = if (a.1 == b.1) = true then (if decide (a.2 = b.2) = true then _ else ordB .Gt a.2 b.2) else ordI .Gt a.1 b.1
    simp only [decide_eq_true_eq, beq_iff_eq]
    rfl
  rw [h]
  refine RC.tupz (k := 12) (.inr (.inl rfl)) (fun x hx y hy => EQ.dat (keyL_dat (a.2, a.1) ?_).1 (keyL_dat (b.2, b.1) ?_).1 (keyL_dat (a.2, a.1) ?_).2) fun p hp _ => ?_
  · simp only [List.mem_cons, List.not_mem_nil, or_false] at hx ⊢; exact hx.symm
  · simp only [List.mem_cons, List.not_mem_nil, or_false] at hy ⊢; exact hy.symm
  · simp only [List.mem_cons, List.not_mem_nil, or_false] at hx ⊢; exact hx.symm
  simp only [List.zip_cons_cons, List.zip_nil_left, List.mem_cons, List.not_mem_nil, or_false] at hp
  rcases hp with rfl | rfl
  · exact RC.int (.inr (.inl rfl))
  · exact (rc_boolsL (.inr (.inl rfl)) a.2 b.2).le (by omega)
section
variable {prog : Program} {w : World} {g : Gr} (G : Gr2 g) {fi : FI} {n : Nat} {τ : Loc}
include G
theorem CompOk.filterRow {x : Str} {pos : Pos} {elt : Expr} {ifs : List Expr} {b : Str × Int → Bool} (hx : fi.scope.names.lookup x = some .local) (np : x ≠ ("provided" : Str)) (d : Del x τ τ) : ∀ rows : List (Str × Int), (∀ r ∈ rows, EIfs prog w g fi n ((x, rowC r) :: τ) ifs (b r)) → (∀ r ∈ rows, EV prog w g fi n ((x, rowC r) :: τ) elt (rowC r)) →
    CompOk prog w g fi n τ (.Name x pos) ifs elt (rows.map rowC) ((rows.filter b).map rowC)
  | [], _, _ => rfl
  | r :: rows, h1, h2 => by
    have ih := CompOk.filterRow (pos := pos) hx np d rows (fun c hc => h1 c (.tail _ hc)) (fun c hc => h2 c (.tail _ hc))
    refine ⟨_, b r, AS.name G d (.inl hx) np, fun _ hp => .tail _ hp, h1 r (.head _), fun hb => ⟨rowC r, _, ?_, h2 r (.head _), ih⟩, fun hb => ?_⟩
    · rw [List.filter_cons_of_pos hb]; rfl
    · rw [List.filter_cons_of_neg (by rw [hb]; decide)]; exact ih
theorem AS.row {x y : Str} {p1 p2 p3 : Pos} {k : Nat} {r : Str × Int} {τ₁ τ₂ : Loc} (d1 : Del x τ τ₁) (hx : fi.scope.names.lookup x = some .local ∨ (fi.mine = true ∧ fi.scope.names.lookup x = some .cell)) (np : x ≠ ("provided" : Str))
    (d2 : Del y ((x, .str r.1) :: τ₁) τ₂) (hy : fi.scope.names.lookup y = some .local ∨ (fi.mine = true ∧ fi.scope.names.lookup y = some .cell)) (npy : y ≠ ("provided" : Str)) : AS prog w g fi n τ (.Tuple [.Name x p1, .Name y p2] k p3) (rowC r) ((y, .int r.2) :: τ₂) :=
  AS.tuple (Parts.tup G) (ASs.cons G (AS.name G d1 hx np) (ASs.cons G (AS.name G d2 hy npy) ASs.nil)) G
theorem CompOk.mapRow {x y : Str} {p1 p2 p3 : Pos} {k : Nat} {elt : Expr} {f : Str × Int → CV} (hx : fi.scope.names.lookup x = some .local) (np : x ≠ ("provided" : Str)) (d : Del x τ τ) (hy : fi.scope.names.lookup y = some .local) (npy : y ≠ ("provided" : Str)) (hxy : x ≠ y) (d2 : Del y τ τ) :
    ∀ rows : List (Str × Int), (∀ r ∈ rows, EV prog w g fi n ((y, .int r.2) :: (x, .str r.1) :: τ) elt (f r)) → CompOk prog w g fi n τ (.Tuple [.Name x p1, .Name y p2] k p3) [] elt (rows.map rowC) (rows.map f)
  | [], _ => rfl
  | r :: rows, h => ⟨_, true, AS.row G d (.inl hx) np (.keep hxy d2) (.inl hy) npy, fun _ hp => .tail _ (.tail _ hp), EIfs.nil, fun _ => ⟨_, _, rfl, h r (.head _), CompOk.mapRow hx np d hy npy hxy d2 rows fun c hc => h c (.tail _ hc)⟩, fun h => nomatch h⟩
end
/-- how many stand before -/
def insAt (k : Int) (made : List (Str × Int)) (r : Str × Int) : Nat := (made.filter fun one => geK (specF k one.1, one.2) (specF k r.1, r.2)).length
def ins (k : Int) (made : List (Str × Int)) (r : Str × Int) : List (Str × Int) := made.take (insAt k made r) ++ [r] ++ made.drop (insAt k made r)
def sortedF (k : Int) (rows : List (Str × Int)) : List (Str × Int) := rows.foldl (ins k) []
theorem ins_len (k : Int) (made : List (Str × Int)) (r : Str × Int) : (ins k made r).length = made.length + 1 := by
  simp only [ins, List.length_append, List.length_take, List.length_drop, List.length_cons, List.length_nil]; omega
theorem ins_mem {k : Int} {made : List (Str × Int)} {r x : Str × Int} (h : x ∈ ins k made r) : x = r ∨ x ∈ made := by
  simp only [ins, List.mem_append, List.mem_singleton] at h
  rcases h with (h | h) | h
  · exact .inr (List.mem_of_mem_take h)
  · exact .inl h
  · exact .inr (List.mem_of_mem_drop h)
theorem rowC_0 (r : Str × Int) : (rowC r) = .tup [.str r.1, .int r.2] := rfl
section
variable {w : World} {K : Frag} {g : Gr} (P : PW K g) {n : Nat}
include P
theorem c_sorted {k : Int} {rows : List (Str × Int)} (hl : rows.length ≤ 10) (hx : ∀ r ∈ rows, okX r.1 = true) : FN pw w g (n + 3) (.ref 410) [.int k, rowsC rows] (rowsC (sortedF k rows)) := by
  have D := P.df 34
  refine FN.of_def P.G D (bind_plain (names := ["kind", "rows"]) rfl (by walk_at "m_b2")) Closed.nil (by walk_at "m_bnd") (fun l => ?_) rfl
  have P := P.mod g.V l g.hd
  have G := P.G
  refine EX.cons (EX1.assign G (c := rowsC []) (EV.list G.toGrOk EVs.nil (by simp)) (by walk_at "m_del") (by walk_at "m_kind") (by walk_at "m_ne") ?_) G
  refine EX.cons (EX1.for_ G (c := rowsC rows) (by walk_at "m_e") (Over.list G) ?_) G
  refine Loop.ind (P := fun cs σ => ∃ (rest m : List (Str × Int)), (∀ q ∈ ([("made", rowsC m), ("kind", .int k)] : Loc), q ∈ σ) ∧ cs = rest.map rowC ∧ rest.foldl (ins k) m = sortedF k rows ∧ rest.length + m.length ≤ 10 ∧ (∀ r ∈ rest, okX r.1 = true) ∧ ∀ r ∈ m, okX r.1 = true) ?_ ?_ _ _ ⟨rows, [], by walk_at "m_sub", rfl, rfl, by simpa using hl, hx, fun _ h => nomatch h⟩
  · rintro σ ⟨rest, m, hb, hc, hf, _⟩
    cases rest with
    | cons _ _ => cases hc
    | nil =>
      refine EX.sub_ hb (EX.cons (EX1.ret G (by walk_at "m_e") ?_) G)
      show rowsC m = _
      rw [← hf]; rfl
  · rintro c cs σ ⟨rest, m, hb, hc, hf, hl, h1, h2⟩
    cases rest with
    | nil => cases hc
    | cons r rest =>
      cases hc
      refine ⟨_, AS.sub_ hb (AS.row G (by walk_at "m_del") (by walk_at "m_kind") (by walk_at "m_ne") (by walk_at "m_del") (by walk_at "m_kind") (by walk_at "m_ne")), ?_⟩
      have hr := h1 r (.head _)
      simp only [List.length_cons] at hl
      refine EX.cons (EX1.assign G (c := keyL (specF k r.1, r.2)) (EV.tuple G.toGrOk (EVs.cons G.toGrOk (EV.call G (by walk_at "m_e") (by walk_at "m_es") (P.kp 32) (c_special P hr).w) (by walk_at "m_es")) (by simp)) (by walk_at "m_del") (by walk_at "m_kind") (by walk_at "m_ne") ?_) G
      refine EX.cons (EX1.assign G (c := .int (insAt k m r)) (EV.call G (by walk_at "m_e") (EVs.cons G.toGrOk (EV.comp G (τ := [("key", keyL (specF k r.1, r.2)), ("kind", .int k)]) (ci := rowsC m) (cs := m.map rowC) (ds := (m.filter fun one => geK (specF k one.1, one.2) (specF k r.1, r.2)).map rowC) (by walk_at "m_cs") (by walk_at "m_sub") (by walk_at "m_e") (Over.list G) ?_ fun D => ?_) EVs.nil) Keep.builtin ?_) (by walk_at "m_del") (by walk_at "m_kind") (by walk_at "m_ne") ?_) G
      · rw [List.length_map]; omega
      · have P := P.mod (D :: g.V) l g.hd
        have G := P.G
        refine CompOk.filterRow G (by kernel_rfl!) (by walk_at "m_ne") (by walk_at "m_del") m (fun q hq => EIfs.one ?_) fun q hq => (by walk_at "m_e")
        refine ET.cmp G.toGrOk (a := keyL (specF k q.1, q.2)) (b := keyL (specF k r.1, r.2)) (EV.tuple G.toGrOk (cs := [.lst ((specF k q.1).map .bool), .int q.2]) (EVs.cons G.toGrOk (EV.call G (cs := [.int k, .str q.1]) (by walk_at "m_e") (EVs.cons G.toGrOk (by walk_at "m_e") (EVs.cons G.toGrOk (EV.sub G (a := rowC q) (by walk_at "m_e") EV.int (Bin.tup_item (j := 0) (by decide) (by decide) rfl rfl)) EVs.nil)) (P.kp 32) (c_special P (h2 q hq)).w) (EVs.cons G.toGrOk (EV.sub G (a := rowC q) (by walk_at "m_e") EV.int (Bin.tup_item (j := 1) (by decide) (by decide) rfl rfl)) EVs.nil)) (by simp)) (by walk_at "m_e") (Bin.rc (rc_ge _ _) (by decide) (.inr (.inr rfl)))
      · show FW _ _ _ _ _ _ (.int ((m.filter _).length : Nat))
        rw [← List.length_map (f := rowC) (as := m.filter _)]
        refine FW.len_list ?_
        have := List.length_filter_le (fun one => geK (specF k one.1, one.2) (specF k r.1, r.2)) m
        rw [List.length_map]; omega
      · refine EX.cons (EX1.assign G (c := rowsC (ins k m r)) ?_ (by walk_at "m_del") (by walk_at "m_kind") (by walk_at "m_ne") ?_) G
        · have e : rowsC (ins k m r) = .lst (((m.map rowC).take (insAt k m r) ++ [rowC r]) ++ (m.map rowC).drop (insAt k m r)) := by simp [rowsC, ins, List.map_take, List.map_drop]
          rw [e]
          refine EV.bin G.toGrOk (EV.bin G.toGrOk (EV.upto G (by walk_at "m_e") (by walk_at "m_e") (by rw [List.length_map]; omega)) (EV.list G.toGrOk (EVs.cons G.toGrOk (c := rowC r) (EV.tuple G.toGrOk (by walk_at "m_es") (by simp)) EVs.nil) (by simp)) (Bin.add_list G ?_)) (EV.from_ G (by walk_at "m_e") (by walk_at "m_e") (by rw [List.length_map]; omega)) (Bin.add_list G ?_)
          · simp only [List.length_take, List.length_map, List.length_cons, List.length_nil]; omega
          · simp only [List.length_take, List.length_drop, List.length_append, List.length_map, List.length_cons, List.length_nil]; omega
        · refine EX.nil ⟨rest, ins k m r, by walk_at "m_sub", rfl, hf, ?_, fun r hr => h1 r (.tail _ hr), fun r hr => ?_⟩
          · rw [ins_len]; omega
          · rcases ins_mem hr with rfl | hr
            · exact h1 _ (.head _)
            · exact h2 r hr
end
def foundAt (tk : Str → Bool) : List (Str × Int) → Int → Int
  | [], _ => -1
  | r :: rs, i => if tk r.1 then i else foundAt tk rs (i + 1)
theorem foundAt_spec (tk : Str → Bool) : ∀ (rows : List (Str × Int)) (i : Int), 0 ≤ i → foundAt tk rows i = -1 ∨ (i ≤ foundAt tk rows i ∧ foundAt tk rows i < i + rows.length)
  | [], _, _ => .inl rfl
  | r :: rs, i, h => by
    unfold foundAt
    simp only [List.length_cons]
    split
    · right; omega
    · rcases foundAt_spec tk rs (i + 1) (by omega) with e | ⟨e1, e2⟩
      · exact .inl e
      · right; omega
/-- what a text and an offer must be -/
def tkB (k : Int) (t o : Str) : Bool := decide (0 ≤ k) && okX t && okX o && okS t && okS o && (!(k == 0) || !within "/" t || (decide (2 ≤ (piecesF 0 (Txt.lower t)).length) && decide (2 ≤ (piecesF 0 (Txt.lower o)).length)))
theorem tkB.t {k : Int} {t o : Str} (h : tkB k t o = true) : okX t = true := by
  simp only [tkB, Bool.and_eq_true] at h; exact h.1.1.1.1.2
theorem tkB.o {k : Int} {t o : Str} (h : tkB k t o = true) : okX o = true := by
  simp only [tkB, Bool.and_eq_true] at h; exact h.1.1.1.2
def rowAt (rows : List (Str × Int)) (p : Int) : Str × Int := rows.getD p.toNat ("", 0)
def fnd (k : Int) (rows : List (Str × Int)) (o : Str) : Int := foundAt (fun t => takesF k t o) rows 0
def bestStep (k : Int) (rows : List (Str × Int)) (st : Option Str × (Int × List Bool)) (o : Str) : Option Str × (Int × List Bool) :=
  if (decide (fnd k rows o ≥ 0) && (decide ((rowAt rows (fnd k rows o)).2 > 0) && (gtM ((rowAt rows (fnd k rows o)).2, specF k (rowAt rows (fnd k rows o)).1) st.2 && true))) = true then (some o, ((rowAt rows (fnd k rows o)).2, specF k (rowAt rows (fnd k rows o)).1)) else st
def bestF (k : Int) (rows : List (Str × Int)) (offers : List Str) : Option Str := (offers.foldl (bestStep k rows) (none, (0, []))).1
def optC : Option Str → CV
  | none => .none
  | some x => .str x
theorem rowAt_get {rows : List (Str × Int)} {p : Int} (h0 : 0 ≤ p) (h1 : p < rows.length) : (rows.map rowC)[p.toNat]? = some (rowC (rowAt rows p)) ∧ rowAt rows p ∈ rows := by
  have hl : p.toNat < rows.length := by omega
  constructor
  · simp [rowAt, List.getElem?_map, List.getD_eq_getElem?_getD, List.getElem?_eq_getElem hl]
  · simp [rowAt, List.getD_eq_getElem?_getD, List.getElem?_eq_getElem hl]
theorem fnd_lt {k : Int} {rows : List (Str × Int)} {o : Str} (h : 0 ≤ fnd k rows o) : fnd k rows o < rows.length := by
  rcases foundAt_spec (fun t => takesF k t o) rows 0 (by omega) with e | ⟨_, e⟩
  · unfold fnd at h; omega
  · unfold fnd; omega
section
variable {w : World} {K : Frag} {g : Gr} (P : PW K g) {n : Nat}
include P
theorem c_takesB {k : Int} {t o : Str} (h : tkB k t o = true) : FN pw w g (n + 2) (.ref 405) [.int k, .str t, .str o] (.bool (takesF k t o)) := by
  simp only [tkB, Bool.and_eq_true, Bool.or_eq_true, Bool.not_eq_true', decide_eq_true_eq] at h
  obtain ⟨⟨⟨⟨⟨h0, h1⟩, h2⟩, h3⟩, h4⟩, h5⟩ := h
  refine c_takes P h0 h1 h2 h3 h4 fun e w => ?_
  rcases h5 with (h5 | h5) | h5
  · subst e; cases h5
  · rw [w] at h5; cases h5
  · exact h5
theorem c_found {k : Int} {rows : List (Str × Int)} {offer : Str} (h0 : g.hd = Option.none) (hlen : rows.length ≤ 100) (ht : ∀ r ∈ rows, tkB k r.1 offer = true) : FN pw w g (n + 3) (.ref 417) [.int k, rowsC rows, .str offer] (.int (fnd k rows offer)) := by
  have D := P.df 35
  refine FN.of_def P.G D (bind_plain (names := ["kind", "rows", "offer"]) rfl (by walk_at "m_b3")) Closed.nil (by walk_at "m_bnd") (fun l => ?_) rfl
  have P := P.mod g.V l g.hd
  have G := P.G
  have hl : ((rows.map rowC).length : Int) < 2 ^ 63 := by rw [List.length_map]; omega
  refine EX.cons (EX1.for_ G (EV.call G (by walk_at "m_e") (EVs.cons G.toGrOk (EV.call G (c := .int ((rows.map rowC).length : Nat)) (cs := [rowsC rows]) (by walk_at "m_e") (EVs.cons G.toGrOk (by walk_at "m_e") EVs.nil) Keep.builtin (FW.len_list hl)) EVs.nil) Keep.type (FW.range G)) (Over.range G h0 (by rw [List.length_map]; omega)) ?_) G
  refine Loop.ind (P := fun cs σ => ∃ (i : Nat) (suf : List (Str × Int)), (∀ q ∈ ([("offer", .str offer), ("rows", rowsC rows), ("kind", .int k)] : Loc), q ∈ σ) ∧ rows.drop i = suf ∧ cs = (List.range' i suf.length).map (fun (j : Nat) => CV.int j) ∧ fnd k rows offer = foundAt (fun t => takesF k t offer) suf i) ?_ ?_ _ _ ⟨0, rows, fun _ h => h, rfl, by simp [List.range_eq_range'], rfl⟩
  · rintro σ ⟨i, suf, hb, _, hc, hf⟩
    have hs : suf = [] := by
      cases suf with
      | nil => rfl
      | cons _ _ => simp [List.range'] at hc
    subst hs
    refine EX.sub_ hb (EX.cons (EX1.ret G (EV.un G.toGrOk EV.int Un.neg_int) ?_) G)
    show CV.int (-1) = _
    rw [hf]; rfl
  · rintro c cs σ ⟨i, suf, hb, hd, hc, hf⟩
    cases suf with
    | nil => simp at hc
    | cons r rs =>
      rw [List.length_cons, List.range'_succ, List.map_cons] at hc
      injection hc with h1 h3
      subst h1
      have hi : rows[i]? = some r := by
        have := congrArg (fun l => l[0]?) hd
        simpa using this
      have hlt : i < rows.length := by
        rcases Nat.lt_or_ge i rows.length with h | h
        · exact h
        · rw [List.getElem?_eq_none h] at hi; cases hi
      refine ⟨_, AS.sub_ hb (AS.name G (by walk_at "m_del") (by walk_at "m_kind") (by walk_at "m_ne")), ?_⟩
      refine EX.cons (EX1.ite (z := takesF k r.1 offer) (ET.val G.toGrOk (EV.call G (cs := [.int k, .str r.1, .str offer]) (by walk_at "m_e") (EVs.cons G.toGrOk (by walk_at "m_e") (EVs.cons G.toGrOk (EV.sub G (a := rowC r) (b := .int 0) (EV.sub G (a := rowsC rows) (b := .int i) (by walk_at "m_e") (by walk_at "m_e") (Bin.list_item (c := rowC r) (by omega) (by omega) (by simp [hi]))) EV.int (Bin.tup_item (c := .str r.1) (j := 0) (by decide) (by decide) rfl rfl)) (EVs.cons G.toGrOk (by walk_at "m_e") EVs.nil))) (P.kp 33) (c_takesB P (ht r (List.mem_of_getElem? hi))).w) Tru.bool) (fun hz => ?_) (fun hz => ?_) G) G
      · refine EX.cons (EX1.ret G (by walk_at "m_e") ?_) G
        show CV.int (i : Int) = _
        rw [hf]; unfold foundAt; rw [if_pos hz]
      · refine EX.nil ?_
        refine EX.nil ⟨i + 1, rs, fun q hq => .tail _ hq, ?_, h3, ?_⟩
        · rw [← List.drop_drop, hd]; rfl
        · rw [hf]; conv => lhs; unfold foundAt
          rw [hz]; simp
theorem c_best {k : Int} {rows : List (Str × Int)} {offers : List Str} (h0 : g.hd = Option.none) (hlen : rows.length ≤ 100) (ht : ∀ r ∈ rows, ∀ o ∈ offers, tkB k r.1 o = true) : FN pw w g (n + 4) (.ref 424) [.int k, rowsC rows, strsC offers] (optC (bestF k rows offers)) := by
  have D := P.df 36
  refine FN.of_def P.G D (bind_plain (names := ["kind", "rows", "offers"]) rfl (by walk_at "m_b3")) Closed.nil (by walk_at "m_bnd") (fun l => ?_) rfl
  have P := P.mod g.V l g.hd
  have G := P.G
  refine EX.cons (EX1.assign_swap G (cx := optC none) (cy := markC (0, [])) (EV.tuple G.toGrOk (cs := [_, _]) (EVs.cons G.toGrOk (EV.none) (EVs.cons G.toGrOk (EV.tuple G.toGrOk (cs := [.int 0, .lst []]) (by walk_at "m_es") (by simp)) EVs.nil)) (by simp)) (x := "best") (y := "mark") (by walk_at "m_del") (by walk_at "m_del") (by kernel_rfl!) (by kernel_rfl!) (by walk_at "m_ne") (by walk_at "m_ne") ?_ (hw := by walk_at "m_swap")) G
  refine EX.cons (EX1.for_ G (c := strsC offers) (by walk_at "m_e") (Over.list G) ?_) G
  refine Loop.ind (P := fun cs σ => ∃ (st : Option Str × (Int × List Bool)) (rest : List Str), (∀ q ∈ ([("best", optC st.1), ("mark", markC st.2), ("rows", rowsC rows), ("kind", .int k)] : Loc), q ∈ σ) ∧ cs = rest.map .str ∧ (rest.foldl (bestStep k rows) st).1 = bestF k rows offers ∧ (∀ o ∈ rest, o ∈ offers)) ?_ ?_ _ _ ⟨(none, (0, [])), offers, by walk_at "m_sub", rfl, rfl, fun _ h => h⟩
  · rintro σ ⟨st, rest, hb, hc, hf, _⟩
    cases rest with
    | cons _ _ => cases hc
    | nil =>
      refine EX.sub_ hb (EX.cons (EX1.ret G (by walk_at "m_e") ?_) G)
      show optC st.1 = _
      rw [← hf]; rfl
  · rintro c cs σ ⟨st, rest, hb, hc, hf, hm⟩
    cases rest with
    | nil => cases hc
    | cons o rest =>
      cases hc
      refine ⟨_, AS.sub_ hb (AS.name G (by walk_at "m_del") (by walk_at "m_kind") (by walk_at "m_ne")), ?_⟩
      refine EX.cons (EX1.assign G (c := .int (fnd k rows o)) (EV.call G (cs := [.int k, rowsC rows, .str o]) (by walk_at "m_e") (by walk_at "m_es") (P.kp 35) (c_found P h0 hlen fun r hr => ht r hr o (hm o (.head _))).w) (by walk_at "m_del") (by walk_at "m_kind") (by walk_at "m_ne") ?_) G
      have item : ∀ {σ : Loc} {p1 p2 p3 p4 p5 : Pos} {kk : Nat} {i : Int} {j : Nat} {c : CV}, (("rows" : Str), rowsC rows) ∈ σ → (("place" : Str), CV.int (fnd k rows o)) ∈ σ → 0 ≤ fnd k rows o → seqIndex? i 2 = some j → -(2 ^ 63) ≤ i → i < 2 ^ 63 → ([CV.str (rowAt rows (fnd k rows o)).1, .int (rowAt rows (fnd k rows o)).2] : List CV)[j]? = some c →
          EV pw w { g with fr := l } (fiOf (stm 26) "_law_best" 424 (.ref 423)) (n + 3) σ (.Subscript (.Subscript (.Name "rows" p1) (.Name "place" p2) p3) (.Constant (.int i) kk p4) p5) c := by
        intro σ p1 p2 p3 p4 p5 kk i j c m1 m2 h0 hj a1 a2 hc
        have hlt := fnd_lt h0
        exact EV.sub G (a := rowC (rowAt rows (fnd k rows o))) (EV.sub G (a := rowsC rows) (EV.name m1) (EV.name m2) (Bin.list_item h0 (by omega) (rowAt_get h0 hlt).1)) EV.int (Bin.tup_item a1 a2 hj hc)
      have cur : ∀ {σ : Loc}, (∀ q ∈ ([("rows", rowsC rows), ("place", CV.int (fnd k rows o)), ("kind", .int k)] : Loc), q ∈ σ) → 0 ≤ fnd k rows o → ∀ {p1 p2 p3 p4 p5 p6 p7 p8 p9 q1 q2 q3 q4 q5 : Pos} {k1 k2 k3 : Nat},
          EV pw w { g with fr := l } (fiOf (stm 26) "_law_best" 424 (.ref 423)) (n + 3) σ (.Tuple [.Subscript (.Subscript (.Name "rows" p1) (.Name "place" p2) p3) (.Constant (.int 1) k1 p4) p5, .Call (.Name "_law_special" p6) [.Name "kind" p7, .Subscript (.Subscript (.Name "rows" p8) (.Name "place" p9) q1) (.Constant (.int 0) k2 q2) q3] [] q4] k3 q5) (markC ((rowAt rows (fnd k rows o)).2, specF k (rowAt rows (fnd k rows o)).1)) := by
        intro σ hs h0 p1 p2 p3 p4 p5 p6 p7 p8 p9 q1 q2 q3 q4 q5 k1 k2 k3
        have m1 := hs _ (.head _)
        have m2 := hs _ (.tail _ (.head _))
        have m3 := hs _ (.tail _ (.tail _ (.head _)))
        exact EV.tuple G.toGrOk (cs := [_, _]) (EVs.cons G.toGrOk (item m1 m2 h0 (j := 1) rfl (by decide) (by decide) rfl) (EVs.cons G.toGrOk (EV.call G (cs := [.int k, .str _]) (by walk_at "m_e") (EVs.cons G.toGrOk (EV.name m3) (EVs.cons G.toGrOk (item m1 m2 h0 (j := 0) rfl (by decide) (by decide) rfl) EVs.nil)) (P.kp 32) (c_special P (tkB.t (ht _ (rowAt_get h0 (fnd_lt h0)).2 o (hm o (.head _))))).w) EVs.nil)) (by simp)
      refine EX.cons (EX1.ite (ET.op G.toGrOk (EA.and_cons G.toGrOk (b := decide (fnd k rows o ≥ 0)) (by walk_at "m_t") fun hz => EA.and_cons G.toGrOk (b := decide ((rowAt rows (fnd k rows o)).2 > 0)) (ET.cmp G.toGrOk (item (by walk_at "m_mem") (by walk_at "m_mem") (by simpa using hz) (j := 1) rfl (by decide) (by decide) rfl) EV.int Bin.gt_int) fun _ => EA.and_cons G.toGrOk (ET.cmp G.toGrOk (a := markC ((rowAt rows (fnd k rows o)).2, specF k (rowAt rows (fnd k rows o)).1)) (b := markC st.2) (cur (by walk_at "m_sub") (by simpa using hz)) (by walk_at "m_e") (Bin.rc (rc_gt _ _) (by decide) (.inr (.inl rfl)))) fun _ => EA.and_nil G.toGrOk)) (fun hz => ?_) (fun hz => ?_) G) G
      · have h0 : 0 ≤ fnd k rows o := by simp only [Bool.and_eq_true, decide_eq_true_eq] at hz; exact hz.1
        refine EX.cons (EX1.assign_swap G (cx := .str o) (cy := markC ((rowAt rows (fnd k rows o)).2, specF k (rowAt rows (fnd k rows o)).1)) (EV.tuple G.toGrOk (cs := [_, _]) (EVs.cons G.toGrOk (by walk_at "m_e") (EVs.cons G.toGrOk (cur (by walk_at "m_sub") h0) EVs.nil)) (by simp)) (x := "best") (y := "mark") (by walk_at "m_del") (by walk_at "m_del") (by kernel_rfl!) (by kernel_rfl!) (by walk_at "m_ne") (by walk_at "m_ne") ?_ (hw := by walk_at "m_swap")) G
        refine EX.nil ?_
        refine EX.nil ⟨(some o, ((rowAt rows (fnd k rows o)).2, specF k (rowAt rows (fnd k rows o)).1)), rest, by walk_at "m_sub", rfl, ?_, fun x hx => hm x (.tail _ hx)⟩
        rw [← hf, List.foldl_cons]; unfold bestStep; rw [if_pos hz]
      · refine EX.nil ?_
        refine EX.nil ⟨st, rest, by walk_at "m_sub", rfl, ?_, fun x hx => hm x (.tail _ hx)⟩
        rw [← hf, List.foldl_cons]; congr 2; unfold bestStep; rw [if_neg (by rw [hz]; decide)]
end
theorem EX1.mono {prog : Program} {w : World} {g : Gr} {fi : FI} {n : Nat} {σ : Loc} {st : Stmt} {Φ Ψ : AF → Prop} (h : EX1 prog w g fi n σ st Φ) (m : ∀ af, Φ af → Ψ af) : EX1 prog w g fi n σ st Ψ :=
  fun A env s Q E a F q qe => h A env s Q E a F (fun fl s' af hf => q fl s' af (m _ hf)) fun x s' T fl hT => qe x s' T fl (m _ hT)
def p0 (x : Str) : Str := (piecesF 1 x).getD 0 ""
def firstR (rows : List (Str × Int)) : List (Str × Int) := rows.map fun r => (p0 r.1, r.2)
def shortStep (short : Option Str) (best : Option Str) (o : Str) : Option Str := if (short.isSome && (decide (some (p0 o) = short) && true)) = true then some o else best
/-- the second look -/
def tongue2 (rows : List (Str × Int)) (offers : List Str) : Option Str := match bestF 1 rows offers with
  | some b => some b
  | none => bestF 2 (sortedF 2 (firstR rows)) offers
def tongueF (rows : List (Str × Int)) (offers : List Str) : Option Str := match tongue2 rows offers with
  | some b => some b
  | none => offers.reverse.foldl (shortStep (bestF 1 rows (offers.map p0))) none
theorem sortedF_mem {k : Int} {rows : List (Str × Int)} {x : Str × Int} (h : x ∈ sortedF k rows) : x ∈ rows := by
  have : ∀ (rows m : List (Str × Int)), x ∈ rows.foldl (ins k) m → x ∈ rows ∨ x ∈ m := by
    intro rows
    induction rows with
    | nil => exact fun m h => .inr h
    | cons r rows ih =>
      intro m h
      rcases ih _ h with h | h
      · exact .inl (.tail _ h)
      · rcases ins_mem h with rfl | h
        · exact .inl (.head _)
        · exact .inr h
  rcases this rows [] h with h | h
  · exact h
  · cases h
theorem sortedF_len (k : Int) (rows : List (Str × Int)) : (sortedF k rows).length = rows.length := by
  have : ∀ (rows m : List (Str × Int)), (rows.foldl (ins k) m).length = rows.length + m.length := by
    intro rows
    induction rows with
    | nil => intro m; simp
    | cons r rows ih => intro m; rw [List.foldl_cons, ih, ins_len, List.length_cons]; omega
  rw [sortedF, this]; rfl
theorem p0_at {x : Str} (h : 1 ≤ (piecesF 1 x).length) : ((piecesF 1 x).map CV.str)[(0 : Int).toNat]? = some (.str (p0 x)) := getD_of (by omega)
section
variable {w : World} {K : Frag} {g : Gr} (P : PW K g) {n : Nat}
include P
theorem c_tongue {rows : List (Str × Int)} {offers : List Str} (h0 : g.hd = Option.none) (hlen : rows.length ≤ 10) (ho : offers.length ≤ 100) (t1 : ∀ r ∈ rows, ∀ o ∈ offers, tkB 1 r.1 o = true) (t2 : ∀ r ∈ rows, ∀ o ∈ offers, tkB 2 (p0 r.1) o = true)
    (t3 : ∀ r ∈ rows, ∀ o ∈ offers, tkB 1 r.1 (p0 o) = true) (t4 : ∀ r ∈ rows, okX r.1 = true ∧ okX (p0 r.1) = true ∧ 1 ≤ (piecesF 1 r.1).length) (t5 : ∀ o ∈ offers, okX o = true ∧ 1 ≤ (piecesF 1 o).length) :
    FN pw w g (n + 5) (.ref 429) [rowsC rows, strsC offers] (optC (tongueF rows offers)) := by
  have D := P.df 37
  refine FN.of_def P.G D (bind_plain (names := ["rows", "offers"]) rfl (by walk_at "m_b2")) Closed.nil (by walk_at "m_bnd") (fun l => ?_) rfl
  have P := P.mod g.V l g.hd
  have G := P.G
  refine EX.cons (EX1.assign G (c := optC (bestF 1 rows offers)) (EV.call G (cs := [.int 1, rowsC rows, strsC offers]) (by walk_at "m_e") (by walk_at "m_es") (P.kp 36) (c_best P h0 (by omega) t1).w) (by walk_at "m_del") (by walk_at "m_kind") (by walk_at "m_ne") ?_) G
  refine EX.cons (EX1.mono (Φ := fun af => ∃ σ, af = .next σ ∧ ∀ q ∈ ([("best", optC (tongue2 rows offers)), ("offers", strsC offers), ("rows", rowsC rows)] : Loc), q ∈ σ) ?_ ?_) G
  · refine EX1.ite (z := (optC (bestF 1 rows offers)).isNone) (by walk_at "m_t") (fun hz => ?_) (fun hz => ?_) G
    · have e : bestF 1 rows offers = none := by cases h : bestF 1 rows offers with | none => rfl | some x => rw [h] at hz; cases hz
      have e2 : tongue2 rows offers = bestF 2 (sortedF 2 (firstR rows)) offers := by rw [tongue2, e]
      refine EX.cons (EX1.assign_comp G (τ := []) (ci := rowsC rows) (cs := rows.map rowC) (ds := rows.map fun r => rowC (p0 r.1, r.2)) (by walk_at "m_cs") (by walk_at "m_sub") (by walk_at "m_e") (Over.list G) (by rw [List.length_map]; omega) (fun D => ?_) (by walk_at "m_del") (by kernel_rfl!) (by walk_at "m_ne") ?_) G
      · have P := P.mod (D :: g.V) l g.hd
        have G := P.G
        refine CompOk.mapRow G (by kernel_rfl!) (by walk_at "m_ne") Del.nil (by kernel_rfl!) (by walk_at "m_ne") (by walk_at "m_ne") Del.nil rows fun r hr => ?_
        exact EV.tuple G.toGrOk (cs := [.str (p0 r.1), .int r.2]) (EVs.cons G.toGrOk (EV.sub G (a := strsC (piecesF 1 r.1)) (EV.call G (cs := [.int 1, .str r.1]) (by walk_at "m_e") (by walk_at "m_es") (P.kp 31) (c_pieces P (okX.t (t4 r hr).1)).w) EV.int (Bin.list_item (by decide) (by decide) (p0_at (t4 r hr).2.2))) (by walk_at "m_es")) (by simp)
      · have ef : CV.lst (rows.map fun r => rowC (p0 r.1, r.2)) = rowsC (firstR rows) := by simp [rowsC, firstR, List.map_map, Function.comp_def]
        rw [ef]
        refine EX.cons (EX1.assign G (c := optC (tongue2 rows offers)) (EV.call G (cs := [.int 2, rowsC (sortedF 2 (firstR rows)), strsC offers]) (by walk_at "m_e") (EVs.cons G.toGrOk (by walk_at "m_e") (EVs.cons G.toGrOk (EV.call G (cs := [.int 2, rowsC (firstR rows)]) (by walk_at "m_e") (by walk_at "m_es") (P.kp 34) (FW.le (c_sorted P (by rw [firstR, List.length_map]; omega) fun r hr => ?_).w (Nat.le_succ _))) (by walk_at "m_es"))) (P.kp 36) ?_) (by walk_at "m_del") (by walk_at "m_kind") (by walk_at "m_ne") ?_) G
        · obtain ⟨q, hq, rfl⟩ := List.mem_map.mp hr
          exact (t4 q hq).2.1
        · rw [e2]
          refine (c_best P h0 (by rw [sortedF_len, firstR, List.length_map]; omega) fun r hr o ho => ?_).w
          obtain ⟨q, hq, rfl⟩ := List.mem_map.mp (sortedF_mem hr)
          exact t2 q hq o ho
        · exact EX.nil ⟨_, rfl, by walk_at "m_sub"⟩
    · obtain ⟨b, e⟩ : ∃ b, bestF 1 rows offers = some b := by cases h : bestF 1 rows offers with | none => rw [h] at hz; cases hz | some x => exact ⟨x, rfl⟩
      have e2 : tongue2 rows offers = bestF 1 rows offers := by rw [tongue2, e]
      rw [e2]
      exact EX.nil ⟨_, rfl, by walk_at "m_sub"⟩
  · rintro _ ⟨σ, rfl, hσ⟩
    refine EX.sub_ hσ ?_
    refine EX.cons (EX1.mono (Φ := fun af => ∃ σ, af = .next σ ∧ ∀ q ∈ ([("best", optC (tongueF rows offers)), ("offers", strsC offers), ("rows", rowsC rows)] : Loc), q ∈ σ) ?_ ?_) G
    · refine EX1.ite (z := (optC (tongue2 rows offers)).isNone) (by walk_at "m_t") (fun hz => ?_) (fun hz => ?_) G
      · have e : tongue2 rows offers = none := by cases h : tongue2 rows offers with | none => rfl | some x => rw [h] at hz; cases hz
        have e2 : tongueF rows offers = offers.reverse.foldl (shortStep (bestF 1 rows (offers.map p0))) none := by rw [tongueF, e]
        rw [e]
        refine EX.cons (EX1.assign G (c := optC (bestF 1 rows (offers.map p0))) (EV.call G (cs := [.int 1, rowsC rows, strsC (offers.map p0)]) (by walk_at "m_e") (EVs.cons G.toGrOk (by walk_at "m_e") (EVs.cons G.toGrOk (by walk_at "m_e") (EVs.cons G.toGrOk ?_ EVs.nil))) (P.kp 36) (c_best P h0 (by omega) fun r hr o ho => ?_).w) (by walk_at "m_del") (by walk_at "m_kind") (by walk_at "m_ne") ?_) G
        · have ec : strsC (offers.map p0) = .lst (offers.map fun o => .str (p0 o)) := by simp [List.map_map, Function.comp_def]
          rw [ec]
          refine EV.comp G (τ := []) (ci := strsC offers) (cs := offers.map .str) (by walk_at "m_cs") (by walk_at "m_sub") (by walk_at "m_e") (Over.list G) (by rw [List.length_map]; omega) fun D => ?_
          have P := P.mod (D :: g.V) l g.hd
          have G := P.G
          exact CompOk.mapStr G (by kernel_rfl!) (by walk_at "m_ne") Del.nil _ fun o ho => EV.sub G (a := strsC (piecesF 1 o)) (EV.call G (cs := [.int 1, .str o]) (by walk_at "m_e") (by walk_at "m_es") (P.kp 31) (c_pieces P (okX.t (t5 o ho).1)).w) EV.int (Bin.list_item (by decide) (by decide) (p0_at (t5 o ho).2))
        · obtain ⟨q, hq, rfl⟩ := List.mem_map.mp ho
          exact t3 r hr q hq
        · refine EX.cons (EX1.for_ G (c := .lst (offers.map CV.str).reverse) (EV.rev G (by walk_at "m_e") (EV.un G.toGrOk EV.int Un.neg_int) (by rw [List.length_map]; omega)) (Over.list G) ?_) G
          generalize bestF 1 rows (offers.map p0) = short at *
          refine Loop.ind (P := fun cs σ => ∃ (best : Option Str) (rest : List Str), (∀ q ∈ ([("best", optC best), ("short", optC short), ("offers", strsC offers), ("rows", rowsC rows)] : Loc), q ∈ σ) ∧ cs = rest.map .str ∧ rest.foldl (shortStep short) best = tongueF rows offers ∧ (∀ o ∈ rest, o ∈ offers)) ?_ ?_ _ _ ⟨none, offers.reverse, by walk_at "m_sub", by rw [List.map_reverse], e2.symm, fun _ h => List.mem_reverse.mp h⟩
          · rintro σ ⟨best, rest, hb, hc, hf, _⟩
            cases rest with
            | cons _ _ => cases hc
            | nil =>
              have hf : best = tongueF rows offers := hf
              subst hf
              exact EX.nil ⟨_, rfl, fun q hq => hb q (by simp only [List.mem_cons, List.not_mem_nil, or_false] at hq ⊢; rcases hq with h | h | h <;> simp [h])⟩
          · rintro c cs σ ⟨best, rest, hb, hc, hf, hm⟩
            cases rest with
            | nil => cases hc
            | cons o rest =>
              cases hc
              refine ⟨_, AS.sub_ hb (AS.name G (by walk_at "m_del") (by walk_at "m_kind") (by walk_at "m_ne")), ?_⟩
              have ho := t5 o (hm o (.head _))
              refine EX.cons (EX1.ite (z := short.isSome && (decide (some (p0 o) = short) && true)) (ET.op G.toGrOk (EA.and_cons G.toGrOk (b := short.isSome) ?_ fun hz => EA.and_cons G.toGrOk (b := decide (some (p0 o) = short)) ?_ fun _ => EA.and_nil G.toGrOk)) (fun hz => ?_) (fun hz => ?_) G) G
              · have : short.isSome = !(optC short).isNone := by cases short <;> rfl
                rw [this]; walk_at "m_t"
              · cases short with
                | none => cases hz
                | some s =>
                  have : decide (some (p0 o) = some s) = decide (p0 o = s) := by simp
                  rw [this]
                  exact ET.cmp G.toGrOk (EV.sub G (a := strsC (piecesF 1 o)) (EV.call G (cs := [.int 1, .str o]) (by walk_at "m_e") (by walk_at "m_es") (P.kp 31) (c_pieces P (okX.t ho.1)).w) EV.int (Bin.list_item (by decide) (by decide) (p0_at ho.2))) (by walk_at "m_e") Bin.eq_str
              · refine EX.cons (EX1.assign G (c := optC (some o)) (by walk_at "m_e") (by walk_at "m_del") (by walk_at "m_kind") (by walk_at "m_ne") ?_) G
                refine EX.nil ?_
                refine EX.nil ⟨some o, rest, by walk_at "m_sub", rfl, ?_, fun x hx => hm x (.tail _ hx)⟩
                rw [← hf, List.foldl_cons]; congr 1; unfold shortStep; rw [if_pos hz]
              · refine EX.nil ?_
                refine EX.nil ⟨best, rest, by walk_at "m_sub", rfl, ?_, fun x hx => hm x (.tail _ hx)⟩
                rw [← hf, List.foldl_cons]; congr 1; unfold shortStep; rw [if_neg (by rw [hz]; decide)]
      · obtain ⟨b, e⟩ : ∃ b, tongue2 rows offers = some b := by cases h : tongue2 rows offers with | none => rw [h] at hz; cases hz | some x => exact ⟨x, rfl⟩
        have e2 : tongueF rows offers = tongue2 rows offers := by rw [tongueF, e]
        rw [e2]
        exact EX.nil ⟨_, rfl, by walk_at "m_sub"⟩
    · rintro _ ⟨σ, rfl, hσ⟩
      exact EX.sub_ hσ (EX.cons (EX1.ret G (by walk_at "m_e") rfl) G)
end
section
variable {prog : Program} {w : World} {g : Gr} {fi : FI} {n : Nat}
theorem Loop.find {target : Expr} {body : List Stmt} {Φ : AF → Prop} {τ : Loc} {tk : Str × Int → Bool} : ∀ (rows : List (Str × Int)) (σ : Loc), (∀ q ∈ τ, q ∈ σ) → (rows.find? tk = none → ∀ σ, (∀ q ∈ τ, q ∈ σ) → Φ (.next σ)) →
    (∀ r ∈ rows, ∃ σ₁, AS prog w g fi n τ target (rowC r) σ₁ ∧ EX prog w g fi n σ₁ body fun af => (tk r = true ∧ ∃ c, af = .ret c ∧ (rows.find? tk = some r → Φ (.ret c))) ∨ (tk r = false ∧ ∃ σ', (af = .next σ' ∨ af = .cont σ') ∧ ∀ q ∈ τ, q ∈ σ')) → Loop prog w g fi n target body Φ (rows.map rowC) σ
  | [], σ, hs, h0, _ => h0 rfl σ hs
  | r :: rows, σ, hs, h0, h1 => by
    obtain ⟨σ₁, a, b⟩ := h1 r (.head _)
    refine ⟨σ₁, AS.sub_ hs a, b.mono ?_⟩
    rintro af (⟨ht, c, rfl, hc⟩ | ⟨ht, σ', h, hs'⟩)
    · exact hc (by rw [List.find?_cons_of_pos (by exact ht)])
    · have e : (r :: rows).find? tk = rows.find? tk := List.find?_cons_of_neg (by rw [ht]; decide)
      have ih := Loop.find (target := target) (body := body) (Φ := Φ) rows σ' hs' (fun q => h0 (by rw [e]; exact q)) fun r' hr' => by
        obtain ⟨σ₁, a, b⟩ := h1 r' (.tail _ hr')
        exact ⟨σ₁, a, b.mono fun af h => by rw [e] at h; exact h⟩
      rcases h with rfl | rfl
      · exact ih
      · exact ih
end
/-- the first accepted kind that takes the offer -/
def hit (vm : Str → Str → Bool) (rows : List (Str × Int)) (o : Str) : Option (Str × Int) := rows.find? fun r => vm o r.1
def hitC : Option (Str × Int) → CV
  | none => .none
  | some r => rowC r
def qualF (vm : Str → Str → Bool) (rows : List (Str × Int)) (o : Str) : Int := match hit vm rows o with
  | some r => r.2
  | none => 0
abbrev Cs : List Addr := [cA, cM, cL]
theorem inm {C : Addr} (hC : C ∈ Cs) {x : Str} {f : Addr} (h : mT C x f ∈ [mT C "__delitem__" 59, mT C "__iadd__" 66, mT C "__imul__" 73, mT C "__setitem__" 80, mT C "append" 87, mT C "remove" 94, mT C "extend" 101, mT C "insert" 108, mT C "pop" 116, mT C "reverse" 123, mT C "sort" 131,
    mT C "__init__" 177, mT C "__getitem__" 198, mT C "quality" 205, mT C "__contains__" 212, mT C "index" 226, mT C "find" 233, mT C "values" 240, mT C "to_header" 247, mT C "_best_single_match" 261]) : mT C x f ∈ mtab :=
  List.mem_append_left _ (List.mem_flatMap.mpr ⟨C, hC, h⟩)
/-- a class's way to compare -/
structure VM (K : Frag) (w : World) (n : Nat) (hd : Option Addr) (C f : Addr) (i : Nat) (ok : Str → Str → Prop) (vm : Str → Str → Bool) : Prop where
  mem : mT C "_value_matches" f ∈ mtab
  ix : (defTable[i]?).map (·.1) = some f
  run : ∀ g, PW K g → g.hd = hd → ∀ p l o t, ok o t → FN pw w g n (.ref f) [.acc C p l, .str o, .str t] (.bool (vm o t))
structure SPC (K : Frag) (w : World) (n : Nat) (hd : Option Addr) (C f : Addr) (i : Nat) (ok : Str → Prop) (sp : Str → List Bool) : Prop where
  mem : mT C "_specificity" f ∈ mtab
  ix : (defTable[i]?).map (·.1) = some f
  run : ∀ g, PW K g → g.hd = hd → ∀ p l t, ok t → FN pw w g n (.ref f) [.acc C p l, .str t] (.tup ((sp t).map .bool))
theorem PW.mth {K : Frag} {g : Gr} (P : PW K g) {w : World} (i : Nat) {C f : Addr} {x : Str} {p : Bool} {l : List CV} (hC : C ∈ Cs) (h : mT C x f ∈ mtab) (hi : (defTable[i]?).map (·.1) = some f) (hn : x ≠ ("provided" : Str)) : Mth pw w g x (.acc C p l) (.ref f) := by
  cases e : defTable[i]? with
  | none => rw [e] at hi; cases hi
  | some d => rw [e] at hi; cases hi; exact Mth.acc P.k (P.kf.acc C hC) (P.kf.find _ h) (P.kf.ty d (List.mem_of_getElem? e)) hn
section
variable {w : World} {K : Frag} {g : Gr} (P : PW K g) {n : Nat} {C f : Addr} {i : Nat} {ok : Str → Str → Prop} {vm : Str → Str → Bool} {p : Bool} {rows : List (Str × Int)} {o : Str} (hC : C ∈ Cs)
include P hC
theorem c_quality (M : VM K w n g.hd C f i ok vm) (h : ∀ r ∈ rows, ok o r.1) : FN pw w g (n + 1) (.ref 205) [.acc C p (rows.map rowC), .str o] (.int (qualF vm rows o)) := by
  have D := P.df 16
  refine FN.of_def P.G D (bind_plain (names := ["self", "key"]) rfl (by walk_at "m_b2")) Closed.nil (by walk_at "m_bnd") (fun l => ?_) rfl
  have P := P.mod g.V l g.hd
  have G := P.G
  refine EX.cons (EX1.for_ G (c := .acc C p (rows.map rowC)) (by walk_at "m_e") (SeqIt.over G (SeqIt.acc P.k (P.kf.acc C hC))) ?_) G
  refine Loop.find (τ := [("key", .str o), ("self", .acc C p (rows.map rowC))]) (tk := fun r => vm o r.1) rows _ (by walk_at "m_sub") (fun he σ hs => ?_) fun r hr => ⟨_, AS.row G (by walk_at "m_del") (by walk_at "m_kind") (by walk_at "m_ne") (by walk_at "m_del") (by walk_at "m_kind") (by walk_at "m_ne"), ?_⟩
  · refine EX.cons (EX1.ret G EV.int ?_) G
    show CV.int 0 = _
    rw [qualF, hit, he]
  · refine EX.cons (EX1.ite (z := vm o r.1) (ET.val G.toGrOk (EV.meth G (cs := [.str o, .str r.1]) (by walk_at "m_e") (P.mth i hC M.mem M.ix (by walk_at "m_ne")) (by walk_at "m_es") (P.kp i M.ix) (M.run _ P rfl p _ o r.1 (h r hr)).w) Tru.bool) (fun hz => ?_) (fun hz => ?_) G) G
    · refine EX.cons (EX1.ret G (c := .int r.2) (by walk_at "m_e") (.inl ⟨hz, _, rfl, fun he => ?_⟩)) G
      show CV.int r.2 = _
      rw [qualF, hit, he]
    · exact EX.nil (EX.nil (.inr ⟨hz, _, .inl rfl, by walk_at "m_sub"⟩))
theorem c_contains (M : VM K w n g.hd C f i ok vm) (h : ∀ r ∈ rows, ok o r.1) : FN pw w g (n + 1) (.ref 212) [.acc C p (rows.map rowC), .str o] (.bool (hit vm rows o).isSome) := by
  have D := P.df 17
  refine FN.of_def P.G D (bind_plain (names := ["self", "value"]) rfl (by walk_at "m_b2")) Closed.nil (by walk_at "m_bnd") (fun l => ?_) rfl
  have P := P.mod g.V l g.hd
  have G := P.G
  refine EX.cons (EX1.for_ G (c := .acc C p (rows.map rowC)) (by walk_at "m_e") (SeqIt.over G (SeqIt.acc P.k (P.kf.acc C hC))) ?_) G
  refine Loop.find (τ := [("value", .str o), ("self", .acc C p (rows.map rowC))]) (tk := fun r => vm o r.1) rows _ (by walk_at "m_sub") (fun he σ hs => ?_) fun r hr => ⟨_, AS.row G (by walk_at "m_del") (by walk_at "m_kind") (by walk_at "m_ne") (by walk_at "m_del") (by walk_at "m_kind") (by walk_at "m_ne"), ?_⟩
  · refine EX.cons (EX1.ret G EV.bool ?_) G
    show CV.bool false = _
    rw [hit, he]; rfl
  · refine EX.cons (EX1.ite (z := vm o r.1) (ET.val G.toGrOk (EV.meth G (cs := [.str o, .str r.1]) (by walk_at "m_e") (P.mth i hC M.mem M.ix (by walk_at "m_ne")) (by walk_at "m_es") (P.kp i M.ix) (M.run _ P rfl p _ o r.1 (h r hr)).w) Tru.bool) (fun hz => ?_) (fun hz => ?_) G) G
    · refine EX.cons (EX1.ret G (c := .bool true) (by walk_at "m_e") (.inl ⟨hz, _, rfl, fun he => ?_⟩)) G
      show CV.bool true = _
      rw [hit, he]; rfl
    · exact EX.nil (EX.nil (.inr ⟨hz, _, .inl rfl, by walk_at "m_sub"⟩))
theorem c_bsm (M : VM K w n g.hd C f i ok vm) (h : ∀ r ∈ rows, ok o r.1) : FN pw w g (n + 1) (.ref 261) [.acc C p (rows.map rowC), .str o] (hitC (hit vm rows o)) := by
  have D := P.df 22
  refine FN.of_def P.G D (bind_plain (names := ["self", "match"]) rfl (by walk_at "m_b2")) Closed.nil (by walk_at "m_bnd") (fun l => ?_) rfl
  have P := P.mod g.V l g.hd
  have G := P.G
  refine EX.cons (EX1.for_ G (c := .acc C p (rows.map rowC)) (by walk_at "m_e") (SeqIt.over G (SeqIt.acc P.k (P.kf.acc C hC))) ?_) G
  refine Loop.find (τ := [("match", .str o), ("self", .acc C p (rows.map rowC))]) (tk := fun r => vm o r.1) rows _ (by walk_at "m_sub") (fun he σ hs => ?_) fun r hr => ⟨_, AS.row G (by walk_at "m_del") (by walk_at "m_kind") (by walk_at "m_ne") (by walk_at "m_del") (by walk_at "m_kind") (by walk_at "m_ne"), ?_⟩
  · refine EX.cons (EX1.ret G EV.none ?_) G
    show CV.none = _
    rw [hit, he]; rfl
  · refine EX.cons (EX1.ite (z := vm o r.1) (ET.val G.toGrOk (EV.meth G (cs := [.str o, .str r.1]) (by walk_at "m_e") (P.mth i hC M.mem M.ix (by walk_at "m_ne")) (by walk_at "m_es") (P.kp i M.ix) (M.run _ P rfl p _ o r.1 (h r hr)).w) Tru.bool) (fun hz => ?_) (fun hz => ?_) G) G
    · refine EX.cons (EX1.ret G (c := rowC r) (EV.tuple G.toGrOk (by walk_at "m_es") (by simp)) (.inl ⟨hz, _, rfl, fun he => ?_⟩)) G
      show rowC r = _
      rw [hit, he]; rfl
    · exact EX.nil (EX.nil (.inr ⟨hz, _, .inl rfl, by walk_at "m_sub"⟩))
theorem c_getitem_str (M : VM K w n g.hd C f i ok vm) (h : ∀ r ∈ rows, ok o r.1) : FN pw w g (n + 2) (.ref 198) [.acc C p (rows.map rowC), .str o] (.int (qualF vm rows o)) := by
  have D := P.df 15
  refine FN.of_def P.G D (bind_plain (names := ["self", "key"]) rfl (by walk_at "m_b2")) Closed.nil (by walk_at "m_bnd") (fun l => ?_) rfl
  have P := P.mod g.V l g.hd
  have G := P.G
  refine EX.cons (EX1.ite (z := true) (ET.val G.toGrOk (EV.call G (cs := [.str o, .raw (.type "str")]) (by walk_at "m_e") (by walk_at "m_es") Keep.builtin (FW.isi_str P.k P.kf.isiS)) Tru.bool) (fun _ => ?_) (fun h => nomatch h) G) G
  exact EX.cons (EX1.ret G (EV.meth G (cs := [.str o]) (by walk_at "m_e") (P.mth 16 hC (inm hC (by walk_at "m_mem")) rfl (by walk_at "m_ne")) (by walk_at "m_es") (P.kp 16) (c_quality P hC M h).w) rfl) G
theorem c_getitem_0 {c : CV} {l : List CV} : FN pw w g (n + 1) (.ref 198) [.acc C p (c :: l), .int 0] c := by
  have D := P.df 15
  refine FN.of_def P.G D (bind_plain (names := ["self", "key"]) rfl (by walk_at "m_b2")) Closed.nil (by walk_at "m_bnd") (fun l => ?_) rfl
  have P := P.mod g.V l g.hd
  have G := P.G
  refine EX.cons (EX1.ite (z := false) (ET.val G.toGrOk (EV.call G (cs := [.int 0, .raw (.type "str")]) (by walk_at "m_e") (by walk_at "m_es") Keep.builtin (FW.isi_int P.k P.kf.isiI)) Tru.bool) (fun h => nomatch h) (fun _ => ?_) G) G
  refine EX.nil ?_
  exact EX.cons (EX1.ret G (EV.tmeth G P.k (T := "list") (f := .builtin "list.__getitem__") (cs := [.acc C p (c :: _), .int 0]) (by walk_at "m_e") (by with_unfolding_all rfl) (by with_unfolding_all rfl) P.kf.lgi rfl (by walk_at "m_es") Keep.builtin (FW.list_getitem G P.k (P.kf.acc C hC) (by decide) (by decide) rfl)) rfl) G
def firstC : List (Str × Int) → CV
  | [] => .none
  | r :: _ => .str r.1
theorem c_bestP (hl : rows.length ≤ 1000) : FN pw w g (n + 3) (.ref 276) [.acc C p (rows.map rowC)] (firstC rows) := by
  have D := P.df 24
  refine FN.of_def P.G D (bind_plain (names := ["self"]) rfl (by walk_at "m_b1")) Closed.nil (by walk_at "m_bnd") (fun l => ?_) rfl
  have P := P.mod g.V l g.hd
  have G := P.G
  refine EX.cons (EX1.ite (ET.val G.toGrOk (a := .acc C p (rows.map rowC)) (by walk_at "m_e") (Tru.acc P.k (P.kf.acc C hC) (by rw [List.length_map]; omega))) (fun hz => ?_) (fun hz => ?_) G) G
  · cases rows with
    | nil => cases hz
    | cons r rows =>
      refine EX.cons (EX1.ret G (c := .str r.1) (EV.sub G (a := rowC r) (EV.sub G (a := .acc C p (rowC r :: rows.map rowC)) (by walk_at "m_e") EV.int (Bin.acc_item P.k (P.kf.find _ (inm hC (x := "__getitem__") (f := 198) (by walk_at "m_mem"))) (P.kf.fnIn (dT 198 (meth 8 3) "Accept.__getitem__" [] .none) (List.mem_of_getElem? (i := 15) rfl)) (P.kf.isFn (dT 198 (meth 8 3) "Accept.__getitem__" [] .none) (List.mem_of_getElem? (i := 15) rfl)) (c_getitem_0 P hC).w)) EV.int (Bin.tup_item (j := 0) (by decide) (by decide) rfl rfl)) rfl) G
  · cases rows with
    | nil => exact EX.nil (EX.cons (EX1.ret G EV.none rfl) G)
    | cons r rows => cases hz
end
theorem enumC_map (i : Nat) (rows : List (Str × Int)) : ∀ (c : CV) (cs : List CV), enumC i (rows.map rowC) = c :: cs → ∃ r rs, rows = r :: rs ∧ c = .tup [.int i, rowC r] ∧ cs = enumC (i + 1) (rs.map rowC) := by
  intro c cs h
  cases rows with
  | nil => cases h
  | cons r rs => cases h; exact ⟨r, rs, rfl, rfl, rfl⟩
section
variable {w : World} {K : Frag} {g : Gr} (P : PW K g) {n : Nat} {C f : Addr} {i : Nat} {ok : Str → Str → Prop} {vm : Str → Str → Bool} {p : Bool} {rows : List (Str × Int)} {o : Str} (hC : C ∈ Cs)
include P hC
/-- the place, or a ValueError -/
def idxF (vm : Str → Str → Bool) (rows : List (Str × Int)) (o : Str) : Int := foundAt (fun t => vm o t) rows 0
def IdxEnds (i : Int) : AF → Prop
  | .ret c => i ≠ -1 ∧ c = .int i
  | .exc T => i = -1 ∧ T = "ValueError"
  | _ => False
omit P hC in
theorem foundAt_ne {tk : Str → Bool} {rows : List (Str × Int)} {i : Nat} : foundAt tk rows i = -1 ∨ foundAt tk rows i ≠ -1 := by omega
theorem e_index (M : VM K w n g.hd C f i ok vm) (h0 : g.hd = Option.none) (h : ∀ r ∈ rows, ok o r.1) (l : List Env) : EX pw w { g with fr := l } (fiOf (meth 8 7) "Accept.index" 226 (.ref 225)) n [("key", .str o), ("self", .acc C p (rows.map rowC))] (bodyOf (meth 8 7)) (IdxEnds (idxF vm rows o)) := by
  have P := P.mod g.V l g.hd
  have G := P.G
  refine EX.cons (EX1.ite (z := true) (ET.val G.toGrOk (EV.call G (cs := [.str o, .raw (.type "str")]) (by walk_at "m_e") (by walk_at "m_es") Keep.builtin (FW.isi_str P.k P.kf.isiS)) Tru.bool) (fun _ => ?_) (fun h => nomatch h) G) G
  refine EX.cons (EX1.forO G (EO.enum G h0 (by walk_at "m_e") (c := .acc C p (rows.map rowC)) (by walk_at "m_e") (SeqIt.acc P.k (P.kf.acc C hC))) (fun _ => ⟨_, _, _, rfl⟩) ?_) G
  refine Loop.ind (P := fun cs σ => ∃ (i : Nat) (suf : List (Str × Int)), (∀ q ∈ ([("key", .str o), ("self", .acc C p (rows.map rowC))] : Loc), q ∈ σ) ∧ cs = enumC i (suf.map rowC) ∧ idxF vm rows o = foundAt (fun t => vm o t) suf i ∧ ∀ r ∈ suf, r ∈ rows) ?_ ?_ _ _ ⟨0, rows, by walk_at "m_sub", rfl, rfl, fun _ h => h⟩
  · rintro σ ⟨i, suf, hb, hc, hf, _⟩
    cases suf with
    | cons _ _ => cases hc
    | nil =>
      refine EX.sub_ hb (EX.cons (XR1.ex G (T := "ValueError") (XR1.raise_ G F.excCall_ValueError F.excRaise_ValueError h0 (by decide) (cs := [.str o]) (by walk_at "m_e") (by walk_at "m_es") (by simp)) ?_) G)
      exact ⟨hf, rfl⟩
  · rintro c cs σ ⟨j, suf, hb, hc, hf, hm⟩
    obtain ⟨r, rs, rfl, rfl, rfl⟩ := enumC_map j suf c cs hc.symm
    refine ⟨_, AS.sub_ hb (AS.tuple (Parts.tup G) (ASs.cons G (AS.name G (by walk_at "m_del") (by walk_at "m_kind") (by walk_at "m_ne")) (ASs.cons G (AS.row G (by walk_at "m_del") (by walk_at "m_kind") (by walk_at "m_ne") (by walk_at "m_del") (by walk_at "m_kind") (by walk_at "m_ne")) ASs.nil)) G), ?_⟩
    refine EX.cons (EX1.ite (z := vm o r.1) (ET.val G.toGrOk (EV.meth G (cs := [.str o, .str r.1]) (by walk_at "m_e") (P.mth i hC M.mem M.ix (by walk_at "m_ne")) (by walk_at "m_es") (P.kp i M.ix) (M.run _ P rfl p _ o r.1 (h r (hm r (.head _)))).w) Tru.bool) (fun hz => ?_) (fun hz => ?_) G) G
    · refine EX.cons (EX1.ret G (c := .int j) (by walk_at "m_e") ?_) G
      have : idxF vm rows o = j := by rw [hf]; unfold foundAt; rw [if_pos hz]
      show idxF vm rows o ≠ -1 ∧ CV.int (j : Int) = .int (idxF vm rows o)
      rw [this]; exact ⟨by omega, rfl⟩
    · refine EX.nil (EX.nil ⟨j + 1, rs, by walk_at "m_sub", rfl, ?_, fun r hr => hm r (.tail _ hr)⟩)
      rw [hf]; conv => lhs; unfold foundAt
      rw [hz]; simp
theorem c_index (M : VM K w n g.hd C f i ok vm) (h0 : g.hd = Option.none) (h : ∀ r ∈ rows, ok o r.1) (hf : idxF vm rows o ≠ -1) : FN pw w g (n + 1) (.ref 226) [.acc C p (rows.map rowC), .str o] (.int (idxF vm rows o)) := by
  have D := P.df 18
  refine FN.of_def P.G D (bind_plain (names := ["self", "key"]) rfl (by walk_at "m_b2")) Closed.nil (by walk_at "m_bnd") (fun l => (e_index P hC M h0 h l).mono ?_) rfl
  intro af ha
  cases af with
  | ret c => exact ha.2
  | exc T => exact absurd ha.1 hf
  | next σ => exact ha.elim
  | brk σ => exact ha.elim
  | cont σ => exact ha.elim
theorem c_indexR (M : VM K w n g.hd C f i ok vm) (h0 : g.hd = Option.none) (h : ∀ r ∈ rows, ok o r.1) (hf : idxF vm rows o = -1) : FNr pw w g (n + 1) (.ref 226) [.acc C p (rows.map rowC), .str o] "ValueError" := by
  have D := P.df 18
  refine FNr.of_def P.G D (bind_plain (names := ["self", "key"]) rfl (by walk_at "m_b2")) Closed.nil (by walk_at "m_bnd") (fun l => (e_index P hC M h0 h l).mono ?_) rfl
  intro af ha
  cases af with
  | ret c => exact absurd hf ha.1
  | exc T => exact ha.2
  | next σ => exact ha.elim
  | brk σ => exact ha.elim
  | cont σ => exact ha.elim
theorem c_find (M : VM K w n g.hd C f i ok vm) (h0 : g.hd = Option.none) (h : ∀ r ∈ rows, ok o r.1) : FN pw w g (n + 2) (.ref 233) [.acc C p (rows.map rowC), .str o] (.int (idxF vm rows o)) := by
  have D := P.df 19
  refine FN.of_def P.G D (bind_plain (names := ["self", "key"]) rfl (by walk_at "m_b2")) Closed.nil (by walk_at "m_bnd") (fun l => ?_) rfl
  have P := P.mod g.V l g.hd
  have G := P.G
  by_cases hf : idxF vm rows o = -1
  · refine EX.cons (EX1.try_raise (X := "ValueError") (T := "ValueError") G h0 rfl (XR.cons (XR1.ret (ER.meth G (cs := [.str o]) (by walk_at "m_e") (P.mth 18 hC (inm hC (by walk_at "m_mem")) rfl (by walk_at "m_ne")) (by walk_at "m_es") (P.kp 18) (c_indexR P hC M h0 h hf).w))) (by with_unfolding_all rfl) (by with_unfolding_all rfl) (by with_unfolding_all rfl) (fun e => ?_) (fun e => ?_) ?_) G
    · have P := P.mod (e :: g.V) l (some e)
      walk_at "m_e"
    · have P := P.mod (e :: g.V) l (some e)
      have G := P.G
      refine EX.cons (EX1.ret G (EV.un G.toGrOk EV.int Un.neg_int) ?_) G
      show CV.int (-1) = _
      rw [hf]
    · intro T h; exact h
  · refine EX.cons (EX1.try_ok G (EX.cons (EX1.ret G (EV.meth G (cs := [.str o]) (by walk_at "m_e") (P.mth 18 hC (inm hC (by walk_at "m_mem")) rfl (by walk_at "m_ne")) (by walk_at "m_es") (P.kp 18) (c_index P hC M h0 h hf).w) rfl) G) ?_) G
    intro T h; exact h
end
def normM (x : Str) : List Str := (reSplit mimeCode 0 (Txt.lower x)).getD []
def normL (x : Str) : List Str := (reSplit langCode 0 (Txt.lower x)).getD []
def spA (t : Str) : List Bool := [!decide (t = "*")]
def spM (t : Str) : List Bool := ((reSplit mimeCode 0 t).getD []).map fun (x : Str) => !decide (x = "*")
def vmA (o t : Str) : Bool := decide (t = "*") || decide (Txt.lower t = Txt.lower o)
def vmL (o t : Str) : Bool := decide (t = "*") || decide (normL o = normL t)
def vmM (o t : Str) : Bool := if !within "/" t then false else
  if (decide ((normM t).getD 0 "" = "*") && (!decide ((normM t).getD 1 "" = "*") && true)) = true then false else
  ((decide ((normM t).getD 0 "" = "*") && decide ((normM t).getD 1 "" = "*")) || (decide ((normM o).getD 0 "" = "*") && decide ((normM o).getD 1 "" = "*"))) ||
  (decide ((normM t).getD 0 "" = (normM o).getD 0 "") && (decide ((normM t).getD 1 "" = "*") || (decide ((normM o).getD 1 "" = "*") || (decide ((normM t).getD 1 "" = (normM o).getD 1 "") && (srtC ((normM t).drop 2)).eqv (srtC ((normM o).drop 2))))))
def okLB (x : Str) : Bool := okT x && (reSplit langCode 0 (Txt.lower x)).isSome && (normL x).all PyData.strOk && decide ((Txt.lower x).cps.size ≤ 10000)
def okMB (x : Str) : Bool := okT x && (reSplit mimeCode 0 (Txt.lower x)).isSome && decide ((normM x).length ≤ 7) && (srtC ((normM x).drop 2)).isDat && decide ((srtC ((normM x).drop 2)).dat.depth ≤ 64) && decide ((Txt.lower x).cps.size ≤ 10000) && (reSplit mimeCode 0 x).isSome && decide (x.cps.size ≤ 10000) && decide (((reSplit mimeCode 0 x).getD []).length ≤ 100)
  && (!within "/" x || decide (2 ≤ (normM x).length))
def okA (o t : Str) : Prop := okT o = true ∧ okT t = true
def okL (o t : Str) : Prop := okLB o = true ∧ okLB t = true
def okM (o t : Str) : Prop := okMB o = true ∧ okMB t = true ∧ within "/" o = true ∧ (decide ((normM o).getD 0 "" = "*") && (!decide ((normM o).getD 1 "" = "*") && true)) = false
theorem getD_some {α : Type} {o : Option α} {d : α} (h : o.isSome = true) : o = some (o.getD d) := by cases o with | none => cases h | some x => rfl
section
variable {w : World} {K : Frag} {g : Gr} (P : PW K g) {n : Nat} {C : Addr} {p : Bool} {l : List CV}
include P
theorem c_specA {t : Str} : FN pw w g (n + 1) (.ref 184) [.acc C p l, .str t] (.tup ((spA t).map .bool)) := by
  have D := P.df 13
  refine FN.of_def P.G D (bind_plain (names := ["self", "value"]) rfl (by walk_at "m_b2")) Closed.nil (by walk_at "m_bnd") (fun l => ?_) rfl
  have P := P.mod g.V l g.hd
  have G := P.G
  exact EX.cons (EX1.ret G (EV.tuple G.toGrOk (cs := [.bool (!decide (t = "*"))]) (by walk_at "m_es") (by simp)) rfl) G
theorem c_vmA {o t : Str} (h : okA o t) : FN pw w g (n + 1) (.ref 191) [.acc C p l, .str o, .str t] (.bool (vmA o t)) := by
  have D := P.df 14
  refine FN.of_def P.G D (bind_plain (names := ["self", "value", "item"]) rfl (by walk_at "m_b3")) Closed.nil (by walk_at "m_bnd") (fun l => ?_) rfl
  have P := P.mod g.V l g.hd
  have G := P.G
  exact EX.cons (EX1.ret G (EV.or2 G.toGrOk (by walk_at "m_e") fun _ => EV.cmp G.toGrOk (EV.meth G (by walk_at "m_e") (Mth.str F.slot_str_lower) EVs.nil Keep.builtin (FW.lower (okT.low h.2))) (EV.meth G (by walk_at "m_e") (Mth.str F.slot_str_lower) EVs.nil Keep.builtin (FW.lower (okT.low h.1))) Bin.eq_str) rfl) G
theorem c_normL {x : Str} (h : okLB x = true) : FN pw w g (n + 1) (.ref 356) [.str x] (strsC (normL x)) := by
  have D := P.df 28
  refine FN.of_def P.G D (bind_plain (names := ["value"]) rfl (by walk_at "m_b1")) Closed.nil (by walk_at "m_bnd") (fun l => ?_) rfl
  have P := P.mod g.V l g.hd
  have G := P.G
  simp only [okLB, Bool.and_eq_true, decide_eq_true_eq] at h
  exact EX.cons (EX1.ret G (EV.meth G (cs := [.str (Txt.lower x)]) (by walk_at "m_e") (Mth.re P.re2 (by rw [P.T]; decide) (by rw [P.T]; decide)) (EVs.cons G.toGrOk (EV.meth G (by walk_at "m_e") (Mth.str F.slot_str_lower) EVs.nil Keep.builtin (FW.lower (okT.low h.1.1.1))) EVs.nil) Keep.builtin (FW.resplit G P.re2 (by rw [P.T]; decide) (by rw [P.T]; decide) h.2 (getD_some h.1.1.2))) rfl) G
theorem c_normM {x : Str} (h : okMB x = true) : FN pw w g (n + 1) (.ref 294) [.str x] (strsC (normM x)) := by
  have D := P.df 25
  refine FN.of_def P.G D (bind_plain (names := ["value"]) rfl (by walk_at "m_b1")) Closed.nil (by walk_at "m_bnd") (fun l => ?_) rfl
  have P := P.mod g.V l g.hd
  have G := P.G
  simp only [okMB, Bool.and_eq_true, decide_eq_true_eq] at h
  obtain ⟨⟨⟨⟨⟨⟨⟨⟨⟨h1, h2⟩, h3⟩, h4⟩, h5⟩, h6⟩, h7⟩, h8⟩, h9⟩, h10⟩ := h
  exact EX.cons (EX1.ret G (EV.meth G (cs := [.str (Txt.lower x)]) (by walk_at "m_e") (Mth.re P.re1 (by rw [P.T]; decide) (by rw [P.T]; decide)) (EVs.cons G.toGrOk (EV.meth G (by walk_at "m_e") (Mth.str F.slot_str_lower) EVs.nil Keep.builtin (FW.lower (okT.low h1))) EVs.nil) Keep.builtin (FW.resplit G P.re1 (by rw [P.T]; decide) (by rw [P.T]; decide) h6 (getD_some h2))) rfl) G
theorem c_vmL {o t : Str} (h : okL o t) : FN pw w g (n + 2) (.ref 371) [.acc C p l, .str o, .str t] (.bool (vmL o t)) := by
  have D := P.df 29
  refine FN.of_def P.G D (bind_plain (names := ["self", "value", "item"]) rfl (by walk_at "m_b3")) Closed.nil (by walk_at "m_bnd") (fun l => ?_) rfl
  have P := P.mod g.V l g.hd
  have G := P.G
  have h1 := h.1
  have h2 := h.2
  simp only [okLB, Bool.and_eq_true, decide_eq_true_eq] at h1 h2
  exact EX.cons (EX1.ret G (EV.or2 G.toGrOk (by walk_at "m_e") fun _ => EV.cmp G.toGrOk (EV.call G (cs := [.str o]) (by walk_at "m_e") (by walk_at "m_es") (P.kp 28) (c_normL P h.1).w) (EV.call G (cs := [.str t]) (by walk_at "m_e") (by walk_at "m_es") (P.kp 28) (c_normL P h.2).w) (Bin.eq_strs h1.1.2 h2.1.2)) rfl) G
theorem c_specM {t : Str} (h0 : g.hd = Option.none) (h : okMB t = true) : FN pw w g (n + 1) (.ref 308) [.acc C p l, .str t] (.tup ((spM t).map .bool)) := by
  have D := P.df 26
  refine FN.of_def P.G D (bind_plain (names := ["self", "value"]) rfl (by walk_at "m_b2")) Closed.nil (by walk_at "m_bnd") (fun l => ?_) rfl
  have P := P.mod g.V l g.hd
  have G := P.G
  simp only [okMB, Bool.and_eq_true, decide_eq_true_eq] at h
  obtain ⟨⟨⟨⟨⟨⟨⟨⟨⟨h1, h2⟩, h3⟩, h4⟩, h5⟩, h6⟩, h7⟩, h8⟩, h9⟩, h10⟩ := h
  have e : (spM t).map CV.bool = ((reSplit mimeCode 0 t).getD []).map fun (x : Str) => CV.bool (!decide (x = "*")) := by simp [spM, List.map_map, Function.comp_def]
  rw [e]
  refine EX.cons (EX1.ret G (EV.tuple_ne G P.t2 P.bm rfl h0 rfl (by decide +kernel) (by decide +kernel) (by kernel_rfl!) (by kernel_rfl!) rfl (by decide) (by walk_at "m_e") (EV.meth G (cs := [.str t]) (by walk_at "m_e") (Mth.re P.re1 (by rw [P.T]; decide) (by rw [P.T]; decide)) (by walk_at "m_es") Keep.builtin (FW.resplit G P.re1 (by rw [P.T]; decide) (by rw [P.T]; decide) h8 (getD_some (d := []) h7))) (by omega) ?_) rfl) G
  intro _ _; rfl
end
section
variable {prog : Program} {w : World} {g : Gr} (G : Gr2 g) {fi : FI} {n : Nat} {τ : Loc}
include G
theorem AS.two {x y : Str} {p1 p2 p3 : Pos} {k : Nat} {a b : Str} {τ₁ τ₂ : Loc} (d1 : Del x τ τ₁) (hx : fi.scope.names.lookup x = some .local ∨ (fi.mine = true ∧ fi.scope.names.lookup x = some .cell)) (np : x ≠ ("provided" : Str))
    (d2 : Del y ((x, .str a) :: τ₁) τ₂) (hy : fi.scope.names.lookup y = some .local ∨ (fi.mine = true ∧ fi.scope.names.lookup y = some .cell)) (npy : y ≠ ("provided" : Str)) : AS prog w g fi n τ (.Tuple [.Name x p1, .Name y p2] k p3) (.lst [.str a, .str b]) ((y, .str b) :: τ₂) :=
  AS.tuple (Parts.list G) (ASs.cons G (AS.name G d1 hx np) (ASs.cons G (AS.name G d2 hy npy) ASs.nil)) G
end
theorem take2 {l : List Str} (h : 2 ≤ l.length) : (l.map CV.str).take 2 = [.str (l.getD 0 ""), .str (l.getD 1 "")] := by
  match l, h with
  | a :: b :: r, _ => rfl
section
variable {w : World} {K : Frag} {g : Gr} (P : PW K g) {n : Nat} {C : Addr} {p : Bool} {l : List CV}
include P
theorem c_vmM {o t : Str} (h : okM o t) : FN pw w g (n + 2) (.ref 315) [.acc C p l, .str o, .str t] (.bool (vmM o t)) := by
  have D := P.df 27
  refine FN.of_def P.G D (bind_plain (names := ["self", "value", "item"]) rfl (by walk_at "m_b3")) Closed.nil (by walk_at "m_bnd") (fun l => ?_) rfl
  have P := P.mod g.V l g.hd
  have G := P.G
  obtain ⟨ho, ht, hw, hs⟩ := h
  have lo := ho
  have lt := ht
  simp only [okMB, Bool.and_eq_true, decide_eq_true_eq, Bool.or_eq_true, Bool.not_eq_true'] at ho ht
  obtain ⟨⟨⟨⟨⟨⟨⟨⟨⟨h1, h2⟩, h3⟩, h4⟩, h5⟩, h6⟩, h7⟩, h8⟩, h9⟩, h10⟩ := ho
  obtain ⟨⟨⟨⟨⟨⟨⟨⟨⟨i1, i2⟩, i3⟩, i4⟩, i5⟩, i6⟩, i7⟩, i8⟩, i9⟩, i10⟩ := ht
  have h2' : 2 ≤ (normM o).length := by
    rcases h10 with h | h
    · rw [hw] at h; cases h
    · exact h
  refine EX.cons (EX1.ite (z := !within "/" t) (by walk_at "m_t") (fun hz => ?_) (fun hz => ?_) G) G
  · refine EX.cons (EX1.ret G EV.bool ?_) G
    show CV.bool false = _
    rw [vmM, if_pos hz]
  refine EX.nil ?_
  have hw2 : within "/" t = true := by simpa using hz
  have i2' : 2 ≤ (normM t).length := by
    rcases i10 with h | h
    · rw [hw2] at h; cases h
    · exact h
  refine EX.cons (EX1.ite (z := !within "/" o) (by walk_at "m_t") (fun hz => absurd hz (by rw [hw]; decide)) (fun _ => ?_) G) G
  refine EX.nil ?_
  have e1 : ∀ x : Str, okMB x = true → 2 ≤ (normM x).length → True := fun _ _ _ => trivial
  refine EX.cons (EX1.assign G (c := strsC (normM o)) (EV.call G (cs := [.str o]) (by walk_at "m_e") (by walk_at "m_es") (P.kp 25) (c_normM P lo).w) (by walk_at "m_del") (by walk_at "m_kind") (by walk_at "m_ne") ?_) G
  refine EX.cons (EX1.assign_tuple G (c := .lst [.str ((normM o).getD 0 ""), .str ((normM o).getD 1 "")]) ?_ (AS.two G (by walk_at "m_del") (by walk_at "m_kind") (by walk_at "m_ne") (by walk_at "m_del") (by walk_at "m_kind") (by walk_at "m_ne")) ?_) G
  · rw [← take2 h2']
    exact EV.upto (k := 2) G (by walk_at "m_e") EV.int (by rw [List.length_map]; omega)
  refine EX.cons (EX1.assign G (c := srtC ((normM o).drop 2)) (EV.sorted2 G (by walk_at "m_e") (by walk_at "m_e") h3) (by walk_at "m_del") (by walk_at "m_kind") (by walk_at "m_ne") ?_) G
  refine EX.cons (EX1.ite (z := false) ?_ (fun h => nomatch h) (fun _ => ?_) G) G
  · rw [← hs]
    exact ET.op G.toGrOk (EA.and_cons G.toGrOk (by walk_at "m_t") fun _ => EA.and_cons G.toGrOk (by walk_at "m_t") fun _ => EA.and_nil G.toGrOk)
  refine EX.nil ?_
  refine EX.cons (EX1.assign G (c := strsC (normM t)) (EV.call G (cs := [.str t]) (by walk_at "m_e") (by walk_at "m_es") (P.kp 25) (c_normM P lt).w) (by walk_at "m_del") (by walk_at "m_kind") (by walk_at "m_ne") ?_) G
  refine EX.cons (EX1.assign_tuple G (c := .lst [.str ((normM t).getD 0 ""), .str ((normM t).getD 1 "")]) ?_ (AS.two G (by walk_at "m_del") (by walk_at "m_kind") (by walk_at "m_ne") (by walk_at "m_del") (by walk_at "m_kind") (by walk_at "m_ne")) ?_) G
  · rw [← take2 i2']
    exact EV.upto (k := 2) G (by walk_at "m_e") EV.int (by rw [List.length_map]; omega)
  refine EX.cons (EX1.assign G (c := srtC ((normM t).drop 2)) (EV.sorted2 G (by walk_at "m_e") (by walk_at "m_e") i3) (by walk_at "m_del") (by walk_at "m_kind") (by walk_at "m_ne") ?_) G
  refine EX.cons (EX1.ite (ET.op G.toGrOk (EA.and_cons G.toGrOk (by walk_at "m_t") fun _ => EA.and_cons G.toGrOk (by walk_at "m_t") fun _ => EA.and_nil G.toGrOk)) (fun hz => ?_) (fun hz => ?_) G) G
  · refine EX.cons (EX1.ret G EV.bool ?_) G
    show CV.bool false = _
    rw [vmM, if_neg (by rw [hw2]; decide), if_pos hz]
  refine EX.nil ?_
  refine EX.cons (EX1.ret G (c := .bool (vmM o t)) ?_ rfl) G
  rw [vmM, if_neg (by rw [hw2]; decide), if_neg (by rw [hz]; decide)]
  refine EV.bools (EBs.or G.toGrOk (EV.bools (EBs.or G.toGrOk (EV.bools (EBs.and G.toGrOk (by walk_at "m_e") fun _ => EBs.one (by walk_at "m_e"))) fun _ => EBs.one (EV.bools (EBs.and G.toGrOk (by walk_at "m_e") fun _ => EBs.one (by walk_at "m_e"))))) fun _ => EBs.one ?_)
  refine EV.bools (EBs.and G.toGrOk (by walk_at "m_e") fun _ => EBs.one (EV.bools (EBs.or G.toGrOk (by walk_at "m_e") fun _ => EBs.or G.toGrOk (by walk_at "m_e") fun _ => EBs.one ?_)))
  exact EV.bools (EBs.and G.toGrOk (by walk_at "m_e") fun _ => EBs.one (EV.cmp G.toGrOk (by walk_at "m_e") (by walk_at "m_e") (Bin.eq_dat i4 h4 i5 h5)))
end
theorem PW.at_ {K : Frag} {g : Gr} (P : PW K g) {s : Shared} (a : At g s) {b : Addr} {o : Obj} (hb : b ∉ ([172, 303, 375] : List Addr)) (e : g.hB.get? b = some o) : s.heap.get? b = some o := a.keep b o (by rw [P.T]; exact hb) e
def bqOf : Option (Int × List Bool) → Int
  | none => -1
  | some m => m.1
def bsC : Option (Int × List Bool) → CV
  | none => .tup [.int (-1)]
  | some m => .tup (m.2.map .bool)
def gtS (a : List Bool) : Option (Int × List Bool) → Bool
  | none => false
  | some m => ordB .Gt a m.2
def bmStep (vm : Str → Str → Bool) (sp : Str → List Bool) (rows : List (Str × Int)) (st : Option Str × Option (Int × List Bool)) (o : Str) : Option Str × Option (Int × List Bool) := match hit vm rows o with
  | none => st
  | some r => if (decide (r.2 ≤ 0) || (decide (r.2 < bqOf st.2) || false)) = true then st else if (decide (r.2 > bqOf st.2) || (gtS (sp r.1) st.2 || false)) = true then (some o, some (r.2, sp r.1)) else st
def bestMF (vm : Str → Str → Bool) (sp : Str → List Bool) (rows : List (Str × Int)) (offers : List Str) (d : Option Str) : Option Str := (offers.foldl (bmStep vm sp rows) (d, none)).1
theorem Tru.hitC {prog : Program} {w : World} {g : Gr} {n : Nat} (G : GrOk g) (o : Option (Str × Int)) : Tru prog w g n (hitC o) o.isSome := by
  cases o with
  | none => exact Tru.none
  | some r => exact Tru.tup (l := [.str r.1, .int r.2]) (by simp) G
section
variable {w : World} {K : Frag} {g : Gr} (P : PW K g) {n : Nat} {C f f2 : Addr} {i i2 : Nat} {ok : Str → Str → Prop} {ok2 : Str → Prop} {vm : Str → Str → Bool} {sp : Str → List Bool} {p : Bool} {rows : List (Str × Int)} {offers : List Str} {d : Option Str} (hC : C ∈ Cs)
include P hC
theorem e_bm (M : VM K w n g.hd C f i ok vm) (S : SPC K w (n + 1) g.hd C f2 i2 ok2 sp) (h : ∀ r ∈ rows, ∀ o ∈ offers, ok o r.1) (h2 : ∀ r ∈ rows, ok2 r.1) (l : List Env) :
    EX pw w { g with fr := l } (fiOf (meth 8 13) "Accept.best_match" 269 (.ref 268)) (n + 1) [("default", optC d), ("matches", strsC offers), ("self", .acc C p (rows.map rowC))] (bodyOf (meth 8 13)) (Ends (optC (bestMF vm sp rows offers d))) := by
  have P := P.mod g.V l g.hd
  have G := P.G
  refine EX.cons (EX1.assign G (c := optC d) (by walk_at "m_e") (by walk_at "m_del") (by walk_at "m_kind") (by walk_at "m_ne") ?_) G
  refine EX.cons (EX1.assign G (c := .int (-1)) (EV.un G.toGrOk EV.int Un.neg_int) (by walk_at "m_del") (by walk_at "m_kind") (by walk_at "m_ne") ?_) G
  refine EX.cons (EX1.assign G (c := .tup [.int (-1)]) (EV.tuple G.toGrOk (EVs.cons G.toGrOk (EV.un G.toGrOk EV.int Un.neg_int) EVs.nil) (by simp)) (by walk_at "m_del") (by walk_at "m_kind") (by walk_at "m_ne") ?_) G
  refine EX.cons (EX1.for_ G (c := strsC offers) (by walk_at "m_e") (Over.list G) ?_) G
  refine Loop.ind (P := fun cs σ => ∃ (st : Option Str × Option (Int × List Bool)) (rest : List Str), (∀ q ∈ ([("best_specificity", bsC st.2), ("best_quality", .int (bqOf st.2)), ("result", optC st.1), ("self", .acc C p (rows.map rowC))] : Loc), q ∈ σ) ∧ cs = rest.map .str ∧ (rest.foldl (bmStep vm sp rows) st).1 = bestMF vm sp rows offers d ∧ (∀ o ∈ rest, o ∈ offers)) ?_ ?_ _ _ ⟨(d, none), offers, by walk_at "m_sub", rfl, rfl, fun _ h => h⟩
  · rintro σ ⟨st, rest, hb, hc, hf, _⟩
    cases rest with
    | cons _ _ => cases hc
    | nil =>
      refine EX.sub_ hb (EX.cons (EX1.ret G (by walk_at "m_e") ?_) G)
      show optC st.1 = _
      rw [← hf]; rfl
  · rintro c cs σ ⟨st, rest, hb, hc, hf, hm⟩
    cases rest with
    | nil => cases hc
    | cons o rest =>
      cases hc
      refine ⟨_, AS.sub_ hb (AS.name G (by walk_at "m_del") (by walk_at "m_kind") (by walk_at "m_ne")), ?_⟩
      refine EX.cons (EX1.assign G (c := hitC (hit vm rows o)) (EV.meth G (cs := [.str o]) (by walk_at "m_e") (P.mth 22 hC (inm hC (by walk_at "m_mem")) rfl (by walk_at "m_ne")) (by walk_at "m_es") (P.kp 22) (c_bsm P hC M fun r hr => h r hr o (hm o (.head _))).w) (by walk_at "m_del") (by walk_at "m_kind") (by walk_at "m_ne") ?_) G
      refine EX.cons (EX1.ite (z := !(hit vm rows o).isSome) (ET.not G.toGrOk (ET.val G.toGrOk (by walk_at "m_e") (Tru.hitC G.toGrOk _))) (fun hz => ?_) (fun hz => ?_) G) G
      · have e : hit vm rows o = none := by cases e : hit vm rows o with | none => rfl | some r => rw [e] at hz; cases hz
        refine EX.cons (EX1.cont ?_) G
        refine ⟨st, rest, by walk_at "m_sub", rfl, ?_, fun x hx => hm x (.tail _ hx)⟩
        rw [← hf, List.foldl_cons]; congr 2; unfold bmStep; rw [e]
      · obtain ⟨r, e⟩ : ∃ r, hit vm rows o = some r := by cases e : hit vm rows o with | none => rw [e] at hz; cases hz | some r => exact ⟨r, rfl⟩
        have hr : r ∈ rows := List.mem_of_find?_eq_some e
        refine EX.nil ?_
        rw [e]
        have hst : bmStep vm sp rows st o = if (decide (r.2 ≤ 0) || (decide (r.2 < bqOf st.2) || false)) = true then st else if (decide (r.2 > bqOf st.2) || (gtS (sp r.1) st.2 || false)) = true then (some o, some (r.2, sp r.1)) else st := by unfold bmStep; rw [e]
        refine EX.cons (EX1.assign_tuple G (c := rowC r) (by walk_at "m_e") (AS.row G (by walk_at "m_del") (by walk_at "m_kind") (by walk_at "m_ne") (by walk_at "m_del") (by walk_at "m_kind") (by walk_at "m_ne")) ?_) G
        refine EX.cons (EX1.assign G (c := .tup ((sp r.1).map .bool)) (EV.meth G (cs := [.str r.1]) (by walk_at "m_e") (P.mth i2 hC S.mem S.ix (by walk_at "m_ne")) (by walk_at "m_es") (P.kp i2 S.ix) (S.run _ P rfl p _ r.1 (h2 r hr)).w) (by walk_at "m_del") (by walk_at "m_kind") (by walk_at "m_ne") ?_) G
        refine EX.cons (EX1.ite (ET.op G.toGrOk (EA.or_cons G.toGrOk (b := decide (r.2 ≤ 0)) (by walk_at "m_t") fun _ => EA.or_cons G.toGrOk (b := decide (r.2 < bqOf st.2)) (by walk_at "m_t") fun _ => EA.or_nil G.toGrOk)) (fun hz => ?_) (fun hz => ?_) G) G
        · refine EX.cons (EX1.cont ?_) G
          refine ⟨st, rest, by walk_at "m_sub", rfl, ?_, fun x hx => hm x (.tail _ hx)⟩
          rw [← hf, List.foldl_cons, hst, if_pos hz]
        · refine EX.nil ?_
          have hq : 0 < r.2 := by simp only [Bool.or_eq_false_iff, decide_eq_false_iff_not] at hz; omega
          refine EX.cons (EX1.ite (ET.op G.toGrOk (EA.or_cons G.toGrOk (b := decide (r.2 > bqOf st.2)) (by walk_at "m_t") fun hg => EA.or_cons G.toGrOk (b := gtS (sp r.1) st.2) ?_ fun _ => EA.or_nil G.toGrOk)) (fun hz2 => ?_) (fun hz2 => ?_) G) G
          · obtain ⟨res, mk⟩ := st
            cases mk with
            | none => have hg := of_decide_eq_false hg; simp only [bqOf] at hg; omega
            | some m => exact ET.cmp G.toGrOk (a := .tup ((sp r.1).map .bool)) (b := .tup (m.2.map .bool)) (by walk_at "m_e") (by walk_at "m_e") (Bin.rc (rc_bools (.inr (.inl rfl)) _ _) (by decide) (.inr (.inl rfl)))
          · refine EX.cons (EX1.assign G (c := optC (some o)) (by walk_at "m_e") (by walk_at "m_del") (by walk_at "m_kind") (by walk_at "m_ne") ?_) G
            refine EX.cons (EX1.assign G (c := .int (bqOf (some (r.2, sp r.1)))) (by walk_at "m_e") (by walk_at "m_del") (by walk_at "m_kind") (by walk_at "m_ne") ?_) G
            refine EX.cons (EX1.assign G (c := bsC (some (r.2, sp r.1))) (by walk_at "m_e") (by walk_at "m_del") (by walk_at "m_kind") (by walk_at "m_ne") ?_) G
            refine EX.nil (EX.nil ⟨(some o, some (r.2, sp r.1)), rest, by walk_at "m_sub", rfl, ?_, fun x hx => hm x (.tail _ hx)⟩)
            rw [← hf, List.foldl_cons, hst, if_neg (by rw [hz]; decide), if_pos hz2]
          · refine EX.nil (EX.nil ⟨st, rest, by walk_at "m_sub", rfl, ?_, fun x hx => hm x (.tail _ hx)⟩)
            rw [← hf, List.foldl_cons, hst, if_neg (by rw [hz]; decide), if_neg (by rw [hz2]; decide)]
theorem c_bm3 (M : VM K w n g.hd C f i ok vm) (S : SPC K w (n + 1) g.hd C f2 i2 ok2 sp) (h : ∀ r ∈ rows, ∀ o ∈ offers, ok o r.1) (h2 : ∀ r ∈ rows, ok2 r.1) : FN pw w g (n + 2) (.ref 269) [.acc C p (rows.map rowC), strsC offers, optC d] (optC (bestMF vm sp rows offers d)) := by
  have D := P.df 23
  refine FN.of_def (cb := [("self", .acc C p (rows.map rowC)), ("matches", strsC offers), ("default", optC d)]) P.G D (fun fd h1 h2 s vs a r => ?_) Closed.nil (by walk_at "m_bnd") (fun l => e_bm P hC M S h h2 l) rfl
  obtain ⟨v, _, rfl, r1, u, _, rfl, r2, t, _, rfl, r3, rfl⟩ := r
  obtain ⟨m, e⟩ := P.dv1
  cases fd
  dsimp only at h1 h2
  subst h1 h2
  exact ⟨[("self", v), ("matches", u), ("default", t)], BindsTo.of_defaults rfl (P.at_ a (by decide) e) rfl rfl rfl, .cons r1 (.cons r2 (.cons r3 .nil))⟩
theorem c_bm2 (M : VM K w n g.hd C f i ok vm) (S : SPC K w (n + 1) g.hd C f2 i2 ok2 sp) (h : ∀ r ∈ rows, ∀ o ∈ offers, ok o r.1) (h2 : ∀ r ∈ rows, ok2 r.1) : FN pw w g (n + 2) (.ref 269) [.acc C p (rows.map rowC), strsC offers] (optC (bestMF vm sp rows offers none)) := by
  have D := P.df 23
  refine FN.of_def (cb := [("self", .acc C p (rows.map rowC)), ("matches", strsC offers), ("default", .none)]) P.G D (fun fd h1 h2 s vs a r => ?_) Closed.nil (by walk_at "m_bnd") (fun l => e_bm (d := none) P hC M S h h2 l) rfl
  obtain ⟨v, _, rfl, r1, u, _, rfl, r2, rfl⟩ := r
  obtain ⟨m, e⟩ := P.dv1
  cases fd
  dsimp only at h1 h2
  subst h1 h2
  exact ⟨[("self", v), ("matches", u), ("default", .none)], BindsTo.of_defaults rfl (P.at_ a (by decide) e) rfl rfl rfl, .cons r1 (.cons r2 (.cons rfl .nil))⟩
end
theorem joinOk_of {sep : Str} {l : List Str} (hs : sep.length ≤ 5) (hl : l.length ≤ 20) (h : ∀ x ∈ l, x.length ≤ 400) : JoinOk sep l = true := by
  have key : ∀ (l : List Str) (a : Nat), (∀ x ∈ l, x.length ≤ 400) → l.foldl (fun a x => a + x.length + sep.length) a ≤ a + 405 * l.length := by
    intro l
    induction l with
    | nil => intro a _; simp
    | cons x l ih =>
      intro a hx
      have := ih (a + x.length + sep.length) fun y hy => hx y (.tail _ hy)
      have h1 := hx x (.head _)
      simp only [List.foldl_cons, List.length_cons]
      omega
  have hk := key l 0 h
  unfold JoinOk tooLong
  rw [List.foldl_toArray]
  have : ¬ (l.foldl (fun a x => a + x.length + sep.length) 0 > sizeLine) := by
    have h2 : (20000 : Nat) ≤ sizeLine := by decide +kernel
    omega
  simpa using this
theorem LoopA.ind {prog : Program} {w : World} {g : Gr} {fi : FI} {n : Nat} {rn : Str} {D : Addr} {target e : Expr} {st0 : Stmt} {Φ : List CV → Loc → Prop} (P : List CV → List CV → Loc → Prop) (h0 : ∀ done σ, P [] done σ → (rn, CV.raw (.ref D)) ∈ σ ∧ Φ done σ)
    (h1 : ∀ c cs done σ, P (c :: cs) done σ → ∃ σ₁, AS prog w g fi n σ target c σ₁ ∧ EX1 prog w g fi n σ₁ st0 (fun af => match af with
      | .next σ₂ => ∃ d, EV prog w g fi n σ₂ e d ∧ (rn, CV.raw (.ref D)) ∈ σ₂ ∧ P cs (done ++ [d]) σ₂
      | _ => False)) : ∀ (cs done : List CV) (σ : Loc), P cs done σ → LoopA prog w g fi n rn D target st0 e Φ cs done σ
  | [], done, σ, p => h0 done σ p
  | c :: cs, done, σ, p => by
    obtain ⟨σ₁, a, b⟩ := h1 c cs done σ p
    refine ⟨σ₁, a, EX1.mono b fun af h => ?_⟩
    cases af with
    | next σ₂ => obtain ⟨d, e, m, q⟩ := h; exact ⟨d, e, m, LoopA.ind P h0 h1 cs _ _ q⟩
    | ret c => exact h
    | exc T => exact h
    | brk σ => exact h
    | cont σ => exact h
def hdr1 (r : Str × Int) : Str := if r.2 = 1 then r.1 else ((Str.empty ++ r.1) ++ ";q=") ++ Str.ofString (toString r.2)
def hdrF (rows : List (Str × Int)) : Str := Txt.join "," (rows.map hdr1)
section
variable {w : World} {K : Frag} {g : Gr} (P : PW K g) {n : Nat} {C : Addr} {p : Bool} {rows : List (Str × Int)} (hC : C ∈ Cs)
include P hC
theorem c_hdr (hl : rows.length ≤ 20) (h1 : ∀ r ∈ rows, okT r.1 = true) (h2 : ∀ r ∈ rows, r.2.natAbs.log2 < 1920) (h3 : ∀ r ∈ rows, (hdr1 r).length ≤ 400) : FN pw w g (n + 1) (.ref 247) [.acc C p (rows.map rowC)] (.str (hdrF rows)) := by
  have D := P.df 21
  refine FN.of_def P.G D (bind_plain (names := ["self"]) rfl (by walk_at "m_b1")) Closed.nil (by walk_at "m_bnd") (fun l => ?_) rfl
  have P := P.mod g.V l g.hd
  have G := P.G
  refine EX.appLoop G (rn := "result") (cs := rows.map rowC) (Ψ := fun done σ₂ => done = rows.map fun r => .str (hdr1 r)) (by walk_at "m_del") (by kernel_rfl!) (by walk_at "m_ne") (by decide) (by decide) (by rw [List.length_map]; omega) (fun D => ?_) (fun D => ?_) (fun done σ₂ hd => ?_) (fun T h => h)
  · have P := P.mod (D :: g.V) l g.hd
    have G := P.G
    exact EO.of G (c := .acc C p (rows.map rowC)) (by walk_at "m_e") (SeqIt.over G (SeqIt.acc P.k (P.kf.acc C hC)))
  · have P := P.mod (D :: g.V) l g.hd
    have G := P.G
    refine LoopA.ind (P := fun cs done σ => ∃ (rest dn : List (Str × Int)), cs = rest.map rowC ∧ done = (dn.map fun r => CV.str (hdr1 r)) ∧ dn ++ rest = rows ∧ (("result" : Str), CV.raw (.ref D)) ∈ σ) ?_ ?_ _ _ _ ⟨rows, [], rfl, rfl, rfl, by walk_at "m_mem"⟩
    · rintro done σ ⟨rest, dn, hc, rfl, e, hr⟩
      cases rest with
      | cons _ _ => cases hc
      | nil => rw [List.append_nil] at e; exact ⟨hr, by rw [e]⟩
    · rintro c cs done σ ⟨rest, dn, hc, rfl, e, hr⟩
      cases rest with
      | nil => cases hc
      | cons r rest =>
        cases hc
        have hm : r ∈ rows := by rw [← e]; simp
        have hs : ∀ q ∈ ([("result", CV.raw (.ref D))] : Loc), q ∈ σ := fun q hq => by rw [List.mem_singleton] at hq; rw [hq]; exact hr
        refine ⟨_, AS.sub_ hs (AS.row G (by walk_at "m_del") (by walk_at "m_kind") (by walk_at "m_ne") (by walk_at "m_del") (by walk_at "m_kind") (by walk_at "m_ne")), ?_⟩
        have e2 : dn ++ [r] ++ rest = rows := by rw [← e]; simp
        have e3 : ((dn.map fun r => CV.str (hdr1 r)) ++ [CV.str (hdr1 r)]) = ((dn ++ [r]).map fun r => CV.str (hdr1 r)) := by simp
        refine EX1.ite (z := r.2 != 1) (by walk_at "m_t") (fun hz => ?_) (fun hz => ?_) G
        · have hne : r.2 ≠ 1 := by simpa using hz
          have eh : hdr1 r = ((Str.empty ++ r.1) ++ ";q=") ++ Str.ofString (toString r.2) := if_neg hne
          have hb : ((Str.empty ++ r.1) ++ ";q=" ++ Str.ofString (toString r.2)).length ≤ 400 := by rw [← eh]; exact h3 r hm
          have l1 := hb
          rw [Str.length_append, Str.length_append] at l1
          have h4 : (400 : Nat) ≤ sizeLine := by decide +kernel
          have ht := h1 r hm
          simp only [okT, Bool.and_eq_true, decide_eq_true_eq] at ht
          obtain ⟨⟨⟨⟨⟨⟨⟨⟨ht, _⟩, _⟩, _⟩, _⟩, _⟩, _⟩, _⟩, _⟩ := ht
          refine EX.cons (EX1.assign G (c := .str (hdr1 r)) (EV.joined (EJ.cons G.toGrOk (EV.fmt_str G.toGrOk (x := r.1) (by walk_at "m_e") (by omega)) ?_ (EJ.cons G.toGrOk EV.str ?_ (EJ.cons G.toGrOk (EV.fmt_int G.toGrOk (i := r.2) (by walk_at "m_e") (h2 r hm)) ?_ ?_)))) (by walk_at "m_del") (by walk_at "m_kind") (by walk_at "m_ne") ?_) G
          · omega
          · rw [Str.length_append]; omega
          · omega
          · rw [eh]; exact EJ.nil (by omega)
          · refine EX.nil ⟨.str (hdr1 r), by walk_at "m_e", by walk_at "m_mem", rest, dn ++ [r], rfl, e3, e2, by walk_at "m_mem"⟩
        · have he : r.2 = 1 := by simpa using hz
          have eh : hdr1 r = r.1 := if_pos he
          refine EX.nil ⟨.str (hdr1 r), by rw [eh]; walk_at "m_e", by walk_at "m_mem", rest, dn ++ [r], rfl, e3, e2, by walk_at "m_mem"⟩
  · subst hd
    have e : CV.lst (rows.map fun r => .str (hdr1 r)) = strsC (rows.map hdr1) := by simp [List.map_map, Function.comp_def]
    refine ⟨[], fun _ h => (nomatch h), ?_⟩
    rw [e]
    refine EX.cons (EX1.ret G (EV.meth G (cs := [strsC (rows.map hdr1)]) EV.str (Mth.str F.slot_str_join) (by walk_at "m_es") Keep.builtin (FW.join (joinOk_of (by decide) (by rw [List.length_map]; omega) fun x hx => ?_))) rfl) G
    obtain ⟨r, hr, rfl⟩ := List.mem_map.mp hx
    exact h3 r hr
end
theorem PW.supK1 {K : Frag} {g : Gr} (P : PW K g) : SupK pw g K (fiOf (meth 8 0) "Accept.__init__" 177 (.ref 176)) "self" 177 cA := by
  obtain ⟨fd, D, e1, e2, e3, e4, e5, e6⟩ := (P.df 12).ex
  obtain ⟨o, ho, hd⟩ := D.obj
  refine ⟨rfl, ⟨o, fd, _, ho, hd, by rw [e1]; rfl, rfl⟩, ?_, by kernel_rfl!, by kernel_rfl!, by kernel_rfl!, (P.bl ("super", .type "super") (by walk_at "m_mem")).1, (P.bl ("super", .type "super") (by walk_at "m_mem")).2, P.kf.clsD cA (.head _)⟩
  obtain ⟨oc, vs, file, tf, h1, h2, h3, h4⟩ := P.sup (177, 176) (.head _)
  exact ⟨176, oc, vs, file, tf, rfl, by rw [P.T]; decide, h1, h2, h3, h4⟩
theorem PW.supK2 {K : Frag} {g : Gr} (P : PW K g) : SupK pw g K (fiOf (meth 14 1) "LanguageAccept.best_match" 378 (.ref 377)) "self" 378 cL := by
  obtain ⟨fd, D, e1, e2, e3, e4, e5, e6⟩ := (P.df 30).ex
  obtain ⟨o, ho, hd⟩ := D.obj
  refine ⟨rfl, ⟨o, fd, _, ho, hd, by rw [e1]; rfl, rfl⟩, ?_, by kernel_rfl!, by kernel_rfl!, by kernel_rfl!, (P.bl ("super", .type "super") (by walk_at "m_mem")).1, (P.bl ("super", .type "super") (by walk_at "m_mem")).2, P.kf.clsD cL (.tail _ (.head _))⟩
  obtain ⟨oc, vs, file, tf, h1, h2, h3, h4⟩ := P.sup (378, 377) (.tail _ (.head _))
  exact ⟨377, oc, vs, file, tf, rfl, by rw [P.T]; decide, h1, h2, h3, h4⟩
/-- the key of a row -/
def kfC (sp : Str → List Bool) : CV → CV
  | .tup [.str t, .int q] => keyC (sp t, q)
  | _ => .none
def srtC2 (sp : Str → List Bool) (rows : List (Str × Int)) : List CV := sortedC true ltK ((rows.map rowC).map (kfC sp)) (rows.map rowC)
def kall {α : Type} (p : α → Bool) : KasT α → Bool
  | .ret a => p a
  | .ask _ _ k => kall p (k true) && kall p (k false)
theorem kall_run {α : Type} {p : α → Bool} {lt : Nat → Nat → Bool} : ∀ (t : KasT α), kall p t = true → p (krun lt t) = true
  | .ret a, h => h
  | .ask i j k, h => by
    simp only [kall, Bool.and_eq_true] at h
    show p (krun lt (k (lt i j))) = true
    cases lt i j
    · exact kall_run _ h.2
    · exact kall_run _ h.1
theorem kall_5 : ∀ n ∈ [2, 3, 4, 5], kall (fun a : Array Nat => a.toList.all (· < n) && a.size == n) (kas_sort n) = true := by decide +kernel
theorem perm_ok {n : Nat} (h : n ≤ 5) (lt : Nat → Nat → Bool) : (∀ i ∈ sortPerm n lt, i < n) ∧ (sortPerm n lt).length = n := by
  unfold sortPerm
  split
  · exact ⟨fun i hi => List.mem_range.mp hi, List.length_range⟩
  · have := kall_run (lt := lt) _ (kall_5 n (by simp only [List.mem_cons, List.not_mem_nil, or_false]; omega))
    simp only [Bool.and_eq_true, List.all_eq_true, decide_eq_true_eq, beq_iff_eq] at this
    exact ⟨this.1, by rw [Array.length_toList]; exact this.2⟩
def srtF (sp : Str → List Bool) (rows : List (Str × Int)) : List (Str × Int) :=
  katRev true ((sortPerm rows.length fun i j => ltK ((katRev true ((rows.map rowC).map (kfC sp))).getD i .none) ((katRev true ((rows.map rowC).map (kfC sp))).getD j .none)).map fun i => (katRev true rows).getD i ("", 0))
theorem srtC2_eq {sp : Str → List Bool} {rows : List (Str × Int)} (h : rows.length ≤ 5) : srtC2 sp rows = (srtF sp rows).map rowC := by
  have hl : (rows.map rowC).length = rows.length := List.length_map ..
  unfold srtC2 sortedC srtF
  rw [hl]
  generalize hp : (sortPerm rows.length fun i j => ltK ((katRev true ((rows.map rowC).map (kfC sp))).getD i .none) ((katRev true ((rows.map rowC).map (kfC sp))).getD j .none)) = perm
  have hlt : ∀ i ∈ perm, i < rows.length := by rw [← hp]; exact (perm_ok h _).1
  show ((perm.map fun i => ((rows.map rowC).reverse).getD i .none)).reverse = ((perm.map fun i => rows.reverse.getD i ("", 0)).reverse).map rowC
  rw [List.map_reverse, List.map_map]
  congr 1
  refine List.map_congr_left fun i hi => ?_
  have h1 := hlt i hi
  have h2 : i < rows.reverse.length := by simpa using h1
  show (rows.map rowC).reverse.getD i .none = rowC (rows.reverse.getD i ("", 0))
  rw [← List.map_reverse, List.getD_eq_getElem?_getD, List.getD_eq_getElem?_getD, List.getElem?_map, List.getElem?_eq_getElem h2]
  rfl
theorem srtF_mem {sp : Str → List Bool} {rows : List (Str × Int)} (h : rows.length ≤ 5) {x : Str × Int} (hx : x ∈ srtF sp rows) : x ∈ rows := by
  have hx := rev_mem hx
  obtain ⟨i, hi, rfl⟩ := List.mem_map.mp hx
  have h1 := (perm_ok h _).1 i hi
  have h2 : i < rows.reverse.length := by simpa using h1
  show rows.reverse.getD i ("", 0) ∈ rows
  rw [List.getD_eq_getElem?_getD, List.getElem?_eq_getElem h2]
  exact List.mem_reverse.mp (List.getElem_mem h2)
theorem srtF_len {sp : Str → List Bool} {rows : List (Str × Int)} (h : rows.length ≤ 5) : (srtF sp rows).length = rows.length := by
  show (List.reverse _).length = _
  rw [List.length_reverse, List.length_map]
  exact (perm_ok h _).2
theorem PW.keepC {K : Frag} {g : Gr} (P : PW K g) {C : Addr} (hC : C ∈ Cs) {prog : Program} {w : World} : Keep prog w g (.ref C) := by
  rintro h ⟨s, a, rfl⟩
  exact keeps_K (P.kf.keepC C hC) s.heap (P.k.at a)
section
variable {w : World} {K : Frag} {g : Gr} (P : PW K g) {n : Nat} {C f2 : Addr} {i2 : Nat} {ok2 : Str → Prop} {sp : Str → List Bool} {rows : List (Str × Int)} (hC : C ∈ Cs)
include P hC
theorem initBind {arg : CV} : ∀ fd : FuncData, fd.params = parsOf (meth 8 0) → fd.defaults = .ref 169 → ∀ V x s vs, At (g.wV V) s → Rps V s.heap [arg] vs → ∃ bs, BindsTo s fd ⟨.ref x :: vs, []⟩ bs ∧ BndV V s.heap bs [("self", .raw (.ref x)), ("values", arg)] := by
  intro fd h1 h2 V x s vs a r
  obtain ⟨v, _, rfl, r1, rfl⟩ := r
  obtain ⟨m, e⟩ := P.dv0
  cases fd
  dsimp only at h1 h2
  subst h1 h2
  exact ⟨[("self", .ref x), ("values", v)], BindsTo.of_defaults rfl ((P.mod V g.fr g.hd).at_ a (by decide) e) rfl rfl rfl, .cons rfl (.cons r1 .nil)⟩
theorem INI.of_P {arg : CV} {p : Bool} {l : List CV} (h : ∀ x dx fr, SX pw w { g with V := x :: dx :: g.V, fr := fr } C x dx (fiOf (meth 8 0) "Accept.__init__" 177 (.ref 176)) n [("values", arg), ("self", .raw (.ref x)), ("__class__", .raw (.ref cA))] none [] (bodyOf (meth 8 0)) (some p) l) : INI pw w g (n + 1) C (.ref 177) [arg] p l := by
  obtain ⟨fd, D, e1, e2, e3, e4, e5, e6⟩ := (P.df 12).ex
  have hfi : FuncData.fi fd 177 = fiOf (meth 8 0) "Accept.__init__" 177 (.ref 176) := by rw [FuncData.fi, e2, e5, e6]
  refine INI.of_body (fd := fd) (σ₀ := [("__class__", .raw (.ref cA))]) (cb := fun x => [("self", .raw (.ref x)), ("values", arg)]) (σ := fun x => [("values", arg), ("self", .raw (.ref x)), ("__class__", .raw (.ref cA))]) P.G D (fun V => ?_) (initBind P hC fd e1 e4) (fun x => ?_) (fun x dx fr => ?_) (by rw [e2]; rfl)
  · rw [e2, e3]
    refine ⟨List.pairwise_singleton _ _, fun p hp => ?_, fun x hx c hm => ?_, fun p hp => ?_⟩
    · rcases List.mem_cons.mp hp with rfl | hp
      · exact ⟨_, P.cell1⟩
      · cases hp
    · rcases List.mem_cons.mp hm with e | hm
      · cases e
        exact absurd hx (by rw [show (scopeOf (meth 8 0)).names.lookup ("__class__" : Str) = some .free from by kernel_rfl!]; decide)
      · cases hm
    · rcases List.mem_cons.mp hp with rfl | hp
      · exact ⟨by kernel_rfl!, 163, .ref cA, fun n => by kernel_rfl!, P.cell1, rfl⟩
      · cases hp
  · rw [e2]
    walk_at "m_bnd"
  · rw [hfi]; exact h x dx fr
theorem i_none : INI pw w g (n + 2) C (.ref 177) [.none] false [] := by
  refine INI.of_P P hC (n := n + 1) fun x dx fr => ?_
  have P := P.mod (x :: dx :: g.V) fr g.hd
  have G := P.G
  refine SX.ite G (z := true) (ET.cmp G.toGrOk (by walk_at "m_e") (by walk_at "m_e") Bin.is_none) (fun _ => ?_) (fun h => nomatch h)
  refine SX.cons (SX1.init0 G P.k P.supK1 (P.kf.acc C hC) P.kf.op (by walk_at "m_mem") (by walk_at "m_mem") (P.kf.mroA C hC) (P.kf.supI C hC) (.inr (by kernel_rfl!))) ?_
  exact SX.cons (SX1.put G P.k (P.kf.under C hC) (P.kf.prov C hC) (P.kf.setA C hC) EV.bool (by walk_at "m_e")) (SX.nil)
theorem i_acc {C' : Addr} {b : Bool} {l : List CV} (hC' : C' ∈ Cs) (hl : l.length ≤ 1000) : INI pw w g (n + 2) C (.ref 177) [.acc C' b l] b l := by
  refine INI.of_P P hC (n := n + 1) fun x dx fr => ?_
  have P := P.mod (x :: dx :: g.V) fr g.hd
  have G := P.G
  refine SX.ite G (z := false) (ET.cmp G.toGrOk (by walk_at "m_e") (by walk_at "m_e") Bin.is_none) (fun h => nomatch h) (fun _ => ?_)
  refine SX.ite G (z := true) (ET.val G.toGrOk (EV.call G (cs := [.acc C' b l, .raw (.ref cA)]) (by walk_at "m_e") (by walk_at "m_es") Keep.builtin (FW.isi_acc P.k (P.kf.isiA C' hC'))) Tru.bool) (fun _ => ?_) (fun h => nomatch h)
  refine SX.cons (SX1.put G P.k (P.kf.under C hC) (P.kf.prov C hC) (P.kf.setA C hC) (EV.provided G.toGrOk P.k (C := C') (l := l) (P.kf.acc C' hC') (P.kf.prov C' hC') (by walk_at "m_e")) (by walk_at "m_e")) ?_
  exact SX.cons (SX1.init G P.k P.supK1 (P.kf.acc C hC) P.kf.op (by walk_at "m_mem") (by walk_at "m_mem") (P.kf.mroA C hC) (P.kf.supI C hC) (.inr (by kernel_rfl!)) (by walk_at "m_es") (Fill.acc G P.k (P.kf.acc C' hC') hl)) SX.nil
theorem i_rows0 (S : SPC K w n g.hd C f2 i2 ok2 sp) (hV : g.V = g.hd.toList) (h2 : ∀ r ∈ rows, ok2 r.1) (hs : ∀ r ∈ rows, PyData.strOk r.1 = true) (hl : rows.length ≤ 5) : INI pw w g (n + 4) C (.ref 177) [rowsC rows] true (srtC2 sp rows) := by
  refine INI.of_P P hC (n := n + 3) fun x dx fr => ?_
  have P := P.mod (x :: dx :: g.V) fr g.hd
  have G := P.G
  refine SX.ite G (z := false) (ET.cmp G.toGrOk (by walk_at "m_e") (by walk_at "m_e") Bin.is_none) (fun h => nomatch h) (fun _ => ?_)
  refine SX.ite G (z := false) (ET.val G.toGrOk (EV.call G (cs := [rowsC rows, .raw (.ref cA)]) (by walk_at "m_e") (by walk_at "m_es") Keep.builtin (FW.isi_list P.k P.kf.isiL)) Tru.bool) (fun h => nomatch h) (fun _ => ?_)
  refine SX.cons (SX1.put G P.k (P.kf.under C hC) (P.kf.prov C hC) (P.kf.setA C hC) EV.bool (by walk_at "m_e")) ?_
  refine SX.cons (SX1.sortKey G (xn := "x") (cs := rows.map rowC) (kf := kfC sp) (κ := tuples' false) (lt := ltK) P.t1 P.bm rfl (by rw [hV]) (by walk_at "m_e") (by walk_at "m_es") (by walk_at "m_mem") (by kernel_rfl!) (by kernel_rfl!) (by decide) (by decide) (by kernel_rfl!) (by kernel_rfl!) (by kernel_rfl!) ?_ (fun _ => rfl) ?_ (by rw [List.length_map]; exact hl) ?_ ?_ (by walk_at "m_del") (by kernel_rfl!) (by walk_at "m_ne")) ?_
  · intro fd h1 h2 v
    unfold bindArgs; rw [h1, h2]; rfl
  · intro c hc
    obtain ⟨r, hr, rfl⟩ := List.mem_map.mp hc
    show (PyData.strOk r.1 && (true && true)) = true
    rw [hs r hr]; rfl
  · intro g₂ X hhd f cd c hc
    obtain ⟨r, hr, rfl⟩ := List.mem_map.mp hc
    have P := P.ext X
    have G := P.G
    show EV _ _ _ _ _ _ _ (keyC (sp r.1, r.2))
    exact EV.tuple G.toGrOk (cs := [.tup ((sp r.1).map .bool), .int r.2]) (EVs.cons G.toGrOk (EV.meth G (cs := [.str r.1]) (by walk_at "m_e") (P.mth i2 hC S.mem S.ix (by walk_at "m_ne")) (EVs.cons G.toGrOk (EV.sub G (a := rowC r) (by walk_at "m_e") EV.int (Bin.tup_item (j := 0) (by decide) (by decide) rfl rfl)) EVs.nil) (P.kp i2 S.ix) (S.run _ P hhd true [] r.1 (h2 r hr)).w) (EVs.cons G.toGrOk (EV.sub G (a := rowC r) (by walk_at "m_e") EV.int (Bin.tup_item (j := 1) (by decide) (by decide) rfl rfl)) EVs.nil)) (by simp)
  · intro V
    have e : (rows.map rowC).map (kfC sp) = (rows.map fun r => (sp r.1, r.2)).map keyC := by rw [List.map_map, List.map_map]; rfl
    rw [e]; exact keys_ord
  · exact SX.cons (SX1.init G P.k P.supK1 (P.kf.acc C hC) P.kf.op (by walk_at "m_mem") (by walk_at "m_mem") (P.kf.mroA C hC) (P.kf.supI C hC) (.inr (by kernel_rfl!)) (by walk_at "m_es") (Fill.lst G (by
      show (srtC2 sp rows).length ≤ 1000
      rw [srtC2_eq hl, List.length_map, srtF_len hl]; omega))) SX.nil
theorem i_rows (S : SPC K w n g.hd C f2 i2 ok2 sp) (hV : g.V = g.hd.toList) (h2 : ∀ r ∈ rows, ok2 r.1) (hs : ∀ r ∈ rows, PyData.strOk r.1 = true) (hl : rows.length ≤ 5) : INI pw w g (n + 4) C (.ref 177) [rowsC rows] true ((srtF sp rows).map rowC) := by
  rw [← srtC2_eq hl]
  exact i_rows0 P hC S hV h2 hs hl
theorem FN.mk {arg : CV} {p : Bool} {l : List CV} (h : INI pw w g n C (.ref 177) [arg] p l) : FN pw w g (n + 1) (.ref C) [arg] (.acc C p l) :=
  FN.make P.G P.k (P.kf.makes C hC) (P.kf.find _ (inm hC (x := "__init__") (f := 177) (by walk_at "m_mem"))) (P.kf.ty (dT 177 (meth 8 0) "Accept.__init__" [("__class__", 163)] (.ref 169)) (List.mem_of_getElem? (i := 12) rfl)) (fun vs hl => by obtain ⟨a, rfl⟩ := len1 hl; exact ln_args1 _ _) h
end
def lp0 (x : Str) : Str := ((reSplit langCode 1 x).getD []).getD 0 ""
def fbR (rows : List (Str × Int)) : List (Str × Int) := rows.map fun r => (lp0 r.1, r.2)
def langF (rows : List (Str × Int)) (offers : List Str) (d : Option Str) : Option Str := match bestMF vmL spA rows offers none with
  | some b => some b
  | none => match bestMF vmA spA (srtF spA (fbR rows)) offers none with
    | some b => some b
    | none => match bestMF vmL spA rows (offers.map lp0) none with
      | some s => offers.find? fun o => Txt.startswith o s
      | none => d
def okSp (x : Str) : Bool := okLB x && (reSplit langCode 1 x).isSome && decide (1 ≤ ((reSplit langCode 1 x).getD []).length) && decide (x.cps.size ≤ 10000) && okLB (lp0 x)
theorem VM.A {K : Frag} {w : World} {n : Nat} {hd : Option Addr} : VM K w (n + 1) hd cA 191 14 okA vmA := ⟨by walk_at "m_vmem", rfl, fun _ P _ _ _ _ _ h => c_vmA P h⟩
theorem VM.L {K : Frag} {w : World} {n : Nat} {hd : Option Addr} : VM K w (n + 2) hd cL 371 29 okL vmL := ⟨by walk_at "m_vmem", rfl, fun _ P _ _ _ _ _ h => c_vmL P h⟩
theorem VM.M {K : Frag} {w : World} {n : Nat} {hd : Option Addr} : VM K w (n + 2) hd cM 315 27 okM vmM := ⟨by walk_at "m_vmem", rfl, fun _ P _ _ _ _ _ h => c_vmM P h⟩
theorem SPC.A {K : Frag} {w : World} {n : Nat} {hd : Option Addr} : SPC K w (n + 1) hd cA 184 13 (fun _ => True) spA := ⟨by walk_at "m_vmem", rfl, fun _ P _ _ _ _ _ => c_specA P⟩
theorem SPC.L {K : Frag} {w : World} {n : Nat} {hd : Option Addr} : SPC K w (n + 1) hd cL 184 13 (fun _ => True) spA := ⟨by walk_at "m_vmem", rfl, fun _ P _ _ _ _ _ => c_specA P⟩
theorem SPC.M {K : Frag} {w : World} {n : Nat} : SPC K w (n + 1) Option.none cM 308 26 (fun t => okMB t = true) spM := ⟨by walk_at "m_vmem", rfl, fun _ P h0 _ _ _ h => c_specM P h0 h⟩
theorem hAC : cA ∈ Cs := .head _
theorem hMC : cM ∈ Cs := .tail _ (.head _)
theorem hLC : cL ∈ Cs := .tail _ (.tail _ (.head _))
section
variable {prog : Program} {w : World} {g : Gr} (G : Gr2 g) {fi : FI} {n : Nat} {τ : Loc}
include G
theorem CompOk.mapRow1 {x : Str} {pos : Pos} {elt : Expr} {f : Str × Int → CV} (hx : fi.scope.names.lookup x = some .local) (np : x ≠ ("provided" : Str)) (d : Del x τ τ) : ∀ rows : List (Str × Int), (∀ r ∈ rows, EV prog w g fi n ((x, rowC r) :: τ) elt (f r)) → CompOk prog w g fi n τ (.Name x pos) [] elt (rows.map rowC) (rows.map f)
  | [], _ => rfl
  | c :: cs, h => ⟨_, true, AS.name G d (.inl hx) np, fun _ hp => .tail _ hp, EIfs.nil, fun _ => ⟨_, _, rfl, h c (.head _), CompOk.mapRow1 hx np d cs fun c hc => h c (.tail _ hc)⟩, fun h => nomatch h⟩
end
theorem lp0_at {x : Str} (h : 1 ≤ ((reSplit langCode 1 x).getD []).length) : (((reSplit langCode 1 x).getD []).map CV.str)[(0 : Int).toNat]? = some (.str (lp0 x)) := getD_of (by omega)
theorem okSp.a {x : Str} (h : okSp x = true) : okLB x = true ∧ (reSplit langCode 1 x).isSome = true ∧ 1 ≤ ((reSplit langCode 1 x).getD []).length ∧ x.cps.size ≤ 10000 ∧ okLB (lp0 x) = true := by
  simp only [okSp, Bool.and_eq_true, decide_eq_true_eq] at h
  exact ⟨h.1.1.1.1, h.1.1.1.2, h.1.1.2, h.1.2, h.2⟩
theorem okLB.t {x : Str} (h : okLB x = true) : okT x = true := by
  simp only [okLB, Bool.and_eq_true, decide_eq_true_eq] at h; exact h.1.1.1
section
variable {w : World} {K : Frag} {g : Gr} (P : PW K g) {n : Nat} {p : Bool} {rows : List (Str × Int)} {offers : List Str} {d : Option Str}
include P
theorem e_bmL (h0 : g.hd = Option.none) (hV : g.V = []) (hl : rows.length ≤ 5) (ho : offers.length ≤ 100) (hr : ∀ r ∈ rows, okSp r.1 = true) (hof : ∀ o ∈ offers, okSp o = true)
    (hsw : ∀ s, bestMF vmL spA rows (offers.map lp0) none = some s → (offers.find? fun o => Txt.startswith o s).isSome = true) (l : List Env) :
    EXt pw w { g with fr := l } (fiOf (meth 14 1) "LanguageAccept.best_match" 378 (.ref 377)) (n + 6) [("default", optC d), ("matches", strsC offers), ("self", .acc cL p (rows.map rowC)), ("__class__", .raw (.ref cL))] (bodyOf (meth 14 1)) (Ends (optC (langF rows offers d))) := by
  have P := P.mod g.V l g.hd
  have G := P.G
  have ne : NoExc (Ends (optC (langF rows offers d))) := fun T h => h
  have ne2 : ∀ {Ψ : Loc → Prop}, NoExc (fun af => match af with | .next σ' => Ψ σ' | af => Ends (optC (langF rows offers d)) af) := fun T h => h
  have okR : ∀ r ∈ rows, ∀ o ∈ offers, okL o r.1 := fun r h1 o h2 => ⟨(okSp.a (hof o h2)).1, (okSp.a (hr r h1)).1⟩
  have okR2 : ∀ r ∈ rows, ∀ o ∈ offers.map lp0, okL o r.1 := fun r h1 o h2 => by
    obtain ⟨q, hq, rfl⟩ := List.mem_map.mp h2
    exact ⟨(okSp.a (hof q hq)).2.2.2.2, (okSp.a (hr r h1)).1⟩
  refine EXt.cons (EXt1.super_ G P.k (c := optC (bestMF vmL spA rows offers none)) (cs := [strsC offers]) P.supK2 (P.kf.acc cL hLC) P.kf.op (by walk_at "m_mem") (by walk_at "m_mem") P.kf.mroL P.kf.supB (P.kf.ty (dT 269 (meth 8 13) "Accept.best_match" [] (Value.ref 262)) (List.mem_of_getElem? (i := 23) rfl)) (P.kf.fnIn (dT 269 (meth 8 13) "Accept.best_match" [] (Value.ref 262)) (List.mem_of_getElem? (i := 23) rfl)) (by decide) (.inl (by kernel_rfl!)) (by walk_at "m_es") (FN.le (c_bm2 P hLC VM.L (SPC.L (n := 2)) okR fun _ _ => trivial) (by omega)) (by walk_at "m_del") (by walk_at "m_kind") (by walk_at "m_ne") ?_)
  cases e1 : bestMF vmL spA rows offers none with
  | some b =>
    refine EXt.of (EX.cons (EX1.ite (z := true) (ET.cmp G.toGrOk (a := optC (some b)) (by walk_at "m_e") (by walk_at "m_e") Bin.isnot_none) (fun _ => EX.cons (EX1.ret G (c := optC (some b)) (by walk_at "m_e") ?_) G) (fun h => nomatch h) G) G) ne
    show optC (some b) = _
    unfold langF; rw [e1]
  | none =>
  refine EXt.cons (EXt1.of (EX1.ite (z := false) (ET.cmp G.toGrOk (a := optC none) (by walk_at "m_e") (by walk_at "m_e") Bin.isnot_none) (fun h => nomatch h) (fun _ => EX.nil ?_) G) ne2)
  have hfb : (fbR rows).length ≤ 5 := by rw [fbR, List.length_map]; exact hl
  have okF : ∀ r ∈ fbR rows, okLB r.1 = true := fun r h => by
    obtain ⟨q, hq, rfl⟩ := List.mem_map.mp h
    exact (okSp.a (hr q hq)).2.2.2.2
  refine EXt.cons (EXt1.of (EX1.assign G (c := .acc cA true ((srtF spA (fbR rows)).map rowC)) (EV.call G (cs := [rowsC (fbR rows)]) (by walk_at "m_e") (EVs.cons G.toGrOk ?_ EVs.nil) (P.keepC hAC) (FW.le (FN.mk P hAC (i_rows P hAC (SPC.A (n := 0)) (by show g.V = _; rw [hV]; show [] = g.hd.toList; rw [h0]; rfl) (fun _ _ => trivial) (fun r h => okT.s (okLB.t (okF r h))) hfb)).w (by omega))) (by walk_at "m_del") (by walk_at "m_kind") (by walk_at "m_ne") ?_) ne2)
  · have ef : rowsC (fbR rows) = .lst (rows.map fun r => rowC (lp0 r.1, r.2)) := by simp [rowsC, fbR, List.map_map, Function.comp_def]
    rw [ef]
    refine EV.comp G (τ := []) (ci := .acc cL p (rows.map rowC)) (cs := rows.map rowC) (by walk_at "m_cs") (fun _ h => nomatch h) (by walk_at "m_e") (SeqIt.over G (SeqIt.acc P.k (P.kf.acc cL hLC))) (by rw [List.length_map]; omega) fun D => ?_
    have P := P.mod (D :: g.V) l g.hd
    have G := P.G
    refine CompOk.mapRow1 G (by kernel_rfl!) (by walk_at "m_ne") Del.nil rows fun r hm => ?_
    obtain ⟨a1, a2, a3, a4, a5⟩ := okSp.a (hr r hm)
    exact EV.tuple G.toGrOk (cs := [.str (lp0 r.1), .int r.2]) (EVs.cons G.toGrOk (EV.sub G (a := strsC ((reSplit langCode 1 r.1).getD [])) (EV.meth G (cs := [.str r.1, .int 1]) (by walk_at "m_e") (Mth.re P.re2 (by rw [P.T]; decide) (by rw [P.T]; decide)) (EVs.cons G.toGrOk (EV.sub G (a := rowC r) (by walk_at "m_e") EV.int (Bin.tup_item (j := 0) (by decide) (by decide) rfl rfl)) (EVs.cons G.toGrOk EV.int EVs.nil)) Keep.builtin (FW.resplit1 G (by decide) (by decide) P.re2 (by rw [P.T]; decide) (by rw [P.T]; decide) a4 (getD_some a2))) EV.int (Bin.list_item (by decide) (by decide) (lp0_at a3))) (EVs.cons G.toGrOk (EV.sub G (a := rowC r) (by walk_at "m_e") EV.int (Bin.tup_item (j := 1) (by decide) (by decide) rfl rfl)) EVs.nil)) (by simp)
  have okF2 : ∀ r ∈ srtF spA (fbR rows), ∀ o ∈ offers, okA o r.1 := fun r h o h2 => ⟨okLB.t (okSp.a (hof o h2)).1, okLB.t (okF r (srtF_mem hfb h))⟩
  refine EXt.cons (EXt1.of (EX1.assign G (c := optC (bestMF vmA spA (srtF spA (fbR rows)) offers none)) (EV.meth G (cs := [strsC offers]) (by walk_at "m_e") (P.mth 23 hAC (by walk_at "m_vmem") rfl (by walk_at "m_ne")) (by walk_at "m_es") (P.kp 23) (FW.le (c_bm2 P hAC (VM.A (n := 0)) (SPC.A (n := 1)) okF2 fun _ _ => trivial).w (by omega))) (by walk_at "m_del") (by walk_at "m_kind") (by walk_at "m_ne") ?_) ne2)
  cases e2 : bestMF vmA spA (srtF spA (fbR rows)) offers none with
  | some b =>
    refine EXt.of (EX.cons (EX1.ite (z := true) (ET.cmp G.toGrOk (a := optC (some b)) (by walk_at "m_e") (by walk_at "m_e") Bin.isnot_none) (fun _ => EX.cons (EX1.ret G (c := optC (some b)) (by walk_at "m_e") ?_) G) (fun h => nomatch h) G) G) ne
    show optC (some b) = _
    unfold langF; rw [e1, e2]
  | none =>
  refine EXt.cons (EXt1.of (EX1.ite (z := false) (ET.cmp G.toGrOk (a := optC none) (by walk_at "m_e") (by walk_at "m_e") Bin.isnot_none) (fun h => nomatch h) (fun _ => EX.nil ?_) G) ne2)
  refine EXt.cons (EXt1.of (EX1.assign_comp G (τ := []) (ci := strsC offers) (cs := offers.map .str) (ds := offers.map fun o => .str (lp0 o)) (by walk_at "m_cs") (fun _ h => nomatch h) (by walk_at "m_e") (Over.list G) (by rw [List.length_map]; omega) (fun D => ?_) (by walk_at "m_del") (by kernel_rfl!) (by walk_at "m_ne") ?_) ne2)
  · have P := P.mod (D :: g.V) l g.hd
    have G := P.G
    refine CompOk.mapStr G (by kernel_rfl!) (by walk_at "m_ne") Del.nil offers fun o hm => ?_
    obtain ⟨a1, a2, a3, a4, a5⟩ := okSp.a (hof o hm)
    exact EV.sub G (a := strsC ((reSplit langCode 1 o).getD [])) (EV.meth G (cs := [.str o, .int 1]) (by walk_at "m_e") (Mth.re P.re2 (by rw [P.T]; decide) (by rw [P.T]; decide)) (by walk_at "m_es") Keep.builtin (FW.resplit1 G (by decide) (by decide) P.re2 (by rw [P.T]; decide) (by rw [P.T]; decide) a4 (getD_some a2))) EV.int (Bin.list_item (by decide) (by decide) (lp0_at a3))
  have eo : CV.lst (offers.map fun o => .str (lp0 o)) = strsC (offers.map lp0) := by simp [List.map_map, Function.comp_def]
  rw [eo]
  refine EXt.cons (EXt1.super_ G P.k (c := optC (bestMF vmL spA rows (offers.map lp0) none)) (cs := [strsC (offers.map lp0)]) P.supK2 (P.kf.acc cL hLC) P.kf.op (by walk_at "m_mem") (by walk_at "m_mem") P.kf.mroL P.kf.supB (P.kf.ty (dT 269 (meth 8 13) "Accept.best_match" [] (Value.ref 262)) (List.mem_of_getElem? (i := 23) rfl)) (P.kf.fnIn (dT 269 (meth 8 13) "Accept.best_match" [] (Value.ref 262)) (List.mem_of_getElem? (i := 23) rfl)) (by decide) (.inl (by kernel_rfl!)) (by walk_at "m_es") (FN.le (c_bm2 P hLC VM.L (SPC.L (n := 2)) okR2 fun _ _ => trivial) (by omega)) (by walk_at "m_del") (by walk_at "m_kind") (by walk_at "m_ne") ?_)
  cases e3 : bestMF vmL spA rows (offers.map lp0) none with
  | some s =>
    obtain ⟨t, ht⟩ : ∃ t, (offers.find? fun o => Txt.startswith o s) = some t := by
      have := hsw s e3
      cases h : (offers.find? fun o => Txt.startswith o s) with
      | none => rw [h] at this; cases this
      | some t => exact ⟨t, rfl⟩
    refine EXt.of (EX.cons (EX1.ite (z := true) (ET.cmp G.toGrOk (a := optC (some s)) (by walk_at "m_e") (by walk_at "m_e") Bin.isnot_none) (fun _ => EX.cons (EX1.ret G (c := .str t) (EV.next_sw G (x := "item") (y := "result") (r := s) P.t3 P.bm rfl h0 (by kernel_rfl!) (by kernel_rfl!) (by decide) (by decide) (by decide) (by kernel_rfl!) (by decide) (by decide) (by decide) (by walk_at "m_mem") (by kernel_rfl!) (by walk_at "m_e") (by walk_at "m_e") ht (fun _ _ => rfl)) ?_) G) (fun h => nomatch h) G) G) ne
    show optC (some t) = _
    unfold langF; rw [e1, e2, e3]
    show optC (some t) = optC (offers.find? fun o => Txt.startswith o s)
    rw [ht]
  | none =>
    refine EXt.of (EX.cons (EX1.ite (z := false) (ET.cmp G.toGrOk (a := optC none) (by walk_at "m_e") (by walk_at "m_e") Bin.isnot_none) (fun h => nomatch h) (fun _ => EX.nil (EX.cons (EX1.ret G (c := optC d) (by walk_at "m_e") ?_) G)) G) G) ne
    show optC d = _
    unfold langF; rw [e1, e2, e3]
theorem PW.closedL : Closed g (scopeOf (meth 14 1)) [("__class__", 360)] [("__class__", .raw (.ref cL))] := by
  refine ⟨List.pairwise_singleton _ _, fun p hp => ?_, fun x hx c hm => ?_, fun p hp => ?_⟩
  · rcases List.mem_cons.mp hp with rfl | hp
    · exact ⟨_, P.cell2⟩
    · cases hp
  · rcases List.mem_cons.mp hm with e | hm
    · cases e
      exact absurd hx (by rw [show (scopeOf (meth 14 1)).names.lookup ("__class__" : Str) = some .free from by kernel_rfl!]; decide)
    · cases hm
  · rcases List.mem_cons.mp hp with rfl | hp
    · exact ⟨by kernel_rfl!, 360, .ref cL, fun n => by kernel_rfl!, P.cell2, rfl⟩
    · cases hp
theorem c_bmL3 (h0 : g.hd = Option.none) (hV : g.V = []) (hl : rows.length ≤ 5) (ho : offers.length ≤ 100) (hr : ∀ r ∈ rows, okSp r.1 = true) (hof : ∀ o ∈ offers, okSp o = true)
    (hsw : ∀ s, bestMF vmL spA rows (offers.map lp0) none = some s → (offers.find? fun o => Txt.startswith o s).isSome = true) : FN pw w g (n + 7) (.ref 378) [.acc cL p (rows.map rowC), strsC offers, optC d] (optC (langF rows offers d)) := by
  have D := P.df 30
  refine FN.of_defT (cb := [("self", .acc cL p (rows.map rowC)), ("matches", strsC offers), ("default", optC d)]) P.G D (fun fd h1 h2 s vs a r => ?_) (PW.closedL P) (by walk_at "m_bnd") (fun l => e_bmL P h0 hV hl ho hr hof hsw l) rfl
  obtain ⟨v, _, rfl, r1, u, _, rfl, r2, t, _, rfl, r3, rfl⟩ := r
  obtain ⟨m, e⟩ := P.dv2
  cases fd
  dsimp only at h1 h2
  subst h1 h2
  exact ⟨[("self", v), ("matches", u), ("default", t)], BindsTo.of_defaults rfl (P.at_ a (by decide) e) rfl rfl rfl, .cons r1 (.cons r2 (.cons r3 .nil))⟩
theorem c_bmL2 (h0 : g.hd = Option.none) (hV : g.V = []) (hl : rows.length ≤ 5) (ho : offers.length ≤ 100) (hr : ∀ r ∈ rows, okSp r.1 = true) (hof : ∀ o ∈ offers, okSp o = true)
    (hsw : ∀ s, bestMF vmL spA rows (offers.map lp0) none = some s → (offers.find? fun o => Txt.startswith o s).isSome = true) : FN pw w g (n + 7) (.ref 378) [.acc cL p (rows.map rowC), strsC offers] (optC (langF rows offers none)) := by
  have D := P.df 30
  refine FN.of_defT (cb := [("self", .acc cL p (rows.map rowC)), ("matches", strsC offers), ("default", .none)]) P.G D (fun fd h1 h2 s vs a r => ?_) (PW.closedL P) (by walk_at "m_bnd") (fun l => e_bmL (d := none) P h0 hV hl ho hr hof hsw l) rfl
  obtain ⟨v, _, rfl, r1, u, _, rfl, r2, rfl⟩ := r
  obtain ⟨m, e⟩ := P.dv2
  cases fd
  dsimp only at h1 h2
  subst h1 h2
  exact ⟨[("self", v), ("matches", u), ("default", .none)], BindsTo.of_defaults rfl (P.at_ a (by decide) e) rfl rfl rfl, .cons r1 (.cons r2 (.cons rfl .nil))⟩
end
section
variable {w : World} {K : Frag} {g : Gr} (P : PW K g) {n : Nat} {C : Addr} {p : Bool} {l : List CV} (hC : C ∈ Cs)
include P hC
theorem c_imm (h0 : g.hd = Option.none) : FNr pw w g (n + 1) (.ref 45) [.acc C p l] "TypeError" := by
  have D := P.df 0
  refine FNr.of_def P.G D (bind_plain (names := ["self"]) rfl (by walk_at "m_b1")) Closed.nil (by walk_at "m_bnd") (fun l => ?_) rfl
  have P := P.mod g.V l g.hd
  have G := P.G
  obtain ⟨oc, x, t, e1, e2, e3, e4, e5⟩ := P.kf.name C hC
  have hcd : (clsIn K C).isSome = true := by
    have := P.kf.under C hC
    cases h : clsIn K C with
    | none => rw [h] at this; cases this
    | some cd => rfl
  have h4 : (10000 : Nat) ≤ sizeLine := by decide +kernel
  have h5 : (" objects are immutable" : Str).length ≤ 100 := by decide
  refine EX.cons (XR1.ex G (T := "TypeError") (XR1.raise_ G F.excCall_TypeError F.excRaise_TypeError h0 (by decide) (cs := [.str ((Str.empty ++ reprText x) ++ " objects are immutable")]) (by walk_at "m_e") (EVs.cons G.toGrOk (EV.joined (EJ.cons G.toGrOk (EV.fmt_repr G (EV.cls_name G P.k (EV.call G (cs := [.acc C p _]) (by walk_at "m_e") (by walk_at "m_es") Keep.type (FW.type_acc G P.k)) e1 e2 e3 P.kf.op hcd e5) (by omega)) ?_ (EJ.cons G.toGrOk EV.str ?_ (EJ.nil ?_)))) EVs.nil) (by simp)) rfl) G
  · rw [Str.length_append]; show 0 + _ ≤ _; omega
  · rw [Str.length_append, Str.length_append]; show 0 + _ + _ ≤ _; omega
  · rw [Str.length_append, Str.length_append]; show 0 + _ + _ ≤ _; omega
theorem r_delitem (h0 : g.hd = Option.none) {c0 : CV} : FNr pw w g (n + 2) (.ref 59) [.acc C p l, c0] "TypeError" := by
  have D := P.df 1
  refine FNr.of_def P.G D (bind_plain (names := ["self", "key"]) rfl (by walk_at "m_b2")) Closed.nil (by walk_at "m_bnd") (fun l => ?_) rfl
  have P := P.mod g.V l g.hd
  have G := P.G
  exact EX.cons (XR1.ex G (T := "TypeError") (XR1.expr (ER.call G (cs := [.acc C p _]) (by walk_at "m_e") (by walk_at "m_es") (P.kp 0) (c_imm P hC h0).w)) rfl) G
theorem r_iadd (h0 : g.hd = Option.none) {c0 : CV} : FNr pw w g (n + 2) (.ref 66) [.acc C p l, c0] "TypeError" := by
  have D := P.df 2
  refine FNr.of_def P.G D (bind_plain (names := ["self", "other"]) rfl (by walk_at "m_b2")) Closed.nil (by walk_at "m_bnd") (fun l => ?_) rfl
  have P := P.mod g.V l g.hd
  have G := P.G
  exact EX.cons (XR1.ex G (T := "TypeError") (XR1.expr (ER.call G (cs := [.acc C p _]) (by walk_at "m_e") (by walk_at "m_es") (P.kp 0) (c_imm P hC h0).w)) rfl) G
theorem r_imul (h0 : g.hd = Option.none) {c0 : CV} : FNr pw w g (n + 2) (.ref 73) [.acc C p l, c0] "TypeError" := by
  have D := P.df 3
  refine FNr.of_def P.G D (bind_plain (names := ["self", "other"]) rfl (by walk_at "m_b2")) Closed.nil (by walk_at "m_bnd") (fun l => ?_) rfl
  have P := P.mod g.V l g.hd
  have G := P.G
  exact EX.cons (XR1.ex G (T := "TypeError") (XR1.expr (ER.call G (cs := [.acc C p _]) (by walk_at "m_e") (by walk_at "m_es") (P.kp 0) (c_imm P hC h0).w)) rfl) G
theorem r_setitem (h0 : g.hd = Option.none) {c0 c1 : CV} : FNr pw w g (n + 2) (.ref 80) [.acc C p l, c0, c1] "TypeError" := by
  have D := P.df 4
  refine FNr.of_def P.G D (bind_plain (names := ["self", "key", "value"]) rfl (by walk_at "m_b3")) Closed.nil (by walk_at "m_bnd") (fun l => ?_) rfl
  have P := P.mod g.V l g.hd
  have G := P.G
  exact EX.cons (XR1.ex G (T := "TypeError") (XR1.expr (ER.call G (cs := [.acc C p _]) (by walk_at "m_e") (by walk_at "m_es") (P.kp 0) (c_imm P hC h0).w)) rfl) G
theorem r_append (h0 : g.hd = Option.none) {c0 : CV} : FNr pw w g (n + 2) (.ref 87) [.acc C p l, c0] "TypeError" := by
  have D := P.df 5
  refine FNr.of_def P.G D (bind_plain (names := ["self", "item"]) rfl (by walk_at "m_b2")) Closed.nil (by walk_at "m_bnd") (fun l => ?_) rfl
  have P := P.mod g.V l g.hd
  have G := P.G
  exact EX.cons (XR1.ex G (T := "TypeError") (XR1.expr (ER.call G (cs := [.acc C p _]) (by walk_at "m_e") (by walk_at "m_es") (P.kp 0) (c_imm P hC h0).w)) rfl) G
theorem r_remove (h0 : g.hd = Option.none) {c0 : CV} : FNr pw w g (n + 2) (.ref 94) [.acc C p l, c0] "TypeError" := by
  have D := P.df 6
  refine FNr.of_def P.G D (bind_plain (names := ["self", "item"]) rfl (by walk_at "m_b2")) Closed.nil (by walk_at "m_bnd") (fun l => ?_) rfl
  have P := P.mod g.V l g.hd
  have G := P.G
  exact EX.cons (XR1.ex G (T := "TypeError") (XR1.expr (ER.call G (cs := [.acc C p _]) (by walk_at "m_e") (by walk_at "m_es") (P.kp 0) (c_imm P hC h0).w)) rfl) G
theorem r_extend (h0 : g.hd = Option.none) {c0 : CV} : FNr pw w g (n + 2) (.ref 101) [.acc C p l, c0] "TypeError" := by
  have D := P.df 7
  refine FNr.of_def P.G D (bind_plain (names := ["self", "iterable"]) rfl (by walk_at "m_b2")) Closed.nil (by walk_at "m_bnd") (fun l => ?_) rfl
  have P := P.mod g.V l g.hd
  have G := P.G
  exact EX.cons (XR1.ex G (T := "TypeError") (XR1.expr (ER.call G (cs := [.acc C p _]) (by walk_at "m_e") (by walk_at "m_es") (P.kp 0) (c_imm P hC h0).w)) rfl) G
theorem r_insert (h0 : g.hd = Option.none) {c0 c1 : CV} : FNr pw w g (n + 2) (.ref 108) [.acc C p l, c0, c1] "TypeError" := by
  have D := P.df 8
  refine FNr.of_def P.G D (bind_plain (names := ["self", "pos", "value"]) rfl (by walk_at "m_b3")) Closed.nil (by walk_at "m_bnd") (fun l => ?_) rfl
  have P := P.mod g.V l g.hd
  have G := P.G
  exact EX.cons (XR1.ex G (T := "TypeError") (XR1.expr (ER.call G (cs := [.acc C p _]) (by walk_at "m_e") (by walk_at "m_es") (P.kp 0) (c_imm P hC h0).w)) rfl) G
theorem r_reverse (h0 : g.hd = Option.none) : FNr pw w g (n + 2) (.ref 123) [.acc C p l] "TypeError" := by
  have D := P.df 10
  refine FNr.of_def P.G D (bind_plain (names := ["self"]) rfl (by walk_at "m_b1")) Closed.nil (by walk_at "m_bnd") (fun l => ?_) rfl
  have P := P.mod g.V l g.hd
  have G := P.G
  exact EX.cons (XR1.ex G (T := "TypeError") (XR1.expr (ER.call G (cs := [.acc C p _]) (by walk_at "m_e") (by walk_at "m_es") (P.kp 0) (c_imm P hC h0).w)) rfl) G
theorem r_pop (h0 : g.hd = Option.none) : FNr pw w g (n + 2) (.ref 116) [.acc C p l] "TypeError" := by
  have D := P.df 9
  refine FNr.of_def (cb := [("self", .acc C p l), ("index", .int (-1))]) P.G D (fun fd h1 h2 s vs a r => ?_) Closed.nil (by walk_at "m_bnd") (fun l => ?_) rfl
  · obtain ⟨v, _, rfl, r1, rfl⟩ := r
    obtain ⟨t, m, e⟩ := P.dv3
    cases fd
    dsimp only at h1 h2
    subst h1 h2
    exact ⟨[("self", v), ("index", .int (-1) t)], BindsTo.of_defaults rfl (P.at_ a (by decide) e) rfl rfl rfl, .cons r1 (.cons ⟨_, rfl⟩ .nil)⟩
  · have P := P.mod g.V l g.hd
    have G := P.G
    exact EX.cons (XR1.ex G (T := "TypeError") (XR1.expr (ER.call G (cs := [.acc C p _]) (by walk_at "m_e") (by walk_at "m_es") (P.kp 0) (c_imm P hC h0).w)) rfl) G
theorem r_sort (h0 : g.hd = Option.none) : FNr pw w g (n + 2) (.ref 131) [.acc C p l] "TypeError" := by
  have D := P.df 11
  refine FNr.of_def (cb := [("self", .acc C p l), ("key", .none), ("reverse", .bool false)]) P.G D (fun fd h1 h2 s vs a r => ?_) Closed.nil (by walk_at "m_bnd") (fun l => ?_) rfl
  · obtain ⟨v, _, rfl, r1, rfl⟩ := r
    obtain ⟨m, e⟩ := P.dv4
    cases fd
    dsimp only at h1 h2
    subst h1 h2
    exact ⟨[("self", v), ("key", .none), ("reverse", .bool false)], BindsTo.of_defaults rfl (P.at_ a (by decide) e) rfl rfl rfl, .cons r1 (.cons rfl (.cons rfl .nil))⟩
  · have P := P.mod g.V l g.hd
    have G := P.G
    exact EX.cons (XR1.ex G (T := "TypeError") (XR1.expr (ER.call G (cs := [.acc C p _]) (by walk_at "m_e") (by walk_at "m_es") (P.kp 0) (c_imm P hC h0).w)) rfl) G
end
section
variable {w : World} {K : Frag} {g : Gr} (P : PW K g) {n : Nat} {C f : Addr} {i : Nat} {ok : Str → Str → Prop} {vm : Str → Str → Bool} {p : Bool} {rows : List (Str × Int)} {o : Str} {l : List CV} (hC : C ∈ Cs)
include P hC
theorem c_place (M : VM K w n g.hd C f i ok vm) (h0 : g.hd = Option.none) (h : ∀ r ∈ rows, ok o r.1) : FN pw w g (n + 2) (.ref 436) [.acc C p (rows.map rowC), .str o] (.int (if idxF vm rows o = -1 then -2 else idxF vm rows o)) := by
  have D := P.df 38
  refine FN.of_def P.G D (bind_plain (names := ["told", "offer"]) rfl (by walk_at "m_b2")) Closed.nil (by walk_at "m_bnd") (fun l => ?_) rfl
  have P := P.mod g.V l g.hd
  have G := P.G
  by_cases hf : idxF vm rows o = -1
  · refine EX.cons (EX1.try_raise (X := "ValueError") (T := "ValueError") G h0 rfl (XR.cons (XR1.ret (ER.meth G (cs := [.str o]) (by walk_at "m_e") (P.mth 18 hC (inm hC (by walk_at "m_mem")) rfl (by walk_at "m_ne")) (by walk_at "m_es") (P.kp 18) (c_indexR P hC M h0 h hf).w))) (by with_unfolding_all rfl) (by with_unfolding_all rfl) (by with_unfolding_all rfl) (fun e => ?_) (fun e => ?_) ?_) G
    · have P := P.mod (e :: g.V) l (some e)
      walk_at "m_e"
    · have P := P.mod (e :: g.V) l (some e)
      have G := P.G
      refine EX.cons (EX1.ret G (EV.un G.toGrOk EV.int Un.neg_int) ?_) G
      show CV.int (-2) = _
      rw [if_pos hf]
    · intro T h; exact h
  · rw [if_neg hf]
    refine EX.cons (EX1.try_ok G (EX.cons (EX1.ret G (EV.meth G (cs := [.str o]) (by walk_at "m_e") (P.mth 18 hC (inm hC (by walk_at "m_mem")) rfl (by walk_at "m_ne")) (by walk_at "m_es") (P.kp 18) (c_index P hC M h0 h hf).w) rfl) G) ?_) G
    intro T h; exact h
theorem c_changed {d : Int} (h0 : g.hd = Option.none) : FN pw w g (n + 3) (.ref 443) [.acc C p l, .int d] (.str "refused") := by
  have D := P.df 39
  refine FN.of_def P.G D (bind_plain (names := ["told", "deed"]) rfl (by walk_at "m_b2")) Closed.nil (by walk_at "m_bnd") (fun l => ?_) rfl
  have P := P.mod g.V l g.hd
  have G := P.G
  have isF : ∀ {f : Addr} {st : Stmt} {q : Str} {cl : List (Str × Addr)} {dv : Value} (i : Nat), defTable[i]? = some (f, st, q, cl, dv) → isFn K (.ref f) = true := fun i h => P.kf.isFn _ (List.mem_of_getElem? h)
  refine EX.cons (EX1.try_raise (X := "TypeError") (T := "TypeError") G h0 rfl (XR.cons ?_) (by with_unfolding_all rfl) (by with_unfolding_all rfl) (by with_unfolding_all rfl) (fun e => ?_) (fun e => ?_) ?_) G
  rotate_left
  · have P := P.mod (e :: g.V) l (some e)
    walk_at "m_e"
  · have P := P.mod (e :: g.V) l (some e)
    have G := P.G
    exact EX.cons (EX1.ret G EV.str rfl) G
  · intro T h; exact h
  refine XR1.ite G (z := d == 0) (by walk_at "m_t") (fun _ => XR.cons (XR1.expr (ER.meth G (cs := [.tup [.str "text/html", .int 1]]) (by walk_at "m_e") (P.mth 5 hC (inm hC (x := "append") (f := 87) (by walk_at "m_mem")) rfl (by walk_at "m_ne")) (by walk_at "m_es") (P.kp 5) (r_append P hC h0).w))) (fun _ => XR.cons ?_)
  refine XR1.ite G (z := d == 1) (by walk_at "m_t") (fun _ => XR.cons (XR1.setitem G P.k (C := C) (ci := .int 0) (cv := .tup [.str "text/html", .int 1]) (by walk_at "m_e") (by walk_at "m_e") (by walk_at "m_e") (P.kf.noSeq C hC) (P.kf.find _ (inm hC (x := "__setitem__") (f := 80) (by walk_at "m_mem"))) (isF 4 rfl) (r_setitem P hC h0).w)) (fun _ => XR.cons ?_)
  refine XR1.ite G (z := d == 2) (by walk_at "m_t") (fun _ => XR.cons (XR1.expr (ER.meth G (cs := []) (by walk_at "m_e") (P.mth 11 hC (inm hC (x := "sort") (f := 131) (by walk_at "m_mem")) rfl (by walk_at "m_ne")) (by walk_at "m_es") (P.kp 11) (r_sort P hC h0).w))) (fun _ => XR.cons ?_)
  refine XR1.ite G (z := d == 3) (by walk_at "m_t") (fun _ => XR.cons (XR1.expr (ER.meth G (cs := [.lst [.tup [.str "text/html", .int 1]]]) (by walk_at "m_e") (P.mth 7 hC (inm hC (x := "extend") (f := 101) (by walk_at "m_mem")) rfl (by walk_at "m_ne")) (by walk_at "m_es") (P.kp 7) (r_extend P hC h0).w))) (fun _ => XR.cons ?_)
  refine XR1.ite G (z := d == 4) (by walk_at "m_t") (fun _ => XR.cons (XR1.expr (ER.meth G (cs := []) (by walk_at "m_e") (P.mth 9 hC (inm hC (x := "pop") (f := 116) (by walk_at "m_mem")) rfl (by walk_at "m_ne")) (by walk_at "m_es") (P.kp 9) (r_pop P hC h0).w))) (fun _ => XR.cons ?_)
  refine XR1.ite G (z := d == 5) (by walk_at "m_t") (fun _ => XR.cons (XR1.delitem G P.k (C := C) (ci := .int 0) (by walk_at "m_e") (by walk_at "m_e") (P.kf.noSeq C hC) (P.kf.find _ (inm hC (x := "__delitem__") (f := 59) (by walk_at "m_mem"))) (isF 1 rfl) (r_delitem P hC h0).w)) (fun _ => XR.cons ?_)
  refine XR1.ite G (z := d == 6) (by walk_at "m_t") (fun _ => XR.cons (XR1.aug G P.k (C := C) (cv := .lst [.tup [.str "text/html", .int 1]]) (by walk_at "m_mem") (by decide) (by walk_at "m_e") (P.kf.selfFirst C hC) (P.kf.find _ (inm hC (x := "__iadd__") (f := 66) (by walk_at "m_mem"))) (isF 2 rfl) (r_iadd P hC h0).w)) (fun _ => XR.cons ?_)
  refine XR1.ite G (z := d == 7) (by walk_at "m_t") (fun _ => XR.cons (XR1.aug G P.k (C := C) (cv := .int 2) (by walk_at "m_mem") (by decide) (by walk_at "m_e") (P.kf.selfFirst C hC) (P.kf.find _ (inm hC (x := "__imul__") (f := 73) (by walk_at "m_mem"))) (isF 3 rfl) (r_imul P hC h0).w)) (fun _ => XR.cons ?_)
  refine XR1.ite G (z := d == 8) (by walk_at "m_t") (fun _ => XR.cons (XR1.expr (ER.meth G (cs := [.tup [.str "text/html", .int 1]]) (by walk_at "m_e") (P.mth 6 hC (inm hC (x := "remove") (f := 94) (by walk_at "m_mem")) rfl (by walk_at "m_ne")) (by walk_at "m_es") (P.kp 6) (r_remove P hC h0).w))) (fun _ => XR.cons ?_)
  refine XR1.ite G (z := d == 9) (by walk_at "m_t") (fun _ => XR.cons (XR1.expr (ER.meth G (cs := [.int 0, .tup [.str "text/html", .int 1]]) (by walk_at "m_e") (P.mth 8 hC (inm hC (x := "insert") (f := 108) (by walk_at "m_mem")) rfl (by walk_at "m_ne")) (by walk_at "m_es") (P.kp 8) (r_insert P hC h0).w))) (fun _ => XR.cons ?_)
  exact XR1.expr (ER.meth G (cs := []) (by walk_at "m_e") (P.mth 10 hC (inm hC (x := "reverse") (f := 123) (by walk_at "m_mem")) rfl (by walk_at "m_ne")) (by walk_at "m_es") (P.kp 10) (r_reverse P hC h0).w)
end
section
variable {prog : Program} {w : World} {g : Gr} {n : Nat}
theorem Bin.ne_rows_same {l : List (Str × Int)} (h : ∀ r ∈ l, PyData.strOk r.1 = true) : Bin prog w g n (compareOp .NotEq) (rowsC l) (rowsC l) (.bool false) := by
  have := Bin.ne_rows (prog := prog) (w := w) (g := g) (n := n) h h
  rwa [show (!decide (l = l)) = false from by simp] at this
theorem Bin.ne_strs_same {l : List Str} (h : l.all PyData.strOk = true) : Bin prog w g n (compareOp .NotEq) (strsC l) (strsC l) (.bool false) := by
  have := Bin.ne_strs (prog := prog) (w := w) (g := g) (n := n) h h
  rwa [show (!decide (l = l)) = false from by simp] at this
theorem Bin.eq_rows_same {l : List (Str × Int)} (h : ∀ r ∈ l, PyData.strOk r.1 = true) : Bin prog w g n (compareOp .Eq) (rowsC l) (rowsC l) (.bool true) := by
  have := Bin.eq_rows (prog := prog) (w := w) (g := g) (n := n) h h
  rwa [show (decide (l = l)) = true from by simp] at this
theorem Bin.eq_strs_same {l : List Str} (h : l.all PyData.strOk = true) : Bin prog w g n (compareOp .Eq) (strsC l) (strsC l) (.bool true) := by
  have := Bin.eq_strs (prog := prog) (w := w) (g := g) (n := n) h h
  rwa [show (decide (l = l)) = true from by simp] at this
theorem Bin.ne_str_same {x : Str} : Bin prog w g n (compareOp .NotEq) (.str x) (.str x) (.bool false) := by
  have := Bin.ne_str (prog := prog) (w := w) (g := g) (n := n) (x := x) (y := x)
  rwa [show (!decide (x = x)) = false from by simp] at this
theorem Bin.ne_int_same {x : Int} : Bin prog w g n (compareOp .NotEq) (.int x) (.int x) (.bool false) := by
  have := Bin.ne_int (prog := prog) (w := w) (g := g) (n := n) (a := x) (b := x)
  rwa [show (x != x) = false from by simp] at this
theorem Bin.ne_bool_same {x : Bool} : Bin prog w g n (compareOp .NotEq) (.bool x) (.bool x) (.bool false) := by
  have := Bin.ne_dat (prog := prog) (w := w) (g := g) (n := n) (x := .bool x) (y := .bool x) rfl rfl (Nat.zero_le _) (Nat.zero_le _)
  rwa [show (!(CV.bool x).eqv (.bool x)) = false from by cases x <;> rfl] at this
theorem Bin.ne_opt_same {x : Option Str} (h : ∀ y, x = some y → PyData.strOk y = true) : Bin prog w g n (compareOp .NotEq) (optC x) (optC x) (.bool false) := by
  cases x with
  | none =>
    have := Bin.ne_dat (prog := prog) (w := w) (g := g) (n := n) (x := .none) (y := .none) rfl rfl (Nat.zero_le _) (Nat.zero_le _)
    exact this
  | some y => exact Bin.ne_str_same
theorem Bin.ne_first_same {rows : List (Str × Int)} : Bin prog w g n (compareOp .NotEq) (firstC rows) (firstC rows) (.bool false) := by
  cases rows with
  | nil =>
    have := Bin.ne_dat (prog := prog) (w := w) (g := g) (n := n) (x := .none) (y := .none) rfl rfl (Nat.zero_le _) (Nat.zero_le _)
    exact this
  | cons y _ => exact Bin.ne_str_same
end
theorem foundAt_hit (vm : Str → Str → Bool) (o : Str) : ∀ (rows : List (Str × Int)) (i : Int), 0 ≤ i → (hit vm rows o = none ∧ foundAt (fun t => vm o t) rows i = -1) ∨ ∃ (r : Str × Int) (j : Nat), hit vm rows o = some r ∧ foundAt (fun t => vm o t) rows i = i + j ∧ rows[j]? = some r
  | [], _, _ => .inl ⟨rfl, rfl⟩
  | r :: rs, i, h => by
    unfold foundAt hit
    cases e : vm o r.1 with
    | true => exact .inr ⟨r, 0, by rw [List.find?_cons_of_pos (by exact e)], by simp, rfl⟩
    | false =>
      have e2 : (r :: rs).find? (fun r => vm o r.1) = rs.find? fun r => vm o r.1 := List.find?_cons_of_neg (by rw [e]; decide)
      rw [e2]
      rcases foundAt_hit vm o rs (i + 1) (by omega) with ⟨h1, h2⟩ | ⟨r', j, h1, h2, h3⟩
      · exact .inl ⟨h1, by simpa using h2⟩
      · refine .inr ⟨r', j + 1, h1, ?_, by simpa using h3⟩
        simp only [Bool.false_eq_true, if_false]
        rw [h2]; push_cast; omega
theorem foundAt_congr {f g : Str → Bool} : ∀ (rows : List (Str × Int)) (i : Int), (∀ r ∈ rows, f r.1 = g r.1) → foundAt f rows i = foundAt g rows i
  | [], _, _ => rfl
  | r :: rs, i, h => by
    unfold foundAt
    rw [h r (.head _), foundAt_congr rs (i + 1) fun r hr => h r (.tail _ hr)]
/-- what the law's lookups tell is what the class's lookups tell -/
theorem lookups {vm : Str → Str → Bool} {k : Int} {rows : List (Str × Int)} {o : Str} (h : ∀ r ∈ rows, vm o r.1 = takesF k r.1 o) :
    idxF vm rows o = fnd k rows o ∧ (hit vm rows o).isSome = decide (fnd k rows o ≥ 0) ∧ qualF vm rows o = if fnd k rows o ≥ 0 then (rowAt rows (fnd k rows o)).2 else 0 := by
  have e : idxF vm rows o = fnd k rows o := foundAt_congr rows 0 h
  rw [← e]
  refine ⟨rfl, ?_⟩
  rcases foundAt_hit vm o rows 0 (Int.le_refl _) with ⟨h1, h2⟩ | ⟨r, j, h1, h2, h3⟩
  · have h2' : idxF vm rows o = -1 := h2
    rw [h2', qualF, h1]
    exact ⟨rfl, rfl⟩
  · have h2' : idxF vm rows o = j := by rw [idxF, h2]; omega
    rw [h2', qualF, h1]
    refine ⟨by simp, ?_⟩
    rw [if_pos (by omega)]
    show r.2 = (rowAt rows (j : Int)).2
    rw [rowAt, List.getD_eq_getElem?_getD, Int.toNat_natCast, h3]; rfl
def hdrL (r : Str × Int) : Str := if r.2 = 1 then r.1 else (r.1 ++ ";q=") ++ Str.ofString (toString r.2)
theorem hdrL_eq (r : Str × Int) : hdrL r = hdr1 r := by
  unfold hdrL hdr1
  rw [Str.empty_append]
/-- the best offer, as the law says it -/
def bestK (k : Int) (rows : List (Str × Int)) (offers : List Str) : Option Str := if k = 1 then tongueF rows offers else bestF k rows offers
section
variable {w : World} {K : Frag} {g : Gr} (P : PW K g) {n : Nat} {C f fb : Addr} {i ib : Nat} {ok : Str → Str → Prop} {vm : Str → Str → Bool} {k : Int} {p : Bool} {rows : List (Str × Int)} {offers : List Str} (hC : C ∈ Cs)
include P hC
theorem e_values {σ : Loc} {np ap cp pos tp : Pos} {l : List Env} (h0 : g.hd = Option.none) (hl : rows.length ≤ 1000) (ht : (("told" : Str), CV.acc C p (rows.map rowC)) ∈ σ) (hline : (ap.endLine == cp.line) = true) :
    EV pw w { g with fr := l } (fiOf (stm 30) "_law_holds" 448 (.ref 447)) n σ (.Call (.Name "list" np) [.Call (.Attribute (.Name "told" tp) "values" ap) [] [] cp] [] pos) (strsC (rows.map (·.1))) := by
  have P := P.mod g.V l g.hd
  have G := P.G
  obtain ⟨fd, D, e1, e2, e3, e4, e5, e6⟩ := (P.df 20).ex
  have hn : EV pw w { g with fr := l } (fiOf (stm 30) "_law_holds" 448 (.ref 447)) n σ (.Name "list" np) (.raw (.type "list")) := by walk_at "m_e"
  refine EV.list_values G P.k (mname := "values") (iname := "item") (self := "self") (ds := (rows.map (·.1)).map .str) (P.kf.acc C hC) (P.kf.find _ (inm hC (x := "values") (f := 240) (by walk_at "m_mem"))) (P.kf.ty (dT 240 (meth 8 9) "Accept.values" [] (Value.none)) (List.mem_of_getElem? (i := 20) rfl)) (by walk_at "m_ne") D (by rw [e2]; rfl) e3 (by rw [e2]; kernel_rfl!) (by rw [e2]; kernel_rfl!) (by decide) (by decide) (by walk_at "m_ne") ?_ h0 hn (EV.name ht) (by rw [List.length_map]; exact hl) (by simp) ?_ (hline := hline)
  · intro v
    unfold bindArgs; rw [e1, e4]; rfl
  · intro i c hc
    rw [List.getElem?_map] at hc
    cases h : rows[i]? with
    | none => rw [h] at hc; cases hc
    | some r =>
      rw [h] at hc; cases hc
      exact ⟨.str r.1, [.int r.2], rfl, by simp [List.getElem?_map, h]⟩
theorem c_holds (M : VM K w 2 g.hd C f i ok vm) (h0 : g.hd = Option.none) (hV : g.V = []) (hl : rows.length ≤ 5) (hol : offers.length ≤ 100) (hok : ∀ r ∈ rows, ∀ o ∈ offers, ok o r.1) (hvt : ∀ r ∈ rows, ∀ o ∈ offers, vm o r.1 = takesF k r.1 o)
    (hmb : mT C "best_match" fb ∈ mtab) (hib : (defTable[ib]?).map (·.1) = some fb)
    (b2 : ∀ g', PW K g' → g'.hd = Option.none → g'.V = [] → FN pw w g' 9 (.ref fb) [.acc C p (rows.map rowC), strsC offers] (optC (bestK k rows offers)))
    (b3 : ∀ g', PW K g' → g'.hd = Option.none → g'.V = [] → FN pw w g' 9 (.ref fb) [.acc C p (rows.map rowC), strsC offers, .str "none"] (.str ((bestK k rows offers).getD "none")))
    (hb : ∀ y, bestK k rows offers = some y → PyData.strOk y = true)
    (tb : ∀ r ∈ rows, ∀ o ∈ offers, tkB k r.1 o = true) (tx : ∀ r ∈ rows, okX r.1 = true) (q1 : ∀ r ∈ rows, r.2.natAbs.log2 < 1920) (q2 : ∀ r ∈ rows, (hdr1 r).length ≤ 400)
    (tt : k = 1 → ∀ g', PW K g' → g'.hd = Option.none → FN pw w g' 9 (.ref 429) [rowsC rows, strsC offers] (optC (tongueF rows offers))) :
    FN pw w g (n + 11) (.ref 448) [.acc C p (rows.map rowC), .int k, rowsC rows, strsC offers] (.bool true) := by
  have D := P.df 40
  refine FN.of_def P.G D (bind_plain (names := ["told", "kind", "rows", "offers"]) rfl (by walk_at "m_b4")) Closed.nil (by walk_at "m_bnd") (fun l => ?_) rfl
  have P0 := P
  have P := P.mod g.V l g.hd
  have G := P.G
  have hso : ∀ r ∈ rows, PyData.strOk r.1 = true := fun r hr => okT.s (okX.t (tx r hr))
  have hso2 : (rows.map (·.1)).all PyData.strOk = true := List.all_eq_true.mpr fun x hx => by obtain ⟨r, hr, rfl⟩ := List.mem_map.mp hx; exact hso r hr
  have lst : ∀ {σ : Loc} {np tp pos : Pos}, (("told" : Str), CV.acc C p (rows.map rowC)) ∈ σ → EV pw w { g with fr := l } (fiOf (stm 30) "_law_holds" 448 (.ref 447)) (n + 10) σ (.Call (.Name "list" np) [.Name "told" tp] [] pos) (rowsC rows) :=
    fun ht => EV.call G (cs := [.acc C p (rows.map rowC)]) (by walk_at "m_e") (EVs.cons G.toGrOk (EV.name ht) EVs.nil) Keep.type (FW.list_acc (n := n + 8) G P.k (P.kf.acc C hC) (by rw [List.length_map]; omega))
  refine EX.cons (EX1.ite (z := false) (ET.op G.toGrOk (EA.or_cons (b := false) (c := false) G.toGrOk (ET.cmp G.toGrOk (lst (by walk_at "m_mem")) (by walk_at "m_e") (Bin.ne_rows_same hso)) fun _ => EA.or_cons (b := false) (c := false) G.toGrOk (ET.cmp G.toGrOk (a := .int rows.length) (b := .int rows.length) ?_ ?_ Bin.ne_int_same) fun _ => EA.or_cons (b := false) (c := false) G.toGrOk (ET.cmp G.toGrOk (e_values P0 hC h0 (by omega) (by walk_at "m_mem") rfl) (b := strsC (rows.map (·.1))) ?_ (Bin.ne_strs_same hso2)) fun _ => EA.or_cons (b := false) (c := false) G.toGrOk (ET.cmp G.toGrOk (a := firstC rows) (b := firstC rows) ?_ ?_ Bin.ne_first_same) fun _ => EA.or_nil G.toGrOk)) (fun h => nomatch h) (fun _ => ?_) G) G
  · refine EV.call G (cs := [.acc C p (rows.map rowC)]) (by walk_at "m_e") (by walk_at "m_es") Keep.builtin ?_
    rw [← List.length_map (f := rowC) (as := rows)]
    exact FW.len_acc P.k (P.kf.acc C hC) (by rw [List.length_map]; omega)
  · refine EV.call G (cs := [rowsC rows]) (by walk_at "m_e") (by walk_at "m_es") Keep.builtin ?_
    rw [← List.length_map (f := rowC) (as := rows)]
    exact FW.len_list (by rw [List.length_map]; omega)
  · have e : strsC (rows.map (·.1)) = .lst (rows.map fun r => .str r.1) := by simp [List.map_map, Function.comp_def]
    rw [e]
    refine EV.comp G (τ := []) (ci := rowsC rows) (cs := rows.map rowC) (by walk_at "m_cs") (fun _ h => nomatch h) (by walk_at "m_e") (Over.list G) (by rw [List.length_map]; omega) fun D => ?_
    have P := P.mod (D :: g.V) l g.hd
    have G := P.G
    exact CompOk.mapRow1 G (by kernel_rfl!) (by walk_at "m_ne") Del.nil rows fun r hm => EV.sub G (a := rowC r) (by walk_at "m_e") EV.int (Bin.tup_item (j := 0) (by decide) (by decide) rfl rfl)
  · obtain ⟨pr, rest, a1, a2, a3, a4⟩ := P.kf.best C hC
    refine EV.prop (n := n + 9) G.toGrOk P.k (C := C) (p := p) (l := rows.map rowC) (P.kf.acc C hC) a1 a2 a3 a4 (by walk_at "m_e") (FN.le (c_bestP (n := n) P hC (by omega)) (by omega)) ?_
    intro V h v r
    cases hr : rows with
    | nil => rw [hr] at r; cases r; rfl
    | cons x xs => rw [hr] at r; obtain ⟨t, rfl⟩ := r; rfl
  · refine EV.ite G.toGrOk (z := !decide (rows = [])) (ET.cmp G.toGrOk (a := rowsC rows) (b := rowsC []) (by walk_at "m_e") (EV.list G.toGrOk EVs.nil (by simp)) (Bin.ne_rows hso fun _ h => nomatch h)) (fun hz => ?_) (fun hz => ?_)
    · cases hr : rows with
      | nil => rw [hr] at hz; cases hz
      | cons x xs => exact EV.sub G (a := rowC x) (EV.sub G (a := rowsC (x :: xs)) (by rw [← hr]; walk_at "m_e") EV.int (Bin.list_item (by decide) (by decide) rfl)) EV.int (Bin.tup_item (j := 0) (by decide) (by decide) rfl rfl)
    · cases hr : rows with
      | nil => exact EV.none
      | cons x xs => rw [hr] at hz; cases hz
  refine EX.nil ?_
  refine EX.cons (EX1.ite (z := false) (ET.cmp G.toGrOk (a := .str (hdrF rows)) (b := .str (hdrF rows)) (EV.meth G (cs := []) (by walk_at "m_e") (P.mth 21 hC (inm hC (by walk_at "m_mem")) rfl (by walk_at "m_ne")) (by walk_at "m_es") (P.kp 21) (FW.le (c_hdr (n := n) P hC (by omega) (fun r hr => okX.t (tx r hr)) q1 q2).w (by omega))) ?_ Bin.ne_str_same) (fun h => nomatch h) (fun _ => ?_) G) G
  · refine EV.meth G (cs := [strsC (rows.map hdr1)]) EV.str (Mth.str F.slot_str_join) (EVs.cons G.toGrOk ?_ EVs.nil) Keep.builtin (FW.join (joinOk_of (by decide) (by rw [List.length_map]; omega) fun x hx => ?_))
    · have e : strsC (rows.map hdr1) = .lst (rows.map fun r => .str (hdrL r)) := by simp [List.map_map, Function.comp_def, hdrL_eq]
      rw [e]
      refine EV.comp G (τ := []) (ci := rowsC rows) (cs := rows.map rowC) (by walk_at "m_cs") (fun _ h => nomatch h) (by walk_at "m_e") (Over.list G) (by rw [List.length_map]; omega) fun D => ?_
      have P := P.mod (D :: g.V) l g.hd
      have G := P.G
      refine CompOk.mapRow G (by kernel_rfl!) (by walk_at "m_ne") Del.nil (by kernel_rfl!) (by walk_at "m_ne") (by walk_at "m_ne") Del.nil rows fun r hm => ?_
      refine EV.ite G.toGrOk (z := r.2 == 1) (by walk_at "m_t") (fun hz => ?_) (fun hz => ?_)
      · have e : hdrL r = r.1 := if_pos (by simpa using hz)
        rw [e]; walk_at "m_e"
      · have hne : ¬ r.2 = 1 := by simpa using hz
        have e : hdrL r = (r.1 ++ ";q=") ++ Str.ofString (toString r.2) := if_neg hne
        rw [e]
        have hb : (r.1 ++ ";q=" ++ Str.ofString (toString r.2)).length ≤ 400 := by rw [← e, hdrL_eq]; exact q2 r hm
        have l1 := hb
        rw [Str.length_append] at l1
        have h4 : (400 : Nat) ≤ sizeLine := by decide +kernel
        exact EV.bin G.toGrOk (EV.bin G.toGrOk (by walk_at "m_e") (by walk_at "m_e") (Bin.add_str (by omega))) (EV.call G (cs := [.int r.2]) (by walk_at "m_e") (by walk_at "m_es") Keep.type (FW.str_int (q1 r hm))) (Bin.add_str (by omega))
    · obtain ⟨r, hr, rfl⟩ := List.mem_map.mp hx
      exact q2 r hr
  refine EX.nil ?_
  refine EX.cons (EX1.for_ G (c := strsC offers) (by walk_at "m_e") (Over.list G) ?_) G
  refine Loop.ind (P := fun cs σ => ∃ (rest : List Str), (∀ q ∈ ([("offers", strsC offers), ("rows", rowsC rows), ("kind", .int k), ("told", .acc C p (rows.map rowC))] : Loc), q ∈ σ) ∧ cs = rest.map .str ∧ ∀ o ∈ rest, o ∈ offers) ?_ ?_ _ _ ⟨offers, by walk_at "m_sub", rfl, fun _ h => h⟩
  · rintro σ ⟨rest, hs, _⟩
    refine EX.sub_ hs ?_
    refine EX.cons (EX1.assign G (c := optC (bestK k rows offers)) (EV.ite G.toGrOk (z := k == 1) (by walk_at "m_t") (fun hz => ?_) (fun hz => ?_)) (by walk_at "m_del") (by walk_at "m_kind") (by walk_at "m_ne") ?_) G
    · have hk : k = 1 := by simpa using hz
      have e : bestK k rows offers = tongueF rows offers := if_pos hk
      rw [e]
      exact EV.call G (cs := [rowsC rows, strsC offers]) (by walk_at "m_e") (by walk_at "m_es") (P.kp 37) (FW.le (tt hk _ P h0).w (by omega))
    · have hk : ¬ k = 1 := by simpa using hz
      have e : bestK k rows offers = bestF k rows offers := if_neg hk
      rw [e]
      exact EV.call G (cs := [.int k, rowsC rows, strsC offers]) (by walk_at "m_e") (by walk_at "m_es") (P.kp 36) (FW.le (c_best (n := n) P h0 (by omega) tb).w (by omega))
    · refine EX.cons (EX1.ite (z := false) (ET.op G.toGrOk (EA.or_cons (b := false) (c := false) G.toGrOk (ET.cmp G.toGrOk (a := optC (bestK k rows offers)) (b := optC (bestK k rows offers)) (EV.meth G (cs := [strsC offers]) (by walk_at "m_e") (P.mth ib hC hmb hib (by walk_at "m_ne")) (by walk_at "m_es") (P.kp ib hib) (FW.le (b2 _ P h0 hV).w (by omega))) (by walk_at "m_e") (Bin.ne_opt_same hb)) fun _ => EA.or_cons (b := false) (c := false) G.toGrOk (ET.cmp G.toGrOk (a := .str ((bestK k rows offers).getD "none")) (b := .str ((bestK k rows offers).getD "none")) (EV.meth G (cs := [strsC offers, .str "none"]) (by walk_at "m_e") (P.mth ib hC hmb hib (by walk_at "m_ne")) (by walk_at "m_es") (P.kp ib hib) (FW.le (b3 _ P h0 hV).w (by omega))) ?_ Bin.ne_str_same) fun _ => EA.or_nil G.toGrOk)) (fun h => nomatch h) (fun _ => ?_) G) G
      · cases hbk : bestK k rows offers with
        | none => exact EV.ite G.toGrOk (z := true) (ET.cmp G.toGrOk (a := optC none) (by rw [← hbk]; walk_at "m_e") (by walk_at "m_e") Bin.is_none) (fun _ => EV.str) (fun h => nomatch h)
        | some y => exact EV.ite G.toGrOk (z := false) (ET.cmp G.toGrOk (a := optC (some y)) (by rw [← hbk]; walk_at "m_e") (by walk_at "m_e") Bin.is_none) (fun h => nomatch h) (fun _ => by show EV _ _ _ _ _ _ _ (optC (some y)); rw [← hbk]; walk_at "m_e")
      refine EX.nil ?_
      refine EX.cons (EX1.ret G (c := .bool (true && true)) (EV.and2 G.toGrOk (EV.cmp G.toGrOk (a := strsC (List.replicate 11 "refused")) (b := strsC (List.replicate 11 "refused")) ?_ ?_ (Bin.eq_strs_same (by decide +kernel))) fun _ => EV.cmp G.toGrOk (lst (by walk_at "m_mem")) (by walk_at "m_e") (Bin.eq_rows_same hso)) rfl) G
      · have e : strsC (List.replicate 11 "refused") = .lst (((List.range 11).map fun (i : Nat) => CV.int i).map fun _ => .str "refused") := rfl
        rw [e]
        refine EV.comp G (τ := [("told", .acc C p (rows.map rowC))]) (ci := .rng 11) (by walk_at "m_cs") (by walk_at "m_sub") (EV.call G (cs := [.int (11 : Nat)]) (by walk_at "m_e") (EVs.cons G.toGrOk EV.int EVs.nil) Keep.type (FW.range G)) (Over.range G h0 (by decide)) (by decide) fun D => ?_
        have P := P.mod (D :: g.V) l g.hd
        have G := P.G
        refine CompOk.map G (by kernel_rfl!) (by walk_at "m_ne") (by walk_at "m_del") _ fun c hc => ?_
        obtain ⟨j, _, rfl⟩ := List.mem_map.mp hc
        exact EV.call G (cs := [.acc C p (rows.map rowC), .int j]) (by walk_at "m_e") (by walk_at "m_es") (P.kp 39) (FW.le (c_changed (n := n) P hC h0).w (by omega))
      · exact EV.bin G.toGrOk (EV.list G.toGrOk (by walk_at "m_es") (by simp)) EV.int (Bin.mul_list' (l := [.str "refused"]) (x := 11) G (by simp) (by decide) (by decide) (by decide))
  · rintro c cs σ ⟨rest, hs, hc, hm⟩
    cases rest with
    | nil => cases hc
    | cons o rest =>
      cases hc
      have ho := hm o (.head _)
      obtain ⟨x1, x2, x3⟩ := lookups (vm := vm) (k := k) (rows := rows) (o := o) fun r hr => hvt r hr o ho
      refine ⟨_, AS.sub_ hs (AS.name G (by walk_at "m_del") (by walk_at "m_kind") (by walk_at "m_ne")), ?_⟩
      refine EX.cons (EX1.assign G (c := .int (fnd k rows o)) (EV.call G (cs := [.int k, rowsC rows, .str o]) (by walk_at "m_e") (by walk_at "m_es") (P.kp 35) (FW.le (c_found (n := n) P h0 (by omega) fun r hr => tb r hr o ho).w (by omega))) (by walk_at "m_del") (by walk_at "m_kind") (by walk_at "m_ne") ?_) G
      refine EX.cons (EX1.assign G (c := .int (qualF vm rows o)) (EV.ite G.toGrOk (z := decide (fnd k rows o ≥ 0)) (by walk_at "m_t") (fun hz => ?_) (fun hz => ?_)) (by walk_at "m_del") (by walk_at "m_kind") (by walk_at "m_ne") ?_) G
      · have h0' : 0 ≤ fnd k rows o := by simpa using hz
        rw [x3, if_pos h0']
        exact EV.sub G (a := rowC (rowAt rows (fnd k rows o))) (EV.sub G (a := rowsC rows) (by walk_at "m_e") (by walk_at "m_e") (Bin.list_item h0' (by have := fnd_lt h0'; omega) (rowAt_get h0' (fnd_lt h0')).1)) EV.int (Bin.tup_item (j := 1) (by decide) (by decide) rfl rfl)
      · rw [x3, if_neg (by simpa using hz)]
        exact EV.int
      have okr : ∀ r ∈ rows, ok o r.1 := fun r hr => hok r hr o ho
      refine EX.cons (EX1.ite (z := false) (ET.op G.toGrOk (EA.or_cons (b := false) (c := false) G.toGrOk (ET.cmp G.toGrOk (a := .int (qualF vm rows o)) (b := .int (qualF vm rows o)) (EV.meth G (cs := [.str o]) (by walk_at "m_e") (P.mth 16 hC (inm hC (by walk_at "m_mem")) rfl (by walk_at "m_ne")) (by walk_at "m_es") (P.kp 16) (FW.le (c_quality P hC M okr).w (by omega))) (by walk_at "m_e") Bin.ne_int_same)
        fun _ => EA.or_cons (b := false) (c := false) G.toGrOk (ET.cmp G.toGrOk (a := .int (qualF vm rows o)) (b := .int (qualF vm rows o)) (EV.sub G (a := .acc C p (rows.map rowC)) (b := .str o) (by walk_at "m_e") (by walk_at "m_e") (Bin.acc_item (n := n + 9) P.k (P.kf.find _ (inm hC (x := "__getitem__") (f := 198) (by walk_at "m_mem"))) (P.kf.fnIn (dT 198 (meth 8 3) "Accept.__getitem__" [] .none) (List.mem_of_getElem? (i := 15) rfl)) (P.kf.isFn (dT 198 (meth 8 3) "Accept.__getitem__" [] .none) (List.mem_of_getElem? (i := 15) rfl)) (FW.le (c_getitem_str P hC M okr).w (by omega)))) (by walk_at "m_e") Bin.ne_int_same)
        fun _ => EA.or_cons (b := false) (c := false) G.toGrOk (ET.cmp G.toGrOk (a := .bool (hit vm rows o).isSome) (b := .bool (hit vm rows o).isSome) (EV.cmp G.toGrOk (a := .str o) (b := .acc C p (rows.map rowC)) (by walk_at "m_e") (by walk_at "m_e") (Bin.in_acc P.k (P.kf.find _ (inm hC (x := "__contains__") (f := 212) (by walk_at "m_mem"))) (P.kf.isFn (dT 212 (meth 8 5) "Accept.__contains__" [] .none) (List.mem_of_getElem? (i := 17) rfl)) (FW.le (c_contains P hC M okr).w (by omega)))) (by rw [x2]; walk_at "m_e") Bin.ne_bool_same)
        fun _ => EA.or_cons (b := false) (c := false) G.toGrOk (ET.cmp G.toGrOk (a := .int (fnd k rows o)) (b := .int (fnd k rows o)) (by rw [← x1]; exact EV.meth G (cs := [.str o]) (by walk_at "m_e") (P.mth 19 hC (inm hC (by walk_at "m_mem")) rfl (by walk_at "m_ne")) (by walk_at "m_es") (P.kp 19) (FW.le (c_find P hC M h0 okr).w (by omega))) (by walk_at "m_e") Bin.ne_int_same)
        fun _ => EA.or_cons (b := false) (c := false) G.toGrOk (ET.cmp G.toGrOk (a := .int (if fnd k rows o = -1 then -2 else fnd k rows o)) (b := .int (if fnd k rows o = -1 then -2 else fnd k rows o)) ?_ ?_ Bin.ne_int_same) fun _ => EA.or_nil G.toGrOk)) (fun h => nomatch h) (fun _ => ?_) G) G
      · have := FW.le (c_place (p := p) P hC M h0 okr).w (show 2 + 2 ≤ n + 10 by omega)
        rw [x1] at this
        exact EV.call G (cs := [.acc C p (rows.map rowC), .str o]) (by walk_at "m_e") (by walk_at "m_es") (P.kp 38) this
      · refine EV.ite G.toGrOk (z := decide (fnd k rows o ≥ 0)) (by walk_at "m_t") (fun hz => ?_) (fun hz => ?_)
        · have h0' : 0 ≤ fnd k rows o := by simpa using hz
          rw [if_neg (by omega)]
          walk_at "m_e"
        · have h0' : ¬ 0 ≤ fnd k rows o := by simpa using hz
          have : fnd k rows o = -1 := by
            rcases foundAt_spec (fun t => takesF k t o) rows 0 (Int.le_refl _) with e | ⟨e, _⟩
            · exact e
            · exact absurd e h0'
          rw [if_pos this]
          exact EV.un G.toGrOk EV.int Un.neg_int
      refine EX.nil (EX.nil ⟨rest, by walk_at "m_sub", rfl, fun x hx => hm x (.tail _ hx)⟩)
end
def tabOf (i : Nat) : List Str := strList (stm i)
def tblF (k : Int) : List Str := if k = 0 then tabOf 16 else if k = 1 then tabOf 18 else tabOf 20
def srvF (k : Int) : List Str := if k = 0 then tabOf 17 else if k = 1 then tabOf 19 else ["gzip", "br", "Gzip", "deflate"]
def clsF (k : Int) : Addr := if k = 0 then cM else if k = 1 then cL else cA
def spF (k : Int) : Str → List Bool := if k = 0 then spM else spA
def pick (l : List Str) (i : Int) : Str := l.getD (i.fmod l.length).toNat ""
def givenF (k : Int) (nums : List Int) : List (Str × Int) := nums.map fun i => (pick (tblF k) i, (i.fdiv 10).fmod 4)
def offF (k : Int) : Nat → List Int → List Str
  | _, [] => []
  | j, i :: r => pick (srvF k) (i.fdiv 40 + j) :: offF k (j + 1) r
section
variable {prog : Program} {w : World} {K : Frag} {g : Gr} (P : PW K g) {fi : FI} {n : Nat} {σ : Loc}
include P
theorem EV.tab {x : Str} {a : Addr} {i : Nat} {pos : Pos} (h : fi.scope.names.lookup x = some .globalImplicit) (hm : (x, Value.ref a) ∈ gnames) (hi : (a, i) ∈ [((384 : Addr), (16 : Nat)), (385, 17), (386, 18), (387, 19), (388, 20)]) (hd : (x == ("__debug__" : Str)) = false := by decide) :
    EV prog w g fi n σ (.Name x pos) (strsC (tabOf i)) := by
  intro A env s Q E k F q
  refine EV.gn P h hm hd A env s _ E k F fun v s' y r => q v s' y ?_
  cases r
  have a' := F.at_.step y
  obtain ⟨m, vs, e, rs⟩ := P.tabs (a, i) hi
  have ha : a ∉ ([172, 303, 375] : List Addr) := by
    simp only [List.mem_cons, List.not_mem_nil, or_false, Prod.mk.injEq] at hi
    rcases hi with ⟨rfl, _⟩ | ⟨rfl, _⟩ | ⟨rfl, _⟩ | ⟨rfl, _⟩ | ⟨rfl, _⟩ <;> decide
  have e' := P.at_ a' ha e
  have rs : Rps g.V s'.heap ((tabOf i).map .str) vs := by
    obtain ⟨ps, rfl, hps⟩ := rps_strs' _ rs
    have : tabOf i = strList (stm i) := rfl
    rw [this, ← hps, List.map_map]
    exact rps_strs ps
  exact ⟨a, vs, m, rfl, fun hV => (by have := (a'.vol a hV).1.2; rw [e] at this; cases this), e', rs⟩
end
section
variable {prog : Program} {w : World} {g : Gr} (G : Gr2 g) {fi : FI} {n : Nat} {τ : Loc}
include G
theorem CompOk.mapInt {x : Str} {pos : Pos} {elt : Expr} {f : Int → CV} (hx : fi.scope.names.lookup x = some .local) (np : x ≠ ("provided" : Str)) (d : Del x τ τ) : ∀ ws : List Int, (∀ c ∈ ws, EV prog w g fi n ((x, .int c) :: τ) elt (f c)) → CompOk prog w g fi n τ (.Name x pos) [] elt (ws.map .int) (ws.map f)
  | [], _ => rfl
  | c :: cs, h => ⟨_, true, AS.name G d (.inl hx) np, fun _ hp => .tail _ hp, EIfs.nil, fun _ => ⟨_, _, rfl, h c (.head _), CompOk.mapInt hx np d cs fun c hc => h c (.tail _ hc)⟩, fun h => nomatch h⟩
theorem CompOk.enumInt {x y : Str} {p1 p2 p3 : Pos} {k : Int} {kk : Nat} {elt : Expr} (hx : fi.scope.names.lookup x = some .local) (np : x ≠ ("provided" : Str)) (d : Del x τ τ) (hy : fi.scope.names.lookup y = some .local) (npy : y ≠ ("provided" : Str)) (hxy : x ≠ y) (d2 : Del y τ τ) :
    ∀ (ws : List Int) (j : Nat), (∀ c ∈ ws, ∀ i : Nat, i < j + ws.length → EV prog w g fi n ((y, .int c) :: (x, .int i) :: τ) elt (.str (pick (srvF k) (c.fdiv 40 + i)))) → CompOk prog w g fi n τ (.Tuple [.Name x p1, .Name y p2] kk p3) [] elt (enumC j (ws.map .int)) ((offF k j ws).map .str)
  | [], _, _ => rfl
  | c :: cs, j, h => ⟨_, true, AS.tuple (Parts.tup G) (ASs.cons G (AS.name G d (.inl hx) np) (ASs.cons G (AS.name G (.keep hxy d2) (.inl hy) npy) ASs.nil)) G, fun _ hp => .tail _ (.tail _ hp), EIfs.nil, fun _ => ⟨_, _, rfl, h c (.head _) j (by simp only [List.length_cons]; omega), CompOk.enumInt hx np d hy npy hxy d2 cs (j + 1) fun c hc i hi => h c (.tail _ hc) i (by simp only [List.length_cons]; omega)⟩, fun h => nomatch h⟩
end
abbrev k3 : List Int := [0, 1, 2]
def vmF (k : Int) : Str → Str → Bool := if k = 0 then vmM else if k = 1 then vmL else vmA
/-- what is asked of one text alone (MIME) -/
def oneM (x : Str) : Bool := decide (reSplit mimeCode 0 x = some (piecesF 0 x)) && decide (normM x = piecesF 0 (Txt.lower x))
def oneL (x : Str) : Bool := decide (normL x = piecesF 1 (Txt.lower x))
theorem all_cut {α : Type} {l : List α} {p : α → Prop} (n : Nat) (h1 : ∀ t ∈ l.take n, p t) (h2 : ∀ t ∈ l.drop n, p t) : ∀ t ∈ l, p t := fun t h => by
  rw [← List.take_append_drop n l] at h
  rcases List.mem_append.mp h with h | h
  · exact h1 t h
  · exact h2 t h
theorem t_M0 : ∀ t ∈ (tblF 0).take 3, (okMB t && oneM t) = true := by decide +kernel
theorem t_M1 : ∀ t ∈ ((tblF 0).drop 3).take 2, (okMB t && oneM t) = true := by decide +kernel
theorem t_M2 : ∀ t ∈ (((tblF 0).drop 3).drop 2).take 2, (okMB t && oneM t) = true := by decide +kernel
theorem t_M3 : ∀ t ∈ (((tblF 0).drop 3).drop 2).drop 2, (okMB t && oneM t) = true := by decide +kernel
theorem t_MM : ∀ t ∈ tblF 0, (okMB t && oneM t) = true := all_cut 3 t_M0 (all_cut 2 t_M1 (all_cut 2 t_M2 t_M3))
theorem t_M : ∀ t ∈ tblF 0, oneM t = true := fun t h => (Bool.and_eq_true_iff.mp (t_MM t h)).2
theorem s_M0 : ∀ t ∈ (srvF 0).take 2, (okMB t && oneM t) = true := by decide +kernel
theorem s_M1 : ∀ t ∈ ((srvF 0).drop 2).take 2, (okMB t && oneM t) = true := by decide +kernel
theorem s_M2 : ∀ t ∈ ((srvF 0).drop 2).drop 2, (okMB t && oneM t) = true := by decide +kernel
theorem s_MM : ∀ t ∈ srvF 0, (okMB t && oneM t) = true := all_cut 2 s_M0 (all_cut 2 s_M1 s_M2)
theorem t_MO : ∀ t ∈ srvF 0, oneM t = true := fun t h => (Bool.and_eq_true_iff.mp (s_MM t h)).2
theorem s_okM : ∀ t ∈ srvF 0, okMB t = true := fun t h => (Bool.and_eq_true_iff.mp (s_MM t h)).1
theorem t_L : ∀ t ∈ tblF 1, oneL t = true := by decide +kernel
theorem t_LO : ∀ t ∈ srvF 1, oneL t = true := by decide +kernel
theorem t_okX : ∀ k ∈ k3, ∀ t ∈ tblF k, okX t = true ∧ okS t = true := by decide +kernel
theorem t_okM1 : ∀ k ∈ ([1, 2] : List Int), ∀ t ∈ tblF k, okMB t = true := by decide +kernel
theorem t_okM : ∀ k ∈ k3, ∀ t ∈ tblF k, okMB t = true := fun k hk t h => by
  rcases List.mem_cons.mp hk with rfl | hk
  · exact (Bool.and_eq_true_iff.mp (t_MM t h)).1
  · exact t_okM1 k hk t h
theorem t_okL : ∀ k ∈ k3, ∀ t ∈ tblF k, okLB t = true := by decide +kernel
theorem vmM_takes {o t : Str} (ho : oneM o = true) (ht : oneM t = true) (n0 : (piecesF 0 (Txt.lower o)).getD 0 "" ≠ "*") (n1 : (piecesF 0 (Txt.lower o)).getD 1 "" ≠ "*") : vmM o t = takesF 0 t o := by
  simp only [oneM, Bool.and_eq_true, decide_eq_true_eq] at ho ht
  unfold vmM takesF
  rw [ho.2, ht.2, if_neg (by decide : ¬ (0 : Int) > 0)]
  split
  · rfl
  · rw [decide_eq_false n0, decide_eq_false n1]
    generalize (piecesF 0 (Txt.lower t)).getD 0 "" = a
    generalize (piecesF 0 (Txt.lower t)).getD 1 "" = b
    generalize (piecesF 0 (Txt.lower o)).getD 0 "" = c
    generalize (piecesF 0 (Txt.lower o)).getD 1 "" = d
    generalize (srtC ((piecesF 0 (Txt.lower t)).drop 2)).eqv (srtC ((piecesF 0 (Txt.lower o)).drop 2)) = e
    have hs : True := trivial
    by_cases h0 : a = "*"
    · by_cases h1 : b = "*"
      · simp [h0, h1]
      · simp [h0, h1]
    · simp [h0]
theorem vmL_takes {o t : Str} (ho : oneL o = true) (ht : oneL t = true) : vmL o t = takesF 1 t o := by
  simp only [oneL, decide_eq_true_eq] at ho ht
  unfold vmL takesF
  rw [ho, ht, if_pos (by decide : (1 : Int) > 0)]
  congr 1
  rw [Bool.eq_iff_iff]
  simp only [decide_eq_true_eq]
  exact eq_comm
theorem vmA_takes {o t : Str} : vmA o t = takesF 2 t o := by
  unfold vmA takesF
  rw [if_pos (by decide : (2 : Int) > 0)]
  simp [piecesF]
theorem ltK_none_l (y : CV) : ltK .none y = false := by unfold ltK; split <;> simp_all
theorem ltK_none_r (x : CV) : ltK x .none = false := by unfold ltK; split <;> simp_all
theorem rows_range (rows : List (Str × Int)) : (List.range rows.length).map (fun i => rows.getD i ("", 0)) = rows := by
  apply List.ext_getElem
  · simp
  · intro i h1 h2
    simp [List.getD_eq_getElem?_getD, List.getElem?_eq_getElem h2]
theorem srt_eq {sp : Str → List Bool} {k : Int} {rows : List (Str × Int)} (h : rows.length ≤ 5) (c : Str × Int → Nat)
    (h1 : ∀ r ∈ rows, ∀ r' ∈ rows, ltK (kfC sp (rowC r)) (kfC sp (rowC r')) = decide (c r < c r'))
    (h2 : ∀ r ∈ rows, ∀ r' ∈ rows, geK (specF k r.1, r.2) (specF k r'.1, r'.2) = decide (c r' ≤ c r)) : srtF sp rows = sortedF k rows := by
  generalize hget : (fun i => rows.getD i ("", 0)) = get
  have hg : ∀ i, get i = rows.getD i ("", 0) := fun i => by rw [← hget]
  have hm : ∀ i, i < rows.length → get i ∈ rows := fun i hi => by
    rw [hg, List.getD_eq_getElem?_getD, List.getElem?_eq_getElem hi]; exact List.getElem_mem hi
  have hr : (List.range rows.length).map get = rows := by rw [← hget]; exact rows_range rows
  have rg : ∀ i, i < rows.length → rows.reverse[i]? = some (get (rows.length - 1 - i)) := fun i hi => by
    rw [List.getElem?_reverse hi, hg, List.getD_eq_getElem?_getD, List.getElem?_eq_getElem (by omega)]; rfl
  have e1 : (fun i j => ltK ((katRev true ((rows.map rowC).map (kfC sp))).getD i .none) ((katRev true ((rows.map rowC).map (kfC sp))).getD j .none)) =
      fun i j => decide (i < rows.length) && (decide (j < rows.length) && decide (c (get (rows.length - 1 - i)) < c (get (rows.length - 1 - j)))) := by
    funext i j
    have hx : ∀ i, (katRev true ((rows.map rowC).map (kfC sp))).getD i .none = if i < rows.length then kfC sp (rowC (get (rows.length - 1 - i))) else .none := fun i => by
      show (((rows.map rowC).map (kfC sp)).reverse).getD i .none = _
      rw [← List.map_reverse, ← List.map_reverse, List.getD_eq_getElem?_getD, List.getElem?_map, List.getElem?_map]
      by_cases hi : i < rows.length
      · rw [rg i hi, if_pos hi]; rfl
      · rw [List.getElem?_eq_none (by simpa using hi), if_neg hi]; rfl
    rw [hx, hx]
    by_cases hi : i < rows.length
    · by_cases hj : j < rows.length
      · rw [if_pos hi, if_pos hj, h1 _ (hm _ (by omega)) _ (hm _ (by omega))]; simp [hi, hj]
      · rw [if_neg hj, ltK_none_r]; simp [hj]
    · rw [if_neg hi, ltK_none_l]; simp [hi]
  have a1 : srtF sp rows = (byPerm rows.length fun i j => decide (i < rows.length) && (decide (j < rows.length) && decide (c (get (rows.length - 1 - i)) < c (get (rows.length - 1 - j))))).map get := by
    unfold srtF byPerm
    rw [e1]
    show (List.map _ _).reverse = _
    rw [List.map_reverse, List.map_map]
    congr 1
    refine List.map_congr_left fun i hi => ?_
    have hi := (perm_ok h _).1 i hi
    show rows.reverse.getD i ("", 0) = get (rows.length - 1 - i)
    rw [List.getD_eq_getElem?_getD, rg i hi]; rfl
  have a2 : sortedF k rows = (byIns rows.length fun i j => decide (c (get j) ≤ c (get i))).map get := by
    unfold sortedF byIns
    have := ins_places get (fun a b => geK (specF k a.1, a.2) (specF k b.1, b.2)) (ins k) (fun m r => rfl) (List.range rows.length) []
    rw [hr] at this
    rw [List.map_nil] at this
    rw [this]
    congr 1
    exact insI_congr (n := rows.length) (fun i j hi hj => h2 _ (hm i hi) _ (hm j hj)) _ _ (fun x hx => List.mem_range.mp hx) fun _ h => nomatch h
  rw [a1, a2]
  congr 1
  exact sort_same h fun i => c (get i)
theorem ordB_gt_self (a : List Bool) : ordB .Gt a a = false := by
  unfold ordB
  induction a with
  | nil => rfl
  | cons b a ih =>
    show (if (CV.bool b).eqv (.bool b) then _ else _) = false
    rw [if_pos (by cases b <;> rfl)]
    exact ih
theorem or_none {α : Type} (x : Option α) : x.or none = x := by cases x <;> rfl
theorem bm_step {vm : Str → Str → Bool} {sp : Str → List Bool} {k : Int} {rows : List (Str × Int)} {d : Option Str} {o : Str} (hv : ∀ r ∈ rows, vm o r.1 = takesF k r.1 o) (hs : ∀ r ∈ rows, sp r.1 = specF k r.1)
    {a : Option Str × Option (Int × List Bool)} {b : Option Str × (Int × List Bool)} (R : (a = (d, none) ∧ b = (none, (0, []))) ∨ ∃ x m, a = (some x, some m) ∧ b = (some x, m) ∧ 0 < m.1) :
    (bmStep vm sp rows a o = (d, none) ∧ bestStep k rows b o = (none, (0, []))) ∨ ∃ x m, bmStep vm sp rows a o = (some x, some m) ∧ bestStep k rows b o = (some x, m) ∧ 0 < m.1 := by
  have hf : fnd k rows o = foundAt (fun t => vm o t) rows 0 := (foundAt_congr rows 0 hv).symm
  unfold bmStep bestStep
  rcases foundAt_hit vm o rows 0 (Int.le_refl _) with ⟨e1, e2⟩ | ⟨r, j, e1, e2, e3⟩
  · rw [e1, hf, e2]
    exact R
  · have hrow : rowAt rows (fnd k rows o) = r := by
      rw [hf, e2]; unfold rowAt
      have : ((0 : Int) + (j : Nat)).toNat = j := by omega
      rw [this, List.getD_eq_getElem?_getD, e3]; rfl
    have hmem : r ∈ rows := List.mem_of_getElem? e3
    have hge : decide (fnd k rows o ≥ 0) = true := decide_eq_true (by rw [hf, e2]; omega)
    rw [e1, hrow, hge]
    dsimp only
    rw [hs r hmem]
    by_cases hq : r.2 ≤ 0
    · have h2 : ¬ r.2 > 0 := by omega
      simpa [hq, h2] using R
    · have h2 : r.2 > 0 := by omega
      rcases R with ⟨rfl, rfl⟩ | ⟨x, m, rfl, rfl, hm⟩
      · refine .inr ⟨o, (r.2, specF k r.1), ?_, ?_, h2⟩
        · have h3 : ¬ r.2 < -1 := by omega
          have h4 : r.2 > -1 := by omega
          simp [bqOf, hq, h3, h4]
        · have : gtM (r.2, specF k r.1) (0, []) = true := by
            unfold gtM; rw [if_neg (by show ¬ r.2 = 0; omega)]; exact decide_eq_true h2
          simp [h2, this]
      · obtain ⟨mq, ms⟩ := m
        dsimp only at hm
        by_cases h3 : r.2 < mq
        · have h4 : gtM (r.2, specF k r.1) (mq, ms) = false := by
            unfold gtM; rw [if_neg (by show ¬ r.2 = mq; omega)]; exact decide_eq_false (by show ¬ r.2 > mq; omega)
          exact .inr ⟨x, (mq, ms), by simp [bqOf, h3], by simp [h4], hm⟩
        · by_cases h4 : r.2 = mq
          · have h5 : gtM (r.2, specF k r.1) (mq, ms) = ordB .Gt (specF k r.1) ms := by
              unfold gtM; rw [if_pos (show r.2 = mq from h4)]
              show (if specF k r.1 = ms then _ else _) = _
              split
              · rename_i e; rw [e, ordB_gt_self]
              · rfl
            have h6 : ¬ r.2 > mq := by omega
            have hq' : (decide (r.2 ≤ 0) || (decide (r.2 < bqOf (some (mq, ms))) || false)) = false := by simp [bqOf, hq, h3]
            cases h7 : ordB .Gt (specF k r.1) ms with
            | true => exact .inr ⟨o, (r.2, specF k r.1), by simp [bqOf, gtS, hq, h3, h7], by simp [h2, h5, h7], h2⟩
            | false => exact .inr ⟨x, (mq, ms), by simp [bqOf, gtS, h6, h7], by simp [h5, h7], hm⟩
          · have h5 : gtM (r.2, specF k r.1) (mq, ms) = true := by
              unfold gtM; rw [if_neg (show ¬ r.2 = mq from h4)]; exact decide_eq_true (by show r.2 > mq; omega)
            have h6 : r.2 > mq := by omega
            exact .inr ⟨o, (r.2, specF k r.1), by simp [bqOf, hq, h3, h6], by simp [h2, h5], h2⟩
theorem best_eq {vm : Str → Str → Bool} {sp : Str → List Bool} {k : Int} {rows : List (Str × Int)} {d : Option Str} {offers : List Str} (hv : ∀ r ∈ rows, ∀ o ∈ offers, vm o r.1 = takesF k r.1 o) (hs : ∀ r ∈ rows, sp r.1 = specF k r.1) :
    bestMF vm sp rows offers d = (bestF k rows offers).or d := by
  have : ∀ (l : List Str) (a : Option Str × Option (Int × List Bool)) (b : Option Str × (Int × List Bool)), (∀ o ∈ l, o ∈ offers) → ((a = (d, none) ∧ b = (none, (0, []))) ∨ ∃ x m, a = (some x, some m) ∧ b = (some x, m) ∧ 0 < m.1) →
      (l.foldl (bmStep vm sp rows) a).1 = (l.foldl (bestStep k rows) b).1.or d := by
    intro l
    induction l with
    | nil =>
      rintro a b _ (⟨rfl, rfl⟩ | ⟨x, m, rfl, rfl, _⟩) <;> rfl
    | cons o l ih =>
      intro a b hl R
      exact ih _ _ (fun x hx => hl x (.tail _ hx)) (bm_step (fun r hr => hv r hr o (hl o (.head _))) hs R)
  exact this offers _ _ (fun _ h => h) (.inl ⟨rfl, rfl⟩)
theorem bestF_mem {k : Int} {rows : List (Str × Int)} {offers : List Str} {y : Str} (h : bestF k rows offers = some y) : y ∈ offers := by
  have : ∀ (l : List Str) (b : Option Str × (Int × List Bool)), (l.foldl (bestStep k rows) b).1 = some y → b.1 = some y ∨ y ∈ l := by
    intro l
    induction l with
    | nil => exact fun b h => .inl h
    | cons o l ih =>
      intro b h
      rcases ih _ h with h | h
      · unfold bestStep at h
        split at h
        · cases h; exact .inr (.head _)
        · exact .inl h
      · exact .inr (.tail _ h)
  rcases this _ _ h with h | h
  · cases h
  · exact h
/-- the law's languages are the class's -/
theorem short_find (s : Str) : ∀ (l : List Str), l.reverse.foldl (shortStep (some s)) none = l.find? fun o => decide (p0 o = s)
  | [] => rfl
  | o :: l => by
    rw [List.reverse_cons, List.foldl_append, short_find s l]
    show shortStep (some s) _ o = _
    unfold shortStep
    by_cases h : p0 o = s
    · simp [h]
    · simp [h]
theorem short_none : ∀ (l : List Str) (b : Option Str), l.foldl (shortStep none) b = b
  | [], _ => rfl
  | o :: l, b => by rw [List.foldl_cons]; exact short_none l b
theorem tongueF_mem {rows : List (Str × Int)} {offers : List Str} {y : Str} (h : tongueF rows offers = some y) : y ∈ offers := by
  unfold tongueF at h
  split at h
  · rename_i b hb
    cases h
    unfold tongue2 at hb
    split at hb
    · rename_i b' hb'; cases hb; exact bestF_mem hb'
    · exact bestF_mem hb
  · cases hs : bestF 1 rows (offers.map p0) with
    | none => rw [hs, short_none] at h; cases h
    | some s => rw [hs, short_find] at h; exact List.mem_of_find?_eq_some h
theorem lang_eq {rows : List (Str × Int)} {offers : List Str} {d : Option Str} (v1 : ∀ r ∈ rows, ∀ o ∈ offers, vmL o r.1 = takesF 1 r.1 o) (v2 : ∀ r ∈ rows, ∀ o ∈ offers, vmL (p0 o) r.1 = takesF 1 r.1 (p0 o))
    (l1 : ∀ r ∈ rows, lp0 r.1 = p0 r.1) (l2 : ∀ o ∈ offers, lp0 o = p0 o) (sw : ∀ o ∈ offers, ∀ o' ∈ offers, Txt.startswith o (p0 o') = decide (p0 o = p0 o'))
    (hsrt : srtF spA (firstR rows) = sortedF 2 (firstR rows)) : langF rows offers d = (tongueF rows offers).or d ∧ ∀ s, bestMF vmL spA rows (offers.map lp0) none = some s → (offers.find? fun o => Txt.startswith o s).isSome = true := by
  have hsp : ∀ (k : Int), k ≠ 0 → ∀ (rows : List (Str × Int)), ∀ r ∈ rows, spA r.1 = specF k r.1 := fun k hk rows r _ => by unfold spA specF; rw [if_neg hk]
  have e0 : fbR rows = firstR rows := List.map_congr_left fun r hr => by rw [l1 r hr]
  have e1 : bestMF vmL spA rows offers none = bestF 1 rows offers := by rw [best_eq v1 (hsp 1 (by decide) rows), or_none]
  have e2 : bestMF vmA spA (srtF spA (fbR rows)) offers none = bestF 2 (sortedF 2 (firstR rows)) offers := by
    rw [e0, hsrt, best_eq (k := 2) (fun r _ o _ => vmA_takes) (hsp 2 (by decide) _), or_none]
  have e3 : bestMF vmL spA rows (offers.map lp0) none = bestF 1 rows (offers.map p0) := by
    rw [List.map_congr_left l2, best_eq (k := 1) (fun r hr o ho => ?_) (hsp 1 (by decide) rows), or_none]
    obtain ⟨o', h, rfl⟩ := List.mem_map.mp ho
    exact v2 r hr o' h
  have hf : ∀ s, bestF 1 rows (offers.map p0) = some s → (offers.find? fun o => Txt.startswith o s) = offers.find? fun o => decide (p0 o = s) := fun s hs => by
    obtain ⟨o', ho', rfl⟩ := List.mem_map.mp (bestF_mem hs)
    have : ∀ l : List Str, (∀ o ∈ l, o ∈ offers) → (l.find? fun o => Txt.startswith o (p0 o')) = l.find? fun o => decide (p0 o = p0 o') := by
      intro l
      induction l with
      | nil => intro _; rfl
      | cons o l ih =>
        intro hl
        rw [List.find?_cons, List.find?_cons, sw o (hl o (.head _)) o' ho', ih fun x hx => hl x (.tail _ hx)]
    exact this offers fun _ h => h
  have hsome : ∀ s, bestF 1 rows (offers.map p0) = some s → (offers.find? fun o => decide (p0 o = s)).isSome = true := fun s hs => by
    obtain ⟨o', ho', rfl⟩ := List.mem_map.mp (bestF_mem hs)
    rw [List.find?_isSome]
    exact ⟨o', ho', by simp⟩
  constructor
  · unfold langF tongueF tongue2
    rw [e1, e2, e3]
    cases bestF 1 rows offers with
    | some b => rfl
    | none =>
      dsimp only
      cases bestF 2 (sortedF 2 (firstR rows)) offers with
      | some b => rfl
      | none =>
        dsimp only
        cases hs : bestF 1 rows (offers.map p0) with
        | none => dsimp only; rw [short_none]; rfl
        | some s =>
          dsimp only
          rw [short_find, hf s hs]
          have := hsome s hs
          cases hx : offers.find? fun o => decide (p0 o = s) with
          | none => rw [hx] at this; cases this
          | some x => rfl
  · intro s hs
    rw [e3] at hs
    rw [hf s hs]; exact hsome s hs
theorem s_okX : ∀ k ∈ k3, ∀ t ∈ srvF k, okX t = true ∧ okS t = true := by decide +kernel
theorem s_okL : ∀ t ∈ srvF 1, okSp t = true := by decide +kernel
theorem t_okSp : ∀ t ∈ tblF 1, okSp t = true := by decide +kernel
theorem s_two : ∀ t ∈ srvF 0, within "/" t = true ∧ 2 ≤ (piecesF 0 (Txt.lower t)).length ∧ (piecesF 0 (Txt.lower t)).getD 0 "" ≠ "*" ∧ (piecesF 0 (Txt.lower t)).getD 1 "" ≠ "*" := by decide +kernel
theorem t_two : ∀ t ∈ tblF 0, within "/" t = true → 2 ≤ (piecesF 0 (Txt.lower t)).length := by decide +kernel
theorem t_p0 : ∀ t ∈ tblF 1, okX (p0 t) = true ∧ okS (p0 t) = true ∧ lp0 t = p0 t ∧ 1 ≤ (piecesF 1 t).length := by decide +kernel
theorem s_p0 : ∀ t ∈ srvF 1, okX (p0 t) = true ∧ okS (p0 t) = true ∧ lp0 t = p0 t ∧ 1 ≤ (piecesF 1 t).length ∧ oneL (p0 t) = true := by decide +kernel
theorem s_sw : ∀ o ∈ srvF 1, ∀ o' ∈ srvF 1, Txt.startswith o (p0 o') = decide (p0 o = p0 o') := by decide +kernel
def specs : List (List Bool) := [[true], [false], [true, true], [true, false], [false, false], [false, true], [true, true, true], [true, true, true, true]]
theorem t_specs : ∀ k ∈ k3, ∀ t ∈ tblF k, specF k t ∈ specs := by decide +kernel
def codeL : Nat → List Bool → Nat
  | 0, _ => 0
  | _, [] => 0
  | n + 1, b :: l => (if b then 2 else 1) * 3 ^ n + codeL n l
def codeR (k : Int) (r : Str × Int) : Nat := codeL 8 (specF k r.1) * 4 + r.2.toNat
abbrev q4 : List Int := [0, 1, 2, 3]
theorem keys_code : ∀ a ∈ specs, ∀ b ∈ specs, ∀ q ∈ q4, ∀ r ∈ q4, ltK (keyC (a, q)) (keyC (b, r)) = decide (codeL 8 a * 4 + q.toNat < codeL 8 b * 4 + r.toNat) ∧ geK (a, q) (b, r) = decide (codeL 8 b * 4 + r.toNat ≤ codeL 8 a * 4 + q.toNat) := by decide +kernel
theorem q_len : ∀ q ∈ q4, (Str.ofString (toString q)).length ≤ 10 ∧ q.natAbs.log2 < 1920 := by decide +kernel
theorem k3_cases {k : Int} (h : k ∈ k3) : k = 0 ∨ k = 1 ∨ k = 2 := by simpa [k3] using h
def RowOk (k : Int) (r : Str × Int) : Prop := r.1 ∈ tblF k ∧ r.2 ∈ q4
theorem spM_spec {t : Str} (h : oneM t = true) : spM t = specF 0 t := by
  simp only [oneM, Bool.and_eq_true, decide_eq_true_eq] at h
  unfold spM specF
  rw [h.1, if_pos rfl]; rfl
theorem spA_spec {k : Int} (hk : k ≠ 0) (t : Str) : spA t = specF k t := by unfold spA specF; rw [if_neg hk]
theorem spF_spec {k : Int} (hk : k ∈ k3) {t : Str} (h : t ∈ tblF k) : spF k t = specF k t := by
  unfold spF
  by_cases h0 : k = 0
  · subst h0; rw [if_pos rfl]; exact spM_spec (t_M t h)
  · rw [if_neg h0]; exact spA_spec h0 t
theorem kfC_row (sp : Str → List Bool) (r : Str × Int) : kfC sp (rowC r) = keyC (sp r.1, r.2) := rfl
theorem code_lt {k : Int} {sp : Str → List Bool} {r r' : Str × Int} (h1 : specF k r.1 ∈ specs) (h2 : specF k r'.1 ∈ specs) (e1 : sp r.1 = specF k r.1) (e2 : sp r'.1 = specF k r'.1) (q1 : r.2 ∈ q4) (q2 : r'.2 ∈ q4) :
    ltK (kfC sp (rowC r)) (kfC sp (rowC r')) = decide (codeR k r < codeR k r') ∧ geK (specF k r.1, r.2) (specF k r'.1, r'.2) = decide (codeR k r' ≤ codeR k r) := by
  rw [kfC_row, kfC_row, e1, e2]
  exact keys_code _ h1 _ h2 _ q1 _ q2
theorem srt_k {k : Int} (hk : k ∈ k3) {rows : List (Str × Int)} (hl : rows.length ≤ 5) (h : ∀ r ∈ rows, RowOk k r) : srtF (spF k) rows = sortedF k rows :=
  srt_eq hl (codeR k) (fun r hr r' hr' => (code_lt (t_specs k hk _ (h r hr).1) (t_specs k hk _ (h r' hr').1) (spF_spec hk (h r hr).1) (spF_spec hk (h r' hr').1) (h r hr).2 (h r' hr').2).1)
    fun r hr r' hr' => (code_lt (sp := spF k) (t_specs k hk _ (h r hr).1) (t_specs k hk _ (h r' hr').1) (spF_spec hk (h r hr).1) (spF_spec hk (h r' hr').1) (h r hr).2 (h r' hr').2).2
theorem spec2 (x : Str) : specF 2 x ∈ specs := by
  rw [← spA_spec (by decide) x]; unfold spA
  cases decide (x = "*") <;> decide
theorem srt_2 {rows : List (Str × Int)} (hl : rows.length ≤ 5) (h : ∀ r ∈ rows, r.2 ∈ q4) : srtF spA rows = sortedF 2 rows :=
  srt_eq hl (codeR 2) (fun r hr r' hr' => (code_lt (spec2 _) (spec2 _) (spA_spec (by decide) _) (spA_spec (by decide) _) (h r hr) (h r' hr')).1)
    fun r hr r' hr' => (code_lt (sp := spA) (spec2 _) (spec2 _) (spA_spec (by decide) _) (spA_spec (by decide) _) (h r hr) (h r' hr')).2
theorem vm_k {k : Int} (hk : k ∈ k3) {t o : Str} (ht : t ∈ tblF k) (ho : o ∈ srvF k) : vmF k o t = takesF k t o := by
  rcases k3_cases hk with rfl | rfl | rfl
  · exact vmM_takes (t_MO o ho) (t_M t ht) (s_two o ho).2.2.1 (s_two o ho).2.2.2
  · exact vmL_takes (t_LO o ho) (t_L t ht)
  · exact vmA_takes
theorem tkB_k {k : Int} (hk : k ∈ k3) {t o : Str} (ht : t ∈ tblF k) (ho : o ∈ srvF k) : tkB k t o = true := by
  have h1 := t_okX k hk t ht
  have h2 := s_okX k hk o ho
  unfold tkB
  rw [h1.1, h1.2, h2.1, h2.2]
  rcases k3_cases hk with rfl | rfl | rfl
  · have h3 := s_two o ho
    cases hw : within "/" t with
    | false => simp
    | true => simp [t_two t ht hw, h3.2.1]
  · simp
  · simp
theorem tkB_of {k : Int} (hk : 0 < k) {t o : Str} (h1 : okX t = true) (h2 : okS t = true) (h3 : okX o = true) (h4 : okS o = true) : tkB k t o = true := by
  unfold tkB
  rw [h1, h2, h3, h4]
  have a : decide (0 ≤ k) = true := decide_eq_true (by omega)
  have b : (k == 0) = false := by simp; omega
  rw [a, b]; rfl
theorem okM_k {t o : Str} (ht : t ∈ tblF 0) (ho : o ∈ srvF 0) : okM o t := by
  have h := s_two o ho
  have e := t_MO o ho
  simp only [oneM, Bool.and_eq_true, decide_eq_true_eq] at e
  refine ⟨s_okM o ho, t_okM 0 (.head _) t ht, h.1, ?_⟩
  rw [e.2, decide_eq_false h.2.2.1]; rfl
theorem okL_k {t o : Str} (ht : t ∈ tblF 1) (ho : o ∈ srvF 1) : okL o t := ⟨(okSp.a (s_okL o ho)).1, t_okL 1 (.tail _ (.head _)) t ht⟩
theorem okA_k {t o : Str} (ht : t ∈ tblF 2) (ho : o ∈ srvF 2) : okA o t := ⟨okX.t (s_okX 2 (by decide) o ho).1, okX.t (t_okX 2 (by decide) t ht).1⟩
/-- what is asked of the rows and the offers of one kind -/
structure Lay (k : Int) (rows : List (Str × Int)) (offers : List Str) : Prop where
  kk : k ∈ k3
  hl : rows.length ≤ 5
  ho : offers.length ≤ 3
  r : ∀ r ∈ rows, RowOk k r
  o : ∀ o ∈ offers, o ∈ srvF k
theorem Lay.lang {rows : List (Str × Int)} {offers : List Str} (L : Lay 1 rows offers) (d : Option Str) : langF rows offers d = (tongueF rows offers).or d ∧ ∀ s, bestMF vmL spA rows (offers.map lp0) none = some s → (offers.find? fun o => Txt.startswith o s).isSome = true :=
  lang_eq (fun r hr o ho => vmL_takes (t_LO o (L.o o ho)) (t_L _ (L.r r hr).1)) (fun r hr o ho => vmL_takes (s_p0 o (L.o o ho)).2.2.2.2 (t_L _ (L.r r hr).1)) (fun r hr => (t_p0 _ (L.r r hr).1).2.2.1) (fun o ho => (s_p0 o (L.o o ho)).2.2.1)
    (fun o ho o' ho' => s_sw o (L.o o ho) o' (L.o o' ho')) (srt_2 (by rw [firstR, List.length_map]; exact L.hl) fun r hr => by
      obtain ⟨q, hq, rfl⟩ := List.mem_map.mp hr
      exact (L.r q hq).2)
theorem Lay.best {k : Int} {rows : List (Str × Int)} {offers : List Str} (L : Lay k rows offers) (d : Option Str) : bestMF (vmF k) (spF k) rows offers d = (bestF k rows offers).or d :=
  best_eq (fun r hr o ho => vm_k L.kk (L.r r hr).1 (L.o o ho)) fun r hr => spF_spec L.kk (L.r r hr).1
theorem bestK_mem {k : Int} {rows : List (Str × Int)} {offers : List Str} {y : Str} (h : bestK k rows offers = some y) : y ∈ offers := by
  unfold bestK at h
  split at h
  · exact tongueF_mem h
  · exact bestF_mem h
theorem Lay.str {k : Int} {rows : List (Str × Int)} {offers : List Str} (L : Lay k rows offers) {y : Str} (h : bestK k rows offers = some y) : PyData.strOk y = true :=
  okT.s (okX.t (s_okX k L.kk y (L.o y (bestK_mem h))).1)
theorem or_getD (x : Option Str) (d : Str) : x.or (some d) = some (x.getD d) := by cases x <;> rfl
section
variable {w : World} {K : Frag} {g : Gr} (P : PW K g) {n : Nat} {k : Int} {rows : List (Str × Int)} {offers : List Str} {p : Bool}
include P
/-- best_match of a kind's class -/
def fbF (k : Int) : Addr := if k = 1 then 378 else 269
def ibF (k : Int) : Nat := if k = 1 then 30 else 23
theorem bm_2 (L : Lay k rows offers) (h0 : g.hd = Option.none) (hV : g.V = []) : FN pw w g 9 (.ref (fbF k)) [.acc (clsF k) p (rows.map rowC), strsC offers] (optC (bestK k rows offers)) := by
  have hb := L.best none
  rw [or_none] at hb
  rcases k3_cases L.kk with rfl | rfl | rfl
  · have e : bestK 0 rows offers = bestMF vmM spM rows offers none := hb.symm
    rw [e]
    exact FN.le (c_bm2 P hMC (n := 2) VM.M (by rw [h0]; exact SPC.M (n := 2)) (fun r hr o ho => okM_k (L.r r hr).1 (L.o o ho)) fun r hr => t_okM 0 (.head _) _ (L.r r hr).1) (by omega)
  · have h := L.lang none
    rw [or_none] at h
    have e : bestK 1 rows offers = langF rows offers none := h.1.symm
    rw [e]
    exact c_bmL2 P (n := 2) h0 hV L.hl (by have := L.ho; omega) (fun r hr => t_okSp _ (L.r r hr).1) (fun o ho => s_okL o (L.o o ho)) h.2
  · have e : bestK 2 rows offers = bestMF vmA spA rows offers none := hb.symm
    rw [e]
    exact FN.le (c_bm2 P hAC (n := 2) VM.A SPC.A (fun r hr o ho => okA_k (L.r r hr).1 (L.o o ho)) fun _ _ => trivial) (by omega)
theorem bm_3 (L : Lay k rows offers) (h0 : g.hd = Option.none) (hV : g.V = []) (d : Str) : FN pw w g 9 (.ref (fbF k)) [.acc (clsF k) p (rows.map rowC), strsC offers, .str d] (.str ((bestK k rows offers).getD d)) := by
  have hb := L.best (some d)
  rw [or_getD] at hb
  rcases k3_cases L.kk with rfl | rfl | rfl
  · have e : CV.str ((bestK 0 rows offers).getD d) = optC (bestMF vmM spM rows offers (some d)) := congrArg optC hb.symm
    rw [e]
    exact FN.le (c_bm3 P hMC (n := 2) (d := some d) VM.M (by rw [h0]; exact SPC.M (n := 2)) (fun r hr o ho => okM_k (L.r r hr).1 (L.o o ho)) fun r hr => t_okM 0 (.head _) _ (L.r r hr).1) (by omega)
  · have h := L.lang (some d)
    rw [or_getD] at h
    have e : CV.str ((bestK 1 rows offers).getD d) = optC (langF rows offers (some d)) := congrArg optC h.1.symm
    rw [e]
    exact c_bmL3 P (n := 2) (d := some d) h0 hV L.hl (by have := L.ho; omega) (fun r hr => t_okSp _ (L.r r hr).1) (fun o ho => s_okL o (L.o o ho)) h.2
  · have e : CV.str ((bestK 2 rows offers).getD d) = optC (bestMF vmA spA rows offers (some d)) := congrArg optC hb.symm
    rw [e]
    exact FN.le (c_bm3 P hAC (n := 2) (d := some d) VM.A SPC.A (fun r hr o ho => okA_k (L.r r hr).1 (L.o o ho)) fun _ _ => trivial) (by omega)
omit P in
theorem hdr_le {r : Str × Int} (h1 : okX r.1 = true) (h2 : r.2 ∈ q4) : (hdr1 r).length ≤ 400 := by
  have h := okX.t h1
  simp only [okT, Bool.and_eq_true, decide_eq_true_eq] at h
  have h := h.1.1.1.1.1.1.1.1
  unfold hdr1
  split
  · omega
  · have := (q_len _ h2).1
    rw [Str.length_append, Str.length_append, Str.length_append]
    have e1 : Str.empty.length = 0 := rfl
    have e2 : Str.length (";q=" : Str) = 3 := by decide +kernel
    omega
theorem tongue_k (L : Lay 1 rows offers) (h0 : g.hd = Option.none) : FN pw w g 9 (.ref 429) [rowsC rows, strsC offers] (optC (tongueF rows offers)) := by
  have hr : ∀ r ∈ rows, r.1 ∈ tblF 1 := fun r hr => (L.r r hr).1
  have hk : (1 : Int) ∈ k3 := by decide
  refine FN.le (c_tongue P (n := 4) h0 (by have := L.hl; omega) (by have := L.ho; omega) (fun r hx o ho => tkB_k hk (hr r hx) (L.o o ho)) (fun r hx o ho => ?_) (fun r hx o ho => ?_) (fun r hx => ?_) fun o ho => ?_) (by omega)
  · exact tkB_of (by decide) (t_p0 _ (hr r hx)).1 (t_p0 _ (hr r hx)).2.1 (s_okX 1 hk o (L.o o ho)).1 (s_okX 1 hk o (L.o o ho)).2
  · exact tkB_of (by decide) (t_okX 1 hk _ (hr r hx)).1 (t_okX 1 hk _ (hr r hx)).2 (s_p0 o (L.o o ho)).1 (s_p0 o (L.o o ho)).2.1
  · exact ⟨(t_okX 1 hk _ (hr r hx)).1, (t_p0 _ (hr r hx)).1, (t_p0 _ (hr r hx)).2.2.2⟩
  · exact ⟨(s_okX 1 hk o (L.o o ho)).1, (s_p0 o (L.o o ho)).2.2.2.1⟩
theorem holds_k (L : Lay k rows offers) (h0 : g.hd = Option.none) (hV : g.V = []) : FN pw w g (n + 11) (.ref 448) [.acc (clsF k) p (rows.map rowC), .int k, rowsC rows, strsC offers] (.bool true) := by
  have tx : ∀ r ∈ rows, okX r.1 = true := fun r hr => (t_okX k L.kk _ (L.r r hr).1).1
  have tb : ∀ r ∈ rows, ∀ o ∈ offers, tkB k r.1 o = true := fun r hr o ho => tkB_k L.kk (L.r r hr).1 (L.o o ho)
  have hv : ∀ r ∈ rows, ∀ o ∈ offers, vmF k o r.1 = takesF k r.1 o := fun r hr o ho => vm_k L.kk (L.r r hr).1 (L.o o ho)
  have q1 : ∀ r ∈ rows, r.2.natAbs.log2 < 1920 := fun r hr => (q_len _ (L.r r hr).2).2
  have q2 : ∀ r ∈ rows, (hdr1 r).length ≤ 400 := fun r hr => hdr_le (tx r hr) (L.r r hr).2
  have b2 : ∀ g', PW K g' → g'.hd = Option.none → g'.V = [] → FN pw w g' 9 (.ref (fbF k)) [.acc (clsF k) p (rows.map rowC), strsC offers] (optC (bestK k rows offers)) := fun g' P' a b => bm_2 P' L a b
  have b3 : ∀ g', PW K g' → g'.hd = Option.none → g'.V = [] → FN pw w g' 9 (.ref (fbF k)) [.acc (clsF k) p (rows.map rowC), strsC offers, .str "none"] (.str ((bestK k rows offers).getD "none")) := fun g' P' a b => bm_3 P' L a b "none"
  have tt : k = 1 → ∀ g', PW K g' → g'.hd = Option.none → FN pw w g' 9 (.ref 429) [rowsC rows, strsC offers] (optC (tongueF rows offers)) := fun hk g' P' a => by subst hk; exact tongue_k P' L a
  have hho : offers.length ≤ 100 := by have := L.ho; omega
  rcases k3_cases L.kk with rfl | rfl | rfl
  · exact c_holds P hMC (n := n) VM.M h0 hV L.hl hho (fun r hr o ho => okM_k (L.r r hr).1 (L.o o ho)) hv (by walk_at "m_vmem") (ib := 23) rfl b2 b3 (fun y h => L.str h) tb tx q1 q2 tt
  · exact c_holds P hLC (n := n) VM.L h0 hV L.hl hho (fun r hr o ho => okL_k (L.r r hr).1 (L.o o ho)) hv (by walk_at "m_vmem") (ib := 30) rfl b2 b3 (fun y h => L.str h) tb tx q1 q2 tt
  · exact c_holds P hAC (n := n) (VM.A (n := 1)) h0 hV L.hl hho (fun r hr o ho => okA_k (L.r r hr).1 (L.o o ho)) hv (by walk_at "m_vmem") (ib := 23) rfl b2 b3 (fun y h => L.str h) tb tx q1 q2 tt
/-- the law's best of a kind -/
theorem best_k (L : Lay k rows offers) (h0 : g.hd = Option.none) : FN pw w g (n + 4) (.ref 424) [.int k, rowsC rows, strsC offers] (optC (bestF k rows offers)) :=
  c_best P h0 (by have := L.hl; omega) fun r hr o ho => tkB_k L.kk (L.r r hr).1 (L.o o ho)
end
section
variable {w : World} {K : Frag} {g : Gr} (P : PW K g) {n : Nat} {p : Bool} {l : List CV} {rows : List (Str × Int)} {o : Str}
include P
theorem r_vmM {t : Str} (h0 : g.hd = Option.none) (ht : within "/" t = true) (ho : within "/" o = false) (hl : (reprText o).length ≤ 1000) : FNr pw w g (n + 1) (.ref 315) [.acc cM p l, .str o, .str t] "ValueError" := by
  have D := P.df 27
  refine FNr.of_def P.G D (bind_plain (names := ["self", "value", "item"]) rfl (by walk_at "m_b3")) Closed.nil (by walk_at "m_bnd") (fun l => ?_) rfl
  have P := P.mod g.V l g.hd
  have G := P.G
  have h4 : (10000 : Nat) ≤ sizeLine := by decide +kernel
  have h5 : ("invalid mimetype " : Str).length ≤ 100 := by decide
  refine EX.cons (EX1.ite (z := !within "/" t) (by walk_at "m_t") (fun hz => by rw [ht] at hz; cases hz) (fun hz => ?_) G) G
  refine EX.nil ?_
  refine EX.cons (EX1.ite (z := !within "/" o) (by walk_at "m_t") (fun hz => ?_) (fun hz => by rw [ho] at hz; cases hz) G) G
  refine EX.cons (XR1.ex G (T := "ValueError") (XR1.raise_ G F.excCall_ValueError F.excRaise_ValueError h0 (by decide) (cs := [.str ((Str.empty ++ "invalid mimetype ") ++ reprText o)]) (by walk_at "m_e") (EVs.cons G.toGrOk (EV.joined (EJ.cons G.toGrOk EV.str ?_ (EJ.cons G.toGrOk (EV.fmt_repr G (by walk_at "m_e") (by omega)) ?_ (EJ.nil ?_)))) EVs.nil) (by simp)) rfl) G
  · rw [Str.length_append]; show 0 + _ ≤ _; omega
  · rw [Str.length_append, Str.length_append]; show 0 + _ + _ ≤ _; omega
  · rw [Str.length_append, Str.length_append]; show 0 + _ + _ ≤ _; omega
theorem r_bsm {r : Str × Int} (h0 : g.hd = Option.none) (ht : within "/" r.1 = true) (ho : within "/" o = false) (hl : (reprText o).length ≤ 1000) : FNr pw w g (n + 2) (.ref 261) [.acc cM p ((r :: rows).map rowC), .str o] "ValueError" := by
  have D := P.df 22
  refine FNr.of_def P.G D (bind_plain (names := ["self", "match"]) rfl (by walk_at "m_b2")) Closed.nil (by walk_at "m_bnd") (fun l => ?_) rfl
  have P := P.mod g.V l g.hd
  have G := P.G
  refine EX.cons (EX1.for_ G (c := .acc cM p ((r :: rows).map rowC)) (cs := (r :: rows).map rowC) (by walk_at "m_e") (SeqIt.over G (SeqIt.acc P.k (P.kf.acc cM hMC))) ?_) G
  refine ⟨_, AS.row G (by walk_at "m_del") (by walk_at "m_kind") (by walk_at "m_ne") (by walk_at "m_del") (by walk_at "m_kind") (by walk_at "m_ne"), ?_⟩
  exact EX.cons (XR1.ex G (T := "ValueError") (XR1.test (ERt.val (ER.meth G (cs := [.str o, .str r.1]) (by walk_at "m_e") (P.mth 27 hMC (by walk_at "m_vmem") rfl (by walk_at "m_ne")) (by walk_at "m_es") (P.kp 27) (r_vmM P h0 ht ho hl).w))) rfl) G
/-- the second offer is refused -/
theorem r_bm {r : Str × Int} {o1 : Str} (h0 : g.hd = Option.none) (hok : ∀ q ∈ r :: rows, okM o1 q.1) (hs : ∀ q ∈ r :: rows, okMB q.1 = true) (ht : within "/" r.1 = true) (ho : within "/" o = false) (hl : (reprText o).length ≤ 1000) : FNr pw w g (n + 4) (.ref 269) [.acc cM p ((r :: rows).map rowC), strsC [o1, o]] "ValueError" := by
  have D := P.df 23
  refine FNr.of_def (cb := [("self", .acc cM p ((r :: rows).map rowC)), ("matches", strsC [o1, o]), ("default", .none)]) P.G D (fun fd h1 h2 s vs a r => ?_) Closed.nil (by walk_at "m_bnd") (fun l => ?_) rfl
  · obtain ⟨v, _, rfl, r1, u, _, rfl, r2, rfl⟩ := r
    obtain ⟨m, e⟩ := P.dv1
    cases fd
    dsimp only at h1 h2
    subst h1 h2
    exact ⟨[("self", v), ("matches", u), ("default", .none)], BindsTo.of_defaults rfl (P.at_ a (by decide) e) rfl rfl rfl, .cons r1 (.cons r2 (.cons rfl .nil))⟩
  have P := P.mod g.V l g.hd
  have G := P.G
  generalize hrs : r :: rows = rs
  rw [hrs] at hok hs
  refine EX.cons (EX1.assign G (c := .none) (by walk_at "m_e") (by walk_at "m_del") (by walk_at "m_kind") (by walk_at "m_ne") ?_) G
  refine EX.cons (EX1.assign G (c := .int (-1)) (EV.un G.toGrOk EV.int Un.neg_int) (by walk_at "m_del") (by walk_at "m_kind") (by walk_at "m_ne") ?_) G
  refine EX.cons (EX1.assign G (c := .tup [.int (-1)]) (EV.tuple G.toGrOk (EVs.cons G.toGrOk (EV.un G.toGrOk EV.int Un.neg_int) EVs.nil) (by simp)) (by walk_at "m_del") (by walk_at "m_kind") (by walk_at "m_ne") ?_) G
  refine EX.cons (EX1.for_ G (c := strsC [o1, o]) (cs := [.str o1, .str o]) (by walk_at "m_e") (Over.list G) ?_) G
  refine Loop.ind (P := fun cs (σ : Loc) => (cs = [.str o1, .str o] ∧ ∀ q ∈ ([("best_specificity", .tup [.int (-1)]), ("best_quality", .int (-1)), ("self", .acc cM p (rs.map rowC))] : Loc), q ∈ σ) ∨ (cs = [.str o] ∧ ∀ q ∈ ([("self", .acc cM p (rs.map rowC))] : Loc), q ∈ σ)) ?_ ?_ _ _ (.inl ⟨rfl, by walk_at "m_sub"⟩)
  · rintro σ (⟨h, _⟩ | ⟨h, _⟩) <;> cases h
  · rintro c cs σ (⟨h, hb⟩ | ⟨h, hb⟩)
    · cases h
      refine ⟨_, AS.sub_ hb (AS.name G (by walk_at "m_del") (by walk_at "m_kind") (by walk_at "m_ne")), ?_⟩
      have M : VM K w 2 g.hd cM 315 27 okM vmM := VM.M
      have S : SPC K w 3 g.hd cM 308 26 (fun t => okMB t = true) spM := by rw [h0]; exact SPC.M (n := 2)
      refine EX.cons (EX1.assign G (c := hitC (hit vmM rs o1)) (EV.meth G (c := .acc cM p (rs.map rowC)) (cs := [.str o1]) (by walk_at "m_e") (P.mth 22 hMC (inm hMC (by walk_at "m_mem")) rfl (by walk_at "m_ne")) (by walk_at "m_es") (P.kp 22) (FW.le (c_bsm P hMC M fun r hr => hok r hr).w (by omega))) (by walk_at "m_del") (by walk_at "m_kind") (by walk_at "m_ne") ?_) G
      refine EX.cons (EX1.ite (z := !(hit vmM rs o1).isSome) (ET.not G.toGrOk (ET.val G.toGrOk (by walk_at "m_e") (Tru.hitC G.toGrOk _))) (fun hz => ?_) (fun hz => ?_) G) G
      · exact EX.cons (EX1.cont (.inr ⟨rfl, by walk_at "m_sub"⟩)) G
      · obtain ⟨r1, e⟩ : ∃ r1, hit vmM rs o1 = some r1 := by cases e : hit vmM rs o1 with | none => rw [e] at hz; cases hz | some r => exact ⟨r, rfl⟩
        have hr : r1 ∈ rs := List.mem_of_find?_eq_some e
        refine EX.nil ?_
        rw [e]
        refine EX.cons (EX1.assign_tuple G (c := rowC r1) (by walk_at "m_e") (AS.row G (by walk_at "m_del") (by walk_at "m_kind") (by walk_at "m_ne") (by walk_at "m_del") (by walk_at "m_kind") (by walk_at "m_ne")) ?_) G
        refine EX.cons (EX1.assign G (c := .tup ((spM r1.1).map .bool)) (EV.meth G (c := .acc cM p (rs.map rowC)) (cs := [.str r1.1]) (by walk_at "m_e") (P.mth 26 hMC S.mem S.ix (by walk_at "m_ne")) (by walk_at "m_es") (P.kp 26 S.ix) (FW.le (S.run _ P rfl p _ r1.1 (hs r1 hr)).w (by omega))) (by walk_at "m_del") (by walk_at "m_kind") (by walk_at "m_ne") ?_) G
        refine EX.cons (EX1.ite (ET.op G.toGrOk (EA.or_cons G.toGrOk (b := decide (r1.2 ≤ 0)) (by walk_at "m_t") fun _ => EA.or_cons G.toGrOk (b := decide (r1.2 < -1)) (by walk_at "m_t") fun _ => EA.or_nil G.toGrOk)) (fun hz => ?_) (fun hz => ?_) G) G
        · exact EX.cons (EX1.cont (.inr ⟨rfl, by walk_at "m_sub"⟩)) G
        · refine EX.nil ?_
          have hq : 0 < r1.2 := by simp only [Bool.or_eq_false_iff, decide_eq_false_iff_not] at hz; omega
          refine EX.cons (EX1.ite (z := decide (r1.2 > -1) || false) (ET.op G.toGrOk (EA.or_cons (c := false) G.toGrOk (b := decide (r1.2 > -1)) (by walk_at "m_t") fun hg => ?_)) (fun hz2 => ?_) (fun hz2 => ?_) G) G
          · have hg := of_decide_eq_false hg; omega
          · refine EX.cons (EX1.assign G (c := .str o1) (by walk_at "m_e") (by walk_at "m_del") (by walk_at "m_kind") (by walk_at "m_ne") ?_) G
            refine EX.cons (EX1.assign G (c := .int r1.2) (by walk_at "m_e") (by walk_at "m_del") (by walk_at "m_kind") (by walk_at "m_ne") ?_) G
            refine EX.cons (EX1.assign G (c := .tup ((spM r1.1).map .bool)) (by walk_at "m_e") (by walk_at "m_del") (by walk_at "m_kind") (by walk_at "m_ne") ?_) G
            exact EX.nil (EX.nil (.inr ⟨rfl, by walk_at "m_sub"⟩))
          · exact EX.nil (EX.nil (.inr ⟨rfl, by walk_at "m_sub"⟩))
    · cases h
      refine ⟨_, AS.sub_ hb (AS.name G (by walk_at "m_del") (by walk_at "m_kind") (by walk_at "m_ne")), ?_⟩
      refine EX.cons (XR1.ex G (T := "ValueError") (XR1.assign (ER.meth G (c := .acc cM p (rs.map rowC)) (cs := [.str o]) (by walk_at "m_e") (P.mth 22 hMC (inm hMC (by walk_at "m_mem")) rfl (by walk_at "m_ne")) (by walk_at "m_es") (P.kp 22) ?_)) rfl) G
      rw [← hrs]
      exact FWr.le (r_bsm (n := n) P h0 ht ho hl).w (by omega)
end
section
variable {prog : Program} {w : World} {g : Gr} (G : Gr2 g) {fi : FI} {n : Nat} {σ : Loc}
/-- an expression whose value is new -/
def EVt (prog : Program) (w : World) (g : Gr) (fi : FI) (n : Nat) (σ : Loc) (e : Expr) (c : CV) : Prop := ∀ A env s Q E, OkA g.fr g.hd A n → Fm g fi env s σ → (∀ v s', Step g s s' → 0 < s'.toks → Rp g.V s'.heap c v → Q v s') → wpAny (model prog w) A (eval e env) Q E s
include G
theorem EVt.list1 {i : Int} {k : Nat} {p1 pos : Pos} : EVt prog w g fi n σ (.List [.Constant (.int i) k p1] pos) (.lst [.int i]) := by
  intro A env s Q E a F q
  refine wpAny_List_spliced ?_
  refine spliced_cons (wpAny_Constant_int (k := k) (pos := p1) (spliced_nil ⟨Nat.le_trans (show 1 ≤ 10000 by decide) (by decide), ?_⟩))
  have x : Step g s { s with toks := s.toks + 1 } := Step.tok
  refine q _ _ (x.trans (Step.push0 G.toGrOk)) (Nat.succ_pos _) ⟨_, [.int i s.toks], 0, rfl, At.out (F.at_.step x), Heap.get?_push_size _ rfl, _, [], rfl, ⟨_, rfl⟩, rfl⟩
theorem EVt.bin {l r : Expr} {op : Operator} {pos : Pos} {a b c : CV} (hl : EV prog w g fi n σ l a) (hr : EVt prog w g fi n σ r b) (o : Bin prog w g n (binaryOp op) a b c) : EVt prog w g fi n σ (.BinOp l op r pos) c := by
  intro A env s Q E k F q
  refine wpAny_BinOp (hl A env s _ E k F fun u s₁ x ru => hr A env s₁ _ E k (F.step G.toGrOk x) fun v s₂ y ht rv => ?_)
  exact o A s₂ u v Q E k ((F.at_.step x).step y) (Rp.step G.toGrOk (F.at_.step x) y ru) rv fun r s₃ z rr => q _ _ ((x.trans y).trans z) (Nat.lt_of_lt_of_le ht z.tk) rr
omit G in
theorem at_p1 {g : Gr} {s : Shared} (a : At g s) (h : 0 < s.toks) : At { g with p0 := 1 } s := ⟨a.keep, a.tab, a.vol, h, a.frs, a.hdv⟩
omit G in
theorem at_p0 {g : Gr} {s : Shared} (h0 : g.p0 = 0) (a : At { g with p0 := 1 } s) : At g s := ⟨a.keep, a.tab, a.vol, by rw [h0]; exact Nat.zero_le _, a.frs, a.hdv⟩
omit G in
theorem fm_p1 {g : Gr} {fi : FI} {env : Env} {s : Shared} {σ : Loc} (F : Fm g fi env s σ) (h : 0 < s.toks) : Fm { g with p0 := 1 } fi env s σ := { sc := F.sc, fk := F.fk, gl := F.gl, bi := F.bi, fn := F.fn, cd := F.cd, ql := F.ql, own := F.own, out := F.out, inj := F.inj, ns := F.ns, cells := F.cells, at_ := at_p1 F.at_ h, top := F.top }
omit G in
theorem fm_p0 {g : Gr} {fi : FI} {env : Env} {s : Shared} {σ : Loc} (h0 : g.p0 = 0) (F : Fm { g with p0 := 1 } fi env s σ) : Fm g fi env s σ := { sc := F.sc, fk := F.fk, gl := F.gl, bi := F.bi, fn := F.fn, cd := F.cd, ql := F.ql, own := F.own, out := F.out, inj := F.inj, ns := F.ns, cells := F.cells, at_ := at_p0 h0 F.at_, top := F.top }
omit G in
theorem out_p0 {g : Gr} {fi : FI} {env : Env} {fl : Flow} {s : Shared} (h0 : g.p0 = 0) : ∀ {af : AF}, Out { g with p0 := 1 } fi env fl s af → Out g fi env fl s af
  | .next _, h => ⟨h.1, fm_p0 h0 h.2⟩
  | .brk _, h => ⟨h.1, fm_p0 h0 h.2⟩
  | .cont _, h => ⟨h.1, fm_p0 h0 h.2⟩
  | .ret _, h => h
  | .exc _, h => h
omit G in
theorem wstep_p0 {g : Gr} {X : Addr → Prop} {s s' : Shared} (x : WStep { g with p0 := 1 } X s s') : WStep g X s s' := ⟨x.keep, x.keepF, x.frs, x.tab, x.gens, x.drawn, x.os, x.tk⟩
/-- a statement whose value is new: behind it there are tokens -/
theorem EX.tick {x : Str} {p' pos : Pos} {e : Expr} {c : CV} {σ' : Loc} {rest : List Stmt} {Φ : AF → Prop} (h0 : g.p0 = 0) (h : EVt prog w g fi n σ e c) (d : Del x σ σ')
    (hx : fi.scope.names.lookup x = some .local ∨ (fi.mine = true ∧ fi.scope.names.lookup x = some .cell)) (np : x ≠ ("provided" : Str)) (k : EX prog w { g with p0 := 1 } fi n ((x, c) :: σ') rest Φ)
    (hs : ∀ env, swapsWith e (some (.Name x p')) pos.line env = pure false := by intro env; rfl) : EX prog w g fi n σ (.Assign [.Name x p'] e pos :: rest) Φ := by
  intro A env s Q E a F q qe
  refine wpAny_execs_cons (wpAny_Assign_Name (h A env s _ E a F fun v s₁ x₁ ht r => ?_) (hs env))
  refine store_ok G (F.step G.toGrOk x₁) r d hx np fun s₂ x₂ F₂ => ?_
  have ww := x₁.w.trans x₂
  have ht2 : 0 < s₂.toks := Nat.lt_of_lt_of_le ht x₂.tk
  exact k A env s₂ Q E a (fm_p1 F₂ ht2) (fun fl s' af hf y ha o => q fl s' af hf (ww.trans (wstep_p0 y)) (at_p0 h0 ha) (out_p0 h0 o)) fun x s' T fl hT y ha l r f => qe x s' T fl hT (ww.trans (wstep_p0 y)) (at_p0 h0 ha) ((own_lives G F F₂ ww).trans l) (r.back (own_lives G F F₂ ww)) f
end
def lawFI : FI := fiOf (stm 31) "law" 453 (.ref 452)
def gvX : List (Str × Int) := [("x/y", 1), ("text/html", 1)]
theorem gvX_srt : srtF spM gvX = gvX := by decide +kernel
theorem gvX_b : ∀ r ∈ gvX, okMB r.1 = true ∧ PyData.strOk r.1 = true := by decide +kernel
theorem html_b : okMB "text/html" = true ∧ within "/" "text/html" = true ∧ (decide ((normM "text/html").getD 0 "" = "*") && (!decide ((normM "text/html").getD 1 "" = "*") && true)) = false := by decide +kernel
theorem gvX_ok {r : Str × Int} (h : r ∈ gvX) : okM "text/html" r.1 := ⟨html_b.1, (gvX_b r h).1, html_b.2⟩
theorem txt_ok : within "/" "x/y" = true ∧ within "/" "text" = false ∧ (reprText "text").length ≤ 1000 := by decide +kernel
theorem srt_nil : srtF spA [] = [] := rfl
theorem EX.cast {prog : Program} {w : World} {g : Gr} {fi : FI} {n : Nat} {σ : Loc} {ss ss' : List Stmt} {Φ : AF → Prop} (h : ss = ss') (x : EX prog w g fi n σ ss Φ) : EX prog w g fi n σ ss' Φ := h ▸ x
section
variable {w : World} {K : Frag} {g : Gr} (P : PW K g) {n : Nat} {C : Addr}
include P
theorem m_none : FN pw w g (n + 3) (.ref 280) [.none] (.acc cA false []) := FN.mk P hAC (i_none (n := n) P hAC)
theorem m_acc {C : Addr} (hC : C ∈ Cs) {C' : Addr} {b : Bool} {l : List CV} (hC' : C' ∈ Cs) (hl : l.length ≤ 1000) : FN pw w g (n + 3) (.ref C) [.acc C' b l] (.acc C b l) := FN.mk P hC (i_acc (n := n) P hC hC' hl)
theorem m_rowsA (hC : C = cA ∨ C = cL) {rows : List (Str × Int)} (hV : g.V = g.hd.toList) (hs : ∀ r ∈ rows, PyData.strOk r.1 = true) (hl : rows.length ≤ 5) : FN pw w g (n + 6) (.ref C) [rowsC rows] (.acc C true ((srtF spA rows).map rowC)) := by
  rcases hC with rfl | rfl
  · exact FN.mk P hAC (i_rows (n := n + 1) P hAC SPC.A hV (fun _ _ => trivial) hs hl)
  · exact FN.mk P hLC (i_rows (n := n + 1) P hLC SPC.L hV (fun _ _ => trivial) hs hl)
theorem m_rowsM (h0 : g.hd = Option.none) {rows : List (Str × Int)} (hV : g.V = []) (h2 : ∀ r ∈ rows, okMB r.1 = true) (hs : ∀ r ∈ rows, PyData.strOk r.1 = true) (hl : rows.length ≤ 5) : FN pw w g (n + 6) (.ref 342) [rowsC rows] (.acc cM true ((srtF spM rows).map rowC)) :=
  FN.mk P hMC (i_rows (n := n + 1) P hMC (by rw [h0]; exact SPC.M) (by rw [h0, hV]; rfl) h2 hs hl)
theorem e_none {σ : Loc} {fr : List Env} {hd : Option Addr} {V : List Addr} {np pos p1 : Pos} {kk : Nat} : EV pw w { g with V := V, fr := fr, hd := hd } lawFI (n + 3) σ (.Call (.Name "Accept" np) [.Constant .none kk p1] [] pos) (.acc cA false []) := by
  have P := P.mod V fr hd
  have G := P.G
  exact EV.call G (cs := [.none]) (EV.gn P (v := .ref 280) (by kernel_rfl!) (by walk_at "m_mem")) (by walk_at "m_es") (P.keepC hAC) (m_none P).w
/-- what the handler tells -/
theorem e_hand {σ : Loc} {fr : List Env} {e : Addr} : EX pw w { g with V := [e], fr := fr, hd := some e } lawFI (n + 10) σ (match (bodyOf (stm 31)).getD 2 (.Pass default) with | .Try _ [.ExceptHandler _ _ s _] _ _ _ => s | _ => []) (Ends (.bool true)) := by
  have P0 := P.mod [e] g.fr (some e)
  have P := P.mod [e] fr (some e)
  have G := P.G
  have h1 : 1 + 9 = 10 := rfl
  have Q1 : ∀ {np pos p1 : Pos} {kk : Nat}, EV pw w { g with V := [e], fr := fr, hd := some e } lawFI (n + 10) σ (.Call (.Name "Accept" np) [.Constant .none kk p1] [] pos) (.acc cA false []) := fun {np pos p1 kk} => e_none (n := n + 7) P
  refine EX.cons (EX1.ret G (c := .bool (true && (true && (true && true)))) (EV.bools (EBs.and G.toGrOk (b := true) (EV.cmp G.toGrOk (a := .none) (b := .none) ?_ (by walk_at "m_e") Bin.is_none) fun _ => EBs.and G.toGrOk (b := !false) (EV.not (EV.provided G.toGrOk P.k (P.kf.acc cA hAC) (P.kf.prov cA hAC) Q1) Tru.bool G.toGrOk) fun _ => EBs.and G.toGrOk (b := !false) (EV.not (EV.provided G.toGrOk P.k (P.kf.acc cA hAC) (P.kf.prov cA hAC) (EV.call G (cs := [.acc cA false []]) (EV.gn P (v := .ref 280) (by kernel_rfl!) (by walk_at "m_mem")) (EVs.cons G.toGrOk Q1 EVs.nil) (P.keepC hAC) (FW.le (m_acc (n := n) P hAC hAC (by simp)).w (by omega)))) Tru.bool G.toGrOk) fun _ => EBs.one (b := true) ?_)) rfl) G
  · obtain ⟨pr, rest, a1, a2, a3, a4⟩ := P.kf.best cA hAC
    have hB := c_bestP (w := w) (n := n) (rows := []) (p := false) P hAC (by simp)
    refine EV.prop (n := n + 9) G.toGrOk P.k (C := cA) (p := false) (l := ([] : List (Str × Int)).map rowC) (P.kf.acc cA hAC) a1 a2 a3 a4 Q1 (FN.le hB (show n + 3 ≤ n + 9 by omega)) ?_
    intro V h v r
    cases r; rfl
  · refine EV.cmp G.toGrOk (a := .str "z") (b := .str "z") (EV.meth G (c := .acc cA true []) (cs := [.lst [.str "a"], .str "z"]) (EV.call G (cs := [rowsC []]) (EV.gn P (v := .ref 280) (by kernel_rfl!) (by walk_at "m_mem")) (EVs.cons G.toGrOk (EV.list G.toGrOk EVs.nil (by simp)) EVs.nil) (P.keepC hAC) (FW.le (m_rowsA (n := n) (C := cA) (rows := []) P (.inl rfl) rfl (fun _ h => nomatch h) (Nat.zero_le _)).w (by omega))) (P.mth 23 (C := cA) (x := "best_match") (f := 269) hAC (by walk_at "m_vmem") rfl (by walk_at "m_ne")) (EVs.cons G.toGrOk (EV.list G.toGrOk (by walk_at "m_es") (by simp)) (by walk_at "m_es")) (P.kp 23) (FW.le (c_bm3 (n := 2) (d := some "z") (rows := []) (offers := ["a"]) P hAC (VM.A (n := 1)) SPC.A (fun _ h => nomatch h) (fun _ h => nomatch h)).w (by omega))) (by walk_at "m_e") ?_
    have := Bin.eq_str (prog := pw) (w := w) (g := { g with V := [e], fr := fr, hd := some e }) (n := n + 10) (x := "z") (y := "z")
    rwa [decide_eq_true rfl] at this
theorem e_last {σ : Loc} {l : List Env} (h0 : g.hd = Option.none) (hV : g.V = []) : EX pw w { g with fr := l } lawFI (n + 10) σ ((bodyOf (stm 31)).drop 2) (Ends (.bool true)) := by
  have P0 := P
  have P := P.mod g.V l g.hd
  have G := P.G
  refine EX.cons (EX1.try_raise G (X := "ValueError") (T := "ValueError") h0 rfl ?_ ?_ ?_ ?_ (fun e => ?_) (fun e => ?_) fun T h => h) G
  · refine XR.cons (XR1.expr (ER.meth G (c := .acc cM true (gvX.map rowC)) (cs := [.lst [.str "text/html", .str "text"]]) (EV.call G (cs := [.lst [.tup [.str "x/y", .int 1], .tup [.str "text/html", .int 1]]]) (EV.gn P (v := .ref 342) (by kernel_rfl!) (by walk_at "m_mem")) (EVs.cons G.toGrOk (EV.list G.toGrOk (by walk_at "m_es") (by simp)) EVs.nil) (P.keepC hMC) ?_) (P.mth 23 (C := cM) (x := "best_match") (f := 269) hMC (by walk_at "m_vmem") rfl (by walk_at "m_ne")) (EVs.cons G.toGrOk (EV.list G.toGrOk (by walk_at "m_es") (by simp)) EVs.nil) (P.kp 23) (FWr.le (r_bm (n := n) P h0 (fun q hq => gvX_ok hq) (fun q hq => (gvX_b q hq).1) txt_ok.1 txt_ok.2.1 txt_ok.2.2).w (by omega))))
    have := m_rowsM (w := w) (n := n) P h0 (rows := gvX) hV (fun q hq => (gvX_b q hq).1) (fun q hq => (gvX_b q hq).2) (by decide)
    rw [gvX_srt] at this
    exact FW.le this.w (by omega)
  · rfl
  · rfl
  · rfl
  · have P := P.mod (e :: g.V) l (some e)
    have G := P.G
    walk_at "m_e"
  · rw [show ({ g with fr := l, V := e :: g.V, hd := some e } : Gr) = { g with V := [e], fr := l, hd := some e } by rw [hV]]
    refine EX.mono (EX.cast ?_ (e_hand (w := w) (n := n) (σ := σ) (fr := l) (e := e) P0)) fun af h => ?_
    · kernel_rfl!
    · cases af <;> first | exact h | cases h
end
theorem len_enumC : ∀ (l : List CV) (i : Nat), (enumC i l).length = l.length
  | [], _ => rfl
  | c :: l, i => by show (enumC (i + 1) l).length + 1 = _; rw [len_enumC l]; rfl
theorem fmod_nat {i : Int} {m : Nat} (h : 0 < m) : 0 ≤ i.fmod m ∧ (i.fmod m).toNat < m := by
  have h1 := Int.fmod_nonneg_of_pos i (show (0 : Int) < m by omega)
  have h2 := Int.fmod_lt_of_pos i (show (0 : Int) < m by omega)
  exact ⟨h1, by omega⟩
theorem pick_at {l : List Str} {i : Int} (h : 0 < l.length) : (l.map CV.str)[(i.fmod (l.map CV.str).length).toNat]? = some (.str (pick l i)) := by
  rw [List.length_map]
  exact getD_of (fmod_nat h).2
theorem pick_mem {l : List Str} {i : Int} (h : 0 < l.length) : pick l i ∈ l := by
  unfold pick
  rw [List.getD_eq_getElem?_getD, List.getElem?_eq_getElem (fmod_nat h).2]
  exact List.getElem_mem _
theorem tbl_len : ∀ k ∈ k3, 0 < (tblF k).length ∧ (tblF k).length ≤ 100 ∧ 0 < (srvF k).length ∧ (srvF k).length ≤ 100 := by decide +kernel
theorem q4_of (i : Int) : i.fmod 4 ∈ q4 := by
  have h1 := Int.fmod_nonneg_of_pos i (show (0 : Int) < 4 by omega)
  have h2 := Int.fmod_lt_of_pos i (show (0 : Int) < 4 by omega)
  have : i.fmod 4 = 0 ∨ i.fmod 4 = 1 ∨ i.fmod 4 = 2 ∨ i.fmod 4 = 3 := by omega
  rcases this with h | h | h | h <;> rw [h] <;> decide
theorem given_ok {k : Int} (hk : k ∈ k3) {nums : List Int} {r : Str × Int} (h : r ∈ givenF k nums) : RowOk k r := by
  obtain ⟨i, _, rfl⟩ := List.mem_map.mp h
  exact ⟨pick_mem (tbl_len k hk).1, q4_of _⟩
theorem off_ok {k : Int} (hk : k ∈ k3) : ∀ (l : List Int) (j : Nat) {o : Str}, o ∈ offF k j l → o ∈ srvF k
  | [], _, _, h => nomatch h
  | i :: l, j, o, h => by
    rcases List.mem_cons.mp h with rfl | h
    · exact pick_mem (tbl_len k hk).2.2.1
    · exact off_ok hk l _ h
theorem off_len (k : Int) : ∀ (l : List Int) (j : Nat), (offF k j l).length = l.length
  | [], _ => rfl
  | i :: l, j => by show (offF k (j + 1) l).length + 1 = _; rw [off_len k l]; rfl
theorem pylong_no {a b : Int} (h : b = 10 ∨ b = 40) : Builtin.divisionGoesByPylong a b = false := by
  unfold Builtin.divisionGoesByPylong
  rcases h with rfl | rfl
  · rw [Bool.and_eq_false_iff]; exact .inl (by decide)
  · rw [Bool.and_eq_false_iff]; exact .inl (by decide)
section
variable {w : World} {K : Frag} {g : Gr} (P : PW K g) {n : Nat}
include P
theorem e_law {sc : CV} {nums : List Int} {l : List Env} (h0 : g.hd = Option.none) (hV : g.V = []) (hn : nums.length ≤ 5) : EX pw w { g with fr := l } lawFI (n + 19) [("numbers", .lst ((nums ++ [0]).map .int)), ("script", sc)] ((bodyOf (stm 31)).drop 1) (Ends (.bool true)) := by
  have P0 := P
  have P := P.mod g.V l g.hd
  have G := P.G
  refine EX.cons (EX1.for_ G (c := .rng 3) (EV.call G (cs := [.int (3 : Nat)]) (by walk_at "m_e") (EVs.cons G.toGrOk EV.int EVs.nil) Keep.type (FW.range G)) (Over.range G h0 (by decide)) ?_) G
  refine Loop.ind (P := fun cs (σ : Loc) => (∀ q ∈ ([("numbers", .lst ((nums ++ [0]).map .int))] : Loc), q ∈ σ) ∧ ∀ c ∈ cs, ∃ k ∈ k3, c = .int k) ?_ ?_ _ _ ⟨by walk_at "m_sub", by
    intro c hc
    obtain ⟨i, hi, rfl⟩ := List.mem_map.mp hc
    have := List.mem_range.mp hi
    have : i = 0 ∨ i = 1 ∨ i = 2 := by omega
    rcases this with rfl | rfl | rfl
    · exact ⟨0, by decide, rfl⟩
    · exact ⟨1, by decide, rfl⟩
    · exact ⟨2, by decide, rfl⟩⟩
  · rintro σ _
    exact e_last (n := n + 9) P0 h0 hV
  · rintro c cs σ ⟨hb, hk⟩
    obtain ⟨k, hk3, rfl⟩ := hk c (.head _)
    have hks : ∀ c ∈ cs, ∃ k ∈ k3, c = .int k := fun c hc => hk c (.tail _ hc)
    clear hk
    have hk0 : 0 ≤ k ∧ k < 2 ^ 63 := by rcases k3_cases hk3 with rfl | rfl | rfl <;> decide
    refine ⟨_, AS.sub_ hb (AS.name G (by walk_at "m_del") (by walk_at "m_kind") (by walk_at "m_ne")), ?_⟩
    refine EX.cons (EX1.assign G (c := strsC (tblF k)) (EV.sub G (a := .lst [strsC (tabOf 16), strsC (tabOf 18), strsC (tabOf 20)]) (b := .int k) (EV.list G.toGrOk (EVs.cons G.toGrOk (EV.tab P (a := 384) (by kernel_rfl!) (by walk_at "m_mem") (by walk_at "m_mem")) (EVs.cons G.toGrOk (EV.tab P (a := 386) (by kernel_rfl!) (by walk_at "m_mem") (by walk_at "m_mem")) (EVs.cons G.toGrOk (EV.tab P (a := 388) (by kernel_rfl!) (by walk_at "m_mem") (by walk_at "m_mem")) EVs.nil))) (by simp)) (by walk_at "m_e") (Bin.list_item hk0.1 hk0.2 (by rcases k3_cases hk3 with rfl | rfl | rfl <;> rfl))) (by walk_at "m_del") (by walk_at "m_kind") (by walk_at "m_ne") ?_) G
    have hT := tbl_len k hk3
    have hupto : (((nums ++ [0]).map CV.int).take nums.length) = nums.map CV.int := by rw [← List.map_take, List.take_left']; rfl
    refine EX.cons (EX1.assign_comp G (τ := [("table", strsC (tblF k))]) (ci := .lst (((nums ++ [0]).map CV.int).take nums.length)) (cs := nums.map CV.int) (ds := (givenF k nums).map rowC) (by walk_at "m_cs") (by walk_at "m_sub") (EV.upto G (by walk_at "m_e") ?_ (by simp; omega)) (by rw [hupto]; exact Over.list G) (by rw [List.length_map]; omega) (fun D => ?_) (by walk_at "m_del") (by kernel_rfl!) (by walk_at "m_ne") ?_) G
    · have e : (((nums ++ [0]).map CV.int).length : Int) - 1 = (nums.length : Nat) := by simp
      rw [← e]
      exact EV.bin G.toGrOk (EV.call G (cs := [.lst ((nums ++ [0]).map .int)]) (by walk_at "m_e") (by walk_at "m_es") Keep.builtin (FW.len_list (by simp; omega))) (by walk_at "m_e") (by walk_at "m_b")
    · have P := P.mod (D :: g.V) l g.hd
      have G := P.G
      have e : (givenF k nums).map rowC = nums.map fun i => rowC (pick (tblF k) i, (i.fdiv 10).fmod 4) := by unfold givenF; rw [List.map_map]; rfl
      rw [e]
      refine CompOk.mapInt G (by kernel_rfl!) (by walk_at "m_ne") (by walk_at "m_del") _ fun i hi => ?_
      refine EV.tuple G.toGrOk (cs := [.str (pick (tblF k) i), .int ((i.fdiv 10).fmod 4)]) (EVs.cons G.toGrOk (EV.sub G (a := strsC (tblF k)) (b := .int (i.fmod ((tblF k).map CV.str).length)) (by walk_at "m_e") (EV.bin G.toGrOk (by walk_at "m_e") (EV.call G (cs := [strsC (tblF k)]) (by walk_at "m_e") (by walk_at "m_es") Keep.builtin (FW.len_list (by rw [List.length_map]; omega))) (Bin.mod_int (by rw [List.length_map]; omega))) (Bin.list_item ?_ ?_ (pick_at hT.1))) (EVs.cons G.toGrOk (EV.bin G.toGrOk (EV.bin G.toGrOk (by walk_at "m_e") EV.int (Bin.floordiv_int (by decide) (pylong_no (.inl rfl)))) EV.int (Bin.mod_int (by decide))) EVs.nil)) (by simp)
      · rw [List.length_map]; exact (fmod_nat hT.1).1
      · have := fmod_nat (i := i) hT.1
        rw [List.length_map]; omega
    have hgd : (CV.lst ((givenF k nums).map rowC)) = rowsC (givenF k nums) := rfl
    rw [hgd]
    have hgl : (givenF k nums).length ≤ 5 := by unfold givenF; rw [List.length_map]; exact hn
    have hgr : ∀ r ∈ givenF k nums, RowOk k r := fun r hr => given_ok hk3 hr
    generalize hgv : givenF k nums = given
    rw [hgv] at hgl hgr
    refine EX.cons (EX1.assign G (c := strsC (srvF k)) (EV.sub G (a := .lst [strsC (tabOf 17), strsC (tabOf 19), .lst [.str "gzip", .str "br", .str "Gzip", .str "deflate"]]) (b := .int k) (EV.list G.toGrOk (EVs.cons G.toGrOk (EV.tab P (a := 385) (by kernel_rfl!) (by walk_at "m_mem") (by walk_at "m_mem")) (EVs.cons G.toGrOk (EV.tab P (a := 387) (by kernel_rfl!) (by walk_at "m_mem") (by walk_at "m_mem")) (EVs.cons G.toGrOk (by walk_at "m_e") EVs.nil))) (by simp)) (by walk_at "m_e") (Bin.list_item hk0.1 hk0.2 (by rcases k3_cases hk3 with rfl | rfl | rfl <;> rfl))) (by walk_at "m_del") (by walk_at "m_kind") (by walk_at "m_ne") ?_) G
    refine EX.cons (EX1.assign_compO G (τ := [("served", strsC (srvF k))]) (cs := enumC 0 (((nums ++ [0]).take 3).map CV.int)) (ds := (offF k 0 ((nums ++ [0]).take 3)).map CV.str) (by walk_at "m_cs") (by walk_at "m_sub") (b := true) (EO.enum G h0 (by walk_at "m_e") (c := .lst (((nums ++ [0]).map CV.int).take (3 : Nat))) (EV.upto G (by walk_at "m_e") EV.int (by simp; omega)) (by rw [← List.map_take]; exact SeqIt.list)) (fun _ => ⟨_, _, _, rfl⟩) ?_ (fun D => ?_) (by walk_at "m_del") (by kernel_rfl!) (by walk_at "m_ne") ?_) G
    · rw [len_enumC, List.length_map]; have := List.length_take_le 3 (nums ++ [0]); omega
    · have P := P.mod (D :: g.V) l g.hd
      have G := P.G
      refine CompOk.enumInt G (by kernel_rfl!) (by walk_at "m_ne") (by walk_at "m_del") (by kernel_rfl!) (by walk_at "m_ne") (by walk_at "m_ne") (by walk_at "m_del") _ 0 fun i hi j hj => ?_
      refine EV.sub G (a := strsC (srvF k)) (b := .int ((i.fdiv 40 + j).fmod ((srvF k).map CV.str).length)) (by walk_at "m_e") (EV.bin G.toGrOk (EV.bin G.toGrOk (EV.bin G.toGrOk (by walk_at "m_e") EV.int (Bin.floordiv_int (by decide) (pylong_no (.inr rfl)))) (by walk_at "m_e") (by walk_at "m_b")) (EV.call G (cs := [strsC (srvF k)]) (by walk_at "m_e") (by walk_at "m_es") Keep.builtin (FW.len_list (by rw [List.length_map]; omega))) (Bin.mod_int (by rw [List.length_map]; omega))) (Bin.list_item ?_ ?_ (pick_at hT.2.2.1))
      · rw [List.length_map]; exact (fmod_nat hT.2.2.1).1
      · have := fmod_nat (i := i.fdiv 40 + j) hT.2.2.1
        rw [List.length_map]; omega
    have hol : (offF k 0 ((nums ++ [0]).take 3)).length ≤ 3 := by rw [off_len]; exact List.length_take_le ..
    have hor : ∀ o ∈ offF k 0 ((nums ++ [0]).take 3), o ∈ srvF k := fun o ho => off_ok hk3 _ _ ho
    generalize offF k 0 ((nums ++ [0]).take 3) = offers at hol hor ⊢
    have hsk : ∀ r ∈ given, PyData.strOk r.1 = true := fun r hr => okT.s (okX.t (t_okX k hk3 _ (hgr r hr).1).1)
    refine EX.cons (EX1.assign G (c := .acc (clsF k) true ((sortedF k given).map rowC)) (EV.sub G (a := .lst [.acc cM true ((srtF spM given).map rowC), .acc cL true ((srtF spA given).map rowC), .acc cA true ((srtF spA given).map rowC)]) (b := .int k) (EV.list G.toGrOk (EVs.cons G.toGrOk (EV.call G (cs := [rowsC given]) (EV.gn P (v := .ref 342) (by kernel_rfl!) (by walk_at "m_mem")) (by walk_at "m_es") (P.keepC hMC) (FW.le (m_rowsM (n := n) P h0 hV (fun r hr => t_okM k hk3 _ (hgr r hr).1) hsk hgl).w (by omega))) (EVs.cons G.toGrOk (EV.call G (cs := [rowsC given]) (EV.gn P (v := .ref 381) (by kernel_rfl!) (by walk_at "m_mem")) (by walk_at "m_es") (P.keepC hLC) (FW.le (m_rowsA (n := n) (C := cL) P (.inr rfl) (by rw [h0]; exact hV) hsk hgl).w (by omega))) (EVs.cons G.toGrOk (EV.call G (cs := [rowsC given]) (EV.gn P (v := .ref 280) (by kernel_rfl!) (by walk_at "m_mem")) (by walk_at "m_es") (P.keepC hAC) (FW.le (m_rowsA (n := n) (C := cA) P (.inl rfl) (by rw [h0]; exact hV) hsk hgl).w (by omega))) EVs.nil))) (by simp)) (by walk_at "m_e") (Bin.list_item hk0.1 hk0.2 ?_)) (by walk_at "m_del") (by walk_at "m_kind") (by walk_at "m_ne") ?_) G
    · rw [← srt_k hk3 hgl hgr]
      rcases k3_cases hk3 with rfl | rfl | rfl <;> rfl
    have hCk : clsF k ∈ Cs := by rcases k3_cases hk3 with rfl | rfl | rfl <;> decide
    refine EX.cons (EX1.assign G (c := rowsC (sortedF k given)) (EV.call G (cs := [.int k, rowsC given]) (by walk_at "m_e") (by walk_at "m_es") (P.kp 34) (FW.le (c_sorted (n := n) P (by omega) fun r hr => (t_okX k hk3 _ (hgr r hr).1).1).w (by omega))) (by walk_at "m_del") (by walk_at "m_kind") (by walk_at "m_ne") ?_) G
    have hrl : (sortedF k given).length ≤ 5 := by rw [sortedF_len]; exact hgl
    have hrr : ∀ r ∈ sortedF k given, RowOk k r := fun r hr => hgr r (sortedF_mem hr)
    generalize sortedF k given = rows at hrl hrr ⊢
    have L1 : Lay k rows offers := ⟨hk3, hrl, hol, hrr, hor⟩
    have L2 : Lay k rows offers.reverse := ⟨hk3, hrl, by rw [List.length_reverse]; exact hol, hrr, fun o ho => hor o (List.mem_reverse.mp ho)⟩
    have hso : ∀ r ∈ rows, PyData.strOk r.1 = true := fun r hr => okT.s (okX.t (t_okX k hk3 _ (hrr r hr).1).1)
    have hll : (rows.map rowC).length ≤ 1000 := by rw [List.length_map]; omega
    refine EX.cons (EX1.assign G (c := .acc (clsF k) true (rows.map rowC)) (EV.sub G (a := .lst [.acc cM true (rows.map rowC), .acc cL true (rows.map rowC), .acc cA true (rows.map rowC)]) (b := .int k) (EV.list G.toGrOk (EVs.cons G.toGrOk (EV.call G (cs := [.acc (clsF k) true (rows.map rowC)]) (EV.gn P (v := .ref 342) (by kernel_rfl!) (by walk_at "m_mem")) (by walk_at "m_es") (P.keepC hMC) (FW.le (m_acc (n := n) P hMC hCk hll).w (by omega))) (EVs.cons G.toGrOk (EV.call G (cs := [.acc (clsF k) true (rows.map rowC)]) (EV.gn P (v := .ref 381) (by kernel_rfl!) (by walk_at "m_mem")) (by walk_at "m_es") (P.keepC hLC) (FW.le (m_acc (n := n) P hLC hCk hll).w (by omega))) (EVs.cons G.toGrOk (EV.call G (cs := [.acc (clsF k) true (rows.map rowC)]) (EV.gn P (v := .ref 280) (by kernel_rfl!) (by walk_at "m_mem")) (by walk_at "m_es") (P.keepC hAC) (FW.le (m_acc (n := n) P hAC hCk hll).w (by omega))) EVs.nil))) (by simp)) (by walk_at "m_e") (Bin.list_item hk0.1 hk0.2 ?_)) (by walk_at "m_del") (by walk_at "m_kind") (by walk_at "m_ne") ?_) G
    · rcases k3_cases hk3 with rfl | rfl | rfl <;> rfl
    refine EX.cons (EX1.ite (z := false) (ET.op G.toGrOk (EA.or_cons (b := false) (c := false) G.toGrOk (ET.not (b := true) G.toGrOk (ET.val G.toGrOk (EV.provided G.toGrOk P.k (P.kf.acc _ hCk) (P.kf.prov _ hCk) (p := true) (l := rows.map rowC) (by walk_at "m_e")) Tru.bool)) fun _ => EA.or_cons (b := false) (c := false) G.toGrOk (ET.not (b := true) G.toGrOk (ET.val G.toGrOk (EV.provided G.toGrOk P.k (P.kf.acc _ hCk) (P.kf.prov _ hCk) (p := true) (l := rows.map rowC) (by walk_at "m_e")) Tru.bool)) fun _ => EA.or_cons (b := false) (c := false) G.toGrOk (ET.not (b := true) G.toGrOk (ET.val G.toGrOk (EV.call G (cs := [.acc (clsF k) true (rows.map rowC), .int k, rowsC rows, strsC offers]) (by walk_at "m_e") (by walk_at "m_es") (P.kp 40) (FW.le (holds_k (n := n) P L1 h0 hV).w (by omega))) Tru.bool)) fun _ => EA.or_nil G.toGrOk)) (fun h => nomatch h) (fun _ => ?_) G) G
    refine EX.nil ?_
    have hrev : ∀ {σ : Loc} {np p0 p1 p2 pos : Pos} {kk : Nat}, (("offers" : Str), strsC offers) ∈ σ → EV pw w { g with fr := l } lawFI (n + 19) σ (.Subscript (.Name "offers" np) (.Slice Option.none Option.none (Option.some (.UnaryOp .USub (.Constant (.int 1) kk p0) p1)) p2) pos) (strsC offers.reverse) := fun ht => by
      show EV _ _ _ _ _ _ _ (.lst (offers.reverse.map CV.str))
      rw [List.map_reverse]
      exact EV.rev G (EV.name ht) (EV.un G.toGrOk EV.int Un.neg_int) (by rw [List.length_map]; omega)
    refine EX.cons (EX1.ite (z := false) (ET.op G.toGrOk (EA.or_cons (b := false) (c := false) G.toGrOk (ET.cmp G.toGrOk (a := rowsC rows) (b := rowsC rows) (EV.call G (cs := [.acc (clsF k) true (rows.map rowC)]) (by walk_at "m_e") (by walk_at "m_es") Keep.type (FW.list_acc (n := n + 17) G P.k (P.kf.acc _ hCk) hll)) (by walk_at "m_e") (Bin.ne_rows_same hso)) fun _ => EA.or_cons (b := false) (c := false) G.toGrOk (ET.cmp G.toGrOk (a := optC (bestK k rows offers.reverse)) (b := optC (bestK k rows offers.reverse)) (EV.meth G (c := .acc (clsF k) true (rows.map rowC)) (cs := [strsC offers.reverse]) (by walk_at "m_e") (P.mth (ibF k) (f := fbF k) (x := "best_match") hCk ?_ ?_ (by walk_at "m_ne")) (EVs.cons G.toGrOk (hrev (by walk_at "m_mem")) EVs.nil) (P.kp (ibF k) ?_) (FW.le (bm_2 P L2 h0 hV).w (by omega))) (EV.ite G.toGrOk (z := k == 1) (by walk_at "m_t") (fun hz => ?_) (fun hz => ?_)) (Bin.ne_opt_same fun y hy => L2.str hy)) fun _ => EA.or_nil G.toGrOk)) (fun h => nomatch h) (fun _ => ?_) G) G
    · rcases k3_cases hk3 with rfl | rfl | rfl <;> walk_at "m_vmem"
    · rcases k3_cases hk3 with rfl | rfl | rfl <;> rfl
    · rcases k3_cases hk3 with rfl | rfl | rfl <;> rfl
    · have hk : k = 1 := by simpa using hz
      have e : bestK k rows offers.reverse = tongueF rows offers.reverse := if_pos hk
      rw [e]
      exact EV.call G (cs := [rowsC rows, strsC offers.reverse]) (by walk_at "m_e") (EVs.cons G.toGrOk (by walk_at "m_e") (EVs.cons G.toGrOk (hrev (by walk_at "m_mem")) EVs.nil)) (P.kp 37) (FW.le (tongue_k P (by rw [← hk]; exact L2) h0).w (by omega))
    · have hk : ¬ k = 1 := by simpa using hz
      have e : bestK k rows offers.reverse = bestF k rows offers.reverse := if_neg hk
      rw [e]
      exact EV.call G (cs := [.int k, rowsC rows, strsC offers.reverse]) (by walk_at "m_e") (EVs.cons G.toGrOk (by walk_at "m_e") (EVs.cons G.toGrOk (by walk_at "m_e") (EVs.cons G.toGrOk (hrev (by walk_at "m_mem")) EVs.nil))) (P.kp 36) (FW.le (best_k (n := n) P L2 h0).w (by omega))
    refine EX.nil (EX.nil ⟨by walk_at "m_sub", hks⟩)
end
section
variable {w : World} {K : Frag} {g : Gr} {n : Nat}
/-- the law, from the ground in which nothing is told of the tokens -/
theorem c_law (G : Gr2 g) (P : PW K { g with p0 := 1 }) (D : DefAt g 453 (stm 31) "law" [] .none (.ref 452)) (hp0 : g.p0 = 0) (h0 : g.hd = Option.none) (hV : g.V = []) {script : List Int} (hl : script.length ≤ 63) :
    FN pw w g (n + 20) (.ref 453) [.lst (script.map .int)] (.bool true) := by
  refine FN.of_def G D (bind_plain (names := ["script"]) rfl (by walk_at "m_b1")) Closed.nil (by walk_at "m_bnd") (fun l => ?_) rfl
  have G := g2F G l
  have hn : (script.take 5).length ≤ 5 := List.length_take_le ..
  refine EX.tick G (c := .lst ((script.take 5 ++ [0]).map .int)) hp0 ?_ (by walk_at "m_del") (by walk_at "m_kind") (by walk_at "m_ne") (e_law (n := n) P h0 hV hn)
  have e : CV.lst ((script.take 5 ++ [0]).map CV.int) = .lst ((script.map CV.int).take (5 : Nat) ++ [.int 0]) := by rw [List.map_append, List.map_take]; rfl
  rw [e]
  exact EVt.bin G (EV.upto G (k := 5) (by walk_at "m_e") EV.int (by rw [List.length_map]; omega)) (EVt.list1 G) (Bin.add_list G (by simp; omega))
end
end Mine
end
section
open PySem PySem.W PyProof.Rows
set_option maxRecDepth 100000
set_option maxHeartbeats 0
namespace Mine
local macro_rules | `(tactic| o_head (kmHook $k $a $p $t)) => do
  if t.raw.isOfKind `«term[_]» then Lean.Macro.throwUnsupported
  `(tactic| o_head (kmHook $k $a $p [172, 303, 375]))
open_top hd for PySem.Challenge.rw_bl0029_01
end Mine
end
section
open PySem PySem.W PySem.Calls PyProof.Rows Builtin Builtin.Str
set_option maxRecDepth 100000
set_option maxHeartbeats 4000000
namespace Mine
noncomputable abbrev KH : Params → Frag := hd.heap_39
def isRefV (x : Option (Option Value)) (a : Addr) : Bool := match x with | some (some (.ref b)) => b == a | _ => false
theorem isRefV_eq {x : Option (Option Value)} {a : Addr} (h : isRefV x a = true) : x = some (some (.ref a)) := by
  unfold isRefV at h; split at h
  · rw [eq_of_beq h]
  · cases h
def isTyV (x : Option Value) (n : String) : Bool := match x with | some (.type m) => m == n | _ => false
theorem isTyV_eq {x : Option Value} {n : String} (h : isTyV x n = true) : x = some (.type n) := by
  unfold isTyV at h; split at h
  · rw [eq_of_beq h]
  · cases h
theorem all_of {α : Type} {l : List α} {p : α → Bool} {q : α → Prop} (h : l.all p = true) (f : ∀ x, p x = true → q x) : ∀ x ∈ l, q x := fun x hx => f x (List.all_eq_true.mp h x hx)
section
variable (P : Params)
theorem k_acc : ∀ C ∈ [cA, cM, cL], AccK (KH P) C := by
  refine List.forall_mem_cons.mpr ⟨?_, List.forall_mem_cons.mpr ⟨?_, List.forall_mem_cons.mpr ⟨?_, fun _ h => nomatch h⟩⟩⟩
  all_goals exact ⟨by kernel_rfl!, by kernel_rfl!, by kernel_rfl!, by kernel_rfl!, by kernel_rfl!, by kernel_rfl!, ⟨_, rfl, by kernel_rfl!⟩⟩
theorem k_find : ∀ t ∈ mtab, findIn (KH P) (.ref t.1) t.2.1 = some (some (.ref t.2.2)) := all_of (p := fun t => isRefV (findIn (KH P) (.ref t.1) t.2.1) t.2.2) (by kernel_rfl!) fun _ h => isRefV_eq h
theorem k_ty : ∀ d ∈ defTable, typeIn (KH P) (.ref d.1) = some (.type "function") := all_of (p := fun d => isTyV (typeIn (KH P) (.ref d.1)) "function") (by kernel_rfl!) fun _ h => isTyV_eq h
theorem k_isFn : ∀ d ∈ defTable, isFn (KH P) (.ref d.1) = true := all_of (p := fun d => isFn (KH P) (.ref d.1)) (by kernel_rfl!) fun _ h => h
theorem k_fnIn : ∀ d ∈ defTable, fnIn (KH P) d.1 = true := all_of (p := fun d => fnIn (KH P) d.1) (by kernel_rfl!) fun _ h => h
theorem k_keepC : ∀ C ∈ [cA, cM, cL], keepIn (KH P) (.ref C) = true := all_of (p := fun C => keepIn (KH P) (.ref C)) (by kernel_rfl!) fun _ h => h
theorem k_prov : ∀ C ∈ [cA, cM, cL], findIn (KH P) (.ref C) "provided" = some none := by
  refine List.forall_mem_cons.mpr ⟨?_, List.forall_mem_cons.mpr ⟨?_, List.forall_mem_cons.mpr ⟨?_, fun _ h => nomatch h⟩⟩⟩
  all_goals kernel_rfl!
theorem k_setA : ∀ C ∈ [cA, cM, cL], findIn (KH P) (.ref C) "__setattr__" = some (some (.builtin "object.__setattr__")) := by
  refine List.forall_mem_cons.mpr ⟨?_, List.forall_mem_cons.mpr ⟨?_, List.forall_mem_cons.mpr ⟨?_, fun _ h => nomatch h⟩⟩⟩
  all_goals kernel_rfl!
theorem k_under : ∀ C ∈ [cA, cM, cL], (clsIn (KH P) C).any (fun cd => underList cd.mro && cd.hasDict) = true := all_of (p := fun C => (clsIn (KH P) C).any (fun cd => underList cd.mro && cd.hasDict)) (by kernel_rfl!) fun _ h => h
theorem k_makes : ∀ C ∈ [cA, cM, cL], makesLIn (KH P) C = true := all_of (p := fun C => makesLIn (KH P) C) (by kernel_rfl!) fun _ h => h
theorem k_noSeq : ∀ C ∈ [cA, cM, cL], noSeq (KH P) C = true := all_of (p := fun C => noSeq (KH P) C) (by kernel_rfl!) fun _ h => h
theorem k_selfFirst : ∀ C ∈ [cA, cM, cL], selfFirst (KH P) C = true := all_of (p := fun C => selfFirst (KH P) C) (by kernel_rfl!) fun _ h => h
theorem k_isiA : ∀ C ∈ [cA, cM, cL], isIn (KH P) (.ref C) cA = true := all_of (p := fun C => isIn (KH P) (.ref C) cA) (by kernel_rfl!) fun _ h => h
theorem k_mroA : ∀ C ∈ [cA, cM, cL], mroIn (KH P) C (.ref cA) = some true := by
  refine List.forall_mem_cons.mpr ⟨?_, List.forall_mem_cons.mpr ⟨?_, List.forall_mem_cons.mpr ⟨?_, fun _ h => nomatch h⟩⟩⟩
  all_goals kernel_rfl!
theorem k_supI : ∀ C ∈ [cA, cM, cL], ks_superIn (KH P) C cA "__init__" = some (some (.builtin "list.__init__")) := by
  refine List.forall_mem_cons.mpr ⟨?_, List.forall_mem_cons.mpr ⟨?_, List.forall_mem_cons.mpr ⟨?_, fun _ h => nomatch h⟩⟩⟩
  all_goals kernel_rfl!
theorem k_best : ∀ C ∈ [cA, cM, cL], ∃ pr rest, findIn (KH P) (.ref C) "best" = some (some (.ref pr)) ∧ specialIn (KH P) (.ref pr) "__get__" = some (some (.builtin "property.__get__")) ∧ takesIn (KH P) (.ref pr) = some true ∧ recIn (KH P) pr "property" = some (.ref 276 :: rest) := by
  refine List.forall_mem_cons.mpr ⟨?_, List.forall_mem_cons.mpr ⟨?_, List.forall_mem_cons.mpr ⟨?_, fun _ h => nomatch h⟩⟩⟩
  all_goals exact ⟨277, [.none, .none, .none, .str "best" 594, .bool false], by kernel_rfl!, by kernel_rfl!, by kernel_rfl!, by kernel_rfl!⟩
theorem k_clsD : ∀ C ∈ [cA, cL], ∃ cd, clsIn (KH P) C = some cd := by
  have h : ∀ C ∈ [cA, cL], (clsIn (KH P) C).isSome = true := all_of (p := fun C => (clsIn (KH P) C).isSome) (by kernel_rfl!) fun _ h => h
  intro C hC
  exact Option.isSome_iff_exists.mp (h C hC)
theorem k_one : nsIn (KH P) cStatics "thirdparty.any" = some none ∧ kitOne (KH P) (.type "list") (.ref cA) = some false ∧ kitOne (KH P) (.type "str") (.type "str") = some true ∧ kitOne (KH P) (.type "int") (.type "str") = some false ∧
    findCls (KH P) (.type "list") (.type "type") "__getitem__" = some (.val (.builtin "list.__getitem__")) ∧ mroIn (KH P) cL (.ref cL) = some true ∧ ks_superIn (KH P) cL cL "best_match" = some (some (.ref 269)) :=
  ⟨by kernel_rfl!, by kernel_rfl!, by kernel_rfl!, by kernel_rfl!, by kernel_rfl!, by kernel_rfl!, by kernel_rfl!⟩
theorem k_name : ∀ C ∈ [cA, cM, cL], ∃ oc x t, (KH P).lookup C = some oc ∧ oc.cls = .type "type" ∧ (oc.slots[2]?).join = some (.str x t) ∧ (reprText x).length ≤ 100 ∧ findCls (KH P) (.ref C) (.type "type") "__name__" = some (CFound.get (Value.builtin "getset_descriptor.__get__") (Value.builtin "type.__name__") (Value.ref C) (Value.type "type")) := by
  refine List.forall_mem_cons.mpr ⟨?_, List.forall_mem_cons.mpr ⟨?_, List.forall_mem_cons.mpr ⟨?_, fun _ h => nomatch h⟩⟩⟩
  · exact ⟨_, "Accept", _, rfl, by kernel_rfl!, rfl, by decide +kernel, by kernel_rfl!⟩
  · exact ⟨_, "MIMEAccept", _, rfl, by kernel_rfl!, rfl, by decide +kernel, by kernel_rfl!⟩
  · exact ⟨_, "LanguageAccept", _, rfl, by kernel_rfl!, rfl, by decide +kernel, by kernel_rfl!⟩
theorem k_all : KF (KH P) :=
  have o := k_one P
  { acc := k_acc P, find := k_find P, ty := k_ty P, isFn := k_isFn P, fnIn := k_fnIn P, keepC := k_keepC P, prov := k_prov P, setA := k_setA P, under := k_under P, makes := k_makes P, op := o.1, noSeq := k_noSeq P, selfFirst := k_selfFirst P, isiL := o.2.1, isiA := k_isiA P,
    isiS := o.2.2.1, isiI := o.2.2.2.1, lgi := o.2.2.2.2.1, mroA := k_mroA P, mroL := o.2.2.2.2.2.1, supI := k_supI P, supB := o.2.2.2.2.2.2, best := k_best P, name := k_name P, clsD := k_clsD P }
end
end Mine
end
section
open PySem PySem.W PySem.Calls PyProof.Rows Builtin Builtin.Str
set_option maxRecDepth 100000
set_option maxHeartbeats 4000000
namespace Mine
/-! The tables of code that the law's run grows. -/
abbrev T3 : List Addr := [172, 303, 375]
def lamL : List (Addr × Pos × Str) := [(172, ⟨59, 40, 59, 81⟩, "Accept.__init__.<locals>.<lambda>"), (303, ⟨153, 21, 153, 68⟩, "MIMEAccept._specificity.<locals>.<genexpr>"), (375, ⟨202, 24, 202, 77⟩, "LanguageAccept.best_match.<locals>.<genexpr>")]
def TabL (h : Heap) : Prop := ∀ t ∈ lamL, ∃ ps, h.get? t.1 = some (tabObj ps) ∧ TriplesOk ps.toList ∧ (codeAmong t.2.1 ps.toList = none ∨ ∃ c', codeAmong t.2.1 ps.toList = some (.ref c') ∧ c' ∉ T3 ∧ h.CodeRec (.ref c') t.2.2)
theorem lam_mem {a : Addr} (h : a ∈ T3) : ∃ t ∈ lamL, t.1 = a := by
  simp only [T3, List.mem_cons, List.not_mem_nil, or_false] at h
  rcases h with rfl | rfl | rfl
  · exact ⟨_, .head _, rfl⟩
  · exact ⟨_, .tail _ (.head _), rfl⟩
  · exact ⟨_, .tail _ (.tail _ (.head _)), rfl⟩
theorem lam_T {t : Addr × Pos × Str} (h : t ∈ lamL) : t.1 ∈ T3 := by
  simp only [lamL, List.mem_cons, List.not_mem_nil, or_false] at h
  rcases h with rfl | rfl | rfl <;> decide
theorem lam_one {t u : Addr × Pos × Str} (h : t ∈ lamL) (k : u ∈ lamL) (e : t.1 = u.1) : t = u := by
  simp only [lamL, List.mem_cons, List.not_mem_nil, or_false] at h k
  rcases h with rfl | rfl | rfl <;> rcases k with rfl | rfl | rfl <;> first | rfl | exact absurd e (by decide)
theorem tabL_K {h h' : Heap} (k : ∀ b o, h.get? b = some o → Held o → h'.get? b = some o) (t : TabL h) : TabL h' := by
  intro u hu
  obtain ⟨ps, e, tr, hc⟩ := t u hu
  refine ⟨ps, k _ _ e (.inr ⟨rfl, _, rfl⟩), tr, hc.imp id fun ⟨c', e1, e2, c, o, vs, tt, e3, e4, e5, e6⟩ => ⟨c', e1, e2, c, o, vs, tt, e3, k _ _ e4 (.inl ⟨vs, _, tt, e5, e6⟩), e5, e6⟩⟩
theorem tabL_F {h : Heap} {a : Addr} (ha : a ∈ T3) (t : TabL h) : ∃ o vs, h.get? a = some o ∧ o.data = .fields vs ∧ o.cls = .none := by
  obtain ⟨u, hu, rfl⟩ := lam_mem ha
  obtain ⟨ps, e, _⟩ := t u hu
  exact ⟨_, _, e, rfl, rfl⟩
theorem codeAmong_app {pos : Pos} {c : Value} (l m : List Value) (h : TriplesOk l) (hn : codeAmong pos l = some c) : codeAmong pos (l ++ m) = some c := by
  fun_induction TriplesOk l with
  | case1 => cases hn
  | case2 a t b u x rest ih =>
    simp only [List.cons_append, codeAmong] at hn ⊢
    split at hn
    · rename_i hc; rw [if_pos hc]; exact hn
    · rename_i hc; rw [if_neg hc]; exact ih h hn
  | case3 l h1 h2 => exact h.elim
theorem tabL_grow {P : Addr} {pos : Pos} {qual : Str} (hm : (P, pos, qual) ∈ lamL) {h h' : Heap} {ps : Array Value} {c' : Addr} (t : TabL h) (hP : h.get? P = some (tabObj ps)) (hx : Heap.ExtBut P h h') (hge : h.objs.size ≤ c') (hr : h'.CodeRec (.ref c') qual)
    (hP' : h'.get? P = some (tabObj (ps ++ #[rawInt pos.line, rawInt pos.col, .ref c']))) : TabL h' := by
  have nT : c' ∉ T3 := fun hT => by
    obtain ⟨o, vs, e, _⟩ := tabL_F hT t
    exact absurd (Heap.lt_size e) (Nat.not_lt_of_le hge)
  have keep : ∀ {c0 : Addr} {q : Str}, c0 ∉ T3 → h.CodeRec (.ref c0) q → h'.CodeRec (.ref c0) q := fun {c0 q} n0 ⟨c, o, vs, tt, e3, e4, r⟩ => by
    cases e3
    exact ⟨_, o, vs, tt, rfl, hx _ _ (fun e => n0 (e ▸ lam_T hm)) e4, r⟩
  intro u hu
  obtain ⟨ps1, e, tr, hc⟩ := t u hu
  by_cases he : u.1 = P
  · have : u = (P, pos, qual) := lam_one hu hm he
    subst this
    have : ps1 = ps := by have := Option.some.inj (e.symm.trans hP); injection this with _ _ h3; injection h3
    subst this
    have hl : (ps1 ++ #[rawInt pos.line, rawInt pos.col, Value.ref c']).toList = ps1.toList ++ [rawInt pos.line, rawInt pos.col, .ref c'] := by simp
    refine ⟨_, hP', ?_, ?_⟩
    · rw [hl]; exact TriplesOk_snoc _ _ _ _ tr
    · rw [hl]
      rcases hc with hn | ⟨c0, h1, h2, h3⟩
      · exact .inr ⟨c', codeAmong_snoc _ tr hn, nT, hr⟩
      · exact .inr ⟨c0, codeAmong_app _ _ tr h1, h2, keep h2 h3⟩
  · exact ⟨ps1, hx _ _ he e, tr, hc.imp id fun ⟨c0, h1, h2, h3⟩ => ⟨c0, h1, h2, keep h2 h3⟩⟩
theorem tabL_0 {h : Heap} (t : ∀ a ∈ T3, h.get? a = some (tabObj #[])) : TabL h := fun u hu => ⟨#[], t _ (lam_T hu), trivial, .inl rfl⟩
/-- the ground of the law's call -/
def gr0 (h : Heap) (mg mb : Str → Option Value) (p : Nat) : Gr := { hB := h, mg := mg, mb := mb, T := T3, TabOk := TabL, V := [], p0 := p }
section
variable {p : Program} {loose : List Str} {mean : ExcName → Option Value} {mg mb : Str → Option Value} {h : Heap} {P : Params} {q : Nat} (X : (KH P).In h) (H : ∀ a ∈ T3, h.get? a = some (tabObj #[])) (T : Top p loose mean mg mb h)
include X H T
theorem no_T {a : Addr} {o : Obj} (ha : a ∈ T3) (e : h.get? a = some o) : o = tabObj #[] := by rw [H a ha] at e; cases e; rfl
theorem gr0_ok : Gr2 (gr0 h mg mb q) := by
  refine { glob := T.g, blt := T.b, gT := (by decide : mainGlobals ∉ T3), bT := (by decide : builtinsNs ∉ T3), lim := T.nolimit, limT := (by decide : cStatics ∉ T3), tabF := fun h a ha t => tabL_F ha t, tabK := fun h h' k t => tabL_K k t, tB := fun a ha => ⟨_, H a ha⟩, tab0 := tabL_0 H }
theorem gr0_k : KIn (gr0 h mg mb q) (KH P) := by
  refine ⟨X, fun a o e ha => ?_⟩
  have h0 : ∀ a ∈ T3, ((KH P).lookup a).isNone = true := all_of (p := fun a => ((KH P).lookup a).isNone) (by kernel_rfl!) fun _ h => h
  have := h0 a ha
  rw [e] at this; cases this
def isV (x : Option (Option Value)) (v : Value) : Bool := match x, v with | some (some (.ref a)), .ref b => a == b | _, _ => false
omit X H T in
theorem isV_eq {x : Option (Option Value)} {v : Value} (h : isV x v = true) : x = some (some v) := by
  unfold isV at h; split at h
  · rw [eq_of_beq h]
  · cases h
omit X H T in
theorem k_gl : ∀ p ∈ gnames, nsIn (KH P) mainGlobals p.1 = some (some p.2) := all_of (p := fun p => isV (nsIn (KH P) mainGlobals p.1) p.2) (by kernel_rfl!) fun _ h => isV_eq h
def isNN (x : Option (Option Value)) : Bool := match x with | some none => true | _ => false
omit X H T in
theorem isNN_eq {x : Option (Option Value)} (h : isNN x = true) : x = some none := by
  unfold isNN at h; split at h
  · rfl
  · cases h
omit X H T in
theorem k_bl : ∀ p ∈ bnames, nsIn (KH P) mainGlobals p.1 = some none := all_of (p := fun (p : Str × Value) => isNN (nsIn (KH P) mainGlobals p.1)) (by kernel_rfl!) fun _ h => isNN_eq h
omit X H T in
theorem b_bl : ∀ p ∈ bnames, p.1 ≠ ("__name__" : Str) ∧ bootBuiltins p.1 = some p.2 := by
  simp only [bnames]
  repeat (first | refine List.forall_mem_cons.mpr ⟨⟨by decide, by decide +kernel⟩, ?_⟩ | exact List.forall_mem_nil _)
theorem gr0_bm : BMod (gr0 h mg mb q) := by
  obtain ⟨bm, ob, h1, h2, h3, h4, h5, h6⟩ := T.bmain
  refine ⟨bm, ob, h1, h2, fun e => ?_, fun e => ?_, h3, h4, h5, h6⟩
  · obtain ⟨o, es, ep, e1, e2, _⟩ := T.g
    rw [← e, h3] at e1; cases e1
    rw [h6] at e2; cases e2
  · rw [no_T X H T e h3] at h4; cases h4
theorem gr0_nb : NoneBooked h := by
  obtain ⟨mc, h1, _⟩ := T.nodigits
  exact ⟨mc, h1, ns_none_of (K := KH P) X h1 (by kernel_rfl!)⟩
end
end Mine
end
section
open PySem PySem.W PySem.Calls PyProof.Rows Builtin Builtin.Re
set_option maxRecDepth 100000
set_option maxHeartbeats 4000000
namespace Mine
def reIn (K : Frag) (re ci : Addr) (code : Array Nat) : Bool := match K.lookup re with
  | some ⟨.type n, none, .fields fs, _⟩ => n == "re.Pattern" && reRawNat (fs.getD 6 .none) == 0 && reRawNat (fs.getD 2 .none) == 0 && (match fs.getD 5 .none with | .ref c => c == ci | _ => false) &&
      (match K.lookup ci with | some ⟨_, _, .seq its _, _⟩ => decide ((its.map reRawOf).map (·.toNat) = code) | _ => false)
  | _ => false
theorem reIn_at {K : Frag} {h : Heap} {re ci : Addr} {code : Array Nat} (X : K.In h) (e : reIn K re ci code = true) : ReAt h re ci code := by
  unfold reIn at e
  split at e
  · rename_i n fs sl hk
    simp only [Bool.and_eq_true, beq_iff_eq] at e
    obtain ⟨⟨⟨⟨rfl, e2⟩, e3⟩, e4⟩, e5⟩ := e
    split at e4
    · rename_i c hc
      have e4 := eq_of_beq e4
      subst e4
      split at e5
      · rename_i oc od its m osl hk2
        exact ⟨_, fs, _, its, m, X _ _ hk, rfl, rfl, rfl, e2, e3, hc, X _ _ hk2, rfl, of_decide_eq_true e5⟩
      · cases e5
    · cases e4
  · cases e
def strV : Value → Option Str
  | .str x _ => some x
  | _ => none
def tabStr (K : Frag) (a : Addr) (l : List Str) : Bool := match K.lookup a with
  | some ⟨.type n, none, .seq vs _, sl⟩ => n == "list" && sl.isEmpty && decide (vs.toList.map strV = l.map some)
  | _ => false
theorem rps_of_strV : ∀ {vs : List Value} {l : List Str} {V : List Addr} {h : Heap}, vs.map strV = l.map some → Rps V h (l.map .str) vs
  | [], [], _, _, _ => rfl
  | v :: vs, x :: l, _, _, e => by
    simp only [List.map_cons, List.cons.injEq] at e
    cases v with
    | str y t => cases e.1; exact ⟨_, vs, rfl, ⟨t, rfl⟩, rps_of_strV e.2⟩
    | _ => cases e.1
theorem tabStr_at {K : Frag} {h : Heap} {a : Addr} {l : List Str} (X : K.In h) (e : tabStr K a l = true) : ∃ n vs, h.get? a = some (seqObj "list" (List.toArray vs) n) ∧ Rps [] h (l.map .str) vs := by
  unfold tabStr at e
  split at e
  · rename_i n vs m sl hk
    simp only [Bool.and_eq_true, beq_iff_eq, decide_eq_true_eq] at e
    obtain ⟨⟨rfl, e2⟩, e3⟩ := e
    refine ⟨m, vs.toList, ?_, rps_of_strV e3⟩
    rw [X _ _ hk, Array.toArray_toList, Array.isEmpty_iff.mp e2]
  · cases e
def supIn (K : Frag) (c : Addr) (f : Str) : Bool := match K.lookup c with
  | some ⟨_, _, .fields vs, _⟩ => (match (vs[2]? : Option Value) with | some (.str file _) => f == file | _ => false)
  | _ => false
theorem supIn_at {K : Frag} {h : Heap} {c : Addr} {f : Str} (X : K.In h) (e : supIn K c f = true) : ∃ oc vs file tf, h.get? c = some oc ∧ oc.data = .fields vs ∧ vs[2]? = some (.str file tf) ∧ (f == file) = true := by
  unfold supIn at e
  split at e
  · rename_i vs sl hk
    split at e
    · rename_i file tf hv
      exact ⟨_, vs, file, tf, X _ _ hk, rfl, hv, e⟩
    · cases e
  · cases e
section
variable {p : Program} {loose : List Str} {mean : ExcName → Option Value} {mg mb : Str → Option Value} {h : Heap} {P : Params} {q : Nat} (X : (KH P).In h) (H : ∀ a ∈ T3, h.get? a = some (tabObj #[])) (T : Top p loose mean mg mb h)
include X H T
theorem gr0_lam {pos : Pos} {qual : Str} {c P' : Addr} (hd : codeHdIn (KH P) c P' = true) (hc : c ∉ T3) (hm : (P', pos, qual) ∈ lamL) : LamTab (gr0 h mg mb q) pos qual c P' :=
  ⟨codeHd_of_K X hd, hc, lam_T hm, fun h t => t _ hm, fun _ _ _ _ t a b c d e => tabL_grow hm t a b c d e⟩
theorem gr0_defs : ∀ d ∈ defTable, DefAt (gr0 h mg mb q) d.1 d.2.1 d.2.2.1 d.2.2.2.1 d.2.2.2.2 (.ref (d.1 - 1)) := by
  have k := gr0_k (q := q) X H T
  simp only [defTable]
  repeat (first | refine List.forall_mem_cons.mpr ⟨defAt_K k (c := _) (by decide : (_ : Addr) ∉ T3) (by kernel_rfl!) (by kernel_rfl!) (by kernel_rfl!) (by kernel_rfl!), ?_⟩ | exact List.forall_mem_nil _)
theorem gr0_pw (hq : 0 < q) : PW (KH P) (gr0 h mg mb q) := by
  refine { G := gr0_ok X H T, k := gr0_k X H T, kf := k_all P, T := rfl, gl := fun p hp => mg_of X T.g (k_gl p hp), bl := fun p hp => ⟨mg_none_of X T.g (k_bl p hp), (T.builtins _ (b_bl p hp).1).trans (b_bl p hp).2⟩, bm := gr0_bm X H T, nb := gr0_nb X H T, tk := hq, defs := gr0_defs X H T, t1 := ?_, t2 := ?_, t3 := ?_, re1 := ?_, re2 := ?_, cell1 := ?_, cell2 := ?_, dv0 := ?_, dv1 := ?_, dv2 := ?_, dv3 := ?_, dv4 := ?_, sup := ?_, tabs := ?_ }
  · exact gr0_lam X H T (by kernel_rfl!) (by decide) (.head _)
  · exact gr0_lam X H T (by kernel_rfl!) (by decide) (.tail _ (.head _))
  · exact gr0_lam X H T (by kernel_rfl!) (by decide) (.tail _ (.tail _ (.head _)))
  · exact reIn_at X (by kernel_rfl!)
  · exact reIn_at X (by kernel_rfl!)
  · exact ⟨_, X 163 ⟨.type "cell", none, .cell (some (.ref 280)), #[]⟩ (by kernel_rfl!), rfl⟩
  · exact ⟨_, X 360 ⟨.type "cell", none, .cell (some (.ref 381)), #[]⟩ (by kernel_rfl!), rfl⟩
  · exact ⟨0, X 169 (seqObj "tuple" #[.ref 168] 0) (by kernel_rfl!)⟩
  · exact ⟨0, X 262 (seqObj "tuple" #[.none] 0) (by kernel_rfl!)⟩
  · exact ⟨0, X 372 (seqObj "tuple" #[.none] 0) (by kernel_rfl!)⟩
  · exact ⟨377, 0, X 109 (seqObj "tuple" #[.int (-1) 377] 0) (by kernel_rfl!)⟩
  · exact ⟨0, X 124 (seqObj "tuple" #[.none, .bool false] 0) (by kernel_rfl!)⟩
  · exact List.forall_mem_cons.mpr ⟨supIn_at X (by kernel_rfl!), List.forall_mem_cons.mpr ⟨supIn_at X (by kernel_rfl!), List.forall_mem_nil _⟩⟩
  · exact List.forall_mem_cons.mpr ⟨tabStr_at X (by kernel_rfl!), List.forall_mem_cons.mpr ⟨tabStr_at X (by kernel_rfl!), List.forall_mem_cons.mpr ⟨tabStr_at X (by kernel_rfl!), List.forall_mem_cons.mpr ⟨tabStr_at X (by kernel_rfl!), List.forall_mem_cons.mpr ⟨tabStr_at X (by kernel_rfl!), List.forall_mem_nil _⟩⟩⟩⟩⟩
end
end Mine
end
section
open PySem PySem.W PySem.Calls PyProof.Rows Builtin Builtin.Str
set_option maxRecDepth 100000
set_option maxHeartbeats 4000000
namespace Mine
theorem ints_rps {P : Params} {h : Heap} : ∀ {ns : List Int} {vs : List Value}, WellAll P h vs (ofPys (ns.map PyData.int)) → Rps [] h (ns.map CV.int) vs
  | [], _, .nil => rfl
  | i :: ns, _, .cons (.int _ t) r => ⟨_, _, rfl, ⟨t, rfl⟩, ints_rps r⟩
theorem list_rp {P : Params} {h : Heap} {ns : List Int} {l : Addr} (w : Well P h (.ref l) (ofPy (PyData.list (ns.map PyData.int)))) : Rps [] h [.lst (ns.map CV.int)] [.ref l] := by
  have e : ofPy (PyData.list (ns.map PyData.int)) = .list (ofPys (ns.map PyData.int)) := by rw [ofPy]
  rw [e] at w
  cases w with
  | list ho r => exact ⟨_, [], rfl, ⟨l, _, 0, rfl, List.not_mem_nil, ho, ints_rps r⟩, rfl⟩
theorem at_0 {h : Heap} {mg mb : Str → Option Value} {s : Shared} (e : s.heap = h) (H : ∀ a ∈ T3, h.get? a = some (tabObj #[])) : At (gr0 h mg mb 0) s := by
  subst e
  exact ⟨fun b o _ e => e, tabL_0 H, (fun a h => absurd h List.not_mem_nil), Nat.zero_le _, (fun e h => absurd h List.not_mem_nil), (fun e h => nomatch h)⟩
theorem old_k {P : Params} {mg mb : Str → Option Value} {s s' : Shared} (X : (KH P).In s.heap) (H : ∀ a ∈ T3, s.heap.get? a = some (tabObj #[])) (x : Step (gr0 s.heap mg mb 0) s s') : OldK s.heap s'.heap := by
  have t := x.tab (tabL_0 H)
  have hd : ∀ a ∈ T3, ∃ c, codeHdIn (KH P) c a = true := List.forall_mem_cons.mpr ⟨⟨176, by kernel_rfl!⟩, List.forall_mem_cons.mpr ⟨⟨307, by kernel_rfl!⟩, List.forall_mem_cons.mpr ⟨⟨377, by kernel_rfl!⟩, List.forall_mem_nil _⟩⟩⟩
  have tab : ∀ a ∈ T3, ∀ o, s.heap.get? a = some o → ∃ ps : Array Value, o = tabObj #[] ∧ s'.heap.get? a = some (tabObj ps) := fun a ha o e => by
    obtain ⟨u, hu, rfl⟩ := lam_mem ha
    obtain ⟨ps, e', _⟩ := t u hu
    rw [H _ ha] at e; cases e
    exact ⟨ps, rfl, e'⟩
  refine ⟨fun b o e => ?_, fun b o e => ?_⟩
  · by_cases hb : b ∈ T3
    · obtain ⟨ps, rfl, e'⟩ := tab b hb o e
      obtain ⟨c, hc⟩ := hd b hb
      refine .inr (.inl ⟨((codeHd_of_K X hc).tab (H b hb)).isCodeTable, rfl, #[], ps, rfl, ?_⟩)
      rw [e']
      simp [tabObj]
    · exact .inl (x.keep b o hb (fun h => nomatch h) e)
  · by_cases hb : b ∈ T3
    · obtain ⟨ps, rfl, e'⟩ := tab b hb o e
      exact ⟨_, e'⟩
    · exact ⟨o, x.keep b o hb (fun h => nomatch h) e⟩
theorem caller_ok : OkA [] none callerA 20 := ⟨by decide, by decide, rfl, rfl⟩
end Mine
theorem PySem.Challenge.cw_bl0029_01_holds : PySem.Challenge.rw_bl0029_01.Holds := by
  refine Mine.hd ?_
  intro w s₀ s₁ mg mb G Y fa o pm cd doc dV kV ho hd hcd hD hmg hg args vals as hpre hlay hrd hwl hlo
  have X := km_in_of Y
  have H : ∀ a ∈ Mine.T3, s₁.heap.get? a = some (tabObj #[]) := km_tabs_of Y
  have T := G.T
  have hfa : fa = 453 := by
    have e := mg_of (n := "law") X T.g (v := .ref 453) (by kernel_rfl!)
    have e2 : mg "law" = some (.ref fa) := hmg
    rw [e] at e2; cases e2; rfl
  subst hfa
  clear ho hd hcd hD hmg Y
  wrow_args hpre hlay hrd hwl hlo
  rename_i ns q1 q2 q3 q4 q5 a1 a2 l vs a3 hL ra w1 r0 hI hr hlen htr
  have D := Mine.gr0_defs (q := 0) X H T (Mine.dT 453 (Mine.stm 31) "law" [] .none) (List.mem_of_getElem? (i := 41) rfl)
  have W := (Mine.c_law (w := w) (n := 0) (Mine.gr0_ok X H T) (Mine.gr0_pw X H T (q := 1) Nat.one_pos) D rfl rfl rfl (script := ns) (by omega)).w
  refine W callerA s₁ _ _ _ Mine.caller_ok (Mine.at_0 rfl H) (Mine.list_rp w1) fun v s' x r => ?_
  cases r
  refine ⟨.inl ⟨.bool true, .bool true, [], rfl, fun cls => ?_, .bool true, ?_, fun _ => ⟨List.nodup_nil, fun _ h => nomatch h⟩⟩, Mine.old_k X H x, x.os, ?_⟩
  · rfl
  · kernel_rfl!
  · obtain ⟨l, e, b⟩ := x.gens
    rw [e, hg, Array.empty_append]; exact b
end
