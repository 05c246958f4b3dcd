import PyProof.Rows.All
import Wide.All
import OpenK.AllK
import Wide.FinOn
import Lean
import PySem.Challenge.RW_fj5004_01
set_option Elab.async false
set_option autoImplicit false
set_option linter.unusedVariables false
section
open PySem PySem.W PySem.W.X PyProof.Rows
/-! HeadX -/
namespace Mine
local macro_rules | `(tactic| k_head) => `(tactic| x_head)
set_option maxRecDepth 100000 in
set_option maxHeartbeats 0 in
open_top hd for PySem.Challenge.rw_fj5004_01
end Mine
end
section
open PySem PySem.W PySem.W.X PyProof.Rows PySem.Calls PySem.Spec
/-! Base -/
namespace Mine

abbrev pw : Program := PySem.Challenge.pw_fj5004_01
/-- the code objects whose tables may grow, with their tables -/
def tabs : List (Addr × Addr) := [(34, 30), (41, 37), (164, 162), (209, 205)]
def solid (a : Addr) (o : Obj) : Bool := hasCls o || !([30, 37, 162, 205] : List Addr).contains a
def TabOk (h : Heap) : Prop := ∀ q ∈ tabs, ∃ ps, h.IsCode q.1 q.2 ps ∧ h.TableAt q.1 q.2 ps
/-- the written heap without those tables -/
noncomputable def KF (P : Params) : Frag := (hd.heap_39 P).filter fun p => !([30, 37, 162, 205] : List Addr).contains p.1

structure Keep (s s' : Shared) : Prop where
  old : ∀ a o, solid a o = true → s.heap.get? a = some o → s'.heap.get? a = some o
  tab : ∀ q ∈ tabs, ∀ ps, s.heap.TableAt q.1 q.2 ps → ∃ more, s'.heap.TableAt q.1 q.2 (ps ++ more)
  ok : TabOk s.heap → TabOk s'.heap
  gens : ∀ (i : Nat) (x : GenState), s.gens[i]? = some x → s'.gens[i]? = some x
  bare : AllBare s.gens → AllBare s'.gens
  os : s'.os = s.os
  pt : ∀ ps, s.heap.TableAt 209 205 ps → s'.heap.TableAt 209 205 ps

theorem TabOk.all {h h' : Heap} (x : TabOk h) (k : ∀ b o, h.get? b = some o → h'.get? b = some o) : TabOk h' := fun q hq =>
  let ⟨ps, a, b⟩ := x q hq; ⟨ps, a.keeps k, b.keeps k⟩
theorem Keep.of_all {s s' : Shared} (k : ∀ b o, s.heap.get? b = some o → s'.heap.get? b = some o) (g : s'.gens = s.gens) (os : s'.os = s.os) : Keep s s' :=
  ⟨fun a o _ e => k a o e, fun q _ ps t => ⟨#[], by simpa using t.keeps k⟩, fun x => x.all k, fun i x e => by rw [g]; exact e, fun b => by rw [g]; exact b, os, fun _ t => t.keeps k⟩
theorem Keep.refl (s : Shared) : Keep s s := .of_all (fun _ _ e => e) rfl rfl
theorem Keep.trans {a b c : Shared} (x : Keep a b) (y : Keep b c) : Keep a c :=
  ⟨fun p o s e => y.old p o s (x.old p o s e), fun q hq ps t => by
    obtain ⟨m₁, t₁⟩ := x.tab q hq ps t
    obtain ⟨m₂, t₂⟩ := y.tab q hq _ t₁
    exact ⟨m₁ ++ m₂, by rw [← Array.append_assoc]; exact t₂⟩, fun h => y.ok (x.ok h), fun i z e => y.gens i z (x.gens i z e), fun h => y.bare (x.bare h), y.os.trans x.os, fun ps t => y.pt ps (x.pt ps t)⟩
theorem Keep.heapTok {s : Shared} {h' : Heap} {tk : Nat} (k : ∀ b o, s.heap.get? b = some o → h'.get? b = some o) : Keep s { s with heap := h', toks := tk } := .of_all k rfl rfl

/-- what lies at a: known for good while only X changes -/
def Fa (X : List Addr) (s : Shared) (a : Addr) (o : Obj) : Prop := a ∉ X ∧ solid a o = true ∧ s.heap.get? a = some o
def Imm (X : List Addr) (s s' : Shared) : Prop := ∀ a o, a ∉ X → solid a o = true → s.heap.get? a = some o → s'.heap.get? a = some o
theorem Imm.refl (X : List Addr) (s : Shared) : Imm X s s := fun _ _ _ _ e => e
theorem Imm.trans {X : List Addr} {a b c : Shared} (x : Imm X a b) (y : Imm X b c) : Imm X a c := fun p o n s e => y p o n s (x p o n s e)
theorem Keep.imm {X : List Addr} {s s' : Shared} (k : Keep s s') : Imm X s s' := fun a o _ h e => k.old a o h e
theorem Fa.imm {X : List Addr} {s s' : Shared} {a : Addr} {o : Obj} (f : Fa X s a o) (k : Imm X s s') : Fa X s' a o := ⟨f.1, f.2.1, k a o f.1 f.2.1 f.2.2⟩
theorem Fa.keep {X : List Addr} {s s' : Shared} {a : Addr} {o : Obj} (f : Fa X s a o) (k : Keep s s') : Fa X s' a o := f.imm k.imm
theorem Fa.get {X : List Addr} {s : Shared} {a : Addr} {o : Obj} (f : Fa X s a o) : s.heap.get? a = some o := f.2.2

/-- room for k calls more -/
structure AOk (k : Nat) (A : Around) : Prop where
  handled : A.handled = none
  depth : A.depth + k ≤ 600
  units : A.units + 8 * k ≤ 6000
abbrev Amax : Around := ⟨none, 600, none, none, 6000⟩
theorem wpAny_weaken {α : Type} {M : Model} {A : Around} {t : Sem α} {Q : α → Shared → Prop} {E : Value → Shared → Prop} {s : Shared} (hA : AOk 0 A) (h : wpAny M Amax t Q E s) : wpAny M A t Q E s := fun Γ p hΓ =>
  h Γ p ⟨hΓ.1.trans hA.handled, Nat.le_trans hΓ.2.1 (by have := hA.depth; exact this), fun _ e => (by simp at e), fun _ e => (by simp at e), Nat.le_trans hΓ.2.2.2.2 (by have := hA.units; exact this)⟩
theorem AOk.le {k k' : Nat} {A : Around} (h : AOk k A) (l : k' ≤ k) : AOk k' A := ⟨h.handled, by have := h.depth; omega, by have := h.units; omega⟩
theorem AOk.deeper {k : Nat} {A : Around} {env : Env} (h : AOk (k + 1) A) : AOk k (A.deeper env) := ⟨h.handled, by have := h.depth; show A.depth + 1 + k ≤ 600; omega, by have := h.units; show A.units + 3 + 8 * k ≤ 6000; omega⟩
theorem AOk.in1 {k : Nat} {A : Around} (h : AOk (k + 1) A) : AOk k A.in1 := ⟨h.handled, by have := h.depth; show A.depth + k ≤ 600; omega, by have := h.units; show A.units + 1 + 8 * k ≤ 6000; omega⟩
theorem AOk.room {k : Nat} {A : Around} (h : AOk k A) : A.depth < recursionLimit := by have := h.depth; show A.depth < 1000; omega
theorem AOk.cline {k : Nat} {A : Around} (h : AOk k A) : A.units + 64 < cLine := by have := h.units; show A.units + 64 < 9900; omega

/-- the top's things stand -/
structure TopS (w : World) (s : Shared) : Prop where
  kin : (KF w.params).In s.heap
  tab : TabOk s.heap
theorem lookup_mem {a : Addr} {o : Obj} : ∀ {l : List (Addr × Obj)}, l.lookup a = some o → (a, o) ∈ l
  | (b, x) :: r, e => by
    rw [List.lookup_cons] at e
    cases q : a == b with
    | true => rw [q] at e; cases e; rw [beq_iff_eq.mp q]; exact List.mem_cons_self
    | false => rw [q] at e; exact List.mem_cons_of_mem _ (lookup_mem e)
theorem KF_solid {P : Params} {a : Addr} {o : Obj} (e : (KF P).lookup a = some o) : solid a o = true := by
  have := (List.mem_filter.mp (lookup_mem e)).2
  unfold solid
  rw [Bool.or_eq_true]
  exact .inr this
theorem TopS.keep {w : World} {s s' : Shared} (T : TopS w s) (k : Keep s s') : TopS w s' := ⟨fun a o e => k.old a o (KF_solid e) (T.kin a o e), k.ok T.tab⟩

abbrev tabAddrs : List Addr := [30, 37, 162, 205]
abbrev mutX (env : Env) (own : List (Str × Addr)) : List Addr := env.locals :: own.map (·.2)
/-- a frame of the text's own: its names, its cells, all else as it was -/
structure Fm (s₀ : Shared) (env : Env) (own : List (Str × Addr)) (m cm : Str → Option Value) (s : Shared) : Prop where
  keep : Keep s₀ s
  ns : s.heap.Ns env.locals m
  cell : ∀ n c, own.lookup n = some c → s.heap.IsCell c (cm n)
  apart : own.Pairwise fun x y => x.2 ≠ y.2
  new : ∀ a ∈ mutX env own, s₀.heap.get? a = none ∧ tabAddrs.contains a = false
  ne : ∀ x ∈ own, x.2 ≠ env.locals
  nd : (own.map (·.1)).Nodup

theorem solid_off {a : Addr} {o : Obj} (h : tabAddrs.contains a = false) : solid a o = true := by
  have e : tabAddrs.contains a = ([30, 37, 162, 205] : List Addr).contains a := rfl
  unfold solid
  rw [← e, h]
  cases hasCls o <;> rfl
theorem off_of_none {w : World} {s : Shared} (T : TopS w s) {a : Addr} (h : s.heap.get? a = none) : tabAddrs.contains a = false := by
  cases q : tabAddrs.contains a with
  | false => rfl
  | true =>
    have hm : a ∈ tabAddrs := by simpa using q
    have key : ∀ p ∈ tabs, p.2 = a → False := fun p hp e => by
      obtain ⟨ps, _, t⟩ := T.tab p hp
      have z := t.2
      rw [e] at z
      exact nomatch (h.symm.trans z)
    simp only [tabAddrs, List.mem_cons, List.not_mem_nil, or_false] at hm
    rcases hm with e | e | e | e
    · exact (key (34, 30) (by simp [tabs]) e.symm).elim
    · exact (key (41, 37) (by simp [tabs]) e.symm).elim
    · exact (key (164, 162) (by simp [tabs]) e.symm).elim
    · exact (key (209, 205) (by simp [tabs]) e.symm).elim

theorem Ns_keep {s s' : Shared} {L : Addr} {m : Str → Option Value} (n : s.heap.Ns L m) (h : tabAddrs.contains L = false) (k : Keep s s') : s'.heap.Ns L m := n.at' fun o e => k.old L o (solid_off h) e
theorem IsCell_keep {s s' : Shared} {c : Addr} {v : Option Value} (n : s.heap.IsCell c v) (h : tabAddrs.contains c = false) (k : Keep s s') : s'.heap.IsCell c v := let ⟨o, a, b⟩ := n; ⟨o, k.old c o (solid_off h) a, b⟩

section
variable {s₀ s s' : Shared} {env : Env} {own : List (Str × Addr)} {m cm : Str → Option Value}
theorem lookup_of_mem {α : Type} : ∀ {l : List (Str × α)} {n : Str} {c : α}, (l.map (·.1)).Nodup → (n, c) ∈ l → l.lookup n = some c
  | (k, v) :: r, n, c, hn, h => by
    rw [List.map_cons, List.nodup_cons] at hn
    rw [List.lookup_cons]
    rcases List.mem_cons.mp h with e | h
    · cases e; simp
    · cases q : n == k with
      | true => exact absurd (List.mem_map.mpr ⟨(n, c), h, beq_iff_eq.mp q⟩) hn.1
      | false => exact lookup_of_mem hn.2 h
theorem mem_mut {x : Str × Addr} (h : x ∈ own) : x.2 ∈ mutX env own := List.mem_cons_of_mem _ (List.mem_map_of_mem h)
theorem Fm.step (F : Fm s₀ env own m cm s) (k : Keep s s') : Fm s₀ env own m cm s' :=
  ⟨F.keep.trans k, Ns_keep F.ns (F.new _ (List.mem_cons_self ..)).2 k, fun n c hc => IsCell_keep (F.cell n c hc) (F.new _ (mem_mut (mem_of_lookup hc))).2 k, F.apart, F.new, F.ne, F.nd⟩
/-- what is new to the frame's state is none of its own -/
theorem Fm.other (F : Fm s₀ env own m cm s) {a : Addr} (h : s.heap.get? a = none) : a ∉ mutX env own := by
  intro hm
  rcases List.mem_cons.mp hm with e | hm
  · obtain ⟨o, _, _, e', _⟩ := F.ns
    rw [← e, h] at e'; cases e'
  · obtain ⟨x, hx, e⟩ := List.mem_map.mp hm
    obtain ⟨n, c⟩ := x
    subst e
    obtain ⟨o, e', _⟩ := F.cell n c (lookup_of_mem F.nd hx)
    exact nomatch (h.symm.trans e')
end
end Mine
end
section
open PySem PySem.W PySem.W.X PyProof.Rows PySem.Calls PySem.Spec
/-! Base2 -/
namespace Mine
set_option maxRecDepth 100000

theorem nolimit {w : World} {s : Shared} (T : TopS w s) : s.heap.NoLimit := by
  refine ⟨fun n => nsFind _ n, ⟨_, _, _, T.kin 2 _ rfl, rfl, ?_, fun _ => rfl⟩, ?_⟩
  · intro e he
    simp at he
    rcases he with rfl | rfl <;> exact ⟨_, _, rfl⟩
  · kernel_rfl

section
variable {w : World} {A : Around} {s : Shared} {E : Value → Shared → Prop} {Q : Value → Shared → Prop}
theorem none_of_size {h : Heap} {a : Addr} (l : h.objs.size ≤ a) : h.get? a = none := by
  cases e : h.get? a with
  | none => rfl
  | some o => exact absurd (Heap.lt_size e) (Nat.not_lt.mpr l)

def retOf : Flow → Value
  | .ret v => v
  | _ => .none

/-- a call of a def that keeps cells for its inner scopes and closes over nothing -/
theorem enter_cells {k : Nat} {a : Addr} {o : Obj} {fd : FuncData} {body : List Stmt} {vals : List Value} {binds : List (Str × Value)} (hA : AOk (k + 1) A) (T : TopS w s) (ho : s.heap.get? a = some o) (hd : o.data = .func fd)
    (hbody : fd.body = .stmts body) (hcd : s.heap.CodeRec fd.code fd.qualname) (hbind : bindArgs fd ⟨vals, []⟩ = pure binds) (hclo : fd.closure = [])
    (hkind : ∀ n, ∀ x ∈ binds, fd.scope.names.lookup x.1 = some .local ∨ (fd.scope.names.lookup x.1 = some .cell ∧ ((cellsFrom n fd.scope.names []).lookup x.1).isSome = true))
    (hnd : ∀ n, ((cellsFrom n fd.scope.names []).map (·.1)).Nodup)
    (h : ∀ L s₁, AOk k (A.deeper (callEnvC fd L a)) → TopS w s₁ → Fm s (callEnvC fd L a) (callEnvC fd L a).cells (bindL (callEnvC fd L a).kindOf binds fun _ => none) (bindC (callEnvC fd L a).kindOf binds fun _ => none) s₁ → s₁.gens = s.gens →
      wpAny (model pw w) (A.deeper (callEnvC fd L a)) (execs body (callEnvC fd L a)) (fun f s' => Q (retOf f) s') (fun _ _ => False) s₁)
    (hco : fd.scope.isCoroutine = false := by rfl) (hgen : fd.scope.isGenerator = false := by rfl) (hk : fd.scope.kind = .function := by rfl) :
    wpAny (model pw w) A (call (.ref a) vals) Q E s := by
  refine wpAny_call (codeAny_call_cells (A := A) hA.room ho hd (nolimit T) hcd hbody hbind hclo (hkind _) (fun s₁ x => ?_) hco hgen hk)
  obtain ⟨h₁, tk, e⟩ := x.toInCall.same
  subst e
  have kp : Keep s { s with heap := h₁, toks := tk } := .heapTok x.toInCall.keep
  have nL : ∀ a, s.heap.objs.size ≤ a → s.heap.get? a = none ∧ tabAddrs.contains a = false := fun a l => ⟨none_of_size l, off_of_none T (none_of_size l)⟩
  refine wpAny_mono (h s.heap.objs.size _ hA.deeper (T.keep kp) ⟨kp, x.toInCall.ns, x.cell, x.apart, fun y hy => ?_, fun y hy => Nat.ne_of_gt (x.above _ _ hy), hnd _⟩ rfl)
    (fun f s' hq => by cases f <;> exact hq) (fun _ _ z => z.elim)
  rcases List.mem_cons.mp hy with e | hy
  · exact nL _ (Nat.le_of_eq e.symm)
  · obtain ⟨z, hz, rfl⟩ := List.mem_map.mp hy
    exact nL _ (Nat.le_of_lt (x.above _ _ hz))

theorem enter_clos {k : Nat} {a : Addr} {o : Obj} {fd : FuncData} {body : List Stmt} {args : Args} {binds : List (Str × Value)} (hA : AOk (k + 1) A) (T : TopS w s) (ho : s.heap.get? a = some o) (hd : o.data = .func fd)
    (hbody : fd.body = .stmts body) (hcd : s.heap.CodeRec fd.code fd.qualname) (hbind : BindsTo s fd args binds)
    (hcell : ∀ x ∈ fd.scope.names, x.2 ≠ .cell) (hloc : ∀ x ∈ binds, fd.scope.names.lookup x.1 = some .local)
    (h : ∀ L s₁, AOk k (A.deeper (callEnv fd L a)) → TopS w s₁ → Fm s (callEnv fd L a) [] (fun x => binds.reverse.lookup x) (fun _ => none) s₁ → s₁.gens = s.gens →
      wpAny (model pw w) (A.deeper (callEnv fd L a)) (execs body (callEnv fd L a)) (fun f s' => Q (retOf f) s') (fun _ _ => False) s₁)
    (hco : fd.scope.isCoroutine = false := by rfl) (hgen : fd.scope.isGenerator = false := by rfl) (hk : fd.scope.kind = .function := by rfl) :
    wpAny (model pw w) A (call (.ref a) args.pos args.kw) Q E s := by
  refine wpAny_call (codeAny_call_def (A := A) hA.room ho hd (nolimit T) hcd hbody hbind hcell hloc (fun h₁ hns hk₁ => ?_) hco hgen hk)
  have kp : Keep s { s with heap := h₁, toks := s.toks + binds.length } := .heapTok hk₁
  refine wpAny_mono (h s.heap.objs.size _ hA.deeper (T.keep kp) ⟨kp, hns, fun _ _ e => (nomatch e), List.Pairwise.nil, fun y hy => ?_, fun _ hy => (nomatch hy), List.nodup_nil⟩ rfl)
    (fun f s' hq => by cases f <;> exact hq) (fun _ _ z => z.elim)
  rcases List.mem_cons.mp hy with e | hy
  · subst e; exact ⟨none_of_size (Nat.le_refl _), off_of_none T (none_of_size (Nat.le_refl _))⟩
  · cases hy
end
end Mine
end
section
open PySem PySem.W PySem.W.X PyProof.Rows PySem.Calls PySem.Spec
/-! Leaf1 -/
namespace Mine

theorem mem_keep {S : Shared} {h : Heap} {d : Drawn} {t : Nat} {news : List (Addr × Obj)} (D : Mem S.heap h [] news) : Keep S ⟨h, S.gens, d, t, S.os⟩ :=
  .of_all (fun b o e => D.keep b o e (by simp [away])) rfl rfl
def New (S : Shared) (s' : Shared) (a : Addr) (o : Obj) : Prop := S.heap.get? a = none ∧ s'.heap.get? a = some o
theorem mem_new {S : Shared} {h : Heap} {g : Array GenState} {d : Drawn} {t : Nat} {os : OsState} {news : List (Addr × Obj)} {a : Addr} {o : Obj} (D : Mem S.heap h [] news) (hm : (a, o) ∈ news) : New S ⟨h, g, d, t, os⟩ a o := ⟨(D.nw _ hm).2, (D.nw _ hm).1⟩

def sBitSet : Str := ⟨⟨[66, 105, 116, 83, 101, 116]⟩⟩
example : sBitSet = Str.ofString "BitSet" := by decide +kernel
/-- a thing of MemberBits: its number, its BitSet -/
abbrev mbObj (d : Addr) (v : Int) (t : Tok) : Obj := { cls := .ref 92, dict := some d, data := .prim (.int v t), slots := #[] }
abbrev mbDict (hb : Int) (kt : Tok) (B : Addr) (n : Nat) : Obj := { cls := .type "dict", dict := none, data := .dict ⟨[⟨hb, .str sBitSet kt, .ref B⟩]⟩ n, slots := #[] }

set_option hygiene false in
local macro_rules | `(tactic| x_close) => `(tactic| (exact hQ _ _ _ _ _ _ _ (mem_keep (by assumption)) (mem_new (by assumption) (.head _)) (mem_new (by assumption) (.tail _ (.head _)))))
set_option maxRecDepth 100000 in
set_option maxHeartbeats 0 in
theorem fromint_x {w : World} {S : Shared} (KX : Frag.In (KF w.params) S.heap) {B : Addr} {oB : Obj} (hB : S.heap.get? B = some oB) {i : Int} {t : Tok} {Q E : Value → Shared → Prop}
   (hQ : ∀ (p d : Addr) (hb : Int) (t' kt n : Nat) (s' : Shared), Keep S s' → New S s' p (mbObj d i t') → New S s' d (mbDict hb kt B n) → Q (.ref p) s') :
   wpAny (model pw w) Amax (call (.ref 116) [.ref B, .int i t] []) Q E S := by
  x_run
end Mine
end
section
open PySem PySem.W PySem.W.X PyProof.Rows PySem.Calls PySem.Spec
/-! Mb -/
namespace Mine
set_option maxRecDepth 100000

section
variable {w : World} {A : Around} {s : Shared} {E : Value → Shared → Prop}

theorem type_mb {M : Model} {s : Shared} {p d : Addr} {v : Int} {t : Tok} (h : s.heap.get? p = some (mbObj d v t)) : Looks M s.heap (typeOf (.ref p)) (.ref 92) := (Looks.ld h).andThen .now

theorem left_method {a b : Value} {name : Str} {ta : Value} {id : String} {Q : Option Value → Shared → Prop} (ht : Looks (model pw w) s.heap (typeOf a) ta) (hl : Looks (model pw w) s.heap (typeLookup ta name) (some (.builtin id)))
    (hb : bindSpecial (.builtin id) a = pure (.builtin id, [a])) (hc : wpAny (model pw w) A (call (.builtin id) [a, b]) (fun v s' => v ≠ .notImplemented ∧ Q (some v) s') E s) :
    wpAny (model pw w) A (tryMethod a name b) Q E s := by
  unfold tryMethod callSpecial? specialOf
  refine wpAny_bind (wpAny_bind (wpAny_bind (ht.here (hl.here ?_))))
  refine wpAny_holding ?_
  rw [hb]
  refine wpAny_bind (wpAny_pure (wpAny_bind (wpAny_mono hc (fun v s' h => ?_) fun _ _ z => z)))
  refine wpAny_pure ?_
  obtain ⟨h1, h2⟩ := h
  cases v <;> first | exact wpAny_pure h2 | exact absurd rfl h1

/-- a number operator on two values of one own class -/
theorem binop1_same {a b ta : Value} {nm id : String} {Q : Option Value → Shared → Prop} (hta : Looks (model pw w) s.heap (typeOf a) ta) (htb : Looks (model pw w) s.heap (typeOf b) ta)
    (hfa : Looks (model pw w) s.heap (fillsNumberSlot ta nm) true)
    (hl : Looks (model pw w) s.heap (typeLookup ta (dunder nm)) (some (.builtin id))) (hb : bindSpecial (.builtin id) a = pure (.builtin id, [a]))
    (hc : wpAny (model pw w) A (call (.builtin id) [a, b]) (fun v s' => v ≠ .notImplemented ∧ Q (some v) s') E s) : wpAny (model pw w) A (binaryOp1 nm a b) Q E s := by
  simp only [binaryOp1]
  refine wpAny_bind (hta.here (wpAny_bind (htb.here (wpAny_bind (hfa.here ?_)))))
  simp only [beq_self_eq_true, if_true, pure_bind, Bool.and_false, Bool.false_and, Bool.false_eq_true, if_false]
  refine wpAny_bind (left_method hta hl hb (wpAny_mono hc (fun v s' h' => ⟨h'.1, wpAny_pure h'.2⟩) fun _ _ h' => h'))

/-- the right one's class is no child of the left one's -/
theorem binop1_apart {a b ta tb : Value} {nm id : String} {Q : Option Value → Shared → Prop} (hne : (ta == tb) = false) (hta : Looks (model pw w) s.heap (typeOf a) ta) (htb : Looks (model pw w) s.heap (typeOf b) tb)
    (hfa : Looks (model pw w) s.heap (fillsNumberSlot ta nm) true) (hfb : Looks (model pw w) s.heap (fillsNumberSlot tb nm) true) (hsub : Looks (model pw w) s.heap (isSubtype tb ta) false)
    (hpy : Looks (model pw w) s.heap (numberSlotInPython ta nm) false)
    (hl : Looks (model pw w) s.heap (typeLookup ta (dunder nm)) (some (.builtin id))) (hb : bindSpecial (.builtin id) a = pure (.builtin id, [a]))
    (hc : wpAny (model pw w) A (call (.builtin id) [a, b]) (fun v s' => v ≠ .notImplemented ∧ Q (some v) s') E s) : wpAny (model pw w) A (binaryOp1 nm a b) Q E s := by
  simp only [binaryOp1]
  refine wpAny_bind (hta.here (wpAny_bind (htb.here (wpAny_bind (hfa.here ?_)))))
  simp only [hne, Bool.false_eq_true, if_false]
  refine wpAny_bind (hfb.here ?_)
  simp only [Bool.and_self, if_true]
  refine wpAny_bind (hsub.here ?_)
  simp only [Bool.false_eq_true, if_false, Bool.not_false, Bool.and_self, if_true]
  refine wpAny_bind (hpy.here ?_)
  simp only [Bool.false_eq_true, if_false]
  refine wpAny_bind (left_method hta hl hb (wpAny_mono hc (fun v s' h' => ⟨h'.1, wpAny_pure h'.2⟩) fun _ _ h' => h'))

/-- the right one's class is a child of the left one's, but with the same reflected method -/
theorem binop1_child {a b ta tb : Value} {nm id : String} {Q : Option Value → Shared → Prop} (hne : (ta == tb) = false) (hta : Looks (model pw w) s.heap (typeOf a) ta) (htb : Looks (model pw w) s.heap (typeOf b) tb)
    (hfa : Looks (model pw w) s.heap (fillsNumberSlot ta nm) true) (hfb : Looks (model pw w) s.heap (fillsNumberSlot tb nm) true) (hsub : Looks (model pw w) s.heap (isSubtype tb ta) true)
    (hdiff : Looks (model pw w) s.heap (reflectedDiffers ta tb nm) false) (hpy : Looks (model pw w) s.heap (numberSlotInPython ta nm) false)
    (hl : Looks (model pw w) s.heap (typeLookup ta (dunder nm)) (some (.builtin id))) (hb : bindSpecial (.builtin id) a = pure (.builtin id, [a]))
    (hc : wpAny (model pw w) A (call (.builtin id) [a, b]) (fun v s' => v ≠ .notImplemented ∧ Q (some v) s') E s) : wpAny (model pw w) A (binaryOp1 nm a b) Q E s := by
  simp only [binaryOp1]
  refine wpAny_bind (hta.here (wpAny_bind (htb.here (wpAny_bind (hfa.here ?_)))))
  simp only [hne, Bool.false_eq_true, if_false]
  refine wpAny_bind (hfb.here ?_)
  simp only [Bool.and_self, if_true]
  refine wpAny_bind (hsub.here ?_)
  simp only [if_true]
  refine wpAny_bind (hdiff.here ?_)
  simp only [Bool.false_eq_true, if_false, Bool.not_false, Bool.and_self, if_true]
  refine wpAny_bind (hpy.here ?_)
  simp only [Bool.false_eq_true, if_false]
  refine wpAny_bind (left_method hta hl hb (wpAny_mono hc (fun v s' h' => ⟨h'.1, wpAny_pure h'.2⟩) fun _ _ h' => h'))
theorem binop_of {op : Operator} {a b : Value} {Q : Value → Shared → Prop} (h : wpAny (model pw w) A (binaryOp1 op.info.2 a b) (fun r s' => ∃ v, r = some v ∧ Q v s') E s) : wpAny (model pw w) A (binaryOp op a b) Q E s := by
  rcases hi : op.info with ⟨sym, nm⟩
  rw [hi] at h
  simp only [binaryOp, hi]
  refine wpAny_holding (wpAny_bind (wpAny_mono h (fun r s' hr => ?_) fun _ _ z => z))
  obtain ⟨v, rfl, hq⟩ := hr
  exact wpAny_pure hq
theorem inplace_of {op : Operator} {a b ta : Value} {Q : Value → Shared → Prop} (hta : Looks (model pw w) s.heap (typeOf a) ta) (hno : Looks (model pw w) s.heap (fillsInplaceSlot ta op.info.2 (op == .Add)) false)
    (h : wpAny (model pw w) A (binaryOp1 op.info.2 a b) (fun r s' => ∃ v, r = some v ∧ Q v s') E s) : wpAny (model pw w) A (inplaceOp op a b) Q E s := by
  unfold inplaceOp
  refine wpAny_holding (wpAny_bind (hta.here (wpAny_bind (hno.here ?_))))
  show wpAny _ A (if false = true then _ else _) Q E s
  rw [if_neg Bool.false_ne_true]
  refine wpAny_bind (wpAny_mono h (fun r s' hr => ?_) fun _ _ z => z)
  obtain ⟨v, rfl, hq⟩ := hr
  exact wpAny_pure hq
end

section
variable {w : World} {s : Shared}
theorem pk {α : Type} (T : TopS w s) {t : Sem α} {r : α} (e : peek (KF w.params) ⟨pw, w.params⟩ t = some r) : Looks (model pw w) s.heap t r := Looks.of_peek T.kin e
theorem fills_mb (T : TopS w s) : Looks (model pw w) s.heap (fillsNumberSlot (.ref 92) "and") true := pk T (by kernel_rfl)
theorem fills_mb_shift (T : TopS w s) : Looks (model pw w) s.heap (fillsNumberSlot (.ref 92) "rshift") true := pk T (by kernel_rfl)
theorem look_and (T : TopS w s) : Looks (model pw w) s.heap (typeLookup (.ref 92) (dunder "and")) (some (.builtin "int.__and__")) := pk T (by kernel_rfl)
theorem sub_mb (T : TopS w s) : Looks (model pw w) s.heap (isSubtype (.ref 92) (.type "int")) true := pk T (by kernel_rfl)
theorem sub_mb' (T : TopS w s) : Looks (model pw w) s.heap (isSubtype (.type "int") (.ref 92)) false := pk T (by kernel_rfl)
theorem diff_and (T : TopS w s) : Looks (model pw w) s.heap (reflectedDiffers (.type "int") (.ref 92) "and") false := pk T (by kernel_rfl)
theorem py_int (T : TopS w s) : Looks (model pw w) s.heap (numberSlotInPython (.type "int") "and") false := pk T (by kernel_rfl)
theorem py_mb (T : TopS w s) : Looks (model pw w) s.heap (numberSlotInPython (.ref 92) "and") false := pk T (by kernel_rfl)
theorem in_mb (T : TopS w s) : Looks (model pw w) s.heap (fillsInplaceSlot (.ref 92) "and" false) false := pk T (by kernel_rfl)
end
end Mine
end
section
open PySem PySem.W PySem.W.X PyProof.Rows PySem.Calls PySem.Spec
/-! MbOps -/
namespace Mine
set_option maxRecDepth 100000

theorem land_cast (a b : Nat) : Builtin.bitAnd (a : Int) (b : Int) = ((a &&& b : Nat) : Int) := by
  rw [bitAnd_pp (by omega) (by omega)]; rfl
theorem shr_cast (a i : Nat) : (a : Int).fdiv (2 ^ ((i : Nat) : Int).toNat) = ((a >>> i : Nat) : Int) := by
  rw [Int.toNat_natCast, Nat.shiftRight_eq_div_pow]
  have : ((2 : Int) ^ i) = ((2 ^ i : Nat) : Int) := by norm_cast
  rw [this, Int.fdiv_eq_ediv_of_nonneg _ (Int.natCast_nonneg _)]
  norm_cast
theorem shr_zero (a i : Nat) (h : ((X.bitsQ (a : Int) : Nat) : Int) ≤ (i : Int)) : a >>> i = 0 := by
  rw [← X.bitsQ_eq] at h
  rw [Nat.shiftRight_eq_div_pow]
  refine Nat.div_eq_of_lt ?_
  unfold Builtin.Int.intBits at h
  by_cases z : a = 0
  · subst z; exact Nat.two_pow_pos i
  · have hz : ((a : Int) == 0) = false := by simpa using z
    rw [hz] at h
    simp only [Bool.false_eq_true, if_false, Int.natAbs_natCast] at h
    have : a.log2 < i := by omega
    exact (Nat.log2_lt z).mp this

section
variable {w : World} {S : Shared} {p d o d' : Addr} {b c : Nat} {t t' : Tok} {E Q : Value → Shared → Prop}
set_option hygiene false in
local macro_rules | `(tactic| x_close) => `(tactic| (refine show_eq ?_ (hQ _ _); rw [← PySem.W.XFast.xe4806658248164788318]; exact land_cast _ _))
theorem show_eq {Q : Value → Shared → Prop} {i j : Int} {tk : Tok} {s : Shared} (e : i = j) (h : Q (.int j tk) s) : Q (.int i tk) s := e ▸ h
set_option maxHeartbeats 0 in
theorem call_and_mb_int (KX : Frag.In (KF w.params) S.heap) (hp : S.heap.get? p = some (mbObj d b t)) (hQ : ∀ tk tk', Q (.int ((b &&& c : Nat) : Int) tk) { S with toks := tk' }) :
    wpAny (model pw w) Amax (call (.builtin "int.__and__") [.ref p, .int (c : Int) t'] []) Q E S := by
  unfold mbObj at hp
  x_run
set_option maxHeartbeats 0 in
theorem call_and_int_mb (KX : Frag.In (KF w.params) S.heap) (hp : S.heap.get? p = some (mbObj d b t)) (hQ : ∀ tk tk', Q (.int ((c &&& b : Nat) : Int) tk) { S with toks := tk' }) :
    wpAny (model pw w) Amax (call (.builtin "int.__and__") [.int (c : Int) t', .ref p] []) Q E S := by
  unfold mbObj at hp
  x_run
set_option maxHeartbeats 0 in
theorem call_and_mb_mb (KX : Frag.In (KF w.params) S.heap) (hp : S.heap.get? p = some (mbObj d b t)) (ho : S.heap.get? o = some (mbObj d' c t')) (hQ : ∀ tk tk', Q (.int ((b &&& c : Nat) : Int) tk) { S with toks := tk' }) :
    wpAny (model pw w) Amax (call (.builtin "int.__and__") [.ref p, .ref o] []) Q E S := by
  unfold mbObj at hp ho
  x_run
set_option hygiene false in
local macro_rules | `(tactic| x_close) => `(tactic| first | exact show_eq (shr_cast _ _) (hQ _ _) | (refine show_eq ?_ (hQ _ _); rw [shr_zero _ _ (by assumption)]; exact if_neg (by omega)))
set_option maxHeartbeats 0 in
theorem call_rsh_mb_int {i : Nat} (hi : i < 64) (KX : Frag.In (KF w.params) S.heap) (hp : S.heap.get? p = some (mbObj d b t)) (hQ : ∀ tk tk', Q (.int ((b >>> i : Nat) : Int) tk) { S with toks := tk' }) :
    wpAny (model pw w) Amax (call (.builtin "int.__rshift__") [.ref p, .int (i : Int) t'] []) Q E S := by
  unfold mbObj at hp
  x_run

theorem wk {k : Nat} {A : Around} {t : Sem Value} (hA : AOk k A) {s : Shared} (h : wpAny (model pw w) Amax t Q E s) : wpAny (model pw w) A t Q E s := wpAny_weaken (hA.le (Nat.zero_le _)) h
end

section
variable {w : World} {A : Around} {k : Nat} {s : Shared} {p d o d' : Addr} {b c : Nat} {t t' : Tok} {E Q : Value → Shared → Prop}
theorem ty_int {i : Int} : Looks (model pw w) s.heap (typeOf (.int i t)) (.type "int") := Looks.of_pure rfl
theorem and_mb_int (hA : AOk k A) (T : TopS w s) (hp : s.heap.get? p = some (mbObj d b t)) (hQ : ∀ tk tk', Q (.int ((b &&& c : Nat) : Int) tk) { s with toks := tk' }) :
    wpAny (model pw w) A (binaryOp .BitAnd (.ref p) (.int (c : Int) t')) Q E s :=
  binop_of (binop1_apart rfl (type_mb hp) ty_int (fills_mb T) (pk T (by kernel_rfl)) (sub_mb' T) (py_mb T) (look_and T) (by kernel_rfl)
    (wk hA (call_and_mb_int T.kin hp fun tk tk' => ⟨by simp, _, rfl, hQ tk tk'⟩)))
theorem rsh_mb_int {i : Nat} (hA : AOk k A) (T : TopS w s) (hi : i < 64) (hp : s.heap.get? p = some (mbObj d b t)) (hQ : ∀ tk tk', Q (.int ((b >>> i : Nat) : Int) tk) { s with toks := tk' }) :
    wpAny (model pw w) A (binaryOp .RShift (.ref p) (.int (i : Int) t')) Q E s :=
  binop_of (binop1_apart (id := "int.__rshift__") rfl (type_mb hp) ty_int (fills_mb_shift T) (pk T (by kernel_rfl)) (sub_mb' T) (pk T (by kernel_rfl)) (pk T (by kernel_rfl)) (by kernel_rfl)
    (wk hA (call_rsh_mb_int hi T.kin hp fun tk tk' => ⟨by simp, _, rfl, hQ tk tk'⟩)))
theorem irsh_mb_int {i : Nat} (hA : AOk k A) (T : TopS w s) (hi : i < 64) (hp : s.heap.get? p = some (mbObj d b t)) (hQ : ∀ tk tk', Q (.int ((b >>> i : Nat) : Int) tk) { s with toks := tk' }) :
    wpAny (model pw w) A (inplaceOp .RShift (.ref p) (.int (i : Int) t')) Q E s :=
  inplace_of (type_mb hp) (pk T (by kernel_rfl)) (binop1_apart (id := "int.__rshift__") rfl (type_mb hp) ty_int (fills_mb_shift T) (pk T (by kernel_rfl)) (sub_mb' T) (pk T (by kernel_rfl)) (pk T (by kernel_rfl)) (by kernel_rfl)
    (wk hA (call_rsh_mb_int hi T.kin hp fun tk tk' => ⟨by simp, _, rfl, hQ tk tk'⟩)))
theorem iand_mb_mb (hA : AOk k A) (T : TopS w s) (hp : s.heap.get? p = some (mbObj d b t)) (ho : s.heap.get? o = some (mbObj d' c t')) (hQ : ∀ tk tk', Q (.int ((b &&& c : Nat) : Int) tk) { s with toks := tk' }) :
    wpAny (model pw w) A (inplaceOp .BitAnd (.ref p) (.ref o)) Q E s :=
  inplace_of (type_mb hp) (in_mb T) (binop1_same (type_mb hp) (type_mb ho) (fills_mb T) (look_and T) (by kernel_rfl) (wk hA (call_and_mb_mb T.kin hp ho fun tk tk' => ⟨by simp, _, rfl, hQ tk tk'⟩)))
theorem iand_int_mb (hA : AOk k A) (T : TopS w s) (ho : s.heap.get? o = some (mbObj d' b t)) (hQ : ∀ tk tk', Q (.int ((c &&& b : Nat) : Int) tk) { s with toks := tk' }) :
    wpAny (model pw w) A (inplaceOp .BitAnd (.int (c : Int) t') (.ref o)) Q E s :=
  inplace_of (op := .BitAnd) (ta := .type "int") ty_int (pk T (by kernel_rfl)) (binop1_child (ta := .type "int") (tb := .ref 92) (id := "int.__and__") rfl ty_int (type_mb ho) (pk T (by kernel_rfl)) (fills_mb T) (sub_mb T) (diff_and T) (py_int T) (pk T (by kernel_rfl)) (by kernel_rfl) (wk hA (call_and_int_mb T.kin ho fun tk tk' => ⟨by simp, _, rfl, hQ tk tk'⟩)))
end
end Mine
end
section
open PySem PySem.W PySem.W.X PyProof.Rows PySem.Calls PySem.Spec
/-! Attr -/
namespace Mine
set_option maxRecDepth 100000

section
variable {w : World} {S : Shared} {p d B : Addr} {v : Int} {t kt : Tok} {hb : Int} {n : Nat} {E Q : Value → Shared → Prop}
set_option hygiene false in
local macro_rules | `(tactic| x_close) => `(tactic| exact hQ _)
set_option maxHeartbeats 0 in
theorem call_get_mb {tk : Tok} (KX : Frag.In (KF w.params) S.heap) (hp : S.heap.get? p = some (mbObj d v t)) (hd : S.heap.get? d = some (mbDict hb kt B n)) (hQ : ∀ tk', Q (.ref B) { S with toks := tk' }) :
    wpAny (model pw w) Amax (call (.builtin "int.__getattribute__") [.ref p, .str (Str.ofString "BitSet") tk] []) Q E S := by
  unfold mbObj at hp
  unfold mbDict sBitSet at hd
  x_run
end
section
variable {w : World} {A : Around} {k : Nat} {s : Shared} {p d B : Addr} {v : Int} {t kt : Tok} {hb : Int} {n : Nat} {E Q : Value → Shared → Prop}
theorem get_mb {expr : Bool} (hA : AOk k A) (T : TopS w s) (hp : s.heap.get? p = some (mbObj d v t)) (hd : s.heap.get? d = some (mbDict hb kt B n)) (hQ : ∀ tk', Q (.ref B) { s with toks := tk' }) :
    wpAny (model pw w) A (getAttr (.ref p) (Str.ofString "BitSet") expr) Q E s := by
  unfold getAttr getAttrBy
  have T' : TopS w { s with toks := s.toks + 1 } := T.keep (.heapTok fun _ _ e => e)
  have L0 := type_mb (M := model pw w) (s := { s with toks := s.toks + 1 }) hp
  have L1 : Looks (model pw w) { s with toks := s.toks + 1 }.heap (typeLookup (.ref 92) "__getattribute__") (some (.builtin "int.__getattribute__")) := pk T' (by kernel_rfl)
  have L2 : Looks (model pw w) { s with toks := s.toks + 1 }.heap (typeLookup (.ref 92) "__getattr__") none := pk T' (by kernel_rfl)
  refine wpAny_bind (wpAny_mkText (wpAny_holding (wpAny_bind (L0.here (wpAny_bind (L1.here ?_))))))
  show wpAny _ _ (getAttrByItsOwn _ _ _ _ _ _) _ _ _
  unfold getAttrByItsOwn
  refine wpAny_bind (m := hookBefore (.ref 92)) (L2.here ?_)
  refine wpAny_bind (wpAny_attempt (wpAny_holding ?_))
  show wpAny _ _ (if (expr && false) = true then _ else boundAndCalled _ _ _) _ _ _
  rw [Bool.and_false, if_neg Bool.false_ne_true]
  unfold boundAndCalled
  rw [show bindSpecial (.builtin "int.__getattribute__") (.ref p) = pure (.builtin "int.__getattribute__", [.ref p]) by kernel_rfl]
  refine wpAny_bind (wpAny_pure ?_)
  exact wk hA (call_get_mb T'.kin hp hd fun tk' => wpAny_pure (hQ tk'))

theorem method_mb {pl : Sem Bool} {Q : Value × List Value → Shared → Prop} {name : Str} {f : Addr} (T : TopS w s) (hp : s.heap.get? p = some (mbObj d v t)) (hd : s.heap.get? d = some (mbDict hb kt B n))
    (hf : peek (KF w.params) ⟨pw, w.params⟩ (typeLookup (.ref 92) name) = some (some (.ref f))) (ht : peek (KF w.params) ⟨pw, w.params⟩ (typeOf (.ref f)) = some (.type "function")) (hn : (sBitSet == name) = false) (hQ : Q (.ref f, [.ref p]) s) :
    wpAny (model pw w) A (getMethod (.ref p) name pl) Q E s := by
  have L0 := type_mb (M := model pw w) (s := s) hp
  have L1 : Looks (model pw w) s.heap (typeLookup (.ref 92) "__getattribute__") (some (.builtin "int.__getattribute__")) := pk T (by kernel_rfl)
  have L2 : Looks (model pw w) s.heap (typeLookup (.ref 92) "__getattr__") none := pk T (by kernel_rfl)
  unfold getMethod specialOf
  refine wpAny_bind (wpAny_bind (L0.here (L1.here ?_)))
  dsimp only
  rw [show (Manifest.canonical "int.__getattribute__" != "object.__getattribute__") = false by decide +kernel, if_neg Bool.false_ne_true]
  refine wpAny_bind (wpAny_bind (L0.here (L2.here ?_)))
  rw [if_neg (by decide)]
  refine wpAny_bind (wpAny_bind (L0.here ((pk T hf).here (wpAny_bind ((pk T ht).here ?_)))))
  rw [if_neg (by decide)]
  refine wpAny_bind (wpAny_loadPart hp ?_)
  refine wpAny_bind (m := nsGet d name) (wpAny_nsGet (m := fun y => nsFind ⟨[⟨hb, .str sBitSet kt, .ref B⟩]⟩ y) ⟨_, _, _, hd, rfl, fun e he => ?_, fun _ => rfl⟩ ?_)
  · simp at he; subst he; exact ⟨_, _, rfl⟩
  · have : nsFind ⟨[⟨hb, .str sBitSet kt, .ref B⟩]⟩ name = none := by simp [nsFind, findBy, Value.isStr, hn]
    rw [this]
    exact wpAny_bind (wpAny_rule (wpAny_pure hQ))
end
end Mine
end
section
open PySem PySem.W PySem.W.X PyProof.Rows PySem.Calls PySem.Spec
/-! Ast -/
namespace Mine
set_option maxRecDepth 100000

def Kp (w : World) (f : Value) (s : Shared) : Prop := ∃ k, (k = Keeper.frame ∨ k = Keeper.machine ∨ k = Keeper.boundFrame) ∧ Looks (model pw w) s.heap (keeperOf f) k
theorem kp_builtin {w : World} {s : Shared} {i : String} : Kp w (.builtin i) s := ⟨.machine, .inr (.inl rfl), Looks.of_pure rfl⟩
theorem kp_type {w : World} {s : Shared} {i : String} : Kp w (.type i) s := ⟨.machine, .inr (.inl rfl), Looks.of_pure rfl⟩
theorem kp_obj {w : World} {s : Shared} {a : Addr} {o : Obj} {fd : FuncData} (h : s.heap.get? a = some o) (hd : o.data = .func fd) : Kp w (.ref a) s :=
  ⟨.frame, .inl rfl, (Looks.ld (part := none) h).andThen (by rw [hd]; exact .now)⟩
theorem kp_top {w : World} {s : Shared} (T : TopS w s) {f : Value} {k : Keeper} (e : peek (KF w.params) ⟨pw, w.params⟩ (keeperOf f) = some k) (hk : k = .frame ∨ k = .machine) : Kp w f s := ⟨k, hk.imp id .inl, pk T e⟩

section
variable {w : World} {A : Around} {s : Shared} {env : Env} {E : Value → Shared → Prop} {Q : Value → Shared → Prop}
theorem callW1 {pos : Pos} {f : Value} {first : List Value} {e : Expr} {rest : List Expr}
    (h : wpAny (model pw w) A (spliced (backTo pos (starEach (e :: rest) env))) (fun vs s₁ => Kp w f s₁ ∧ wpAny (model pw w) A (call f (first ++ vs)) Q E s₁) E s)
    (hplain : (backTo pos (starEach (e :: rest) env)).any (·.1) = false := by rfl) (he : starEach (e :: rest) env = (false, eval e env) :: starEach rest env := by rfl) :
    wpAny (model pw w) A (callWith pos f first (backTo pos (starEach (e :: rest) env)) (backToKw pos (keywordEach [] env))) Q E s := by
  refine callWith_of (P := fun h => ∃ k, (k = Keeper.frame ∨ k = Keeper.machine ∨ k = Keeper.boundFrame) ∧ Looks (model pw w) h (keeperOf f) k) (by rw [hplain]; rfl) (fun h x => x) ?_
  rw [he] at h ⊢
  exact evalArgs_plain h
theorem callW0 {pos : Pos} {f : Value} {first : List Value} (hk : Kp w f s) (h : wpAny (model pw w) A (call f first) Q E s) :
    wpAny (model pw w) A (callWith pos f first (backTo pos (starEach [] env)) (backToKw pos (keywordEach [] env))) Q E s :=
  callWith_of (P := fun h => ∃ k, (k = Keeper.frame ∨ k = Keeper.machine ∨ k = Keeper.boundFrame) ∧ Looks (model pw w) h (keeperOf f) k) rfl (fun h x => x) (evalArgs_nil3 ⟨hk, by simpa using h⟩)

/-- f(a, ..) -/
theorem call_1 {func e : Expr} {rest : List Expr} {pos : Pos}
    (h : wpAny (model pw w) A (eval func env) (fun f s₀ => wpAny (model pw w) A (spliced (backTo pos (starEach (e :: rest) env))) (fun vs s₁ => Kp w f s₁ ∧ wpAny (model pw w) A (call f vs) Q E s₁) E s₀) E s)
    (hform : eval (.Call func (e :: rest) [] pos) env = (do callWith pos (← eval func env) [] (backTo pos (starEach (e :: rest) env)) (backToKw pos (keywordEach [] env))) := by rfl)
    (hplain : (backTo pos (starEach (e :: rest) env)).any (·.1) = false := by rfl) (he : starEach (e :: rest) env = (false, eval e env) :: starEach rest env := by rfl) :
    wpAny (model pw w) A (eval (.Call func (e :: rest) [] pos) env) Q E s := by
  rw [hform]
  exact wpAny_bind (wpAny_mono h (fun f s₀ h₀ => callW1 (by simpa using h₀) hplain he) fun _ _ z => z)
/-- o.m(a, ..) -/
theorem meth_1 {o e : Expr} {name : Str} {rest : List Expr} {apos pos : Pos} {pl : Sem Bool}
    (h : wpAny (model pw w) A (eval o env) (fun ov s₁ => wpAny (model pw w) A (getMethod ov name pl) (fun fx s₂ =>
      wpAny (model pw w) A (spliced (backTo pos (starEach (e :: rest) env))) (fun vs s₃ => Kp w fx.1 s₃ ∧ wpAny (model pw w) A (call fx.1 (fx.2 ++ vs)) Q E s₃) E s₂) E s₁) E s)
    (he : eval (.Call (.Attribute o name apos) (e :: rest) [] pos) env = (do
      let ov ← eval o env
      standAt apos.atName
      let (f, first) ← holding [ov] (getMethod ov name pl)
      callWith pos f first (backTo pos (starEach (e :: rest) env)) (backToKw pos (keywordEach [] env))) := by rfl)
    (hplain : (backTo pos (starEach (e :: rest) env)).any (·.1) = false := by rfl) (he' : starEach (e :: rest) env = (false, eval e env) :: starEach rest env := by rfl) :
    wpAny (model pw w) A (eval (.Call (.Attribute o name apos) (e :: rest) [] pos) env) Q E s :=
  methodCall_KW (pl := pl) (wpAny_mono h (fun ov s₁ h₁ => wpAny_mono h₁ (fun fx s₂ h₂ => callW1 h₂ hplain he') fun _ _ z => z) fun _ _ z => z) he
/-- o.m() -/
theorem meth_0 {o : Expr} {name : Str} {apos pos : Pos} {pl : Sem Bool}
    (h : wpAny (model pw w) A (eval o env) (fun ov s₁ => wpAny (model pw w) A (getMethod ov name pl) (fun fx s₂ => Kp w fx.1 s₂ ∧ wpAny (model pw w) A (call fx.1 fx.2) Q E s₂) E s₁) E s)
    (he : eval (.Call (.Attribute o name apos) [] [] pos) env = (do
      let ov ← eval o env
      standAt apos.atName
      let (f, first) ← holding [ov] (getMethod ov name pl)
      callWith pos f first (backTo pos (starEach [] env)) (backToKw pos (keywordEach [] env))) := by rfl) :
    wpAny (model pw w) A (eval (.Call (.Attribute o name apos) [] [] pos) env) Q E s :=
  methodCall_KW (pl := pl) (wpAny_mono h (fun ov s₁ h₁ => wpAny_mono h₁ (fun fx s₂ h₂ => callW0 h₂.1 h₂.2) fun _ _ z => z) fun _ _ z => z) he

theorem args_0 {pos : Pos} {Q : List Value → Shared → Prop} (h : Q [] s) : wpAny (model pw w) A (spliced (backTo pos (starEach [] env))) Q E s := spliced_none h
theorem args_c {pos : Pos} {e : Expr} {rest : List Expr} {Q : List Value → Shared → Prop} (h : wpAny (model pw w) A (eval e env) (fun v s₁ => wpAny (model pw w) A (spliced (backTo pos (starEach rest env))) (fun vs s₂ => Q (v :: vs) s₂) E s₁) E s)
    (he : starEach (e :: rest) env = (false, eval e env) :: starEach rest env := by rfl) : wpAny (model pw w) A (spliced (backTo pos (starEach (e :: rest) env))) Q E s := spliced_more h he

/-- names -/
theorem nm_local {x : Str} {pos : Pos} {v : Value} {m : Str → Option Value} (hn : s.heap.Ns env.locals m) (h : Q v s) (hv : m x = some v := by rfl) (hk : env.scope.kind = .function := by rfl) (hl : env.kindOf x = some .local := by rfl)
    (hd : (x == ("__debug__" : Str)) = false := by decide +kernel) : wpAny (model pw w) A (eval (.Name x pos) env) Q E s := wpAny_Name (wpAny_loadName_local hk hl hn hv h) hd
theorem nm_cell {x : Str} {pos : Pos} {c : Addr} {v : Value} (hc : env.cells.lookup x = some c) (hv : s.heap.IsCell c (some v)) (h : Q v s) (hk : env.scope.kind = .function := by rfl) (hl : env.kindOf x = some .cell := by rfl)
    (hd : (x == ("__debug__" : Str)) = false := by decide +kernel) : wpAny (model pw w) A (eval (.Name x pos) env) Q E s := wpAny_Name (wpAny_loadName_cell hk hl hc hv h) hd
theorem nm_free {x : Str} {pos : Pos} {c : Addr} {v : Value} (hc : env.cells.lookup x = some c) (hv : s.heap.IsCell c (some v)) (h : Q v s) (hk : env.scope.kind = .function := by rfl) (hl : env.kindOf x = some .free := by rfl)
    (hd : (x == ("__debug__" : Str)) = false := by decide +kernel) (hq : (x == ("__classdict__" : Str)) = false := by decide +kernel) : wpAny (model pw w) A (eval (.Name x pos) env) Q E s := wpAny_Name (wpAny_loadName_free hk hl hc hv h hq) hd
/-- a name of the top, or of the built-ins -/
theorem nm_top {x : Str} {pos : Pos} {v : Value} (T : TopS w s) (h : Q v s) (hv : peek (KF w.params) ⟨pw, w.params⟩ (loadName env x) = some v := by kernel_rfl)
    (hd : (x == ("__debug__" : Str)) = false := by decide +kernel) : wpAny (model pw w) A (eval (.Name x pos) env) Q E s := wpAny_Name ((pk T hv).here h) hd
end
end Mine
end
section
open PySem PySem.W PySem.W.X PyProof.Rows PySem.Calls PySem.Spec
/-! Res -/
namespace Mine
set_option maxRecDepth 100000

abbrev Objs := List (Addr × Obj)
def Has (l : Objs) (h : Heap) : Prop := ∀ p ∈ l, h.get? p.1 = some p.2 ∧ solid p.1 p.2 = true
def NewL (s : Shared) (l : Objs) : Prop := ∀ p ∈ l, s.heap.get? p.1 = none
theorem Has.nil {h : Heap} : Has [] h := fun _ e => nomatch e
theorem Has.keep {l : Objs} {s s' : Shared} (H : Has l s.heap) (k : Keep s s') : Has l s'.heap := fun p hp => ⟨k.old _ _ (H p hp).2 (H p hp).1, (H p hp).2⟩
theorem Has.app {l l' : Objs} {h : Heap} (a : Has l h) (b : Has l' h) : Has (l ++ l') h := fun p hp => (List.mem_append.mp hp).elim (a p) (b p)
theorem Has.left {l l' : Objs} {h : Heap} (a : Has (l ++ l') h) : Has l h := fun p hp => a p (List.mem_append_left _ hp)
theorem Has.right {l l' : Objs} {h : Heap} (a : Has (l ++ l') h) : Has l' h := fun p hp => a p (List.mem_append_right _ hp)
theorem Has.cons {l : Objs} {h : Heap} {a : Addr} {o : Obj} (x : h.get? a = some o) (q : solid a o = true) (b : Has l h) : Has ((a, o) :: l) h := fun p hp => by
  rcases List.mem_cons.mp hp with rfl | hp
  · exact ⟨x, q⟩
  · exact b p hp
theorem Has.head {l : Objs} {h : Heap} {a : Addr} {o : Obj} (H : Has ((a, o) :: l) h) : h.get? a = some o := (H _ List.mem_cons_self).1
theorem Has.tail {l : Objs} {h : Heap} {p : Addr × Obj} (H : Has (p :: l) h) : Has l h := fun q hq => H q (List.mem_cons_of_mem _ hq)
theorem NewL.app {s : Shared} {l l' : Objs} (a : NewL s l) (b : NewL s l') : NewL s (l ++ l') := fun p hp => (List.mem_append.mp hp).elim (a p) (b p)
theorem solid_cls {a : Addr} {o : Obj} (h : hasCls o = true) : solid a o = true := by unfold solid; rw [h]; rfl
theorem none_back {s s' : Shared} (k : Keep s s') {a : Addr} (ho : tabAddrs.contains a = false) (h : s'.heap.get? a = none) : s.heap.get? a = none := by
  cases e : s.heap.get? a with
  | none => rfl
  | some o => rw [k.old a o (solid_off ho) e] at h; cases h
theorem none_back' {w : World} {s s' : Shared} (T : TopS w s) (k : Keep s s') {a : Addr} (h : s'.heap.get? a = none) : s.heap.get? a = none := none_back k (off_of_none (T.keep k) h) h
theorem NewL.back {w : World} {s s' : Shared} {l : Objs} (T : TopS w s) (k : Keep s s') (n : NewL s' l) : NewL s l := fun p hp => none_back' T k (n p hp)

/-- what a call hands back: a value that some new objects tell -/
def Gives (s : Shared) (G : Value → Objs → Prop) (v : Value) (s' : Shared) : Prop := ∃ l, G v l ∧ Has l s'.heap ∧ NewL s l ∧ Keep s s'
theorem Gives.keep {s s' : Shared} {G : Value → Objs → Prop} {v : Value} (g : Gives s G v s') : Keep s s' := let ⟨_, _, _, _, k⟩ := g; k
theorem Gives.back {w : World} {s s₁ s' : Shared} {G : Value → Objs → Prop} {v : Value} (T : TopS w s) (k : Keep s s₁) (g : Gives s₁ G v s') : Gives s G v s' :=
  let ⟨l, a, b, c, d⟩ := g; ⟨l, a, b, c.back T k, k.trans d⟩
theorem Gives.mono {s s' : Shared} {G G' : Value → Objs → Prop} {v : Value} (g : Gives s G v s') (h : ∀ l, G v l → G' v l) : Gives s G' v s' := let ⟨l, a, b⟩ := g; ⟨l, h l a, b⟩
theorem gives_plain {s s' : Shared} {G : Value → Objs → Prop} {v : Value} (h : G v []) (k : Keep s s') : Gives s G v s' := ⟨[], h, .nil, (fun _ e => nomatch e), k⟩
theorem toks_keep {s : Shared} {tk : Nat} : Keep s { s with toks := tk } := .of_all (fun _ _ e => e) rfl rfl

/-- the dict of a thing: its names in their order -/
abbrev Ent (e : DictEntry) (p : Str × Value) : Prop := (∃ t, e.key = .str p.1 t) ∧ e.val = p.2
def DcO (o : Obj) (l : List (Str × Value)) : Prop := ∃ es n, o = dictOf es n ∧ Paired Ent es l
def Dc (h : Heap) (dx : Addr) (l : List (Str × Value)) : Prop := ∃ o, DcO o l ∧ h.get? dx = some o
theorem Ent.find {name : Str} : ∀ {es : List DictEntry} {l : List (Str × Value)}, Paired Ent es l → (es.find? (·.key.isStr name)).map (·.val) = l.lookup name
  | _, _, .nil => rfl
  | e :: es, (k, v) :: l, .cons h t => by
    obtain ⟨⟨t', hk⟩, hv⟩ := h
    rw [List.find?_cons, List.lookup_cons]
    have : e.key.isStr name = (name == k) := by
      rw [hk]
      show (k == name) = (name == k)
      exact BEq.comm
    rw [this]
    cases name == k with
    | true => simp [hv]
    | false => exact Ent.find t
theorem Ent.noRef : ∀ {es : List DictEntry} {l : List (Str × Value)}, Paired Ent es l → es.any (·.refKey) = false
  | _, _, .nil => rfl
  | e :: es, (k, v) :: l, .cons h t => by
    obtain ⟨⟨t', hk⟩, hv⟩ := h
    rw [List.any_cons, Ent.noRef t, Bool.or_false]
    show DictEntry.refKey e = false
    unfold DictEntry.refKey
    rw [hk]
theorem DcO.look {o : Obj} {l : List (Str × Value)} (d : DcO o l) (name : Str) : lookIn name o = some (l.lookup name) := by
  obtain ⟨es, n, rfl, h⟩ := d
  rw [lookIn_dict]
  unfold getL
  rw [← Ent.find h]
  cases e : es.find? (·.key.isStr name) with
  | none => simp [Ent.noRef h]
  | some x => rfl
theorem DcO.shadow {o : Obj} {l : List (Str × Value)} (d : DcO o l) (name : Str) : shadowIn (some o) name = some (l.lookup name).isSome := by
  have := d.look name
  unfold shadowIn
  simp [this]
theorem DcO.solid {a : Addr} {o : Obj} {l : List (Str × Value)} (d : DcO o l) : solid a o = true := by
  obtain ⟨es, n, rfl, h⟩ := d
  exact solid_cls rfl
theorem Dc.keep {s s' : Shared} {dx : Addr} {l : List (Str × Value)} (d : Dc s.heap dx l) (k : Keep s s') : Dc s'.heap dx l := let ⟨o, a, b⟩ := d; ⟨o, a, k.old _ _ a.solid b⟩

/-- a thing of an own class -/
def InsO (C dx : Addr) (o : Obj) : Prop := o.cls = .ref C ∧ o.dict = some dx ∧ notCls o = true
def Ins (h : Heap) (x C dx : Addr) : Prop := ∃ o, InsO C dx o ∧ h.get? x = some o
theorem Ins.keep {s s' : Shared} {x C dx : Addr} (d : Ins s.heap x C dx) (k : Keep s s') : Ins s'.heap x C dx := let ⟨o, a, b⟩ := d; ⟨o, a, k.old _ _ (solid_cls (by unfold hasCls; rw [a.1])) b⟩
theorem instAt {h : Heap} {x C dx : Addr} {ox od : Obj} (a : InsO C dx ox) (hx : h.get? x = some ox) (hd : h.get? dx = some od) : InstAt h x ox C (some od) :=
  ⟨hx, a.1, a.2.2, by rw [a.2.1]; exact hd⟩

section
variable {w : World} {A : Around} {s : Shared} {E : Value → Shared → Prop} {x C dx : Addr} {l : List (Str × Value)} {name : Str}
noncomputable def ownRead (P : Params) (C : Addr) (name : Str) : Bool := findIn (KF P) (.ref C) "__getattribute__" == some (some (.builtin "object.__getattribute__")) && hasDictIn (KF P) C &&
  (match findIn (KF P) (.ref C) name with | some attr => noGet (KF P) attr | none => false)
/-- x.name, kept in x's own dict -/
theorem get_own_ {expr : Bool} {v : Value} {Q : Value → Shared → Prop} (T : TopS w s) (hx : Ins s.heap x C dx) (hd : Dc s.heap dx l) (hl : l.lookup name = some v) (hv : handedIn v = true)
    (hg : ownRead w.params C name = true) (h : Q v { s with toks := s.toks + 1 }) : wpAny (model pw w) A (getAttr (.ref x) name expr) Q E s := by
  obtain ⟨ox, a, b⟩ := hx
  obtain ⟨od, c, d⟩ := hd
  unfold ownRead at hg
  simp only [Bool.and_eq_true] at hg
  obtain ⟨⟨h1, h2⟩, h3⟩ := hg
  cases e : findIn (KF w.params) (.ref C) name with
  | none => rw [e] at h3; cases h3
  | some attr =>
    rw [e] at h3
    exact get_value T.kin (instAt a b d) (beq_iff_eq.mp h1) (findObj_own h2 e h3 (by rw [c.look, hl])) hv h
noncomputable def clsMeth (P : Params) (C : Addr) (name : Str) (f : Addr) : Bool := findIn (KF P) (.ref C) "__getattribute__" == some (some (.builtin "object.__getattribute__")) && findIn (KF P) (.ref C) "__getattr__" == some none &&
  findIn (KF P) (.ref C) name == some (some (.ref f)) && typeIn (KF P) (.ref f) == some (.type "function")
/-- x.name(..), a def of the class -/
theorem method_cls {pl : Sem Bool} {Q : Value × List Value → Shared → Prop} {f : Addr} (T : TopS w s) (hx : Ins s.heap x C dx) (hd : Dc s.heap dx l) (hl : l.lookup name = none)
    (hg : clsMeth w.params C name f = true) (h : Q (.ref f, [.ref x]) s) : wpAny (model pw w) A (getMethod (.ref x) name pl) Q E s := by
  obtain ⟨ox, a, b⟩ := hx
  obtain ⟨od, c, d⟩ := hd
  unfold clsMeth at hg
  simp only [Bool.and_eq_true] at hg
  obtain ⟨⟨⟨h1, h2⟩, h3⟩, h4⟩ := hg
  exact method_fn T.kin (instAt a b d) (beq_iff_eq.mp h1) (beq_iff_eq.mp h2) (beq_iff_eq.mp h3) (beq_iff_eq.mp h4) (by rw [c.shadow, hl]; rfl) h
noncomputable def noMeth (P : Params) (C : Addr) (name : Str) : Bool := findIn (KF P) (.ref C) "__getattribute__" == some (some (.builtin "object.__getattribute__")) && findIn (KF P) (.ref C) "__getattr__" == some none &&
  findIn (KF P) (.ref C) name == some none && hasDictIn (KF P) C
/-- x.name(..), kept in x's own dict -/
theorem method_own {pl : Sem Bool} {v : Value} {Q : Value × List Value → Shared → Prop} (T : TopS w s) (hx : Ins s.heap x C dx) (hd : Dc s.heap dx l) (hl : l.lookup name = some v) (hv : handedIn v = true)
    (hg : noMeth w.params C name = true) (h : Q (v, []) { s with toks := s.toks + 1 }) : wpAny (model pw w) A (getMethod (.ref x) name pl) Q E s := by
  obtain ⟨ox, a, b⟩ := id hx
  obtain ⟨od, c, d⟩ := id hd
  have hg' := hg
  unfold noMeth at hg
  simp only [Bool.and_eq_true] at hg
  obtain ⟨⟨⟨h1, h2⟩, h3⟩, h4⟩ := hg
  refine method_usual T.kin (instAt a b d) (beq_iff_eq.mp h1) (beq_iff_eq.mp h2) (beq_iff_eq.mp h3) rfl ?_
  refine get_own_ T hx hd hl hv ?_ (by exact h)
  unfold ownRead
  rw [h1, h4, beq_iff_eq.mp h3]
  rfl
end
end Mine
end
section
open PySem PySem.W PySem.W.X PyProof.Rows PySem.Calls PySem.Spec
/-! Comp -/
namespace Mine
set_option maxRecDepth 100000

theorem Keep.upd {w : World} {s s' : Shared} {h' : Heap} {tk : Nat} {X : List Addr} (T : TopS w s) (k : Keep s s') (hX : ∀ a ∈ X, s.heap.get? a = none) (hT : ∀ a ∈ X, tabAddrs.contains a = false)
    (hk : ∀ b o, b ∉ X → s'.heap.get? b = some o → h'.get? b = some o) : Keep s { s' with heap := h', toks := tk } := by
  have tabN : ∀ q ∈ tabs, q.2 ∉ X ∧ q.1 ∉ X := by
    intro q hq
    constructor
    · intro hm
      have := hT _ hm
      have h2 : tabAddrs.contains q.2 = true := by
        simp only [tabs, List.mem_cons, List.not_mem_nil, or_false] at hq
        rcases hq with rfl | rfl | rfl | rfl <;> rfl
      rw [h2] at this; cases this
    · intro hm
      obtain ⟨ps, c, _⟩ := T.tab q hq
      obtain ⟨o, _, _, _, _, _, _, _, _, _, a, _⟩ := c
      rw [hX _ hm] at a; cases a
  refine ⟨fun a o so e => hk a o (fun hm => by rw [hX a hm] at e; cases e) (k.old a o so e), fun q hq ps t => ?_, fun ok q hq => ?_, k.gens, k.bare, k.os, fun ps t => ?_⟩
  · obtain ⟨more, ⟨o, vs, a, r⟩, t2⟩ := k.tab q hq ps t
    exact ⟨more, ⟨o, vs, hk _ _ (tabN q hq).2 a, r⟩, hk _ _ (tabN q hq).1 t2⟩
  · obtain ⟨ps, c, ⟨o, vs, a, r⟩, t2⟩ := k.ok ok q hq
    obtain ⟨o', vs', file, tf, flags, tg, inF, text, tt, op, a', r1, r2, r3, r4, r5, r6, b', rr⟩ := c
    exact ⟨ps, ⟨o', vs', file, tf, flags, tg, inF, text, tt, op, hk _ _ (tabN q hq).2 a', r1, r2, r3, r4, r5, r6, hk _ _ (tabN q hq).1 b', rr⟩, ⟨o, vs, hk _ _ (tabN q hq).2 a, r⟩, hk _ _ (tabN q hq).1 t2⟩
  · obtain ⟨⟨o, vs, a, r⟩, t2⟩ := k.pt ps t
    have n := tabN (209, 205) (by decide)
    exact ⟨⟨o, vs, hk _ _ n.2 a, r⟩, hk _ _ n.1 t2⟩

/-- for each index one value, told by new objects -/
inductive Ell (G : Nat → Value → Objs → Prop) : List Nat → List Value → Objs → Prop
  | nil : Ell G [] [] []
  | cons {i is y ys l ls} : G i y l → Ell G is ys ls → Ell G (i :: is) (y :: ys) (l ++ ls)
theorem Ell.snoc {G : Nat → Value → Objs → Prop} {i : Nat} {y : Value} {l : Objs} : ∀ {is : List Nat} {ys : List Value} {ls : Objs}, Ell G is ys ls → G i y l → Ell G (is ++ [i]) (ys ++ [y]) (ls ++ l)
  | _, _, _, .nil, g => by simpa using Ell.cons g .nil
  | _, _, _, .cons h t, g => by
    have := Ell.cons h (t.snoc g)
    rw [List.append_assoc]
    exact this
theorem Ell.length {G : Nat → Value → Objs → Prop} : ∀ {is : List Nat} {ys : List Value} {ls : Objs}, Ell G is ys ls → ys.length = is.length
  | _, _, _, .nil => rfl
  | _, _, _, .cons _ t => by simp [t.length]
theorem Ell.mono {G G' : Nat → Value → Objs → Prop} : ∀ {is : List Nat} {ys : List Value} {ls : Objs}, Ell G is ys ls → (∀ i ∈ is, ∀ y l, G i y l → G' i y l) → Ell G' is ys ls
  | _, _, _, .nil, _ => .nil
  | _, _, _, .cons h t, k => .cons (k _ List.mem_cons_self _ _ h) (t.mono fun i hi => k i (List.mem_cons_of_mem _ hi))

abbrev listObj (ys : List Value) (n : Nat) : Obj := { cls := .type "list", data := .seq ys.toArray n }
def ListG (G : Nat → Value → Objs → Prop) (is : List Nat) (v : Value) (l : Objs) : Prop := ∃ D ys n ls, v = .ref D ∧ l = (D, listObj ys n) :: ls ∧ Ell G is ys ls

/-- a walk over something, the items told by objects of their own -/
structure Wkr (w : World) (A : Around) (I : Addr) (fp wr : List Addr) (n : Nat) (P : Nat → Value → Objs → Prop) (St : Nat → Heap → Prop) : Prop where
  pres : ∀ i h b, St i h → b ∈ wr → (h.get? b).isSome = true
  sub : ∀ b ∈ wr, b ∈ fp
  frame : ∀ i h h', St i h → (∀ b ∈ fp, ∀ o, h.get? b = some o → h'.get? b = some o) → St i h'
  item : ∀ i (s : Shared) (Q : Option Value → Shared → Prop) (E : Value → Shared → Prop), i < n → St i s.heap →
    (∀ v l h' tk, P i v l → Has l h' → NewL s l → St (i + 1) h' → (∀ b o, b ∉ wr → s.heap.get? b = some o → h'.get? b = some o) → Q (some v) { s with heap := h', toks := tk }) → wpAny (model pw w) A (pyNext (.ref I)) Q E s
  done : ∀ (s : Shared) (Q : Option Value → Shared → Prop) (E : Value → Shared → Prop), St n s.heap →
    (∀ h' tk, (∀ b o, b ∉ wr → s.heap.get? b = some o → h'.get? b = some o) → Q none { s with heap := h', toks := tk }) → wpAny (model pw w) A (pyNext (.ref I)) Q E s
  self : ∀ i (s : Shared) (Q : Value → Shared → Prop) (E : Value → Shared → Prop), St i s.heap → Q (.ref I) s → wpAny (model pw w) A (pyIter (.ref I)) Q E s
theorem Wkr.of {w : World} {A : Around} {I : Addr} {fp wr : List Addr} {n : Nat} {P : Nat → Value → Prop} {St : Nat → Heap → Prop} (W : Walks pw w A I fp wr n P St) (hp : ∀ i h b, St i h → b ∈ wr → (h.get? b).isSome = true) : Wkr w A I fp wr n (fun i v l => P i v ∧ l = []) St where
  pres := hp
  sub := W.sub
  frame := W.frame
  item := fun i s Q E hi st hQ => W.item i s Q E hi st fun v h' tk p st' hk => hQ v [] h' tk ⟨p, rfl⟩ .nil (fun _ e => nomatch e) st' hk
  done := W.done
  self := W.self

section
variable {w : World} {A : Around} {s : Shared} {E : Value → Shared → Prop} {env : Env}

theorem range_filter_succ (p : Nat → Bool) (i : Nat) : (List.range (i + 1)).filter p = (List.range i).filter p ++ (if p i then [i] else []) := by
  rw [List.range_succ, List.filter_append]
  cases h : p i <;> simp [h]

theorem comp_any {sb : Shared} {elt iter : Expr} {x : Str} {px : Pos} {ifs : List Expr} {scope : Scope} {cl : List (Str × Addr)} {pos : Pos} {Q : Value → Shared → Prop} (T : TopS w sb) (p : Nat → Bool) (G : Nat → Value → Objs → Prop)
    (hclos : closureFor scope env = pure cl) (hcell : ∀ y ∈ scope.names, y.2 ≠ .cell) (hkind : scope.kind = .function)
    (hnames : ∀ y ∈ scope.names, y.2 = .local → scope.names.lookup y.1 = some .local) (hx : scope.names.lookup x = some .local)
    (h : wpAny (model pw w) A (eval iter env) (fun xv s₁ => wpAny (model pw w) A (pyIter xv) (fun it s₂ => ∃ I fp wr n P St, it = .ref I ∧ Wkr w A I fp wr n P St ∧ n ≤ sizeLine ∧ St 0 s₂.heap ∧
      (∀ b ∈ fp, b < s₂.heap.objs.size ∧ tabAddrs.contains b = false) ∧ (∀ b ∈ wr, sb.heap.get? b = none) ∧ Keep sb s₂ ∧
      (∀ C i v l s₃ m₃, i < n → P i v l → Has l s₃.heap → tabAddrs.contains C = false → s₃.heap.Ns C m₃ → m₃ x = some v → Keep sb s₃ → Imm wr s₂ s₃ →
        wpAny (model pw w) A (forIn ifs true fun c r => if r = true then do let ok ← isTrue c (compEnvC scope cl C env) (eval c (compEnvC scope cl C env)); pure (ForInStep.yield ok) else pure (ForInStep.yield r))
          (fun ok s₄ => ok = p i ∧ Keep s₃ s₄ ∧ (p i = true → wpAny (model pw w) A (eval elt (compEnvC scope cl C env)) (Gives s₃ (G i)) (fun _ _ => False) s₄)) (fun _ _ => False) s₃) ∧
      (∀ v s', Imm wr s₂ s' → Gives sb (ListG G ((List.range n).filter p)) v s' → Q v s')) E s₁) E s)
    (hs : ∀ x, foldedSetIterable iter env x = pure x := by intro _; rfl) :
    wpAny (model pw w) A (eval (.ListComp elt [⟨.Name x px, iter, ifs, 0⟩] scope pos) env) Q E s := by
  rw [eval_ListComp]
  refine wpAny_comprehension_free (use := none) rfl hs hclos hkind hnames (wpAny_mono h (fun xv s₁ h₁ => wpAny_mono h₁ (fun it s₂ h₂ => ?_) fun _ _ e => e) fun _ _ e => e)
  obtain ⟨I, fp, wr, n, P, St, rfl, W, hsz, hst, hfp, hwr, hk₀, hq, hQ⟩ := h₂
  have T₂ := T.keep hk₀
  have offN : ∀ a, s₂.heap.get? a = none → tabAddrs.contains a = false := fun a e => off_of_none T₂ e
  have fresh : ∀ a, s₂.heap.objs.size ≤ a → s₂.heap.get? a = none := fun a ha => none_of_size ha
  refine wpAny_newObj_type (wpAny_newFunctionEnv hcell (by intro y hy; simp at hy) (fun h₁ hns₁ hsb₁ => ?_) hkind)
  dsimp only at hns₁ hsb₁ ⊢
  generalize hH2 : s₂.heap.push { cls := .type "list", dict := none, data := .seq ([] : List Value).toArray } = H2 at hns₁ hsb₁ ⊢
  have hC : H2.objs.size = s₂.heap.objs.size + 1 := by rw [← hH2, Heap.size_push]
  have hDC : s₂.heap.objs.size ≠ H2.objs.size := by rw [hC]; exact Nat.ne_of_lt (Nat.lt_succ_self _)
  have below : ∀ b, b < s₂.heap.objs.size → b ≠ H2.objs.size ∧ b ≠ s₂.heap.objs.size := fun b hb => ⟨by rw [hC]; exact Nat.ne_of_lt (Nat.lt_succ_of_lt hb), Nat.ne_of_lt hb⟩
  have old : ∀ b o, s₂.heap.get? b = some o → h₁.get? b = some o := fun b o e => hsb₁.extBut b o (below b (Heap.lt_size e)).1 (Heap.get?_push_of_some _ (hH2 ▸ Heap.get?_push_of_some _ e))
  have hacc : h₁.PlainList s₂.heap.objs.size #[] := ⟨_, hsb₁.extBut _ _ hDC (Heap.get?_push_of_some _ (hH2 ▸ Heap.get?_push_size _ rfl))⟩
  have hnD := fresh s₂.heap.objs.size (Nat.le_refl _)
  have hnC := fresh H2.objs.size (by rw [hC]; exact Nat.le_succ _)
  generalize hDe : s₂.heap.objs.size = D at *
  generalize hCe : H2.objs.size = C at *
  have hfp' : ∀ b ∈ fp, b < D := fun b hb => (hfp b hb).1
  have hDf : D ∉ fp := fun hm => Nat.lt_irrefl _ (hfp' _ hm)
  have hCf : C ∉ fp := fun hm => by have h0 : C < D := hfp' _ hm; rw [hC] at h0; exact Nat.lt_irrefl _ (Nat.lt_of_succ_lt h0)
  have hst₁ : St 0 h₁ := W.frame _ _ _ hst fun b _ o e => old b o e
  have hCw : C ∉ wr := fun h => hCf (W.sub _ h)
  have hDw : D ∉ wr := fun h => hDf (W.sub _ h)
  -- what may change
  let X : List Addr := C :: D :: wr
  have hX : ∀ a ∈ X, sb.heap.get? a = none := by
    intro a ha
    rcases List.mem_cons.mp ha with rfl | ha
    · exact none_back' T hk₀ hnC
    rcases List.mem_cons.mp ha with rfl | ha
    · exact none_back' T hk₀ hnD
    · exact hwr a ha
  have hXt : ∀ a ∈ X, tabAddrs.contains a = false := by
    intro a ha
    rcases List.mem_cons.mp ha with rfl | ha
    · exact offN _ hnC
    rcases List.mem_cons.mp ha with rfl | ha
    · exact offN _ hnD
    · exact (hfp a (W.sub a ha)).2
  have upd : ∀ {s' : Shared} {h' : Heap} {tk : Nat}, Keep sb s' → (∀ b o, b ∉ X → s'.heap.get? b = some o → h'.get? b = some o) → Keep sb { s' with heap := h', toks := tk } := fun k hk => Keep.upd T k hX hXt hk
  have imm : ∀ {s' : Shared} {h' : Heap} {tk : Nat}, Imm wr s₂ s' → (∀ b o, b ∉ X → s'.heap.get? b = some o → h'.get? b = some o) → Imm wr s₂ { s' with heap := h', toks := tk } := fun {s' h' tk} k hk a o ha so e =>
    hk a o (fun hm => by
      rcases List.mem_cons.mp hm with rfl | hm
      · rw [hnC] at e; cases e
      rcases List.mem_cons.mp hm with rfl | hm
      · rw [hnD] at e; cases e
      · exact ha hm) (k a o ha so e)
  have subX : ∀ {b : Addr}, b ∉ X → b ≠ C ∧ b ≠ D ∧ b ∉ wr := fun {b} h => ⟨fun e => h (e ▸ List.mem_cons_self), fun e => h (e ▸ List.mem_cons_of_mem _ List.mem_cons_self), fun e => h (List.mem_cons_of_mem _ (List.mem_cons_of_mem _ e))⟩
  -- the loop
  have loop : ∀ s₃ : Shared, s₃ = { s₂ with heap := h₁, toks := s₂.toks + ([] : List (Str × Value)).length } →
      codeAny (model pw w) A (.compLoop (.ListComp elt [⟨.Name x px, iter, ifs, 0⟩] scope pos) 0 (.ref I) (.ref D) (compEnvC scope cl C env))
        (compPost (model pw w) A E none Q (.ref D) C) s₃ := by
    rintro s₃ rfl
    refine codeAny_compLoop_tests (fun k s' => ∃ i m' ys ls, Keep sb s' ∧ Imm wr s₂ s' ∧ St i s'.heap ∧ s'.heap.PlainList D ys.toArray ∧ s'.heap.Ns C m' ∧ Ell G ((List.range i).filter p) ys ls ∧ Has ls s'.heap ∧
        NewL sb ls ∧ (∀ q ∈ ls, q.1 ∉ X) ∧ i ≤ n ∧ k = n + 1 - i) ?_ (n + 1)
      ⟨0, _, [], [], upd (s' := s₂) hk₀ fun b o hb e => old b o e, imm (s' := s₂) (fun _ _ _ _ e => e) fun b o hb e => old b o e, hst₁, hacc, hns₁, .nil, .nil, (fun _ e => nomatch e), (fun _ e => nomatch e), Nat.zero_le _, rfl⟩
    rintro k s' ⟨i, m', ys, ls, hk, hi', hst', hac, hn', hE, hH, hN, hoff, hin, rfl⟩
    have hCs : s'.heap.get? C ≠ none := by obtain ⟨o, _, _, e, _⟩ := hn'; rw [e]; exact nofun
    have hDs : s'.heap.get? D ≠ none := by obtain ⟨_, e⟩ := hac; rw [e]; exact nofun
    have hXs : ∀ a ∈ X, s'.heap.get? a ≠ none := by
      intro a ha
      rcases List.mem_cons.mp ha with rfl | ha
      · exact hCs
      rcases List.mem_cons.mp ha with rfl | ha
      · exact hDs
      · intro e; have := W.pres i _ a hst' ha; rw [e] at this; cases this
    by_cases hlt : i < n
    · refine W.item i _ _ _ hlt hst' fun v l h₃ tk₃ hP hHl hNl hst₃ hk₃ => ?_
      have k₃ : ∀ b o, b ∉ X → s'.heap.get? b = some o → h₃.get? b = some o := fun b o hb e => hk₃ b o (subX hb).2.2 e
      refine wpAny_assign_Name (wpAny_storeName_local (lookup_relabel_local hx) (hn'.at' fun o e => hk₃ _ o hCw e) (fun h₄ hn₄ hs₄ => ?_) (by simp [compEnvC, relabel, hkind]))
      have hs₄ : Heap.SameBut C h₃ h₄ := hs₄
      have hn₄ : h₄.Ns C _ := hn₄
      have k₄ : ∀ b o, b ∉ X → s'.heap.get? b = some o → h₄.get? b = some o := fun b o hb e => hs₄.extBut b o (subX hb).1 (k₃ b o hb e)
      have hst₄ : St (i + 1) h₄ := W.frame _ _ _ hst₃ fun b hb o e => hs₄.extBut b o (fun h => hCf (h ▸ hb)) e
      have K₄ : Keep sb { s' with heap := h₄, toks := tk₃ + 1 } := upd hk k₄
      have I₄ : Imm wr s₂ { s' with heap := h₄, toks := tk₃ + 1 } := imm hi' k₄
      have hl₄ : Has l h₄ := fun q hq => ⟨hs₄.extBut _ _ (fun h => hCs (h ▸ hNl q hq)) (hHl q hq).1, (hHl q hq).2⟩
      have hls₄ : Has ls h₄ := fun q hq => ⟨k₄ _ _ (hoff q hq) (hH q hq).1, (hH q hq).2⟩
      have hac₄ : h₄.PlainList D ys.toArray := hac.at fun o e => hs₄.extBut D o hDC (hk₃ D o hDw e)
      have T₄ := T.keep K₄
      have pr₄ : ∀ a ∈ X, h₄.get? a ≠ none := by
        intro a ha
        rcases List.mem_cons.mp ha with rfl | ha
        · obtain ⟨o, _, _, e, _⟩ := hn₄; rw [e]; exact nofun
        rcases List.mem_cons.mp ha with rfl | ha
        · obtain ⟨_, e⟩ := hac₄; rw [e]; exact nofun
        · intro e; have := W.pres (i + 1) _ a hst₄ ha; rw [e] at this; cases this
      refine wpAny_mono (hq C i v l _ _ hlt hP hl₄ (hXt C List.mem_cons_self) hn₄ (by simp) K₄ I₄) (fun ok s₅ h₅ => ?_) fun _ _ z => z.elim
      obtain ⟨rfl, k₅, h₅⟩ := h₅
      have stk : ∀ {s₆ : Shared}, Keep { s' with heap := h₄, toks := tk₃ + 1 } s₆ → St (i + 1) s₆.heap := fun k => by
        exact W.frame _ _ _ hst₄ fun b hb o e => k.old b o (solid_off (hfp b hb).2) e
      cases hpi : p i with
      | false =>
        rw [if_neg Bool.false_ne_true]
        exact ⟨n + 1 - (i + 1), by omega, i + 1, _, ys, ls, K₄.trans k₅, I₄.trans k₅.imm, stk k₅, hac₄.at (fun o e => k₅.old D o (solid_off (hXt D (List.mem_cons_of_mem _ List.mem_cons_self))) e),
            Ns_keep hn₄ (hXt C List.mem_cons_self) k₅, by rw [range_filter_succ, hpi]; simpa using hE, Has.keep (s := { s' with heap := h₄, toks := tk₃ + 1 }) hls₄ k₅, hN, hoff, hlt, rfl⟩
      | true =>
        rw [if_pos rfl]
        refine wpAny_mono (h₅ hpi) (fun y s₆ h₆ => ?_) fun _ _ z => z.elim
        obtain ⟨ly, gy, hHy, hNy, k₆⟩ := h₆
        have hac₆ : s₆.heap.PlainList D ys.toArray := hac₄.at (fun o e => k₆.old D o (solid_off (hXt D (List.mem_cons_of_mem _ List.mem_cons_self))) e)
        have hys : ys.toArray.size ≤ sizeLine := by
          have e1 := hE.length
          have e2 : ((List.range i).filter p).length ≤ (List.range i).length := List.length_filter_le _ _
          rw [List.length_range] at e2
          rw [List.size_toArray]; omega
        obtain ⟨nn, hac₆'⟩ := id hac₆
        refine wpAny_list_append_plain (hsz := hys) hac₆ fun h₇ hl₇ hs₇ => ?_
        have k₇ : ∀ b o, b ∉ X → s₆.heap.get? b = some o → h₇.get? b = some o := fun b o hb e => hs₇.extBut b o (subX hb).2.1 e
        have yoff : ∀ q ∈ ly, q.1 ∉ X := fun q hq hm => pr₄ q.1 hm (hNy q hq)
        have hH₆ := Has.keep (s := { s' with heap := h₄, toks := tk₃ + 1 }) hls₄ k₆
        refine ⟨n + 1 - (i + 1), by omega, i + 1, _, ys ++ [y], ls ++ ly, upd (K₄.trans k₆) k₇, imm (I₄.trans k₆.imm) k₇, W.frame _ _ _ (stk k₆) (fun b hb o e => hs₇.extBut b o (fun h => hDf (h ▸ hb)) e), by simpa using hl₇,
            (Ns_keep hn₄ (hXt C List.mem_cons_self) k₆).sameBut hs₇ (Ne.symm hDC), by rw [range_filter_succ, hpi]; simpa using hE.snoc gy, ?_, NewL.app hN ?_, ?_, hlt, rfl⟩
        · intro q hq
          rcases List.mem_append.mp hq with h | h
          · exact ⟨k₇ _ _ (hoff q h) (hH₆ q h).1, (hH₆ q h).2⟩
          · exact ⟨k₇ _ _ (yoff q h) (hHy q h).1, (hHy q h).2⟩
        · exact fun q hq => none_back' T K₄ (hNy q hq)
        · exact fun q hq => (List.mem_append.mp hq).elim (hoff q) (yoff q)
    · have : i = n := by omega
      subst this
      refine W.done _ _ _ hst' fun h₃ tk₃ hk₃ => ?_
      have k₃ : ∀ b o, b ∉ X → s'.heap.get? b = some o → h₃.get? b = some o := fun b o hb e => hk₃ b o (subX hb).2.2 e
      refine ⟨m', hn'.at' fun o e => hk₃ _ o hCw e, fun h₄ hs₄ => ?_⟩
      have k₄ : ∀ b o, b ∉ X → s'.heap.get? b = some o → h₄.get? b = some o := fun b o hb e => hs₄.extBut b o (subX hb).1 (k₃ b o hb e)
      obtain ⟨nn, hD⟩ := hac
      refine hQ _ _ (show Imm wr s₂ { s' with heap := h₄, toks := tk₃ } from imm hi' k₄) ⟨(D, listObj ys nn) :: ls, ⟨D, ys, nn, ls, rfl, rfl, hE⟩, Has.cons (hs₄.extBut D _ hDC (hk₃ D _ hDw hD)) (solid_cls rfl) (fun q hq => ⟨k₄ _ _ (hoff q hq) (hH q hq).1, (hH q hq).2⟩), ?_, show Keep sb { s' with heap := h₄, toks := tk₃ } from upd hk k₄⟩
      intro q hq
      rcases List.mem_cons.mp hq with rfl | hq
      · exact hX D (List.mem_cons_of_mem _ List.mem_cons_self)
      · exact hN q hq
  exact codeAny_compStart_list (loop _ rfl) (W.self 0 _ _ _ hst₁ (loop _ rfl))
end
end Mine
end
section
open PySem PySem.W PySem.W.X PyProof.Rows PySem.Calls PySem.Spec
/-! Src -/
namespace Mine
set_option maxRecDepth 100000

theorem Fm.c {s₀ s : Shared} {env : Env} {own : List (Str × Addr)} {m cm : Str → Option Value} (F : Fm s₀ env own m cm s) (n : Str) {c : Addr} {v : Value} (hl : own.lookup n = some c) (hc : cm n = some v) : s.heap.IsCell c (some v) := by
  rw [← hc]; exact F.cell n c hl
/-- an iterator made since s, its items to come -/
def Src (w : World) (A : Around) (s : Shared) (n : Nat) (P : Nat → Value → Objs → Prop) (it : Value) (s₂ : Shared) : Prop := ∃ I fp wr St, it = .ref I ∧ Wkr w A I fp wr n P St ∧ n ≤ sizeLine ∧ St 0 s₂.heap ∧
  (∀ b ∈ fp, b < s₂.heap.objs.size ∧ tabAddrs.contains b = false) ∧ (∀ b ∈ wr, s.heap.get? b = none) ∧ Keep s s₂

section
variable {w : World} {A : Around} {s : Shared} {E : Value → Shared → Prop} {env : Env}
theorem comp {sb : Shared} {elt iter : Expr} {x : Str} {px : Pos} {ifs : List Expr} {scope : Scope} {cl : List (Str × Addr)} {pos : Pos} {Q : Value → Shared → Prop} (T : TopS w sb) (n : Nat) (P : Nat → Value → Objs → Prop)
    (p : Nat → Bool) (G : Nat → Value → Objs → Prop)
    (hclos : closureFor scope env = pure cl) (hcell : ∀ y ∈ scope.names, y.2 ≠ .cell) (hkind : scope.kind = .function)
    (hnames : ∀ y ∈ scope.names, y.2 = .local → scope.names.lookup y.1 = some .local) (hx : scope.names.lookup x = some .local)
    (hsrc : wpAny (model pw w) A (eval iter env) (fun xv s₁ => wpAny (model pw w) A (pyIter xv) (Src w A sb n P) (fun _ _ => False) s₁) (fun _ _ => False) s)
    (helt : ∀ C i v l s₃ m₃, i < n → P i v l → Has l s₃.heap → tabAddrs.contains C = false → s₃.heap.Ns C m₃ → m₃ x = some v → Keep sb s₃ →
        wpAny (model pw w) A (forIn ifs true fun c r => if r = true then do let ok ← isTrue c (compEnvC scope cl C env) (eval c (compEnvC scope cl C env)); pure (ForInStep.yield ok) else pure (ForInStep.yield r))
          (fun ok s₄ => ok = p i ∧ Keep s₃ s₄ ∧ (p i = true → wpAny (model pw w) A (eval elt (compEnvC scope cl C env)) (Gives s₃ (G i)) (fun _ _ => False) s₄)) (fun _ _ => False) s₃)
    (hQ : ∀ v s', Gives sb (ListG G ((List.range n).filter p)) v s' → Q v s')
    (hs : ∀ x, foldedSetIterable iter env x = pure x := by intro _; rfl) :
    wpAny (model pw w) A (eval (.ListComp elt [⟨.Name x px, iter, ifs, 0⟩] scope pos) env) Q E s :=
  comp_any T p G hclos hcell hkind hnames hx (wpAny_mono hsrc (fun xv s₁ h₁ => wpAny_mono h₁ (fun it s₂ h₂ => by
    obtain ⟨I, fp, wr, St, e, W, a, b, c, d, k⟩ := h₂
    exact ⟨I, fp, wr, n, P, St, e, W, a, b, c, d, k, fun C i v l s₃ m₃ h1 h2 h3 h4 h5 h6 h7 _ => helt C i v l s₃ m₃ h1 h2 h3 h4 h5 h6 h7, fun v s' _ => hQ v s'⟩) fun _ _ z => z.elim) fun _ _ z => z.elim) hs

/-- a source that was made since sb, but ahead of s -/
def SrcB (w : World) (A : Around) (sb s : Shared) (W : List Addr) (n : Nat) (P : Nat → Value → Objs → Prop) (it : Value) (s₂ : Shared) : Prop := ∃ I fp wr St, it = .ref I ∧ Wkr w A I fp wr n P St ∧ n ≤ sizeLine ∧ St 0 s₂.heap ∧
  (∀ b ∈ fp, b < s₂.heap.objs.size ∧ tabAddrs.contains b = false) ∧ (∀ b ∈ wr, sb.heap.get? b = none ∧ (b ∈ W ∨ s.heap.get? b = none)) ∧ Keep sb s₂ ∧ Imm W s s₂
theorem Imm.wide {X Y : List Addr} {s s₁ s' : Shared} (i : Imm Y s s₁) (h : Imm X s₁ s') (l : ∀ a ∈ X, a ∈ Y ∨ s.heap.get? a = none) : Imm Y s s' := fun a o n so e => h a o (fun m => (l a m).elim n fun z => by rw [z] at e; cases e) so (i a o n so e)
theorem Src.toB {n : Nat} {P : Nat → Value → Objs → Prop} {it : Value} {sb s₂ : Shared} (T : TopS w sb) (k : Keep sb s) (h : Src w A s n P it s₂) : SrcB w A sb s [] n P it s₂ :=
  let ⟨I, fp, wr, St, e, W, a, b, c, d, k'⟩ := h; ⟨I, fp, wr, St, e, W, a, b, c, fun x hx => ⟨none_back' T k (d x hx), .inr (d x hx)⟩, k.trans k', k'.imm⟩
theorem Fm.stepI {sb s s' : Shared} {env : Env} {own : List (Str × Addr)} {m cm : Str → Option Value} {W : List Addr} (F : Fm sb env own m cm s) (k : Keep sb s') (i : Imm W s s') (hW : ∀ a ∈ mutX env own, a ∉ W) : Fm sb env own m cm s' :=
  ⟨k, F.ns.at' fun o e => i _ o (hW _ (List.mem_cons_self ..)) (solid_off (F.new _ (List.mem_cons_self ..)).2) e, fun n c hc => let ⟨o, a, b⟩ := F.cell n c hc; ⟨o, i _ o (hW _ (mem_mut (mem_of_lookup hc))) (solid_off (F.new _ (mem_mut (mem_of_lookup hc))).2) a, b⟩, F.apart, F.new, F.ne, F.nd⟩
theorem compB {sb : Shared} {elt iter : Expr} {x : Str} {px : Pos} {ifs : List Expr} {scope : Scope} {cl : List (Str × Addr)} {pos : Pos} {Q : Value → Shared → Prop} (W : List Addr) (T : TopS w sb) (n : Nat) (P : Nat → Value → Objs → Prop)
    (p : Nat → Bool) (G : Nat → Value → Objs → Prop)
    (hclos : closureFor scope env = pure cl) (hcell : ∀ y ∈ scope.names, y.2 ≠ .cell) (hkind : scope.kind = .function)
    (hnames : ∀ y ∈ scope.names, y.2 = .local → scope.names.lookup y.1 = some .local) (hx : scope.names.lookup x = some .local)
    (hsrc : wpAny (model pw w) A (eval iter env) (fun xv s₁ => wpAny (model pw w) A (pyIter xv) (SrcB w A sb s W n P) (fun _ _ => False) s₁) (fun _ _ => False) s)
    (helt : ∀ C i v l s₃ m₃, i < n → P i v l → Has l s₃.heap → tabAddrs.contains C = false → s₃.heap.Ns C m₃ → m₃ x = some v → Keep sb s₃ → Imm W s s₃ →
        wpAny (model pw w) A (forIn ifs true fun c r => if r = true then do let ok ← isTrue c (compEnvC scope cl C env) (eval c (compEnvC scope cl C env)); pure (ForInStep.yield ok) else pure (ForInStep.yield r))
          (fun ok s₄ => ok = p i ∧ Keep s₃ s₄ ∧ (p i = true → wpAny (model pw w) A (eval elt (compEnvC scope cl C env)) (Gives s₃ (G i)) (fun _ _ => False) s₄)) (fun _ _ => False) s₃)
    (hQ : ∀ v s', Imm W s s' → Gives sb (ListG G ((List.range n).filter p)) v s' → Q v s')
    (hs : ∀ x, foldedSetIterable iter env x = pure x := by intro _; rfl) :
    wpAny (model pw w) A (eval (.ListComp elt [⟨.Name x px, iter, ifs, 0⟩] scope pos) env) Q E s :=
  comp_any T p G hclos hcell hkind hnames hx (wpAny_mono hsrc (fun xv s₁ h₁ => wpAny_mono h₁ (fun it s₂ h₂ => by
    obtain ⟨I, fp, wr, St, e, Wk, a, b, c, d, k, im⟩ := h₂
    exact ⟨I, fp, wr, n, P, St, e, Wk, a, b, c, fun b hb => (d b hb).1, k, fun C i v l s₃ m₃ h1 h2 h3 h4 h5 h6 h7 h8 => helt C i v l s₃ m₃ h1 h2 h3 h4 h5 h6 h7 (im.wide h8 fun a ha => (d a ha).2), fun v s' h8 => hQ v s' (im.wide h8 fun a ha => (d a ha).2)⟩) fun _ _ z => z.elim) fun _ _ z => z.elim) hs

theorem Src.back {s₁ s₂ : Shared} {n : Nat} {P : Nat → Value → Objs → Prop} {it : Value} (T : TopS w s) (k : Keep s s₁) (h : Src w A s₁ n P it s₂) : Src w A s n P it s₂ :=
  let ⟨I, fp, wr, St, e, W, a, b, c, d, k'⟩ := h; ⟨I, fp, wr, St, e, W, a, b, c, fun x hx => none_back' T k (d x hx), k.trans k'⟩
theorem push_keep {o : Obj} {tk : Nat} : Keep s { s with heap := s.heap.push o, toks := tk } := .heapTok fun _ _ e => Heap.get?_push_of_some _ e
theorem push_new : s.heap.get? s.heap.objs.size = none := none_of_size (Nat.le_refl _)
theorem off_of_cls {a : Addr} {o : Obj} (T : TopS w s) (h : s.heap.get? a = some o) (hc : hasCls o = true) : tabAddrs.contains a = false := by
  cases q : tabAddrs.contains a with
  | false => rfl
  | true =>
    have hm : a ∈ tabAddrs := by simpa using q
    have key : ∀ p ∈ tabs, p.2 = a → False := fun p hp e => by
      obtain ⟨ps, _, t⟩ := T.tab p hp
      have z := t.2
      rw [e, h] at z
      cases z
      cases hc
    simp only [tabAddrs, List.mem_cons, List.not_mem_nil, or_false] at hm
    rcases hm with e | e | e | e
    · exact (key (34, 30) (by simp [tabs]) e.symm).elim
    · exact (key (41, 37) (by simp [tabs]) e.symm).elim
    · exact (key (164, 162) (by simp [tabs]) e.symm).elim
    · exact (key (209, 205) (by simp [tabs]) e.symm).elim

theorem src_list {a : Addr} {ys : List Value} {n : Nat} {k : Nat} (hA : AOk k A) (T : TopS w s) (ha : s.heap.get? a = some (listObj ys n)) (hl : ys.length ≤ 1000) :
    wpAny (model pw w) A (pyIter (.ref a)) (Src w A s ys.length fun i v l => ys[i]? = some v ∧ l = []) (fun _ _ => False) s := by
  have hL : s.heap.IsList a ys.toArray := ⟨_, ha, rfl, _, rfl⟩
  have hne : a ≠ s.heap.objs.size := Nat.ne_of_lt (Heap.lt_size ha)
  refine wpAny_pyIter_list hL ?_
  have W := Wkr.of (Walks.list (prog := pw) (w := w) hA.handled s.heap.objs.size a hne ys.toArray) (fun i h b st hb => by
      obtain ⟨⟨o, e, _⟩, _⟩ := st
      simp at hb; subst hb; rw [e]; rfl)
  refine ⟨_, _, _, _, rfl, by simpa using W, by rw [sizeLine_eq]; omega, ?_, ?_, ?_, push_keep (tk := s.toks)⟩
  · exact ⟨⟨_, Heap.get?_push_size _ rfl, rfl, rfl⟩, ⟨_, Heap.get?_push_of_some _ ha, rfl, _, rfl⟩⟩
  · intro b hb
    rcases List.mem_cons.mp hb with rfl | hb
    · exact ⟨by simp [Heap.size_push], off_of_none T push_new⟩
    · simp at hb; subst hb
      exact ⟨by simp [Heap.size_push]; exact Nat.lt_succ_of_lt (Heap.lt_size ha), off_of_cls T ha rfl⟩
  · intro b hb; simp at hb; subst hb; exact push_new

abbrev tupObj (ys : List Value) (n : Nat) : Obj := { cls := .type "tuple", data := .seq ys.toArray n }
theorem src_tuple {a : Addr} {ys : List Value} {n : Nat} {k : Nat} (hA : AOk k A) (T : TopS w s) (ha : s.heap.get? a = some (tupObj ys n)) (hl : ys.length ≤ 1000) :
    wpAny (model pw w) A (pyIter (.ref a)) (Src w A s ys.length fun i v l => ys[i]? = some v ∧ l = []) (fun _ _ => False) s := by
  have hL : s.heap.IsTuple a ys.toArray := ⟨_, ha, rfl, _, rfl⟩
  have hne : a ≠ s.heap.objs.size := Nat.ne_of_lt (Heap.lt_size ha)
  refine wpAny_pyIter_tuple hL ?_
  have W := Wkr.of (Walks.tuple (prog := pw) (w := w) hA.handled s.heap.objs.size a hne ys.toArray) (fun i h b st hb => by
      obtain ⟨⟨o, e, _⟩, _⟩ := st
      simp at hb; subst hb; rw [e]; rfl)
  refine ⟨_, _, _, _, rfl, by simpa using W, by rw [sizeLine_eq]; omega, ?_, ?_, ?_, push_keep (tk := s.toks)⟩
  · exact ⟨⟨_, Heap.get?_push_size _ rfl, rfl, rfl⟩, ⟨_, Heap.get?_push_of_some _ ha, rfl, _, rfl⟩⟩
  · intro b hb
    rcases List.mem_cons.mp hb with rfl | hb
    · exact ⟨by simp [Heap.size_push], off_of_none T push_new⟩
    · simp at hb; subst hb
      exact ⟨by simp [Heap.size_push]; exact Nat.lt_succ_of_lt (Heap.lt_size ha), off_of_cls T ha rfl⟩
  · intro b hb; simp at hb; subst hb; exact push_new

abbrev IntP (i : Nat) (v : Value) (l : Objs) : Prop := (∃ t, v = .int (i : Int) t) ∧ l = []
theorem src_range {r : Addr} {n : Nat} {t u v : Tok} {k : Nat} (hA : AOk k A) (T : TopS w s) (hr : IsRange s.heap r 0 n 1 t u v) (hl : n ≤ 1000) :
    wpAny (model pw w) A (pyIter (.ref r)) (Src w A s n IntP) (fun _ _ => False) s := by
  have hsz : Builtin.Range.rangeSize 0 n 1 = (n : Int) := by rw [rangeSize_one]; split <;> omega
  refine wpAny_pyIter_range hr (small_one (by omega) (by omega) (by omega) (by omega)) ?_
  have W : Wkr w A s.heap.objs.size [s.heap.objs.size] [s.heap.objs.size] n IntP fun i h => IsRangeIter h s.heap.objs.size (0 + (i : Nat) * 1) ((n : Int) - (i : Nat)) 1 := by
    have W := Wkr.of (Walks.range (prog := pw) (w := w) hA.handled s.heap.objs.size 0 1 n) (fun i h b st hb => by
      simp at hb; subst hb; rw [st]; rfl)
    simpa [IntP] using W
  refine ⟨s.heap.objs.size, _, _, _, rfl, W, by rw [sizeLine_eq]; omega, ?_, ?_, ?_, push_keep (tk := s.toks)⟩
  · have e := Heap.get?_push_size s.heap (o := { cls := .type "range_iterator", data := .fields #[rawInt 0, rawInt (Builtin.Range.rangeSize 0 n 1), rawInt 1] }) rfl
    rw [hsz] at e ⊢
    simpa using e
  · intro b hb
    simp at hb; subst hb
    exact ⟨by simp [Heap.size_push], off_of_none T push_new⟩
  · intro b hb; simp at hb; subst hb; exact push_new
end

set_option hygiene false in
local macro_rules | `(tactic| x_close) => `(tactic| (exact hQ _ _ _ _ _ rfl (mem_keep (by assumption)) (mem_new (by assumption) (.head _))))
set_option maxHeartbeats 0 in
theorem call_range {w : World} {S : Shared} (KX : Frag.In (KF w.params) S.heap) {i : Int} {t : Tok} {Q E : Value → Shared → Prop}
   (hQ : ∀ (r : Addr) (t u v : Tok) (s' : Shared), s'.gens = S.gens → Keep S s' → New S s' r { cls := .type "range", dict := none, data := .fields #[.int 0 t, .int i u, .int 1 v], slots := #[] } → Q (.ref r) s') :
   wpAny (model pw w) Amax (call (.type "range") [.int i t] []) Q E S := by
  x_run
end Mine
end
section
open PySem PySem.W PySem.W.X PyProof.Rows PySem.Calls PySem.Spec
/-! Set1 -/
namespace Mine
set_option maxRecDepth 100000

def IsMB (s : Shared) (p B : Addr) (v : Nat) : Prop := ∃ d hb t kt n, s.heap.get? p = some (mbObj d v t) ∧ s.heap.get? d = some (mbDict hb kt B n)
theorem IsMB.keep {s s' : Shared} {p B : Addr} {v : Nat} (h : IsMB s p B v) (k : Keep s s') : IsMB s' p B v := let ⟨d, hb, t, kt, n, a, b⟩ := h; ⟨d, hb, t, kt, n, k.old _ _ (solid_cls rfl) a, k.old _ _ (solid_cls rfl) b⟩
def nMembers : Str := Str.ofString "_members"
def StrL (ms : List Str) (ys : List Value) : Prop := Paired (fun m y => ∃ t, y = .str m t) ms ys
/-- a BitSet with its members -/
structure IsBS (s : Shared) (B dB : Addr) (lB : List (Str × Value)) (mL : Addr) (ys : List Value) : Prop where
  ins : Ins s.heap B 149 dB
  dc : Dc s.heap dB lB
  mem : lB.lookup nMembers = some (.ref mL)
  list : ∃ n, s.heap.get? mL = some (listObj ys n)
theorem IsBS.keep {s s' : Shared} {B dB mL : Addr} {lB : List (Str × Value)} {ys : List Value} (h : IsBS s B dB lB mL ys) (k : Keep s s') : IsBS s' B dB lB mL ys :=
  ⟨h.ins.keep k, h.dc.keep k, h.mem, let ⟨n, e⟩ := h.list; ⟨n, k.old _ _ (solid_cls rfl) e⟩⟩

abbrev has (v i : Nat) : Bool := v.testBit i
def idx (k v : Nat) : List Nat := (List.range k).filter (has v)
theorem test_bit (v i : Nat) : (Builtin.bitAnd ((v >>> i : Nat) : Int) 1 != 0) = has v i := by
  have e : Builtin.bitAnd ((v >>> i : Nat) : Int) 1 = ((v >>> i &&& 1 : Nat) : Int) := land_cast _ 1
  rw [e]
  unfold has Nat.testBit
  rw [Nat.and_comm]
  cases h : (1 &&& v >>> i) <;> simp
  omega
abbrev IntG (i : Nat) (v : Value) (l : Objs) : Prop := (∃ t, v = .int (i : Int) t) ∧ l = []

section
variable {w : World} {A : Around} {s : Shared} {E : Value → Shared → Prop} {k : Nat}
theorem iter_set_c {p B dB mL : Addr} {v : Nat} {lB : List (Str × Value)} {ys : List Value} (hA : AOk (k + 1) A) (T : TopS w s) (hp : IsMB s p B v) (hB : IsBS s B dB lB mL ys) (hl : ys.length ≤ 60) {Q : Value → Shared → Prop}
    (hQ : ∀ r s', Gives s (ListG IntG (idx ys.length v)) r s' → Q r s') : wpAny (model pw w) A (call (.ref 47) [.ref p]) Q E s := by
  refine enter_cells hA T (T.kin 47 _ rfl) rfl rfl ⟨_, _, _, _, rfl, T.kin _ _ rfl, rfl, rfl⟩ rfl rfl (fun n x hx => ?_) (fun n => by simp [cellsFrom]) ?_
  · simp at hx; subst hx; exact .inr ⟨rfl, rfl⟩
  intro L s₁ hA₁ T₁ F₁ _
  have K₁ := F₁.keep
  have self₁ := F₁.cell _ _ (show (callEnvC _ L 47).cells.lookup (Str.ofString "self") = some (L + 1) from rfl)
  refine wpAny_execs_cons (wpAny_Return_some ?_)
  show wpAny _ _ _ Q _ _
  refine comp T₁ ys.length IntP (has v) IntG rfl (by decide) rfl (by decide) rfl ?_ ?_ fun r s' g => hQ r s' (g.back T K₁)
  · obtain ⟨d, hb, t, kt, n, hp1, hp2⟩ := hp.keep K₁
    have hB₁ := hB.keep K₁
    refine call_1 (nm_top T₁ (v := .type "range") (args_c (call_1 (nm_top T₁ (v := .builtin "len") (args_c (Attribute_any_ (Attribute_any_ (nm_cell rfl self₁ ?_))))))))
    refine get_mb hA₁ T₁ hp1 hp2 fun tk => ?_
    refine get_own_ (T₁.keep toks_keep) hB₁.ins hB₁.dc hB₁.mem rfl (by kernel_rfl) ?_
    refine args_0 ⟨kp_builtin, ?_⟩
    obtain ⟨nn, hL⟩ := hB₁.list
    refine call_len_list (items := ys.toArray) ⟨_, hL, rfl, _, rfl⟩ (by simp; omega) (args_0 ⟨kp_type, wk hA₁ ?_⟩)
    rw [List.size_toArray]
    refine call_range (T₁.keep toks_keep).kin fun r t u v s₂ _ k₂ n₂ => ?_
    refine wpAny_mono (src_range hA₁ (T₁.keep (Keep.trans toks_keep k₂)) n₂.2 (by omega)) (fun it s₃ h => ?_) fun _ _ z => z
    exact h.back T₁ (Keep.trans toks_keep k₂)
  · intro C i vv l s₃ m₃ hi hP hl₃ hC hn₃ hm₃ k₃
    obtain ⟨⟨t, rfl⟩, rfl⟩ := hP
    have T₃ := T₁.keep k₃
    have hp₃ := hp.keep (K₁.trans k₃)
    obtain ⟨d, hb, t', kt, n, hp1, hp2⟩ := id hp₃
    refine wpAny_tests_one (wpAny_isTrue_value (wpAny_BinOp (wpAny_BinOp (nm_cell rfl ((F₁.step k₃).c (Str.ofString "self") rfl rfl) (nm_local hn₃ ?_ hm₃)))))
    refine rsh_mb_int hA₁ T₃ (by omega) hp1 fun tk tk' => ?_
    refine wpAny_Constant_int (and_int (P.truthy_int ⟨?_, toks_keep, fun hpi => ?_⟩))
    · exact test_bit v i
    · exact nm_local hn₃ (gives_plain ⟨⟨t, rfl⟩, rfl⟩ toks_keep) hm₃
end
end Mine
end
section
open PySem PySem.W PySem.W.X PyProof.Rows PySem.Calls PySem.Spec
/-! Gens -/
namespace Mine
set_option maxRecDepth 100000

theorem tabs_apart : ∀ q ∈ tabs, ∀ q' ∈ tabs, q'.1 ≠ q.2 ∧ (q'.2 = q.2 → q' = q) := by decide
theorem tab_mem {q : Addr × Addr} (hq : q ∈ tabs) : ([30, 37, 162, 205] : List Addr).contains q.2 = true := by
  have : ∀ q ∈ tabs, ([30, 37, 162, 205] : List Addr).contains q.2 = true := by decide
  exact this q hq

/-- a state that keeps all but a table, which grew -/
theorem Keep.grow {w : World} {s : Shared} {h' : Heap} {tk : Nat} {q : Addr × Addr} {ps more : Array Value} (T : TopS w s) (hq : q ∈ tabs) (hn : q.2 ≠ 205) (hk : Heap.ExtBut q.2 s.heap h') (ht : s.heap.TableAt q.1 q.2 ps)
    (hc : h'.IsCode q.1 q.2 (ps ++ more)) (ht' : h'.TableAt q.1 q.2 (ps ++ more)) : Keep s { s with heap := h', toks := tk } := by
  refine ⟨fun a o so e => ?_, fun q' hq' ps' t' => ?_, fun ok q' hq' => ?_, fun _ _ e => e, fun b => b, rfl, fun ps' t' => ?_⟩
  · by_cases h : a = q.2
    · subst h
      rw [ht.2] at e
      cases e
      unfold solid at so
      rw [tab_mem hq] at so
      cases so
    · exact hk a o h e
  · by_cases h : q' = q
    · subst h
      have := t'.2.symm.trans ht.2
      cases this
      exact ⟨more, ht'⟩
    · have a := tabs_apart q hq q' hq'
      exact ⟨#[], by simpa using t'.extBut hk a.1 (fun e => h (a.2 e))⟩
  · by_cases h : q' = q
    · subst h
      exact ⟨_, hc, ht'⟩
    · have a := tabs_apart q hq q' hq'
      obtain ⟨ps', c, t⟩ := ok q' hq'
      exact ⟨ps', c.extBut hk a.1 (fun e => h (a.2 e)), t.extBut hk a.1 (fun e => h (a.2 e))⟩
  · exact t'.extBut hk (tabs_apart q hq (209, 205) (by decide)).1 (Ne.symm hn)

section
variable {w : World} {A : Around} {s : Shared} {E : Value → Shared → Prop} {env : Env}
theorem gen_code {q : Addr × Addr} {pos : Pos} {qualname : Str} {scope : Scope} {Q : Value → Shared → Prop} (T : TopS w s) (hq : q ∈ tabs) (hn : q.2 ≠ 205) (hc : env.code = .ref q.1)
    (hQ : ∀ c h' tk, Keep s { s with heap := h', toks := tk } → Heap.ExtBut q.2 s.heap h' → s.heap.objs.size ≤ h'.objs.size → Q c { s with heap := h', toks := tk }) :
    wpAny (model pw w) A (genexprCode env pos qualname scope) Q E s := by
  obtain ⟨ps, hcode, ht⟩ := T.tab q hq
  cases e : codeAmong pos ps.toList with
  | some c' => exact wpAny_genexprCode_hit hc hcode e (hQ c' s.heap s.toks (Keep.refl s) (fun _ _ _ e => e) (Nat.le_refl _))
  | none => exact wpAny_genexprCodeX hc hcode ht e fun c' h' tk hk h1 h2 hc' _ ht' _ => hQ _ _ _ (Keep.grow T hq hn hk ht hc' ht') hk (Nat.le_trans h1 (Nat.le_of_lt h2))

theorem walks_bound {I : Addr} {fp wr : List Addr} {n : Nat} {P : Nat → Value → Prop} {St : Nat → Heap → Prop} (W : Walks pw w A I fp wr n P St) : Walks pw w A I fp wr n (fun i v => i < n ∧ P i v) St where
  sub := W.sub
  frame := W.frame
  item := fun i s Q E hi st hQ => W.item i s Q E hi st fun v h' tk hP hm hk => hQ v h' tk ⟨hi, hP⟩ hm hk
  done := W.done
  self := W.self
theorem AOk.gen {k : Nat} {A A' : Around} (h : AOk (k + 1) A) (hh : A'.handled = none) (hd : A'.depth ≤ A.depth + 1) (hu : A'.units ≤ A.units + 8) : AOk k A' :=
  ⟨hh, by have := h.depth; omega, by have := h.units; omega⟩
theorem Keep.only {s s' : Shared} (k : Keep s s') : Keep s { s with heap := s'.heap, toks := s'.toks } := ⟨k.old, k.tab, k.ok, fun _ _ e => e, fun b => b, rfl, k.pt⟩
theorem stat_some (T : TopS w s) : s.heap.get? cStatics ≠ none := by
  have := T.kin 2 _ rfl
  have e : cStatics = 2 := rfl
  rw [e, this]; exact nofun
theorem Keep.eqs {s s' : Shared} {h : Heap} {t : Nat} {d : Drawn} (k : Keep s s') : Keep s { s' with drawn := d } := ⟨k.old, k.tab, k.ok, k.gens, k.bare, k.os, k.pt⟩
theorem TopS.heap {s s' : Shared} (T : TopS w s) (h : s'.heap = s.heap) : TopS w s' := ⟨h ▸ T.kin, h ▸ T.tab⟩

/-- a generator made since s, its items to come -/
def GenR (w : World) (A : Around) (s : Shared) (n : Nat) (P : Nat → Value → Prop) (v : Value) (s₅ : Shared) : Prop := ∃ a fp wr g St, v = .ref a ∧ WalksS pw w A.in4 a fp wr (GenOnlyQ g) n P St ∧ St 0 s₅ ∧ (∀ b ∈ fp, b < s₅.heap.objs.size) ∧ a ∈ fp ∧
  (∀ i s, St i s → s.TypeIs (.ref a) "generator") ∧ (∀ b ∈ wr, s.heap.get? b = none) ∧ (∀ b ∈ wr, tabAddrs.contains b = false) ∧ s.gens.size ≤ g ∧ Keep s s₅

/-- an iterator for a generator -/
def SrcG (w : World) (s : Shared) (n : Nat) (P : Nat → Value → Prop) (it : Value) (s₂ : Shared) : Prop := ∃ I fp wr St, it = .ref I ∧ (∀ A' : Around, A'.handled = none → Walks pw w A' I fp wr n P St) ∧ St 0 s₂.heap ∧
  (∀ b ∈ fp, b < s₂.heap.objs.size ∧ tabAddrs.contains b = false) ∧ (∀ b ∈ wr, s.heap.get? b = none) ∧ Keep s s₂ ∧ s₂.gens = s.gens

def SrcT (w : World) (s : Shared) (n : Nat) (P : Nat → Value → Value → Prop) (it : Value) (s₂ : Shared) : Prop := ∃ I fp wr St Mid, it = .ref I ∧
  (∀ A' : Around, A'.handled = none → WalksU pw w A' I fp wr n (fun i vals => ∃ va vb, vals = #[va, vb] ∧ P i va vb) St Mid) ∧ St 0 s₂.heap ∧
  (∀ b ∈ fp, b < s₂.heap.objs.size ∧ tabAddrs.contains b = false) ∧ (∀ b ∈ wr, s.heap.get? b = none) ∧ Keep s s₂ ∧ s₂.gens = s.gens
theorem genexp1 {k : Nat} {q : Addr × Addr} {bi : Addr} {elt iter : Expr} {x : Str} {px : Pos} {ifs : List Expr} {scope : Scope} {cl : List (Str × Addr)} {pos : Pos} {Q : Value → Shared → Prop} {n : Nat} {P : Nat → Value → Prop}
    (hA : AOk (k + 1) A) (T : TopS w s) (hq : q ∈ tabs) (hn : q.2 ≠ 205) (hc : env.code = .ref q.1) (hbi : peek (KF w.params) ⟨pw, w.params⟩ (builtinsFor env.globals env.builtins) = some bi) (pz : Nat → Bool) (F : Nat → Value → Prop)
    (hco : scope.isCoroutine = false) (hclos : closureFor scope env = pure cl) (hcell : ∀ y ∈ scope.names, y.2 ≠ .cell) (h0 : scope.names.lookup (".0" : Str) = some NameKind.local)
    (hx : scope.names.lookup x = some .local) (hkind : scope.kind = .function)
    (hsrc : wpAny (model pw w) A (eval iter env) (fun xv s₁ => wpAny (model pw w) A (pyIter xv) (SrcG w s n P) (fun _ _ => False) s₁) (fun _ _ => False) s)
    (helt : ∀ (C : Addr) code (A' : Around) i v s₃ m₃, AOk k A' → i < n → P i v → s₃.heap.Ns C m₃ → m₃ x = some v → Keep s { s with heap := s₃.heap, toks := s₃.toks } →
      wpAny (model pw w) A' (forIn ifs true fun c r => if r = true then do let ok ← isTrue c (genEnv scope cl C code bi env) (eval c (genEnv scope cl C code bi env)); pure (ForInStep.yield ok) else pure (ForInStep.yield r)) (fun ok s₄ => ok = pz i ∧ Keeps s₃ s₄) (fun _ _ => False) s₃ ∧
      (pz i = true → wpAny (model pw w) A' (eval elt (genEnv scope cl C code bi env)) (fun y s₄ => F i y ∧ Keeps s₃ s₄) (fun _ _ => False) s₃))
    (hQ : ∀ v s', GenR w A s ((List.range n).filter pz).length (fun j y => ∃ i, ((List.range n).filter pz)[j]? = some i ∧ F i y) v s' → Q v s')
    (hs : ∀ x, genFold iter env x = pure x) :
    wpAny (model pw w) A (eval (.GeneratorExp elt [⟨.Name x px, iter, ifs, 0⟩] scope pos) env) Q E s := by
  refine wpAny_GeneratorExp_walksQD hA.handled hco hclos hcell h0 hx hkind hA.room (wpAny_mono hsrc (fun xv s₁ h₁ => wpAny_mono h₁ (fun it s₂ h₂ => ?_) fun _ _ z => z.elim) fun _ _ z => z.elim) hs
  obtain ⟨I, fp, wr, St, rfl, W, hst, hfp, hwr, k₂, hg⟩ := h₂
  have T₂ := T.keep k₂
  refine ⟨nolimit T₂, gen_code T₂ hq hn hc fun code h₃ tk₃ k₃ e₃ hz₃ => ?_⟩
  have T₃ := T₂.keep k₃
  have K₃ := k₂.trans k₃
  have hoff : ∀ b ∈ wr, tabAddrs.contains b = false := fun b hb => (hfp b ((W A hA.handled).sub b hb)).2
  refine (pk T₃ hbi).here ?_
  refine ⟨I, fp, wr, n, fun i v => i < n ∧ P i v, St, pz, F, rfl, fun A' hA' => walks_bound (W A' hA'), (W A hA.handled).frame _ _ _ hst (fun b hb o e => k₃.old b o (solid_off (hfp b hb).2) e),
    fun b hb => Nat.lt_of_lt_of_le (hfp b hb).1 hz₃, nolimit T₃, fun hm => stat_some T (hwr _ hm), fun href hh => ?_, fun a h₅ tk gs hgb hag hsz₅ hk₅ W' hat => ?_⟩
  · have kk : ∀ s₃' : Shared, (∀ b ∈ List.range h₃.objs.size, b ∉ wr → ∀ o, href.get? b = some o → s₃'.heap.get? b = some o) → Keep s { s with heap := s₃'.heap, toks := s₃'.toks } := fun s₃' hkp => by
      have := Keep.upd (h' := s₃'.heap) (tk := s₃'.toks) T K₃ hwr hoff (fun b o hb e => hkp b (List.mem_range.mpr (Heap.lt_size e)) hb o (hh b o e))
      exact this.only
    exact ⟨fun A' E' i v s₃' m₃ hA' hD hU hP hn hm hkp => wpAny_mono (helt _ code A' i v s₃' m₃ (hA.gen hA' hD hU) hP.1 hP.2 hn hm (kk s₃' hkp)).1 (fun _ _ z => z) fun _ _ z => z.elim,
      fun A' E' i v s₃' m₃ hA' hD hU hP hpz hn hm hkp => wpAny_mono ((helt _ code A' i v s₃' m₃ (hA.gen hA' hD hU) hP.1 hP.2 hn hm (kk s₃' hkp)).2 hpz) (fun _ _ z => z) fun _ _ z => z.elim⟩
  · refine hQ _ _ ⟨a, _, _, _, _, rfl, W', hat, ?_, List.mem_cons_self, fun i s st => st.1.typeIs, ?_, ?_, ?_, ?_⟩
    · intro b hb
      show b < h₅.objs.size
      rw [hsz₅]
      rcases List.mem_cons.mp hb with rfl | hb
      · exact Nat.lt_succ_self _
      rcases List.mem_cons.mp hb with rfl | hb
      · exact Nat.lt_succ_of_lt hag
      · exact Nat.lt_succ_of_lt (Nat.lt_trans (List.mem_range.mp hb) hag)
    · intro b hb
      rcases List.mem_cons.mp hb with rfl | hb
      · exact none_back' T K₃ push_new
      · exact hwr b hb
    · intro b hb
      rcases List.mem_cons.mp hb with rfl | hb
      · exact off_of_none T₃ push_new
      · exact hoff b hb
    · rw [hg]; exact Nat.le_refl _
    · have k₅ : Keep { s₂ with heap := h₃, toks := tk₃ } { s₂ with heap := h₅, toks := tk } := .of_all hk₅ rfl rfl
      have K₅ := K₃.trans k₅
      refine ⟨K₅.old, K₅.tab, K₅.ok, fun i x e => ?_, fun b => ?_, K₅.os, K₅.pt⟩
      · have e' := K₅.gens i x e
        show (s₂.gens.push gs)[i]? = some x
        have hlt := (Array.getElem?_eq_some_iff.mp e').1
        rw [Array.getElem?_push_lt hlt]
        exact (Array.getElem?_eq_some_iff.mp e').2 ▸ rfl
      · exact (K₅.bare b).push hgb
theorem genexp2 {k : Nat} {q : Addr × Addr} {bi : Addr} {elt iter : Expr} {xa xb : Str} {pa pb pt : Pos} {kt : Nat} {ifs : List Expr} {scope : Scope} {cl : List (Str × Addr)} {pos : Pos} {Q : Value → Shared → Prop} {n : Nat} {P : Nat → Value → Value → Prop}
    (hA : AOk (k + 1) A) (T : TopS w s) (hq : q ∈ tabs) (hn : q.2 ≠ 205) (hc : env.code = .ref q.1) (hbi : peek (KF w.params) ⟨pw, w.params⟩ (builtinsFor env.globals env.builtins) = some bi) (pz : Nat → Bool) (F : Nat → Value → Prop)
    (hco : scope.isCoroutine = false) (hclos : closureFor scope env = pure cl) (hcell : ∀ y ∈ scope.names, y.2 ≠ .cell) (h0 : scope.names.lookup (".0" : Str) = some NameKind.local)
    (hxa : scope.names.lookup xa = some .local) (hxb : scope.names.lookup xb = some .local) (hab : xa ≠ xb) (hkind : scope.kind = .function)
    (hsrc : wpAny (model pw w) A (eval iter env) (fun xv s₁ => wpAny (model pw w) A (pyIter xv) (SrcT w s n P) (fun _ _ => False) s₁) (fun _ _ => False) s)
    (helt : ∀ (C : Addr) code (A' : Around) i va vb s₃ m₃, AOk k A' → i < n → P i va vb → s₃.heap.Ns C m₃ → m₃ xa = some va → m₃ xb = some vb → Keep s { s with heap := s₃.heap, toks := s₃.toks } →
      wpAny (model pw w) A' (forIn ifs true fun c r => if r = true then do let ok ← isTrue c (genEnv scope cl C code bi env) (eval c (genEnv scope cl C code bi env)); pure (ForInStep.yield ok) else pure (ForInStep.yield r)) (fun ok s₄ => ok = pz i ∧ Keeps s₃ s₄) (fun _ _ => False) s₃ ∧
      (pz i = true → wpAny (model pw w) A' (eval elt (genEnv scope cl C code bi env)) (fun y s₄ => F i y ∧ Keeps s₃ s₄) (fun _ _ => False) s₃))
    (hQ : ∀ v s', GenR w A s ((List.range n).filter pz).length (fun j y => ∃ i, ((List.range n).filter pz)[j]? = some i ∧ F i y) v s' → Q v s')
    (hs : ∀ x, genFold iter env x = pure x) :
    wpAny (model pw w) A (eval (.GeneratorExp elt [⟨.Tuple [.Name xa pa, .Name xb pb] kt pt, iter, ifs, 0⟩] scope pos) env) Q E s := by
  refine wpAny_GeneratorExp_walksQTD hA.handled hco hclos hcell h0 hxa hxb hab hkind hA.room (wpAny_mono hsrc (fun xv s₁ h₁ => wpAny_mono h₁ (fun it s₂ h₂ => ?_) fun _ _ z => z.elim) fun _ _ z => z.elim) hs
  obtain ⟨I, fp, wr, St, Mid, rfl, W, hst, hfp, hwr, k₂, hg⟩ := h₂
  have T₂ := T.keep k₂
  refine ⟨nolimit T₂, gen_code T₂ hq hn hc fun code h₃ tk₃ k₃ e₃ hz₃ => ?_⟩
  have T₃ := T₂.keep k₃
  have K₃ := k₂.trans k₃
  have hoff : ∀ b ∈ wr, tabAddrs.contains b = false := fun b hb => (hfp b ((W A hA.handled).sub b hb)).2
  refine (pk T₃ hbi).here ?_
  refine ⟨I, fp, wr, n, fun i vals => i < n ∧ ∃ va vb, vals = #[va, vb] ∧ P i va vb, St, Mid, pz, F, rfl, fun A' hA' => (W A' hA').bound, (fun i vals h => let ⟨_, va, vb, e, _⟩ := h; ⟨va, vb, e⟩), (W A hA.handled).frame _ _ _ hst (fun b hb o e => k₃.old b o (solid_off (hfp b hb).2) e),
    fun b hb => Nat.lt_of_lt_of_le (hfp b hb).1 hz₃, nolimit T₃, fun hm => stat_some T (hwr _ hm), fun href hh => ?_, fun a h₅ tk gs hgb hag hsz₅ hk₅ W' hat => ?_⟩
  · have pair : ∀ {i : Nat} {va vb : Value}, (∃ va' vb', #[va, vb] = #[va', vb'] ∧ P i va' vb') → P i va vb := fun h => by
      obtain ⟨_, _, e, p⟩ := h; simp at e; obtain ⟨rfl, rfl⟩ := e; exact p
    have kk : ∀ s₃' : Shared, (∀ b ∈ List.range h₃.objs.size, b ∉ wr → ∀ o, href.get? b = some o → s₃'.heap.get? b = some o) → Keep s { s with heap := s₃'.heap, toks := s₃'.toks } := fun s₃' hkp => by
      have := Keep.upd (h' := s₃'.heap) (tk := s₃'.toks) T K₃ hwr hoff (fun b o hb e => hkp b (List.mem_range.mpr (Heap.lt_size e)) hb o (hh b o e))
      exact this.only
    exact ⟨fun A' E' i va vb s₃' m₃ hA' hD hU hP hn hma hmb hkp => wpAny_mono (helt _ code A' i va vb s₃' m₃ (hA.gen hA' hD hU) hP.1 (pair hP.2) hn hma hmb (kk s₃' hkp)).1 (fun _ _ z => z) fun _ _ z => z.elim,
      fun A' E' i va vb s₃' m₃ hA' hD hU hP hpz hn hma hmb hkp => wpAny_mono ((helt _ code A' i va vb s₃' m₃ (hA.gen hA' hD hU) hP.1 (pair hP.2) hn hma hmb (kk s₃' hkp)).2 hpz) (fun _ _ z => z) fun _ _ z => z.elim⟩
  · refine hQ _ _ ⟨a, _, _, _, _, rfl, W', hat, ?_, List.mem_cons_self, fun i s st => st.1.typeIs, ?_, ?_, ?_, ?_⟩
    · intro b hb
      show b < h₅.objs.size
      rw [hsz₅]
      rcases List.mem_cons.mp hb with rfl | hb
      · exact Nat.lt_succ_self _
      rcases List.mem_cons.mp hb with rfl | hb
      · exact Nat.lt_succ_of_lt hag
      · exact Nat.lt_succ_of_lt (Nat.lt_trans (List.mem_range.mp hb) hag)
    · intro b hb
      rcases List.mem_cons.mp hb with rfl | hb
      · exact none_back' T K₃ push_new
      · exact hwr b hb
    · intro b hb
      rcases List.mem_cons.mp hb with rfl | hb
      · exact off_of_none T₃ push_new
      · exact hoff b hb
    · rw [hg]; exact Nat.le_refl _
    · have k₅ : Keep { s₂ with heap := h₃, toks := tk₃ } { s₂ with heap := h₅, toks := tk } := .of_all hk₅ rfl rfl
      have K₅ := K₃.trans k₅
      refine ⟨K₅.old, K₅.tab, K₅.ok, fun i x e => ?_, fun b => ?_, K₅.os, K₅.pt⟩
      · have e' := K₅.gens i x e
        show (s₂.gens.push gs)[i]? = some x
        have hlt := (Array.getElem?_eq_some_iff.mp e').1
        rw [Array.getElem?_push_lt hlt]
        exact (Array.getElem?_eq_some_iff.mp e').2 ▸ rfl
      · exact (K₅.bare b).push hgb

def TupG (F : Nat → Value → Prop) (is : List Nat) (v : Value) (l : Objs) : Prop := ∃ a ys n, v = .ref a ∧ l = [(a, tupObj ys n)] ∧ Paired F is ys
theorem paired_of {α : Type} {F : α → Value → Prop} : ∀ {is : List α} {ys : List Value}, ys.length = is.length → (∀ (j : Nat) (y : Value), ys[j]? = some y → ∃ i, is[j]? = some i ∧ F i y) → Paired F is ys
  | [], [], _, _ => .nil
  | i :: is, y :: ys, hl, h => by
    obtain ⟨i', e, f⟩ := h 0 y rfl
    cases e
    exact .cons f (paired_of (by simpa using hl) fun j y' hy => by simpa using h (j + 1) y' (by simpa using hy))

/-- what a generator's walk leaves -/
theorem keep_moved {s s₅ s' : Shared} {wr : List Addr} {g : Nat} (T : TopS w s) (k : Keep s s₅) (hwr : ∀ b ∈ wr, s.heap.get? b = none) (hoff : ∀ b ∈ wr, tabAddrs.contains b = false) (hg : s.gens.size ≤ g)
    (m : Moved wr (GenOnlyQ g) s₅ s') : Keep s s' := by
  have k' := Keep.upd (h' := s'.heap) (tk := s'.toks) T k hwr hoff m.heap
  refine ⟨k'.old, k'.tab, k'.ok, fun i x e => ?_, fun b => m.gens.bare (k.bare b), m.os.trans k.os, k'.pt⟩
  have e' := k.gens i x e
  rcases m.gens with h | ⟨h, _⟩
  · rw [h]; exact e'
  · have : i ≠ g := by have := (Array.getElem?_eq_some_iff.mp e).1; omega
    rw [h.2 i this]; exact e'

/-- tuple(the items of a generator) -/
theorem tuple_of {is : List Nat} {F : Nat → Value → Prop} {v : Value} {s₅ : Shared} {Q : Value → Shared → Prop} (T : TopS w s) (hl : is.length ≤ 1000) (h : GenR w A s is.length (fun j y => ∃ i, is[j]? = some i ∧ F i y) v s₅)
    (hQ : ∀ r s', Gives s (TupG F is) r s' → Q r s') : wpAny (model pw w) A (call (.type "tuple") [v]) Q E s₅ := by
  obtain ⟨a, fp, wr, g, St, rfl, W, hst, hfp, ha, hT, hwr, hoff, hg, k₅⟩ := h
  refine call_tuple_gen W.in4_3 hT hst hfp ha (fun s' acc hm hacc => ?_) (by rw [sizeLine_eq]; omega)
  have k' := keep_moved T k₅ hwr hoff hg hm
  refine hQ _ _ ⟨[(s'.heap.objs.size, tupObj acc.toList 0)], ⟨_, acc.toList, _, rfl, rfl, paired_of (by simpa using hacc.1) fun j y hy => hacc.2 j y (by simpa using hy)⟩, Has.cons ?_ (solid_cls rfl) .nil, ?_, k'.trans (push_keep (tk := s'.toks))⟩
  · have := Heap.get?_push_size s'.heap (o := { cls := .type "tuple", data := .seq acc }) rfl
    simpa using this
  · intro p hp
    simp at hp; subst hp
    exact none_back' T k' push_new
end
end Mine
end
section
open PySem PySem.W PySem.W.X PyProof.Rows PySem.Calls PySem.Spec
/-! GenSrc -/
namespace Mine
set_option maxRecDepth 100000

section
variable {w : World} {A : Around} {s : Shared} {E : Value → Shared → Prop}
theorem tup_next {it t : Addr} {i : Nat} {items : Array Value} {x : Value} {Q : Value → Shared → Prop} (hit : s.heap.IsTupleIter it t i) (ht : s.heap.IsTuple t items) (hx : items[i]? = some x)
    (hQ : ∀ h', h'.IsTupleIter it t (i + 1) → Heap.SameBut it s.heap h' → Q x { s with heap := h' }) : wpAny (model pw w) A (Builtin.SmallTypes.nextOf (.ref it)) Q E s := by
  obtain ⟨o, ho, hc, hd⟩ := id hit
  obtain ⟨ol, hol, _, nl, hdl⟩ := ht
  unfold Builtin.SmallTypes.nextOf
  refine wpAny_bind (wpAny_callSpecial?_slot (name := Str.ofString "__next__") hit.typeIs F.slot_tuple_iterator_next (wpAny_call_entry F.slot_tuple_iterator_next hit.typeIs F.entry_tuple_iterator_next ?_ (F.args_tuple_iterator_next_1 _)))
  show wpAny _ _ (field (.ref it) 0 >>= _) _ _ s
  refine wpAny_bind (wpAny_field ho hd (x := .ref t) rfl ?_)
  show wpAny _ _ (if (Value.ref t == Value.none) = true then _ else _) _ _ s
  rw [if_neg (show ¬ ((Value.ref t == Value.none) = true) from Bool.false_ne_true)]
  show wpAny _ _ (field (.ref it) 1 >>= _) _ _ s
  refine wpAny_bind (wpAny_field ho hd (x := .int i 0) rfl (wpAny_bind (wpAny_seqItems hol hdl ?_)))
  simp only [Int.toNat_natCast, hx]
  refine wpAny_bind (wpAny_setField ho hd (by simp) (wpAny_pure ⟨x, rfl, ?_⟩))
  refine wpAny_pure (hQ _ ?_ (Heap.SameBut.update ..))
  exact ⟨_, Heap.get?_update_self _ ho (Obj.isFreed_of_fields (Obj.data_mapFields hd _)), (Obj.cls_mapFields ..).trans hc, by
    rw [Obj.data_mapFields hd]; simp [rawInt]⟩
theorem tup_next_end {it t : Addr} {i : Nat} {items : Array Value} {Q : Value → Shared → Prop} (hh : A.handled = none) (hit : s.heap.IsTupleIter it t i) (ht : s.heap.IsTuple t items) (hx : items[i]? = none)
    (hE : ∀ h' e, Heap.ExtBut it s.heap h' → (∃ o, h'.get? e = some o ∧ o.cls = .type "StopIteration") → E (.ref e) { s with heap := h' }) : wpAny (model pw w) A (Builtin.SmallTypes.nextOf (.ref it)) Q E s := by
  obtain ⟨o, ho, hc, hd⟩ := id hit
  obtain ⟨ol, hol, _, nl, hdl⟩ := ht
  unfold Builtin.SmallTypes.nextOf
  refine wpAny_bind (wpAny_callSpecial?_slot (name := Str.ofString "__next__") hit.typeIs F.slot_tuple_iterator_next (wpAny_call_entry F.slot_tuple_iterator_next hit.typeIs F.entry_tuple_iterator_next ?_ (F.args_tuple_iterator_next_1 _)))
  show wpAny _ _ (field (.ref it) 0 >>= _) _ _ s
  refine wpAny_bind (wpAny_field ho hd (x := .ref t) rfl ?_)
  show wpAny _ _ (if (Value.ref t == Value.none) = true then _ else _) _ _ s
  rw [if_neg (show ¬ ((Value.ref t == Value.none) = true) from Bool.false_ne_true)]
  show wpAny _ _ (field (.ref it) 1 >>= _) _ _ s
  refine wpAny_bind (wpAny_field ho hd (x := .int i 0) rfl (wpAny_bind (wpAny_seqItems hol hdl ?_)))
  simp only [Int.toNat_natCast, hx]
  refine wpAny_bind (wpAny_rule (wpAny_bind (wpAny_setField ho hd (by simp) ?_)))
  show wpAny _ _ (newExc (.type "StopIteration") [] >>= _) _ _ _
  refine wpAny_bind ?_
  simp only [newExc, newTuple]
  refine wpAny_bind (wpAny_newObj_type ?_ (by size_fits))
  refine wpAny_bind (m := firstArgMember _ _) (wpAny_of_eq (a := Value.none) (by first | rfl | (simp only [firstArgMember]; rfl)) ?_)
  refine wpAny_newObj_type ?_ (by size_fits)
  simp only [raiseNew]
  refine wpAny_bind (wpAny_handled ?_)
  first | rw [show A.in1.handled = none from hh] | rw [hh]
  refine wpAny_bind (wpAny_pure (wpAny_throw ?_))
  exact hE _ _ (((Heap.SameBut.update ..).extBut.push _).push _) ⟨_, Heap.get?_push_size _ rfl, rfl⟩
theorem draws_tuple (hh : A.handled = none) (it t : Addr) (hne : t ≠ it) (items : Array Value) :
    Draws pw w A it [it, t] items.size (fun i v => items[i]? = some v) (fun i h => h.IsTupleIter it t i ∧ h.IsTuple t items) where
  live := fun _ _ st => let ⟨o, ho, _⟩ := st.1; ⟨o, ho⟩
  frame := fun _ _ _ st hk => ⟨st.1.at fun o e => hk it (by simp) o e, st.2.at fun o e => hk t (by simp) o e⟩
  item := fun i s Q E hi st hQ => by
    refine tup_next st.1 st.2 (x := items[i]) (by simp [hi]) fun h' hit' hs' => ?_
    exact hQ _ h' s.toks (by simp [hi]) ⟨hit', st.2.extBut hs'.extBut hne⟩ hs'
  done := fun s Q E st hE => tup_next_end hh st.1 st.2 (by simp) hE
end

section
variable {w : World} {S : Shared} {p : Addr} {ys : List Value} {n : Nat} {E Q : Value → Shared → Prop}
set_option hygiene false in
local macro_rules | `(tactic| x_close) => `(tactic| (exact hQ _ _ _ rfl (mem_keep (by assumption)) (mem_new (by assumption) (.head _)) (mem_new (by assumption) (.tail _ (.head _)))))
set_option maxHeartbeats 0 in
theorem call_enum_tuple (KX : Frag.In (KF w.params) S.heap) (hp : S.heap.get? p = some (tupObj ys n))
   (hQ : ∀ (e I : Addr) (s' : Shared), s'.gens = S.gens → Keep S s' → New S s' e { cls := .type "enumerate", data := .fields #[.none, .bool false, .ref I, rawInt 0, .none, .none] } →
     New S s' I { cls := .type "tuple_iterator", data := .fields #[.ref p, .int 0 0] } → Q (.ref e) s') :
   wpAny (model pw w) Amax (call (.type "enumerate") [.ref p] []) Q E S := by
  unfold tupObj at hp
  x_run
end
end Mine
end
section
open PySem PySem.W PySem.W.X PyProof.Rows PySem.Calls PySem.Spec
/-! Set2 -/
namespace Mine
set_option maxRecDepth 100000

section
variable {w : World} {A : Around} {s : Shared} {E : Value → Shared → Prop} {k : Nat}
theorem SrcG.back {s₁ s₂ : Shared} {n : Nat} {P : Nat → Value → Prop} {it : Value} (T : TopS w s) (k : Keep s s₁) (hg : s₁.gens = s.gens) (h : SrcG w s₁ n P it s₂) : SrcG w s n P it s₂ :=
  let ⟨I, fp, wr, St, e, W, b, c, d, k', g⟩ := h; ⟨I, fp, wr, St, e, W, b, c, fun x hx => none_back' T k (d x hx), k.trans k', g.trans hg⟩
theorem SrcT.back {s₁ s₂ : Shared} {n : Nat} {P : Nat → Value → Value → Prop} {it : Value} (T : TopS w s) (k : Keep s s₁) (hg : s₁.gens = s.gens) (h : SrcT w s₁ n P it s₂) : SrcT w s n P it s₂ :=
  let ⟨I, fp, wr, St, M, e, W, b, c, d, k', g⟩ := h; ⟨I, fp, wr, St, M, e, W, b, c, fun x hx => none_back' T k (d x hx), k.trans k', g.trans hg⟩
theorem srcg_range {r : Addr} {n : Nat} {t u v : Tok} (T : TopS w s) (hr : IsRange s.heap r 0 n 1 t u v) (hl : n ≤ 1000) :
    wpAny (model pw w) A (pyIter (.ref r)) (SrcG w s n fun i v => ∃ t, v = .int (i : Int) t) (fun _ _ => False) s := by
  have hsz : Builtin.Range.rangeSize 0 n 1 = (n : Int) := by rw [rangeSize_one]; split <;> omega
  refine wpAny_pyIter_range hr (small_one (by omega) (by omega) (by omega) (by omega)) ?_
  refine ⟨s.heap.objs.size, _, _, _, rfl, fun A' hA' => by simpa using Walks.range (prog := pw) (w := w) hA' s.heap.objs.size 0 1 n, ?_, ?_, ?_, push_keep (tk := s.toks), rfl⟩
  · have e := Heap.get?_push_size s.heap (o := { cls := .type "range_iterator", data := .fields #[rawInt 0, rawInt (Builtin.Range.rangeSize 0 n 1), rawInt 1] }) rfl
    rw [hsz] at e ⊢
    simpa using e
  · intro b hb
    simp at hb; subst hb
    exact ⟨by simp [Heap.size_push], off_of_none T push_new⟩
  · intro b hb; simp at hb; subst hb; exact push_new
/-- enumerate(a list) -/
theorem srct_list {a : Addr} {ys : List Value} {n : Nat} (T : TopS w s) (ha : s.heap.get? a = some (listObj ys n)) :
    wpAny (model pw w) A (call (.type "enumerate") [.ref a]) (fun xv s₁ => wpAny (model pw w) A (pyIter xv) (SrcT w s ys.length fun i va vb => (∃ t, va = .int (i : Int) t) ∧ ys[i]? = some vb) (fun _ _ => False) s₁) (fun _ _ => False) s := by
  have hL : s.heap.IsList a ys.toArray := ⟨_, ha, rfl, _, rfl⟩
  have hlt := Heap.lt_size ha
  refine call_enumerate_list hL fun h' he hi hz hk => wpAny_pyIter_enum he ?_
  have k' : Keep s { s with heap := h' } := .heapTok (tk := s.toks) hk
  have T' := T.keep k'
  have e' : (fun (i : Nat) (vals : Array Value) => ∃ t x, ys.toArray[i]? = some x ∧ vals = #[Value.int (i : Int) t, x]) = fun i vals => ∃ va vb, vals = #[va, vb] ∧ (∃ t, va = .int (i : Int) t) ∧ ys[i]? = some vb := by
    funext i vals
    apply propext
    constructor
    · rintro ⟨t, x, h1, h2⟩; exact ⟨_, _, h2, ⟨t, rfl⟩, by simpa using h1⟩
    · rintro ⟨_, x, h2, ⟨t, rfl⟩, h1⟩; exact ⟨t, x, by simpa using h1, h2⟩
  have W := fun (A' : Around) (hA' : A'.handled = none) => (WalksT.enumerate (prog := pw) (w := w) hA' (s.heap.objs.size + 1) s.heap.objs.size a (Nat.succ_ne_self _) (Nat.ne_of_lt (Nat.lt_succ_of_lt hlt)) (Nat.ne_of_lt hlt) ys.toArray).toU
  simp only [e', List.size_toArray] at W
  refine ⟨_, [s.heap.objs.size + 1, s.heap.objs.size, a], _, _, _, rfl, W, ?_, ?_, ?_, k', rfl⟩
  · exact ⟨⟨_, he⟩, hi, hL.at fun o e => hk _ o e⟩
  · intro b hb
    simp only [List.mem_cons, List.not_mem_nil, or_false] at hb
    rcases hb with rfl | rfl | rfl
    · exact ⟨by show _ < h'.objs.size; rw [hz]; exact Nat.lt_succ_self _, off_of_cls T' he rfl⟩
    · exact ⟨by show _ < h'.objs.size; rw [hz]; exact Nat.lt_succ_of_lt (Nat.lt_succ_self _), off_of_none T push_new⟩
    · exact ⟨by show _ < h'.objs.size; rw [hz]; exact Nat.lt_succ_of_lt (Nat.lt_succ_of_lt hlt), off_of_cls T ha rfl⟩
  · intro b hb
    simp only [List.mem_cons, List.not_mem_nil, or_false] at hb
    rcases hb with rfl | rfl
    · exact none_of_size (Nat.le_succ _)
    · exact push_new
/-- enumerate(a tuple) -/
theorem srct_tuple {a : Addr} {ys : List Value} {n : Nat} (hA : AOk k A) (T : TopS w s) (ha : s.heap.get? a = some (tupObj ys n)) :
    wpAny (model pw w) A (call (.type "enumerate") [.ref a]) (fun xv s₁ => wpAny (model pw w) A (pyIter xv) (SrcT w s ys.length fun i va vb => (∃ t, va = .int (i : Int) t) ∧ ys[i]? = some vb) (fun _ _ => False) s₁) (fun _ _ => False) s := by
  refine wk hA (call_enum_tuple T.kin ha fun e I s' hg k' he hI => ?_)
  have T' := T.keep k'
  have ha' := k'.old _ _ (solid_cls rfl) ha
  have hne : a ≠ I := fun h => by rw [h, hI.1] at ha; cases ha
  have hae : a ≠ e := fun h => by rw [h, he.1] at ha; cases ha
  have heI : e ≠ I := fun h => by have := he.2; rw [h, hI.2] at this; simp at this
  refine wpAny_pyIter_enum he.2 ?_
  have e' : (fun (i : Nat) (vals : Array Value) => ∃ t x, ys.toArray[i]? = some x ∧ vals = #[Value.int (i : Int) t, x]) = fun i vals => ∃ va vb, vals = #[va, vb] ∧ (∃ t, va = .int (i : Int) t) ∧ ys[i]? = some vb := by
    funext i vals
    apply propext
    constructor
    · rintro ⟨t, x, h1, h2⟩; exact ⟨_, _, h2, ⟨t, rfl⟩, by simpa using h1⟩
    · rintro ⟨_, x, h2, ⟨t, rfl⟩, h1⟩; exact ⟨t, x, by simpa using h1, h2⟩
  have W := fun (A' : Around) (hA' : A'.handled = none) => (WalksT.enumerateD (draws_tuple (A := A'.in1) (w := w) hA' I a hne ys.toArray) e heI (by simp [heI, Ne.symm hae]) (by simp)).toU
  simp only [e', List.size_toArray] at W
  refine ⟨_, [e, I, a], _, _, _, rfl, W, ?_, ?_, ?_, k', hg⟩
  · exact ⟨⟨_, he.2⟩, ⟨_, hI.2, rfl, rfl⟩, ⟨_, ha', rfl, _, rfl⟩⟩
  · intro b hb
    simp only [List.mem_cons, List.not_mem_nil, or_false] at hb
    rcases hb with rfl | rfl | rfl
    · exact ⟨Heap.lt_size he.2, off_of_cls T' he.2 rfl⟩
    · exact ⟨Heap.lt_size hI.2, off_of_cls T' hI.2 rfl⟩
    · exact ⟨Heap.lt_size ha', off_of_cls T ha rfl⟩
  · intro b hb
    simp only [List.mem_cons, List.not_mem_nil, or_false] at hb
    rcases hb with rfl | rfl
    · exact he.1
    · exact hI.1
end
end Mine
end
section
open PySem PySem.W PySem.W.X PyProof.Rows PySem.Calls PySem.Spec
/-! Set3 -/
namespace Mine
set_option maxRecDepth 100000

abbrev BoolF (v : Nat) (i : Nat) (y : Value) : Prop := y = .bool (has v i)
theorem test_eq (v i : Nat) : (Builtin.bitAnd ((v >>> i : Nat) : Int) 1 == 1) = has v i := by
  have e : Builtin.bitAnd ((v >>> i : Nat) : Int) 1 = ((v >>> i &&& 1 : Nat) : Int) := land_cast _ 1
  rw [e]
  unfold has Nat.testBit
  rw [Nat.and_comm, Nat.one_and_eq_mod_two]
  have : (v >>> i) % 2 = 0 ∨ (v >>> i) % 2 = 1 := by omega
  rcases this with h | h <;> rw [h] <;> rfl

section
variable {w : World} {A : Around} {s : Shared} {E : Value → Shared → Prop} {k : Nat}
theorem all_range (n : Nat) : (List.range n).filter (fun _ => true) = List.range n := by simp
theorem bools_c {p B dB mL : Addr} {v : Nat} {lB : List (Str × Value)} {ys : List Value} (hA : AOk (k + 3) A) (T : TopS w s) (hp : IsMB s p B v) (hB : IsBS s B dB lB mL ys) (hl : ys.length ≤ 60) {Q : Value → Shared → Prop}
    (hQ : ∀ r s', Gives s (TupG (BoolF v) (List.range ys.length)) r s' → Q r s') : wpAny (model pw w) A (call (.ref 42) [.ref p]) Q E s := by
  refine enter_cells hA T (T.kin 42 _ rfl) rfl rfl ⟨_, _, _, _, rfl, T.kin _ _ rfl, rfl, rfl⟩ rfl rfl (fun n x hx => ?_) (fun n => by simp [cellsFrom]) ?_
  · simp at hx; subst hx; exact .inr ⟨rfl, rfl⟩
  intro L s₁ hA₁ T₁ F₁ _
  have K₁ := F₁.keep
  have self₁ := F₁.c (Str.ofString "self") rfl rfl
  refine wpAny_execs_cons (wpAny_Return_some ?_)
  show wpAny _ _ _ Q _ _
  refine call_1 (nm_top T₁ (v := .type "tuple") (args_c (genexp1 (q := (41, 37)) (bi := 0) hA₁ T₁ (by decide) (by decide) rfl (by kernel_rfl) (fun _ => true) (BoolF v) rfl rfl (by decide) rfl rfl rfl (n := ys.length) (P := fun i v => ∃ t, v = .int (i : Int) t) ?_ ?_ ?_ (fun _ => rfl))))
  · obtain ⟨d, hb, t, kt, n, hp1, hp2⟩ := hp.keep K₁
    have hB₁ := hB.keep K₁
    refine call_1 (nm_top T₁ (v := .type "range") (args_c (call_1 (nm_top T₁ (v := .builtin "len") (args_c (Attribute_any_ (Attribute_any_ (nm_cell rfl self₁ ?_))))))))
    refine get_mb hA₁ T₁ hp1 hp2 fun tk => ?_
    refine get_own_ (T₁.keep toks_keep) hB₁.ins hB₁.dc hB₁.mem rfl (by kernel_rfl) ?_
    refine args_0 ⟨kp_builtin, ?_⟩
    obtain ⟨nn, hL⟩ := hB₁.list
    refine call_len_list (items := ys.toArray) ⟨_, hL, rfl, _, rfl⟩ (by simp; omega) (args_0 ⟨kp_type, wk hA₁ ?_⟩)
    rw [List.size_toArray]
    refine call_range (T₁.keep toks_keep).kin fun r t u v s₂ hg k₂ n₂ => ?_
    refine wpAny_mono (srcg_range (T₁.keep (Keep.trans toks_keep k₂)) n₂.2 (by omega)) (fun it s₃ h => ?_) fun _ _ z => z
    exact h.back T₁ (Keep.trans toks_keep k₂) hg
  · intro C code A' i vv s₃ m₃ hA' hi hP hn₃ hm₃ k₃
    obtain ⟨t, rfl⟩ := hP
    have T₃ : TopS w s₃ := (T₁.keep k₃).heap rfl
    obtain ⟨d, hb, t', kt, n, hp1, hp2⟩ := hp.keep (K₁.trans k₃)
    refine ⟨wpAny_tests_nil ⟨rfl, _, _, rfl, fun _ _ e => e⟩, fun _ => ?_⟩
    refine wpAny_Compare1 (wpAny_BinOp (wpAny_BinOp (nm_free rfl ((F₁.step k₃).c (Str.ofString "self") rfl rfl) (nm_local hn₃ ?_ hm₃))))
    refine rsh_mb_int hA' T₃ (by omega) hp1 fun tk tk' => ?_
    refine wpAny_Constant_int (and_int (wpAny_Constant_int (P.eq_int ⟨?_, _, _, rfl, fun _ _ e => e⟩)))
    show Value.bool _ = _
    rw [test_eq]
  · intro v' s' hg
    refine args_0 ⟨kp_type, ?_⟩
    rw [all_range] at hg
    exact tuple_of T₁ (by simp; omega) hg fun r s' g => hQ r s' (g.back T K₁)
theorem members_c {p B dB mL : Addr} {v : Nat} {lB : List (Str × Value)} {ys : List Value} (hA : AOk (k + 3) A) (T : TopS w s) (hp : IsMB s p B v) (hB : IsBS s B dB lB mL ys) (hl : ys.length ≤ 60) {Q : Value → Shared → Prop}
    (hQ : ∀ r s', Gives s (TupG (fun i y => ys[i]? = some y) (idx ys.length v)) r s' → Q r s') : wpAny (model pw w) A (call (.ref 35) [.ref p]) Q E s := by
  refine enter_cells hA T (T.kin 35 _ rfl) rfl rfl ⟨_, _, _, _, rfl, T.kin _ _ rfl, rfl, rfl⟩ rfl rfl (fun n x hx => ?_) (fun n => by simp [cellsFrom]) ?_
  · simp at hx; subst hx; exact .inr ⟨rfl, rfl⟩
  intro L s₁ hA₁ T₁ F₁ _
  have K₁ := F₁.keep
  have self₁ := F₁.c (Str.ofString "self") rfl rfl
  refine wpAny_execs_cons (wpAny_Return_some ?_)
  show wpAny _ _ _ Q _ _
  refine call_1 (nm_top T₁ (v := .type "tuple") (args_c (genexp2 (q := (34, 30)) (bi := 0) hA₁ T₁ (by decide) (by decide) rfl (by kernel_rfl) (has v) (fun i y => ys[i]? = some y) rfl rfl (by decide) rfl rfl rfl (by decide) rfl (n := ys.length)
    (P := fun i va vb => (∃ t, va = .int (i : Int) t) ∧ ys[i]? = some vb) ?_ ?_ ?_ (fun _ => rfl))))
  · obtain ⟨d, hb, t, kt, n, hp1, hp2⟩ := hp.keep K₁
    have hB₁ := hB.keep K₁
    refine call_1 (nm_top T₁ (v := .type "enumerate") (args_c (Attribute_any_ (Attribute_any_ (nm_cell rfl self₁ ?_)))))
    refine get_mb hA₁ T₁ hp1 hp2 fun tk => ?_
    refine get_own_ (T₁.keep toks_keep) hB₁.ins hB₁.dc hB₁.mem rfl (by kernel_rfl) ?_
    refine args_0 ⟨kp_type, ?_⟩
    obtain ⟨nn, hL⟩ := hB₁.list
    exact wpAny_mono (srct_list (T₁.keep toks_keep) hL) (fun it s₃ h => wpAny_mono h (fun _ _ h => by refine SrcT.back T₁ ?_ ?_ h; exact .of_all (fun _ _ e => e) rfl rfl; rfl) fun _ _ z => z) fun _ _ z => z
  · intro C code A' i va vb s₃ m₃ hA' hi hP hn₃ hma hmb k₃
    obtain ⟨⟨t, rfl⟩, hy⟩ := hP
    have T₃ : TopS w s₃ := (T₁.keep k₃).heap rfl
    obtain ⟨d, hb, t', kt, n, hp1, hp2⟩ := hp.keep (K₁.trans k₃)
    refine ⟨wpAny_tests_one (wpAny_isTrue_value (wpAny_BinOp (wpAny_BinOp (nm_free rfl ((F₁.step k₃).c (Str.ofString "self") rfl rfl) (nm_local hn₃ ?_ hma))))), fun _ => nm_local hn₃ ⟨hy, _, _, rfl, fun _ _ e => e⟩ hmb⟩
    refine rsh_mb_int hA' T₃ (by omega) hp1 fun tk tk' => ?_
    exact wpAny_Constant_int (and_int (P.truthy_int ⟨test_bit v i, _, _, rfl, fun _ _ e => e⟩))
  · intro v' s' hg
    refine args_0 ⟨kp_type, ?_⟩
    exact tuple_of T₁ (by have := List.length_filter_le (has v) (List.range ys.length); simp at this; omega) hg fun r s' g => hQ r s' (g.back T K₁)
end
end Mine
end
section
open PySem PySem.W PySem.W.X PyProof.Rows PySem.Calls PySem.Spec
/-! Iter -/
namespace Mine
set_option maxRecDepth 100000

section
variable {M : Model} {A : Around} {R : GenEnd} {Y : Protocol} {n : Nat} {s₀ : Shared} {c : Code} {fs : List Frame} {s : Shared} {env : Env}
  {K : Flow → Sem Fin} {H : Value → Sem Fin} {gd : Bool → Bool} {lv : List Value → List Value}
theorem seg_For {target iter : Expr} {body orelse : List Stmt} {pos : Pos}
    (h : wpAny M (A.over c fs) (eval iter env) (fun xv s₁ => wpAny M (A.over c fs) (pyIter xv) (fun it s₂ => ∀ kk p, Seg M A R Y n s₀ (.forLoop target it body orelse env) (M.den (.forLoop target it body orelse env)) (.ret kk none (gd false) (lv []) c p [] :: fs) s₂)
      (fun _ _ => False) s₁) (fun _ _ => False) s) (hs : ∀ x, foldedSetIterable iter env x = pure x := by intro _; rfl) :
    Seg M A R Y n s₀ c ((exec (.For target iter body orelse pos) env).wrap K H gd lv) fs s := by
  rw [exec_For]
  refine seg_bind_wrap (wpAny_standAt ?_)
  refine seg_bind_wrap (wpAny_mono h (fun xv s₁ h₁ => ?_) fun _ _ z => z.elim)
  refine seg_bind_wrap (wpAny_of_eq (hs xv) ?_)
  refine seg_bind_wrap (wpAny_standAt ?_)
  refine seg_bind_wrap (wpAny_holding (wpAny_mono h₁ (fun it s₂ h₂ => ?_) fun _ _ z => z.elim))
  exact seg_call (fun p => h₂ _ p)
end

/-- since s₀ only X changed, which is new to sb and outside Z -/
def Sin (sb : Shared) (Z : List Addr) (s₀ s' : Shared) : Prop := ∃ X : List Addr, (∀ a ∈ X, sb.heap.get? a = none ∧ tabAddrs.contains a = false ∧ a ∉ Z) ∧ ∃ h' tk, s' = { s₀ with heap := h', toks := tk } ∧ ∀ b o, b ∉ X → s₀.heap.get? b = some o → h'.get? b = some o
theorem Sin.refl (sb s : Shared) (Z : List Addr) : Sin sb Z s s := ⟨[], (fun _ e => nomatch e), s.heap, s.toks, rfl, fun _ _ _ e => e⟩
theorem Sin.step {sb s₀ s : Shared} {Z : List Addr} {h' : Heap} {tk : Nat} {X : List Addr} (x : Sin sb Z s₀ s) (hX : ∀ a ∈ X, sb.heap.get? a = none ∧ tabAddrs.contains a = false ∧ a ∉ Z) (hk : ∀ b o, b ∉ X → s.heap.get? b = some o → h'.get? b = some o) :
    Sin sb Z s₀ { s with heap := h', toks := tk } := by
  obtain ⟨X₁, n₁, h₁, tk₁, rfl, k₁⟩ := x
  refine ⟨X₁ ++ X, fun a ha => (List.mem_append.mp ha).elim (n₁ a) (hX a), h', tk, rfl, fun b o hb e => hk b o (fun h => hb (List.mem_append_right _ h)) (k₁ b o (fun h => hb (List.mem_append_left _ h)) e)⟩
theorem Sin.keep {w : World} {sb s₀ s : Shared} {Z : List Addr} (T : TopS w sb) (k : Keep sb s₀) (x : Sin sb Z s₀ s) : Keep sb s := by
  obtain ⟨X, n, h', tk, rfl, hk⟩ := x
  exact Keep.upd T k (fun a ha => (n a ha).1) (fun a ha => (n a ha).2.1) hk

/-- the items of a Vectors' own iterator, rs in all -/
def itProto (wd : World) (sb : Shared) (Z : List Addr) (rs : List Value) : Protocol := fun m s₀ v s' kap =>
  rs[rs.length - 1 - m]? = some v ∧ Sin sb Z s₀ s' ∧ (0 < m → ∀ s'' : Shared, (∀ b o, b ∉ Z → solid b o = true → s'.heap.get? b = some o → s''.heap.get? b = some o) → TopS wd s'' → (∀ z ∈ Z, s''.heap.get? z ≠ none) → kap (.send .none) s'')

abbrev genR : GenEnd := fun n s₀ r s₁ => r = .ok .next ∧ False
section
variable {w : World} {A : Around} {sb : Shared} {Z : List Addr}
abbrev itLoop (v : Str) (pv px py pz : Pos) (I : Addr) (env : Env) : Code := .forLoop (.Name v pv) (.ref I) [.Expr (.Yield (some (.Name v px)) py) pz] [] env
theorem seg_item1 {rs : List Value} {L I : Addr} {env : Env} {v : Str} {pv px py pz : Pos} {fr : Frame} (TB : TopS w sb) (hv : env.kindOf v = some .local) (hk : env.scope.kind = .function) (hco : env.scope.isCoroutine = false) (hi : interactive env = false)
    (hfs : splitAtGen [fr] = none) (hfg : [fr].any Frame.guarded = false) (hd : (v == ("__debug__" : Str)) = false)
    (hC : sb.heap.get? env.locals = none) (hCt : tabAddrs.contains env.locals = false) (hI : sb.heap.get? I = none) (hIt : tabAddrs.contains I = false) (hCZ : env.locals ∉ Z) (hIZ : I ∉ Z) (hIC : I ≠ env.locals) (hL : L ≠ I) (hLC : L ≠ env.locals) (hLt : tabAddrs.contains L = false) (hLZ : L ∉ Z)
    {m j : Nat} {s₀ s : Shared} {mm : Str → Option Value} (hj : rs.length - j = m + 1) (hs : Sin sb Z s₀ s) (hn : s.heap.Ns env.locals mm) (hit : s.heap.IsListIter I L j) (hl : s.heap.IsList L rs.toArray)
    (cont : 0 < m → ∀ s'' mm', s''.heap.Ns env.locals mm' → s''.heap.IsListIter I L (j + 1) → s''.heap.IsList L rs.toArray → Seg (model pw w) A genR (itProto w sb Z rs) m s'' (itLoop v pv px py pz I env) ((model pw w).den (itLoop v pv px py pz I env)) [fr] s'') :
      Seg (model pw w) A genR (itProto w sb Z rs) (m + 1) s₀ (itLoop v pv px py pz I env) ((model pw w).den (itLoop v pv px py pz I env)) [fr] s := by
  obtain ⟨x, hx⟩ : ∃ x, rs[j]? = some x := ⟨_, List.getElem?_eq_getElem (by omega)⟩
  show Seg _ A _ _ _ s₀ _ ((forTurn (.Name v pv) (.ref I) [.Expr (.Yield (some (.Name v px)) py) pz] [] env).onRaise (fun x => do noteFrame x env; theTreesLotGoes x)) [fr] s
  rw [Sem.onRaise_eq_wrap]
  unfold forTurn
  refine seg_bind_wrap (wpAny_standAt ?_)
  refine seg_bind_wrap (wpAny_onRaise (wpAny_pyNext_list_item hit hl (x := x) (by simpa using hx) fun h₁ hit₁ hs₁ => ?_))
  refine seg_bind_wrap (wpAny_of_eq (rfl : letOwnedTupleGo (.Name v pv) (.ref I) x = pure ()) ?_)
  refine seg_bind_wrap (wpAny_assign_Name (wpAny_storeName_local hv (hn.at' fun o e => hs₁.extBut _ o (Ne.symm hIC) e) (fun h₂ hn₂ hs₂ => ?_) (by simp [hk])))
  have S₂ : Sin sb Z s₀ { s with heap := h₂, toks := s.toks + 1 } := hs.step (X := [I, env.locals]) (fun a ha => by
      simp only [List.mem_cons, List.not_mem_nil, or_false] at ha
      rcases ha with rfl | rfl
      · exact ⟨hI, hIt, hIZ⟩
      · exact ⟨hC, hCt, hCZ⟩) fun b o hb e => by
    simp only [List.mem_cons, List.not_mem_nil, or_false, not_or] at hb
    exact hs₂.extBut b o hb.2 (hs₁.extBut b o hb.1 e)
  have hit₂ : h₂.IsListIter I L (j + 1) := hit₁.extBut hs₂.extBut hIC
  have hl₂ : h₂.IsList L rs.toArray := (hl.extBut hs₁.extBut hL).extBut hs₂.extBut hLC
  rw [Sem.bind_eq_wrap', Sem.wrap_wrap]
  refine seg_execs_cons ?_
  refine seg_Expr_Yield hfs rfl hfg (wpAny_Name (wpAny_loadName_local (v := x) hk hv hn₂ (by simp) ?_) hd) hco hi
  intro kap hkap
  refine ⟨?_, S₂, fun hm s'' hk'' _ _ => ?_⟩
  · have : rs.length - 1 - m = j := by omega
    rw [this]; exact hx
  · refine hkap .none s'' ?_
    refine seg_execs_nil (seg_again rfl ?_)
    exact cont hm s'' _ (hn₂.at' fun o e => hk'' _ o hCZ (solid_off hCt) e) (hit₂.at fun o e => hk'' _ o hIZ (solid_off hIt) e) (hl₂.at fun o e => hk'' _ o hLZ (solid_off hLt) e)
theorem seg_items {rs : List Value} {L I : Addr} {env : Env} {v : Str} {pv px py pz : Pos} {fr : Frame} (TB : TopS w sb) (hv : env.kindOf v = some .local) (hk : env.scope.kind = .function) (hco : env.scope.isCoroutine = false) (hi : interactive env = false)
    (hfs : splitAtGen [fr] = none) (hfg : [fr].any Frame.guarded = false) (hd : (v == ("__debug__" : Str)) = false)
    (hC : sb.heap.get? env.locals = none) (hCt : tabAddrs.contains env.locals = false) (hI : sb.heap.get? I = none) (hIt : tabAddrs.contains I = false) (hCZ : env.locals ∉ Z) (hIZ : I ∉ Z) (hIC : I ≠ env.locals) (hL : L ≠ I) (hLC : L ≠ env.locals) (hLt : tabAddrs.contains L = false) (hLZ : L ∉ Z) :
    ∀ (m j : Nat) (s₀ s : Shared) (mm : Str → Option Value), rs.length - j = m + 1 → Sin sb Z s₀ s → s.heap.Ns env.locals mm → s.heap.IsListIter I L j → s.heap.IsList L rs.toArray →
      Seg (model pw w) A genR (itProto w sb Z rs) (m + 1) s₀ (itLoop v pv px py pz I env) ((model pw w).den (itLoop v pv px py pz I env)) [fr] s := by
  intro m
  induction m with
  | zero => exact fun j s₀ s mm hj hs hn hit hl => seg_item1 TB hv hk hco hi hfs hfg hd hC hCt hI hIt hCZ hIZ hIC hL hLC hLt hLZ hj hs hn hit hl fun h => absurd h (Nat.lt_irrefl 0)
  | succ m ih => exact fun j s₀ s mm hj hs hn hit hl => seg_item1 TB hv hk hco hi hfs hfg hd hC hCt hI hIt hCZ hIZ hIC hL hLC hLt hLZ hj hs hn hit hl fun _ s'' mm' hn' hit' hl' => ih (j + 1) s'' s'' mm' (by omega) (Sin.refl _ _ _) hn' hit' hl'

/-- a Vectors with its vectors -/
structure IsV (s : Shared) (V dV : Addr) (lV : List (Str × Value)) (L : Addr) (rs : List Value) : Prop where
  ins : Ins s.heap V 213 dV
  dc : Dc s.heap dV lV
  vec : lV.lookup (Str.ofString "vectors") = some (.ref L)
  list : ∃ n, s.heap.get? L = some (listObj rs n)
theorem IsV.keep {s s' : Shared} {V dV L : Addr} {lV : List (Str × Value)} {rs : List Value} (h : IsV s V dV lV L rs) (k : Keep s s') : IsV s' V dV lV L rs :=
  ⟨h.ins.keep k, h.dc.keep k, h.vec, let ⟨n, e⟩ := h.list; ⟨n, k.old _ _ (solid_cls rfl) e⟩⟩
def Sol (Z : List Addr) (s s' : Shared) : Prop := ∀ b o, b ∉ Z → solid b o = true → s.heap.get? b = some o → s'.heap.get? b = some o
theorem IsV.sol {sb s s' : Shared} {V dV L : Addr} {lV : List (Str × Value)} {rs : List Value} (h : IsV sb V dV lV L rs) (K : Keep sb s) (Z : List Addr) (hZ : ∀ z ∈ Z, sb.heap.get? z = none) (k : Sol Z s s') : IsV s' V dV lV L rs := by
  have kk : ∀ b o, solid b o = true → sb.heap.get? b = some o → s'.heap.get? b = some o := fun b o so e => k b o (fun hm => by rw [hZ b hm] at e; cases e) so (K.old b o so e)
  exact ⟨let ⟨o, a, b⟩ := h.ins; ⟨o, a, kk _ _ (solid_cls (by unfold hasCls; rw [a.1])) b⟩, let ⟨o, a, b⟩ := h.dc; ⟨o, a, kk _ _ a.solid b⟩, h.vec, let ⟨n, e⟩ := h.list; ⟨n, kk _ _ (solid_cls rfl) e⟩⟩

/-- a Vectors' own iterator, j of its items taken -/
def GIt (w : World) (A : Around) (sb : Shared) (Z : List Addr) (a : Addr) (rs : List Value) (j : Nat) (s : Shared) : Prop := ∃ g, s.heap.IsGen a g ∧ sb.gens.size ≤ g ∧ ∃ gs, s.gens[g]? = some gs ∧ gs.bare = true ∧
  (j < rs.length → ∀ s'', TopS w s'' → Sol (a :: Z) s s'' → (∀ z ∈ a :: Z, s''.heap.get? z ≠ none) → gs.Goes (model pw w) A.in1 genR (itProto w sb (a :: Z) rs) (rs.length - j) (.send .none) s'')

theorem iter_make {s : Shared} {E : Value → Shared → Prop} {V dV L : Addr} {lV : List (Str × Value)} {rs : List Value} {k : Nat} {Q : Value → Shared → Prop} (hA : AOk (k + 1) A) (TB : TopS w sb) (K : Keep sb s) (hZ : ∀ z ∈ Z, s.heap.get? z ≠ none) (hZn : ∀ z ∈ Z, sb.heap.get? z = none) (hV : IsV sb V dV lV L rs)
    (hQ : ∀ a s', s'.TypeIs (.ref a) "generator" → a ∉ Z → Keep s s' → (∀ A', GIt w A' sb Z a rs 0 s') → Q (.ref a) s') : wpAny (model pw w) A (call (.ref 172) [.ref V]) Q E s := by
  have T := TB.keep K
  refine wpAny_call (codeAny_call_generator (A := A) hA.room (T.kin 172 _ rfl) rfl rfl rfl rfl ⟨_, _, _, _, rfl, T.kin _ _ rfl, rfl, rfl⟩ ?_)
  refine wpAny_of_eq (a := [(Str.ofString "self", Value.ref V)]) rfl ?_
  refine wpAny_newFunctionEnv (by decide) (fun x hx => by simp at hx; subst hx; rfl) (fun h₁ hn₁ hs₁ => ?_)
  have old : ∀ b o, s.heap.get? b = some o → h₁.get? b = some o := fun b o e => hs₁.extBut b o (Nat.ne_of_lt (Heap.lt_size e)) (Heap.get?_push_of_some _ e)
  have k₁ : Keep s { s with heap := h₁, toks := s.toks + 1 } := .heapTok old
  have hCn : s.heap.get? s.heap.objs.size = none := push_new
  have hCt := off_of_none T hCn
  generalize hCe : s.heap.objs.size = C at *
  refine ⟨nolimit (T.keep k₁), ?_⟩
  have haN : sb.heap.get? h₁.objs.size = none := by
    refine none_back' TB (K.trans k₁) (none_of_size (Nat.le_refl _))
  have hZn' : ∀ z ∈ h₁.objs.size :: Z, sb.heap.get? z = none := fun z hz => (List.mem_cons.mp hz).elim (fun e => e ▸ haN) (hZn z)
  refine hQ _ _ ⟨_, Heap.get?_push_size _ rfl, rfl⟩ (fun hm => hZ _ hm (none_back' T k₁ (none_of_size (Nat.le_refl _)))) ?_ fun A' => ⟨s.gens.size, ⟨_, _, _, Heap.get?_push_size _ rfl, rfl, rfl, rfl⟩, ?_, _, Array.getElem?_push_size .., rfl, fun hj s'' T'' sol hz => ⟨rfl, ?_⟩⟩
  · have k₂ : Keep s { s with heap := h₁.push { cls := .type "generator", data := .fields #[.int s.gens.size 0, .str (Str.ofString "__iter__") (s.toks + 1), .str (Str.ofString "Tuple.__iter__") (s.toks + 1 + 1)] }, toks := s.toks + 1 + 1 + 1 } :=
      .heapTok fun b o e => Heap.get?_push_of_some _ (old b o e)
    refine ⟨k₂.old, k₂.tab, k₂.ok, fun i x e => ?_, fun b => AllBare.push b rfl, rfl, k₂.pt⟩
    have hlt := (Array.getElem?_eq_some_iff.mp e).1
    show (s.gens.push _)[i]? = some x
    rw [Array.getElem?_push_lt hlt]
    exact (Array.getElem?_eq_some_iff.mp e).2 ▸ rfl
  · rcases Nat.lt_or_ge s.gens.size sb.gens.size with h | h
    · have := K.gens s.gens.size _ (Array.getElem?_eq_getElem h)
      exact absurd (Array.getElem?_eq_some_iff.mp this).1 (Nat.lt_irrefl _)
    · exact h
  · have K₂ : Keep sb { s with heap := h₁.push { cls := .type "generator", data := .fields #[.int s.gens.size 0, .str (Str.ofString "__iter__") (s.toks + 1), .str (Str.ofString "Tuple.__iter__") (s.toks + 1 + 1)] }, toks := s.toks + 1 + 1 + 1 } :=
      K.trans (.heapTok fun b o e => Heap.get?_push_of_some _ (old b o e))
    have V'' : IsV s'' V dV lV L rs := hV.sol K₂ _ hZn' sol
    have hCZ : C ∉ h₁.objs.size :: Z := fun hm => by
      rcases List.mem_cons.mp hm with h | h
      · have h1 : C = h₁.objs.size := h
        have h2 : C < h₁.objs.size := hn₁.lt
        rw [← h1] at h2; exact Nat.lt_irrefl _ h2
      · exact hZ _ h hCn
    have n'' : s''.heap.Ns C _ := hn₁.at' fun o e => sol _ o hCZ (solid_off hCt) (Heap.get?_push_of_some _ e)
    refine seg_func (seg_execs_cons (seg_For (Attribute_any_ (nm_local n'' (get_own_ T'' V''.ins V''.dc V''.vec rfl (by kernel_rfl) ?_)))))
    obtain ⟨nn, hL⟩ := V''.list
    obtain ⟨nn', hL'⟩ := hV.list
    have hIn : s''.heap.get? s''.heap.objs.size = none := push_new
    have hIt := off_of_none T'' hIn
    refine wpAny_pyIter_list (items := rs.toArray) ⟨_, hL, rfl, _, rfl⟩ fun kk p => ?_
    obtain ⟨m, hm⟩ : ∃ m, rs.length - 0 = m + 1 := ⟨rs.length - 1, by omega⟩
    rw [hm]
    refine seg_items TB rfl rfl rfl rfl rfl rfl (by decide +kernel) (none_back' TB K hCn) hCt ?_ hIt hCZ (fun hm => hz _ hm hIn) ?_ ?_ ?_ (off_of_cls T'' hL rfl) (fun hm => by rw [hZn' _ hm] at hL'; cases hL') m 0 _ _ _ hm ?_ (n''.push _) ⟨_, Heap.get?_push_size _ rfl, rfl, rfl⟩ ⟨_, Heap.get?_push_of_some _ hL, rfl, _, rfl⟩
    · cases e : sb.heap.get? s''.heap.objs.size with
      | none => rfl
      | some o =>
        have := sol _ o (fun hm => hz _ hm hIn) (solid_off hIt) (Heap.get?_push_of_some _ (old _ o (K.old _ o (solid_off hIt) e)))
        rw [this] at hIn; cases hIn
    · intro h
      obtain ⟨o, _, _, e, _⟩ := n''
      have h' : s''.heap.objs.size = C := h
      rw [← h', hIn] at e; cases e
    · intro h; rw [h, hIn] at hL; cases hL
    · intro h; have h' : L = C := h; rw [h', none_back' TB K hCn] at hL'; cases hL'
    · refine ⟨[], (fun _ e => nomatch e), _, _, rfl, fun b o _ e => Heap.get?_push_of_some _ e⟩

theorem git_next {s : Shared} {E : Value → Shared → Prop} {a : Addr} {rs : List Value} {j k : Nat} {x : Value} {Q : Option Value → Shared → Prop} (hA : AOk k A) (TB : TopS w sb) (K : Keep sb s) (hZ : ∀ z ∈ Z, s.heap.get? z ≠ none) (G : GIt w A sb Z a rs j s)
    (hx : rs[j]? = some x)
    (hQ : ∀ s', Keep sb s' → (∃ X : List Addr, (∀ b ∈ X, b ∉ Z) ∧ ∀ b o, b ∉ X → s.heap.get? b = some o → s'.heap.get? b = some o) → GIt w A sb Z a rs (j + 1) s' → Q (some x) s') :
    wpAny (model pw w) A (pyNext (.ref a)) Q E s := by
  have T := TB.keep K
  have hj : j < rs.length := (List.getElem?_eq_some_iff.mp hx).1
  obtain ⟨g, hg, hgl, gs, hgs, hbare, hgo⟩ := G
  have pa : s.heap.get? a ≠ none := by obtain ⟨o, _, _, e, _⟩ := hg; rw [e]; exact nofun
  have hz : ∀ z ∈ a :: Z, s.heap.get? z ≠ none := fun z hz => (List.mem_cons.mp hz).elim (fun e => e ▸ pa) (hZ z)
  obtain ⟨m, hm⟩ : ∃ m, rs.length - j = m + 1 := ⟨rs.length - j - 1, by omega⟩
  refine wpAny_pyNext_genexpQ (P := fun _ _ _ => False) (Y := itProto w sb (a :: Z) rs) (n := rs.length - j) hA.handled (nolimit T) hA.room hg hgs (hgo hj _ (T.heap rfl) (fun _ _ _ _ e => e) hz) (fun v s₁ gs' hb hv => ?_) (fun s₁ hp => hp.elim)
  rw [hm] at hv
  obtain ⟨hv1, ⟨X, hX, h', tk, rfl, hk⟩, hv3⟩ := hv
  have hi : rs.length - 1 - (m + 1 - 1) = j := by omega
  rw [hi, hx] at hv1
  cases hv1
  have aX : a ∉ X := fun h => (hX a h).2.2 List.mem_cons_self
  have k' : Keep sb { s with heap := h', toks := tk } := Keep.upd TB K (fun b hb => (hX b hb).1) (fun b hb => (hX b hb).2.1) hk
  have hlt := (Array.getElem?_eq_some_iff.mp hgs).1
  refine hQ _ ⟨k'.old, k'.tab, k'.ok, fun i y e => ?_, fun b => ?_, k'.os, k'.pt⟩ ⟨X, fun b hb hz => (hX b hb).2.2 (List.mem_cons_of_mem _ hz), hk⟩ ⟨g, ?_, hgl, gs', setGen_self (gs := .running) (setGen_self hgs), hb, fun hj' s'' T'' sol hz'' => ?_⟩
  · have hne : i ≠ g := by have := (Array.getElem?_eq_some_iff.mp e).1; omega
    have := ((GenOnly.setGen s g .running).trans (GenOnly.setGen { s.setGen g .running with heap := h', toks := tk } g gs')).2 i hne
    exact this.trans (K.gens i y e)
  · exact GenOnlyQ.bare (GenOnlyQ.of ((GenOnly.setGen s g .running).trans (GenOnly.setGen { s.setGen g .running with heap := h', toks := tk } g gs')) (setGen_self (gs := .running) (setGen_self hgs)) hb) (K.bare b)
  · obtain ⟨o, _, _, e, r⟩ := hg; exact ⟨o, _, _, hk _ _ aX e, r⟩
  · have := hv3 (by omega) s'' sol T'' hz''
    have e : rs.length - (j + 1) = m := by omega
    rw [e]
    exact this
theorem GIt.step {s s' : Shared} {a : Addr} {rs : List Value} {j : Nat} (G : GIt w A sb Z a rs j s) (hg : s'.gens = s.gens) (hk : ∀ b o, b ∉ Z → s.heap.get? b = some o → s'.heap.get? b = some o) (ha : a ∉ Z) : GIt w A sb Z a rs j s' := by
  obtain ⟨g, ⟨o, nm, qn, e, r⟩, hgl, gs, hgs, hb, hgo⟩ := G
  exact ⟨g, ⟨o, nm, qn, hk _ _ ha e, r⟩, hgl, gs, hg ▸ hgs, hb, fun hj s'' T'' sol hz => hgo hj s'' T'' (fun b o hb so e => sol b o hb so (hk b o (fun h => hb (List.mem_cons_of_mem _ h)) e)) hz⟩
end
end Mine
end
section
open PySem PySem.W PySem.W.X PyProof.Rows PySem.Calls PySem.Spec
/-! Mask -/
namespace Mine
set_option maxRecDepth 100000

def maskAnd : Nat → List Nat → Nat → Nat
  | _, [], acc => acc
  | bits, r :: rows, acc => if bits >>> 1 = 0 then (if bits.testBit 0 then acc &&& r else acc) else maskAnd (bits >>> 1) rows (if bits.testBit 0 then acc &&& r else acc)

/-- a number, plain or of MemberBits -/
def Num (s : Shared) (v : Value) (n : Nat) : Prop := (∃ t, v = .int (n : Int) t) ∨ ∃ p d t, v = .ref p ∧ s.heap.get? p = some (mbObj d n t)

section
variable {w : World} {A : Around} {s₀ s : Shared} {E : Value → Shared → Prop} {env : Env} {own : List (Str × Addr)} {m m' cm : Str → Option Value} {k : Nat}
theorem Fm.top (T : TopS w s₀) (F : Fm s₀ env own m cm s) : TopS w s := T.keep F.keep
theorem Fm.sin {s' : Shared} {X : List Addr} (F : Fm s₀ env own m cm s) (K : Keep s₀ s') (hX : ∀ b ∈ X, b ∉ mutX env own) (hk : ∀ b o, b ∉ X → s.heap.get? b = some o → s'.heap.get? b = some o) : Fm s₀ env own m cm s' :=
  ⟨K, F.ns.at' fun o e => hk _ o (fun h => hX _ h List.mem_cons_self) e, fun n c hc => let ⟨o, a, b⟩ := F.cell n c hc; ⟨o, hk _ _ (fun h => hX _ h (mem_mut (mem_of_lookup hc))) a, b⟩, F.apart, F.new, F.ne, F.nd⟩
theorem Fm.set {h' : Heap} {tk : Nat} (T : TopS w s₀) (F : Fm s₀ env own m cm s) (hn : h'.Ns env.locals m') (hs : Heap.SameBut env.locals s.heap h') : Fm s₀ env own m' cm { s with heap := h', toks := tk } := by
  have new := F.new _ (List.mem_cons_self (a := env.locals) (l := own.map (·.2)))
  refine ⟨Keep.upd (X := [env.locals]) T F.keep (fun a ha => ?_) (fun a ha => ?_) (fun b o hb e => hs.extBut b o (fun h => hb (h ▸ List.mem_cons_self)) e), hn, fun n c hc => ?_, F.apart, F.new, F.ne, F.nd⟩
  · obtain rfl := List.mem_singleton.mp ha; exact new.1
  · obtain rfl := List.mem_singleton.mp ha; exact new.2
  · obtain ⟨o, a, b⟩ := F.cell n c hc
    exact ⟨o, hs.extBut _ _ (F.ne _ (mem_of_lookup hc)) a, b⟩
theorem Fm.pres (F : Fm s₀ env own m cm s) : ∀ z ∈ mutX env own, s.heap.get? z ≠ none := fun z hz => fun h => F.other h hz
theorem Fm.toks {tk : Nat} (F : Fm s₀ env own m cm s) : Fm s₀ env own m cm { s with toks := tk } := F.step toks_keep

theorem num_and1 {v : Value} {n : Nat} {t : Tok} {Q : Value → Shared → Prop} (hA : AOk k A) (T : TopS w s₀) (F : Keep s₀ s) (h : Num s₀ v n) (hQ : ∀ t tk, Q (.int (((n &&& 1 : Nat)) : Int) t) { s with toks := tk }) :
    wpAny (model pw w) A (binaryOp .BitAnd v (.int 1 t)) Q E s := by
  rcases h with ⟨t', rfl⟩ | ⟨p, d, t', rfl, hp⟩
  · refine and_int ?_
    have e : Builtin.bitAnd (n : Int) 1 = ((n &&& 1 : Nat) : Int) := land_cast n 1
    rw [e]; exact hQ _ _
  · exact and_mb_int (c := 1) hA (T.keep F) (F.old _ _ (solid_cls rfl) hp) hQ
theorem num_iand {v : Value} {n c : Nat} {o d : Addr} {t : Tok} {Q : Value → Shared → Prop} (hA : AOk k A) (T : TopS w s₀) (F : Keep s₀ s) (h : Num s₀ v n) (ho : s₀.heap.get? o = some (mbObj d c t)) (hQ : ∀ t tk, Q (.int (((n &&& c : Nat)) : Int) t) { s with toks := tk }) :
    wpAny (model pw w) A (inplaceOp .BitAnd v (.ref o)) Q E s := by
  rcases h with ⟨t', rfl⟩ | ⟨p, d, t', rfl, hp⟩
  · exact iand_int_mb hA (T.keep F) (F.old _ _ (solid_cls rfl) ho) hQ
  · exact iand_mb_mb hA (T.keep F) (F.old _ _ (solid_cls rfl) hp) (F.old _ _ (solid_cls rfl) ho) hQ
theorem num_irsh {v : Value} {n : Nat} {t : Tok} {Q : Value → Shared → Prop} (hA : AOk k A) (T : TopS w s₀) (F : Keep s₀ s) (h : Num s₀ v n) (hQ : ∀ t tk, Q (.int (((n >>> 1 : Nat)) : Int) t) { s with toks := tk }) :
    wpAny (model pw w) A (inplaceOp .RShift v (.int 1 t)) Q E s := by
  rcases h with ⟨t', rfl⟩ | ⟨p, d, t', rfl, hp⟩
  · refine irshift_int (by decide) ?_
    rw [show (n : Int).fdiv (2 ^ (1 : Int).toNat) = ((n >>> 1 : Nat) : Int) from shr_cast n 1]; exact hQ _ _
  · exact irsh_mb_int (i := 1) hA (T.keep F) (by decide) (F.old _ _ (solid_cls rfl) hp) hQ

/-- where only locals are names -/
structure Loc (env : Env) (x : Str) : Prop where
  kind : env.kindOf x = some .local
  dbg : (x == ("__debug__" : Str)) = false
theorem Fm.store {x : Str} {v : Value} {Q : Unit → Shared → Prop} (T : TopS w s₀) (F : Fm s₀ env own m cm s) (hf : env.scope.kind = .function) (hx : Loc env x)
    (h : ∀ s', Fm s₀ env own (fun y => if y = x then some v else m y) cm s' → s'.gens = s.gens → (∀ b o, b ≠ env.locals → s.heap.get? b = some o → s'.heap.get? b = some o) → Q () s') : wpAny (model pw w) A (storeName env x v) Q E s :=
  wpAny_storeName_local hx.kind F.ns (fun h' hn hs => h _ (Fm.set T F hn hs) rfl fun b o hb e => hs.extBut b o hb e) (by simp [hf])
theorem Fm.load {x : Str} {v : Value} {Q : Value → Shared → Prop} (F : Fm s₀ env own m cm s) (hf : env.scope.kind = .function) (hx : Loc env x) (hv : m x = some v) (h : Q v s) : wpAny (model pw w) A (loadName env x) Q E s :=
  wpAny_loadName_local hf hx.kind F.ns hv h
theorem Fm.name {x : Str} {v : Value} {pos : Pos} {Q : Value → Shared → Prop} (F : Fm s₀ env own m cm s) (hf : env.scope.kind = .function) (hx : Loc env x) (hv : m x = some v) (h : Q v s) : wpAny (model pw w) A (eval (.Name x pos) env) Q E s :=
  wpAny_Name (F.load hf hx hv h) hx.dbg

abbrev maskBody (xo xb xa : Str) (p3 p4 p5 p6 p7 p8 p9 p10 p11 p12 p13 p14 p15 p16 : Pos) : List Stmt :=
  [.If (.BinOp (.Name xb p3) .BitAnd (.Constant (.int 1) 0 p4) p5) [.AugAssign (.Name xa p6) .BitAnd (.Name xo p7) p8] [] p9, .AugAssign (.Name xb p10) .RShift (.Constant (.int 1) 0 p11) p12, .If (.UnaryOp .Not (.Name xb p13) p14) [.Break p15] [] p16]

/-- what the loop's names keep -/
def Off (xs : List Str) (m m' : Str → Option Value) : Prop := ∀ y, y ∉ xs → m' y = m y
theorem Off.refl (xs : List Str) (m : Str → Option Value) : Off xs m m := fun _ _ => rfl
theorem Off.set {xs : List Str} {m m' : Str → Option Value} {x : Str} {v : Value} (h : Off xs m m') (hx : x ∈ xs) : Off xs m (fun y => if y = x then some v else m' y) := fun y hy => by
  have : y ≠ x := fun e => hy (e ▸ hx)
  simp [this, h y hy]

theorem mask_body {xo xb xa : Str} {p3 p4 p5 p6 p7 p8 p9 p10 p11 p12 p13 p14 p15 p16 : Pos} {o d : Addr} {vb va : Value} {nb na c : Nat} {t : Tok} {Q : Flow → Shared → Prop} (hA : AOk k A) (T : TopS w s₀) (F : Fm s₀ env own m cm s)
    (hf : env.scope.kind = .function) (ho : Loc env xo) (hb : Loc env xb) (ha : Loc env xa) (hba : xb ≠ xa) (hob : xo ≠ xb) (hoa : xo ≠ xa) (mo : m xo = some (.ref o)) (mb : m xb = some vb) (ma : m xa = some va) (Nb : Num s₀ vb nb) (Na : Num s₀ va na)
    (hO : s₀.heap.get? o = some (mbObj d c t))
    (hQ : ∀ s' m' va', Fm s₀ env own m' cm s' → Off [xb, xa] m m' → (∃ t, m' xb = some (.int ((nb >>> 1 : Nat) : Int) t)) → m' xa = some va' → Num s₀ va' (if nb.testBit 0 then na &&& c else na) → s'.gens = s.gens → (∀ b o, b ≠ env.locals → s.heap.get? b = some o → s'.heap.get? b = some o) →
      Q (if nb >>> 1 = 0 then .brk else .next) s') :
    wpAny (model pw w) A (execs (maskBody xo xb xa p3 p4 p5 p6 p7 p8 p9 p10 p11 p12 p13 p14 p15 p16) env) Q E s := by
  -- the second half
  have rest : ∀ (s₁ : Shared) (m₁ : Str → Option Value) (va₁ : Value), Fm s₀ env own m₁ cm s₁ → Off [xb, xa] m m₁ → m₁ xb = some vb → m₁ xa = some va₁ → Num s₀ va₁ (if nb.testBit 0 then na &&& c else na) → s₁.gens = s.gens → (∀ b o, b ≠ env.locals → s.heap.get? b = some o → s₁.heap.get? b = some o) →
      wpAny (model pw w) A (execs [.AugAssign (.Name xb p10) .RShift (.Constant (.int 1) 0 p11) p12, .If (.UnaryOp .Not (.Name xb p13) p14) [.Break p15] [] p16] env) Q E s₁ := by
    intro s₁ m₁ va₁ F₁ o₁ mb₁ ma₁ N₁ g₁ k₁
    refine wpAny_execs_cons (wpAny_AugAssign_Name (F₁.load hf hb mb₁ (wpAny_Constant_int (num_irsh hA T (F₁.keep.trans toks_keep) Nb fun t' tk => ?_))))
    refine Fm.store T F₁.toks hf hb fun s₂ F₂ g₂ k₂ => ?_
    refine wpAny_execs_cons (wpAny_If (wpAny_isTrue_Not (wpAny_isTrue_value (F₂.name hf hb (v := .int ((nb >>> 1 : Nat) : Int) t') (by simp) (P.truthy_int ?_)))))
    have fin := hQ s₂ _ va₁ F₂ (o₁.set List.mem_cons_self) ⟨t', by simp⟩ (by simp [Ne.symm hba, ma₁]) N₁ (g₂.trans g₁) (fun b o hb e => k₂ b o hb (k₁ b o hb e))
    by_cases h0 : nb >>> 1 = 0
    · rw [if_pos h0] at fin
      simp only [h0]
      exact wpAny_execs_cons (wpAny_Break fin)
    · rw [if_neg h0] at fin
      have e : (!(((nb >>> 1 : Nat) : Int) != 0)) = false := by
        have : ((nb >>> 1 : Nat) : Int) ≠ 0 := by exact_mod_cast h0
        rw [bne_iff_ne.mpr this]; rfl
      rw [e]
      exact wpAny_execs_nil (wpAny_execs_nil fin)
  refine wpAny_execs_cons (wpAny_If (wpAny_isTrue_value (wpAny_BinOp (F.name hf hb mb (wpAny_Constant_int (num_and1 hA T (F.keep.trans toks_keep) Nb fun t' tk => P.truthy_int ?_))))))
  have e : ((((nb &&& 1 : Nat)) : Int) != 0) = nb.testBit 0 := by
    unfold Nat.testBit
    rw [Nat.and_comm, Nat.shiftRight_zero]
    cases h : (1 &&& nb) <;> simp
    omega
  rw [e]
  cases hbit : nb.testBit 0 with
  | true =>
    refine wpAny_execs_cons (wpAny_AugAssign_Name (F.toks.load hf ha ma (F.toks.name hf ho mo (num_iand hA T F.toks.keep Na hO fun t₂ tk₂ => ?_))))
    refine Fm.store T F.toks hf ha fun s₂ F₂ g₂ k₂ => ?_
    exact wpAny_execs_nil (rest s₂ _ (.int ((na &&& c : Nat) : Int) t₂) F₂ ((Off.refl _ _).set (List.mem_cons_of_mem _ List.mem_cons_self)) (by simp [hba, mb]) (by simp) (.inl ⟨t₂, by rw [hbit]; rfl⟩) g₂ k₂)
  | false =>
    exact wpAny_execs_nil (rest _ m va F.toks (Off.refl _ _) mb ma (by rw [hbit]; exact Na) rfl fun _ _ _ e => e)

theorem iter_own {x C dx f : Addr} {l : List (Str × Value)} {Q : Value → Shared → Prop} (T : TopS w s) (hx : Ins s.heap x C dx) (hd : Dc s.heap dx l) (hs : findIn (KF w.params) (.ref C) "__iter__" = some (some (.ref f)))
    (hf : typeIn (KF w.params) (.ref f) = some (.type "function"))
    (h : wpAny (model pw w) A (call (.ref f) [.ref x]) (fun v s' => ∃ a, v = .ref a ∧ s'.TypeIs (.ref a) "generator" ∧ Q v s') E s) : wpAny (model pw w) A (pyIter (.ref x)) Q E s := by
  obtain ⟨ox, a, b⟩ := hx
  obtain ⟨od, c, d⟩ := hd
  have I := instAt a b d
  have X := T.kin
  have fin : wpAny (model pw w) A (call (.ref f) [.ref x] >>= fun v => pure (some v)) (fun r s' => ∃ a, r = some (.ref a) ∧ s'.TypeIs (.ref a) "generator" ∧ Q (.ref a) s') E s :=
    wpAny_bind (wpAny_mono h (fun v s' h' => by obtain ⟨a, rfl, h1, h2⟩ := h'; exact wpAny_pure ⟨a, rfl, h1, h2⟩) fun _ _ z => z)
  have one : ∀ refuse : Sem Value, wpAny (model pw w) A (callSpecialIfBoundUnlessNone? (.ref x) "__iter__" refuse) (fun r s' => ∃ a, r = some (.ref a) ∧ s'.TypeIs (.ref a) "generator" ∧ Q (.ref a) s') E s := by
    intro refuse
    simp only [callSpecialIfBoundUnlessNone?, bindSpecialIfBound?]
    refine wpAny_holding (wpAny_bind (wpAny_bind (wpAny_bind (I.type.here ((looks_findIn X hs).here ?_)))))
    refine wpAny_bind (wpAny_askSetting (wpAny_ite ?_))
    have fin2 : wpAny (model pw w) A (if (Value.ref f == Value.none) = true then (refuse >>= fun v => pure (some v)) else (call (.ref f) [.ref x] >>= fun v => pure (some v))) (fun r s' => ∃ a, r = some (.ref a) ∧ s'.TypeIs (.ref a) "generator" ∧ Q (.ref a) s') E s := by
      rw [if_neg (show ¬ ((Value.ref f == Value.none) = true) from Bool.false_ne_true)]
      exact fin
    split
    · exact wpAny_bind ((bind_fn X _ hf).here (wpAny_pure (by exact fin2)))
    · exact wpAny_tryCatch (wpAny_bind ((bind_fn X _ hf).here (wpAny_pure (by exact fin2))))
  unfold pyIter
  refine wpAny_bind (wpAny_bind (I.type.here ((looks_findIn X hs).here ?_)))
  show wpAny _ A (callSpecialIfBoundUnlessNone? (.ref x) "__iter__" _ >>= _) Q E s
  refine wpAny_bind (wpAny_mono (one _) (fun r s' hr => ?_) fun _ _ z => z)
  obtain ⟨v, rfl, hT, hq⟩ := hr
  refine wpAny_bind (wpAny_bind (wpAny_typeOf hT (wpAny_of_eq slot_gen_next.lookup ?_)))
  exact wpAny_pure hq

/-- the vectors and their numbers -/
def RowsAt (s : Shared) (rs : List Value) (rows : List Nat) : Prop := Paired (fun v (n : Nat) => ∃ p d t, v = .ref p ∧ s.heap.get? p = some (mbObj d n t)) rs rows
theorem RowsAt.get {s : Shared} : ∀ {rs : List Value} {rows : List Nat}, RowsAt s rs rows → ∀ (j : Nat), j < rs.length → ∃ p d t n, rs[j]? = some (.ref p) ∧ rows[j]? = some n ∧ s.heap.get? p = some (mbObj d n t)
  | _, _, .nil, j, h => absurd h (Nat.not_lt_zero _)
  | _, _, .cons h t, 0, _ => by obtain ⟨p, d, t', rfl, e⟩ := h; exact ⟨p, d, t', _, rfl, rfl, e⟩
  | _, _, .cons h t, j + 1, hj => by
    have := RowsAt.get t j (by simpa using hj)
    simpa using this
theorem maskAnd_cons {nb na : Nat} {rows : List Nat} {j c : Nat} (h : rows[j]? = some c) : maskAnd nb (rows.drop j) na = if nb >>> 1 = 0 then (if nb.testBit 0 then na &&& c else na) else maskAnd (nb >>> 1) (rows.drop (j + 1)) (if nb.testBit 0 then na &&& c else na) := by
  have hlt := (List.getElem?_eq_some_iff.mp h).1
  rw [List.drop_eq_getElem_cons hlt, (List.getElem?_eq_some_iff.mp h).2]
  rfl
theorem mask_loop {xo xs xb xa : Str} {p1 p2 p3 p4 p5 p6 p7 p8 p9 p10 p11 p12 p13 p14 p15 p16 p17 : Pos} {V dV L : Addr} {lV : List (Str × Value)} {rs : List Value} {rows : List Nat} {vb va : Value} {nb na : Nat} {Q : Flow → Shared → Prop} (hA : AOk (k + 1) A) (T : TopS w s₀)
    (F : Fm s₀ env own m cm s) (hf : env.scope.kind = .function) (ho : Loc env xo) (hb : Loc env xb) (ha : Loc env xa) (hba : xb ≠ xa) (hob : xo ≠ xb) (hoa : xo ≠ xa) (mb : m xb = some vb) (ma : m xa = some va) (Nb : Num s₀ vb nb) (Na : Num s₀ va na)
    (hsrc : wpAny (model pw w) A (eval (.Name xs p2) env) (fun v s' => v = .ref V ∧ s' = s) (fun _ _ => False) s) (hV : IsV s₀ V dV lV L rs) (hR : RowsAt s₀ rs rows) (hn : nb < 2 ^ rs.length) (h0 : 0 < rs.length)
    (hQ : ∀ s' m' va', Fm s₀ env own m' cm s' → Off [xo, xb, xa] m m' → m' xa = some va' → Num s₀ va' (maskAnd nb rows na) → Q .next s') :
    wpAny (model pw w) A (exec (.For (.Name xo p1) (.Name xs p2) (maskBody xo xb xa p3 p4 p5 p6 p7 p8 p9 p10 p11 p12 p13 p14 p15 p16) [] p17) env) Q E s := by
  refine wpAny_mono (E := fun _ _ => False) ?_ (fun _ _ z => z) fun _ _ z => z.elim
  refine wpAny_For (wpAny_mono hsrc (fun v s' h => ?_) fun _ _ z => z.elim)
  obtain ⟨rfl, rfl⟩ := h
  have T₁ := F.top T
  have hV₁ := hV.keep F.keep
  refine iter_own T₁ hV₁.ins hV₁.dc (by kernel_rfl) (by kernel_rfl) (iter_make (Z := mutX env own) hA T F.keep F.pres (fun z hz => (F.new z hz).1) hV fun a s₂ hT haZ k₂ G₂ => ⟨a, rfl, hT, ?_⟩)
  refine codeAny_forLoop (R := fun r s' => match r with | .ok f => Q f s' | .error e => cameBackBy (model pw w) A env (fun _ _ => False) e s') (fun q s' => ∃ j m' vb' va' nb' na', Fm s₀ env own m' cm s' ∧ Off [xo, xb, xa] m m' ∧ GIt w A s₀ (mutX env own) a rs j s' ∧
    m' xb = some vb' ∧ m' xa = some va' ∧ Num s₀ vb' nb' ∧ Num s₀ va' na' ∧ j < rs.length ∧ nb' < 2 ^ (rs.length - j) ∧ maskAnd nb' (rows.drop j) na' = maskAnd nb rows na ∧ q = rs.length - j) ?_ rs.length
    ⟨0, m, vb, va, nb, na, F.step k₂, Off.refl _ _, G₂ A, mb, ma, Nb, Na, h0, hn, rfl, rfl⟩
  rintro q s₃ ⟨j, m', vb', va', nb', na', F₃, O₃, G₃, mb', ma', Nb', Na', hj, hlt, heq, rfl⟩
  obtain ⟨p, d, t, c, hr, hrow, hp⟩ := hR.get j hj
  refine git_next hA T F₃.keep F₃.pres G₃ hr fun s₄ K₄ ⟨X, hX, hk⟩ G₄ => ?_
  have F₄ := F₃.sin K₄ hX hk
  refine wpAny_assign_Name (F₄.store T hf ho fun s₅ F₅ g₅ k₅ => ?_)
  have loc : env.locals ∈ mutX env own := List.mem_cons_self
  refine mask_body hA T F₅ hf ho hb ha hba hob hoa (o := p) (vb := vb') (va := va') (by simp) (by simp [Ne.symm hob, mb']) (by simp [Ne.symm hoa, ma']) Nb' Na' hp fun s₆ m₆ va₆ F₆ O₆ hb₆ ha₆ N₆ g₆ k₆ => ?_
  have O₇ : Off [xo, xb, xa] m m₆ := fun y hy => by
    have h1 : y ∉ [xb, xa] := fun h => hy (List.mem_cons_of_mem _ h)
    have h2 : y ≠ xo := fun h => hy (h ▸ List.mem_cons_self)
    rw [O₆ y h1]
    simp [h2, O₃ y hy]
  rw [maskAnd_cons hrow] at heq
  by_cases hz : nb' >>> 1 = 0
  · rw [if_pos hz] at heq ⊢
    exact hQ s₆ m₆ va₆ F₆ O₇ ha₆ (heq ▸ N₆)
  · rw [if_neg hz] at heq ⊢
    obtain ⟨t₆, hb₆⟩ := hb₆
    have hlt' : nb' >>> 1 < 2 ^ (rs.length - (j + 1)) := by
      rw [Nat.shiftRight_eq_div_pow, Nat.pow_one]
      have : 2 ^ (rs.length - j) = 2 * 2 ^ (rs.length - (j + 1)) := by
        rw [← Nat.pow_succ']; congr 1; omega
      omega
    have hj' : j + 1 < rs.length := by
      rcases Nat.lt_or_ge (j + 1) rs.length with h | h
      · exact h
      · have : rs.length - (j + 1) = 0 := by omega
        rw [this] at hlt'
        omega
    refine ⟨rs.length - (j + 1), by omega, j + 1, m₆, _, va₆, _, _, F₆, O₇, G₄.step (g₆.trans g₅) (fun b o hb e => k₆ b o (fun h => hb (h ▸ loc)) (k₅ b o (fun h => hb (h ▸ loc)) e)) haZ, hb₆, ha₆, .inl ⟨t₆, rfl⟩, N₆, hj', hlt', heq, rfl⟩
end
end Mine
end
section
open PySem PySem.W PySem.W.X PyProof.Rows PySem.Calls PySem.Spec
/-! Bm -/
namespace Mine
set_option maxRecDepth 100000

/-- B.fromint, bound -/
abbrev bmObj (B : Addr) : Obj := { cls := .type "method", data := .fields #[.ref 116, .ref B] }
/-- a new MemberBits of B's -/
def MBG (B : Addr) (n : Nat) (v : Value) (l : Objs) : Prop := ∃ p d hb t kt k, v = .ref p ∧ l = [(p, mbObj d (n : Int) t), (d, mbDict hb kt B k)]
theorem MBG.is {s : Shared} {B : Addr} {n : Nat} {v : Value} {l : Objs} (g : MBG B n v l) (h : Has l s.heap) : ∃ p, v = .ref p ∧ IsMB s p B n := by
  obtain ⟨p, d, hb, t, kt, k, rfl, rfl⟩ := g
  exact ⟨p, rfl, d, hb, t, kt, k, h.head, h.tail.head⟩
theorem gives_mb {s s' : Shared} {B p d : Addr} {n : Nat} {hb : Int} {t kt k : Nat} (K : Keep s s') (hp : New s s' p (mbObj d (n : Int) t)) (hd : New s s' d (mbDict hb kt B k)) : Gives s (MBG B n) (.ref p) s' :=
  ⟨_, ⟨p, d, hb, t, kt, k, rfl, rfl⟩, Has.cons hp.2 (solid_cls rfl) (Has.cons hd.2 (solid_cls rfl) .nil), fun q hq => by
    simp only [List.mem_cons, List.not_mem_nil, or_false] at hq
    rcases hq with rfl | rfl
    · exact hp.1
    · exact hd.1, K⟩

section
variable {w : World} {S : Shared} {B b p d : Addr} {oB : Obj} {E Q : Value → Shared → Prop} {n : Nat} {t : Tok}
set_option hygiene false in
local macro_rules | `(tactic| x_close) => `(tactic| exact hQ _ _ rfl (mem_keep (by assumption)) (mem_new (by assumption) (.head _)))
set_option maxHeartbeats 0 in
theorem bm_make (KX : Frag.In (KF w.params) S.heap) (hB : S.heap.get? B = some oB)
   (hQ : ∀ (p : Addr) (s' : Shared), s'.toks = S.toks → Keep S s' → New S s' p (bmObj B) → Q (.ref p) s') :
   wpAny (model pw w) Amax (call (.builtin "function.__get__") [.ref 116, .ref B, .ref 149] []) Q E S := by
  x_run
set_option hygiene false in
local macro_rules | `(tactic| x_close) => `(tactic| exact hQ _ _ (gives_mb (mem_keep (by assumption)) (mem_new (by assumption) (.head _)) (mem_new (by assumption) (.tail _ (.head _)))))
set_option maxHeartbeats 0 in
theorem bm_call_int (KX : Frag.In (KF w.params) S.heap) (hb : S.heap.get? b = some (bmObj B)) (hB : S.heap.get? B = some oB) (hQ : ∀ v s', Gives S (MBG B n) v s' → Q v s') :
   wpAny (model pw w) Amax (call (.ref b) [.int (n : Int) t] []) Q E S := by
  unfold bmObj at hb
  x_run
set_option maxHeartbeats 0 in
theorem bm_call_mb (KX : Frag.In (KF w.params) S.heap) (hb : S.heap.get? b = some (bmObj B)) (hB : S.heap.get? B = some oB) (hp : S.heap.get? p = some (mbObj d (n : Int) t)) (hQ : ∀ v s', Gives S (MBG B n) v s' → Q v s') :
   wpAny (model pw w) Amax (call (.ref b) [.ref p] []) Q E S := by
  unfold bmObj at hb
  unfold mbObj at hp
  x_run
set_option maxHeartbeats 0 in
theorem fromint_int (KX : Frag.In (KF w.params) S.heap) (hB : S.heap.get? B = some oB) (hQ : ∀ v s', Gives S (MBG B n) v s' → Q v s') :
   wpAny (model pw w) Amax (call (.ref 116) [.ref B, .int (n : Int) t] []) Q E S := by
  x_run
end
section
variable {w : World} {A : Around} {s₀ s : Shared} {E Q : Value → Shared → Prop} {k n : Nat} {B b : Addr} {oB : Obj} {v : Value}
theorem bm_call (hA : AOk k A) (T : TopS w s₀) (K : Keep s₀ s) (hb : s₀.heap.get? b = some (bmObj B)) (hB : s₀.heap.get? B = some oB) (hc : hasCls oB = true) (N : Num s₀ v n) (hQ : ∀ v s', Gives s (MBG B n) v s' → Q v s') :
    wpAny (model pw w) A (call (.ref b) [v]) Q E s := by
  have hb' := K.old _ _ (solid_cls rfl) hb
  have hB' := K.old _ _ (solid_cls hc) hB
  rcases N with ⟨t, rfl⟩ | ⟨p, d, t, rfl, hp⟩
  · exact wk hA (bm_call_int (T.keep K).kin hb' hB' hQ)
  · exact wk hA (bm_call_mb (T.keep K).kin hb' hB' (K.old _ _ (solid_cls rfl) hp) hQ)
end
end Mine
end
section
open PySem PySem.W PySem.W.X PyProof.Rows PySem.Calls PySem.Spec
/-! Clos -/
namespace Mine
set_option maxRecDepth 100000

/-- a def of a body, made -/
def closFd (name qual : Str) (params : Arguments) (body : List Stmt) (scope : Scope) (cl : List (Str × Addr)) (ct cd pm : Value) : FuncData :=
  { name, qualname := qual, params, body := .stmts body, scope, globals := 3, closure := cl, closureTuple := ct, code := cd, builtins := 0, defaults := .none, kwdefaults := .none, annotations := none, pyModule := pm, doc := .none }
def fdSt (qual : Str) (cl : List (Str × Addr)) (ct cd pm : Value) : Stmt → FuncData
  | .FunctionDef name args body _ _ _ scope _ _ _ => closFd name qual args body scope cl ct cd pm
  | _ => closFd qual qual ⟨[], [], none, [], [], none, []⟩ [] { kind := .function, names := [], isGenerator := false, isCoroutine := false } cl ct cd pm
/-- a statement of _pair_with -/
noncomputable def pairSt (P : Params) (k : Nat) : Stmt := match (KF P).lookup 210 with
  | some ⟨_, _, .func fd, _⟩ => (match fd.body with | .stmts b => b.getD k (.Pass default) | _ => .Pass default)
  | _ => .Pass default
def CodeS (h : Heap) (cd : Value) (q : Str) : Prop := ∃ c o vs t, cd = .ref c ∧ h.get? c = some o ∧ solid c o = true ∧ o.data = .fields vs ∧ vs[1]? = some (.str q t)
theorem CodeS.rec {h : Heap} {cd : Value} {q : Str} (x : CodeS h cd q) : h.CodeRec cd q := let ⟨c, o, vs, t, a, b, _, d, e⟩ := x; ⟨c, o, vs, t, a, b, d, e⟩
theorem CodeS.keep {s s' : Shared} {cd : Value} {q : Str} (x : CodeS s.heap cd q) (k : Keep s s') : CodeS s'.heap cd q := let ⟨c, o, vs, t, a, b, so, d, e⟩ := x; ⟨c, o, vs, t, a, k.old _ _ so b, so, d, e⟩
/-- a closure of _pair_with's -/
def ClosAt (P : Params) (h : Heap) (f : Addr) (k : Nat) (cl : List (Str × Addr)) : Prop := ∃ qual ct cd pm, h.get? f = some { cls := .type "function", data := .func (fdSt qual cl ct cd pm (pairSt P k)) } ∧ CodeS h cd qual
theorem ClosAt.keep {P : Params} {s s' : Shared} {f : Addr} {k : Nat} {cl : List (Str × Addr)} (x : ClosAt P s.heap f k cl) (K : Keep s s') : ClosAt P s'.heap f k cl :=
  let ⟨q, ct, cd, pm, a, b⟩ := x; ⟨q, ct, cd, pm, K.old _ _ (solid_cls rfl) a, b.keep K⟩
def CellO (h : Heap) (c : Addr) (v : Value) : Prop := ∃ o, h.get? c = some o ∧ solid c o = true ∧ o.data = .cell (some v)
theorem CellO.keep {s s' : Shared} {c : Addr} {v : Value} (x : CellO s.heap c v) (K : Keep s s') : CellO s'.heap c v := let ⟨o, a, so, d⟩ := x; ⟨o, K.old _ _ so a, so, d⟩
theorem CellO.is {h : Heap} {c : Addr} {v : Value} (x : CellO h c v) : h.IsCell c (some v) := let ⟨o, a, _, d⟩ := x; ⟨o, a, d⟩

section
variable {w : World} {A : Around} {s : Shared} {E Q : Value → Shared → Prop} {k n n0 : Nat} {f c1 c2 c3 sup d0 bm B V2 dV L : Addr} {t0 : Tok} {oB : Obj} {lV : List (Str × Value)} {rs : List Value} {rows : List Nat} {v : Value}
theorem kp_bm {w : World} {s : Shared} {b B : Addr} (T : TopS w s) (h : s.heap.get? b = some (bmObj B)) : Kp w (.ref b) s :=
  ⟨.boundFrame, .inr (.inr rfl), (Looks.ld (part := none) h).andThen ((Looks.ld (part := none) (T.kin 116 _ rfl)).andThen .now)⟩
theorem prime_c (hA : AOk (k + 3) A) (T : TopS w s) (hC : ClosAt w.params s.heap f 6 [(Str.ofString "other", c3), (Str.ofString "_prime", c2), (Str.ofString "Prime", c1)])
    (h1 : CellO s.heap c1 (.ref sup)) (h2 : CellO s.heap c2 (.ref bm)) (h3 : CellO s.heap c3 (.ref V2)) (hsup : s.heap.get? sup = some (mbObj d0 (n0 : Int) t0)) (hbm : s.heap.get? bm = some (bmObj B)) (hB : s.heap.get? B = some oB) (hBc : hasCls oB = true)
    (hV : IsV s V2 dV lV L rs) (hR : RowsAt s rs rows) (hN : Num s v n) (hn : n < 2 ^ rs.length) (h0 : 0 < rs.length) (hQ : ∀ r s', Gives s (MBG B (maskAnd n rows n0)) r s' → Q r s') : wpAny (model pw w) A (call (.ref f) [v]) Q E s := by
  obtain ⟨qual, ct, cd, pm, ho, hcd⟩ := hC
  have e : fdSt qual [(Str.ofString "other", c3), (Str.ofString "_prime", c2), (Str.ofString "Prime", c1)] ct cd pm (pairSt w.params 6) = closFd _ qual _ _ _ _ ct cd pm := rfl
  rw [e] at ho
  refine enter_clos (args := ⟨[v], []⟩) (binds := [(Str.ofString "bitset", v)]) hA T ho rfl rfl hcd.rec (BindsTo.of_eq rfl) ?_ (fun x hx => by obtain rfl := List.mem_singleton.mp hx; rfl) ?_
  · simp only [closFd]; decide
  intro L' s₁ hA₁ T₁ F₁ _
  refine wpAny_execs_cons (wpAny_Assign_Name (nm_free rfl (h1.keep F₁.keep).is (F₁.store T rfl ⟨rfl, by decide +kernel⟩ fun s₂ F₂ g₂ k₂ => ?_)))
  refine wpAny_execs_cons (mask_loop hA₁ T F₂ rfl ⟨rfl, by decide +kernel⟩ ⟨rfl, by decide +kernel⟩ ⟨rfl, by decide +kernel⟩ (by decide) (by decide) (by decide) rfl rfl hN (.inr ⟨sup, d0, t0, rfl, hsup⟩) (nm_free rfl (h3.keep F₂.keep).is ⟨rfl, rfl⟩) hV hR hn h0 fun s₃ m₃ va F₃ O₃ ma N₃ => ?_)
  refine wpAny_execs_cons (wpAny_Return_some ?_)
  refine call_1 (nm_free rfl (h2.keep F₃.keep).is (args_c (F₃.name rfl ⟨rfl, by decide +kernel⟩ ma (args_0 ⟨?_, ?_⟩))))
  · exact kp_bm (T.keep F₃.keep) (F₃.keep.old _ _ (solid_cls rfl) hbm)
  · refine bm_call hA₁ T F₃.keep hbm hB hBc N₃ fun r s' g => ?_
    exact hQ r s' (g.back T F₃.keep)

section
variable {n1 : Nat} {c4 c5 sup1 d1 bm1 B1 V1 dV1 L1 : Addr} {t1 : Tok} {oB1 : Obj} {lV1 : List (Str × Value)} {rs1 : List Value} {rows1 : List Nat}
theorem double_c (hA : AOk (k + 3) A) (T : TopS w s) (hC : ClosAt w.params s.heap f 7 [(Str.ofString "self", c5), (Str.ofString "other", c4), (Str.ofString "_double", c3), (Str.ofString "Prime", c2), (Str.ofString "Double", c1)])
    (h1 : CellO s.heap c1 (.ref sup1)) (h2 : CellO s.heap c2 (.ref sup)) (h3 : CellO s.heap c3 (.ref bm1)) (h4 : CellO s.heap c4 (.ref V2)) (h5 : CellO s.heap c5 (.ref V1))
    (hsup : s.heap.get? sup = some (mbObj d0 (n0 : Int) t0)) (hsup1 : s.heap.get? sup1 = some (mbObj d1 (n1 : Int) t1)) (hbm : s.heap.get? bm1 = some (bmObj B1)) (hB : s.heap.get? B1 = some oB1) (hBc : hasCls oB1 = true)
    (hV : IsV s V2 dV lV L rs) (hR : RowsAt s rs rows) (hV1 : IsV s V1 dV1 lV1 L1 rs1) (hR1 : RowsAt s rs1 rows1) (hN : Num s v n) (hn : n < 2 ^ rs.length) (h0 : 0 < rs.length) (hn1 : maskAnd n rows n0 < 2 ^ rs1.length) (h01 : 0 < rs1.length)
    (hQ : ∀ r s', Gives s (MBG B1 (maskAnd (maskAnd n rows n0) rows1 n1)) r s' → Q r s') : wpAny (model pw w) A (call (.ref f) [v]) Q E s := by
  obtain ⟨qual, ct, cd, pm, ho, hcd⟩ := hC
  have e : fdSt qual [(Str.ofString "self", c5), (Str.ofString "other", c4), (Str.ofString "_double", c3), (Str.ofString "Prime", c2), (Str.ofString "Double", c1)] ct cd pm (pairSt w.params 7) = closFd _ qual _ _ _ _ ct cd pm := rfl
  rw [e] at ho
  refine enter_clos (args := ⟨[v], []⟩) (binds := [(Str.ofString "bitset", v)]) hA T ho rfl rfl hcd.rec (BindsTo.of_eq rfl) ?_ (fun x hx => by obtain rfl := List.mem_singleton.mp hx; rfl) ?_
  · simp only [closFd]; decide
  intro L' s₁ hA₁ T₁ F₁ _
  refine wpAny_execs_cons (wpAny_Assign_Name (nm_free rfl (h2.keep F₁.keep).is (F₁.store T rfl ⟨rfl, by decide +kernel⟩ fun s₂ F₂ g₂ k₂ => ?_)))
  refine wpAny_execs_cons (mask_loop hA₁ T F₂ rfl ⟨rfl, by decide +kernel⟩ ⟨rfl, by decide +kernel⟩ ⟨rfl, by decide +kernel⟩ (by decide) (by decide) (by decide) rfl rfl hN (.inr ⟨sup, d0, t0, rfl, hsup⟩) (nm_free rfl (h4.keep F₂.keep).is ⟨rfl, rfl⟩) hV hR hn h0 fun s₃ m₃ va F₃ O₃ ma N₃ => ?_)
  refine wpAny_execs_cons (wpAny_Assign_Name (nm_free rfl (h1.keep F₃.keep).is (F₃.store T rfl ⟨rfl, by decide +kernel⟩ fun s₄ F₄ g₄ k₄ => ?_)))
  refine wpAny_execs_cons (mask_loop hA₁ T F₄ rfl ⟨rfl, by decide +kernel⟩ ⟨rfl, by decide +kernel⟩ ⟨rfl, by decide +kernel⟩ (by decide) (by decide) (by decide) ma rfl N₃ (.inr ⟨sup1, d1, t1, rfl, hsup1⟩) (nm_free rfl (h5.keep F₄.keep).is ⟨rfl, rfl⟩) hV1 hR1 hn1 h01 fun s₅ m₅ vb F₅ O₅ mb N₅ => ?_)
  refine wpAny_execs_cons (wpAny_Return_some ?_)
  refine call_1 (nm_free rfl (h3.keep F₅.keep).is (args_c (F₅.name rfl ⟨rfl, by decide +kernel⟩ mb (args_0 ⟨?_, ?_⟩))))
  · exact kp_bm (T.keep F₅.keep) (F₅.keep.old _ _ (solid_cls rfl) hbm)
  · refine bm_call hA₁ T F₅.keep hbm hB hBc N₅ fun r s' g => ?_
    exact hQ r s' (g.back T F₅.keep)

/-- a pair of two sets -/
def PairG (G G' : Value → Objs → Prop) (v : Value) (l : Objs) : Prop := ∃ t n a b la lb, v = .ref t ∧ l = (t, tupObj [a, b] n) :: (la ++ lb) ∧ G a la ∧ G' b lb
theorem doubleprime_c {c6 : Addr} (hA : AOk (k + 3) A) (T : TopS w s) (hC : ClosAt w.params s.heap f 8 [(Str.ofString "self", c5), (Str.ofString "other", c4), (Str.ofString "_prime", c6), (Str.ofString "_double", c3), (Str.ofString "Prime", c2), (Str.ofString "Double", c1)])
    (h1 : CellO s.heap c1 (.ref sup1)) (h2 : CellO s.heap c2 (.ref sup)) (h3 : CellO s.heap c3 (.ref bm1)) (h4 : CellO s.heap c4 (.ref V2)) (h5 : CellO s.heap c5 (.ref V1)) (h6 : CellO s.heap c6 (.ref bm))
    (hsup : s.heap.get? sup = some (mbObj d0 (n0 : Int) t0)) (hsup1 : s.heap.get? sup1 = some (mbObj d1 (n1 : Int) t1)) (hbm : s.heap.get? bm1 = some (bmObj B1)) (hB : s.heap.get? B1 = some oB1) (hBc : hasCls oB1 = true)
    (hbm' : s.heap.get? bm = some (bmObj B)) (hB' : s.heap.get? B = some oB) (hBc' : hasCls oB = true)
    (hV : IsV s V2 dV lV L rs) (hR : RowsAt s rs rows) (hV1 : IsV s V1 dV1 lV1 L1 rs1) (hR1 : RowsAt s rs1 rows1) (hN : Num s v n) (hn : n < 2 ^ rs.length) (h0 : 0 < rs.length) (hn1 : maskAnd n rows n0 < 2 ^ rs1.length) (h01 : 0 < rs1.length)
    (hQ : ∀ r s', Gives s (PairG (MBG B1 (maskAnd (maskAnd n rows n0) rows1 n1)) (MBG B (maskAnd n rows n0))) r s' → Q r s') : wpAny (model pw w) A (call (.ref f) [v]) Q E s := by
  obtain ⟨qual, ct, cd, pm, ho, hcd⟩ := hC
  have e : fdSt qual [(Str.ofString "self", c5), (Str.ofString "other", c4), (Str.ofString "_prime", c6), (Str.ofString "_double", c3), (Str.ofString "Prime", c2), (Str.ofString "Double", c1)] ct cd pm (pairSt w.params 8) = closFd _ qual _ _ _ _ ct cd pm := rfl
  rw [e] at ho
  refine enter_clos (args := ⟨[v], []⟩) (binds := [(Str.ofString "bitset", v)]) hA T ho rfl rfl hcd.rec (BindsTo.of_eq rfl) ?_ (fun x hx => by obtain rfl := List.mem_singleton.mp hx; rfl) ?_
  · simp only [closFd]; decide
  intro L' s₁ hA₁ T₁ F₁ _
  refine wpAny_execs_cons (wpAny_Assign_Name (nm_free rfl (h2.keep F₁.keep).is (F₁.store T rfl ⟨rfl, by decide +kernel⟩ fun s₂ F₂ g₂ k₂ => ?_)))
  refine wpAny_execs_cons (mask_loop hA₁ T F₂ rfl ⟨rfl, by decide +kernel⟩ ⟨rfl, by decide +kernel⟩ ⟨rfl, by decide +kernel⟩ (by decide) (by decide) (by decide) rfl rfl hN (.inr ⟨sup, d0, t0, rfl, hsup⟩) (nm_free rfl (h4.keep F₂.keep).is ⟨rfl, rfl⟩) hV hR hn h0 fun s₃ m₃ va F₃ O₃ ma N₃ => ?_)
  refine wpAny_execs_cons (wpAny_Assign_Name (F₃.name rfl ⟨rfl, by decide +kernel⟩ ma (F₃.store T rfl ⟨rfl, by decide +kernel⟩ fun s₃' F₃' g₃' k₃' => ?_)))
  refine wpAny_execs_cons (wpAny_Assign_Name (nm_free rfl (h1.keep F₃'.keep).is (F₃'.store T rfl ⟨rfl, by decide +kernel⟩ fun s₄ F₄ g₄ k₄ => ?_)))
  refine wpAny_execs_cons (mask_loop hA₁ T F₄ rfl ⟨rfl, by decide +kernel⟩ ⟨rfl, by decide +kernel⟩ ⟨rfl, by decide +kernel⟩ (by decide) (by decide) (by decide) rfl rfl N₃ (.inr ⟨sup1, d1, t1, rfl, hsup1⟩) (nm_free rfl (h5.keep F₄.keep).is ⟨rfl, rfl⟩) hV1 hR1 hn1 h01 fun s₅ m₅ vb F₅ O₅ mb N₅ => ?_)
  have ma₅ : m₅ (Str.ofString "prime") = some va := (O₅ _ (by decide)).trans ma
  refine wpAny_execs_cons (wpAny_Return_some ?_)
  refine wpAny_Tuple (wpAny_items_cons ?_)
  refine call_1 (nm_free rfl (h3.keep F₅.keep).is (args_c (F₅.name rfl ⟨rfl, by decide +kernel⟩ mb (args_0 ⟨?_, ?_⟩))))
  · exact kp_bm (T.keep F₅.keep) (F₅.keep.old _ _ (solid_cls rfl) hbm)
  refine bm_call hA₁ T F₅.keep hbm hB hBc N₅ fun r s₆ g => ?_
  have F₆ := F₅.step g.keep
  refine wpAny_items_cons ?_
  refine call_1 (nm_free rfl (h6.keep F₆.keep).is (args_c (F₆.name rfl ⟨rfl, by decide +kernel⟩ ma₅ (args_0 ⟨?_, ?_⟩))))
  · exact kp_bm (T.keep F₆.keep) (F₆.keep.old _ _ (solid_cls rfl) hbm')
  refine bm_call hA₁ T F₆.keep hbm' hB' hBc' N₃ fun r' s₇ g' => ?_
  refine wpAny_items_nil ?_
  obtain ⟨la, ga, Ha, Na, Ka⟩ := g
  obtain ⟨lb, gb, Hb, Nb, Kb⟩ := g'
  have K₇ := F₆.keep.trans Kb
  refine ⟨by rw [sizeLine_eq]; simp, ?_⟩
  refine hQ _ _ ⟨_, ⟨s₇.heap.objs.size, 0, r, r', la, lb, rfl, rfl, ga, gb⟩, ?_, ?_, K₇.trans (push_keep (tk := s₇.toks))⟩
  · refine Has.cons (Heap.get?_push_size _ rfl) (solid_cls rfl) ?_
    exact Has.keep (s := s₇) ((Ha.keep Kb).app Hb) (push_keep (tk := s₇.toks))
  · intro p hp
    rcases List.mem_cons.mp hp with rfl | hp
    · exact none_back' T K₇ push_new
    rcases List.mem_append.mp hp with hp | hp
    · exact none_back' T F₅.keep (Na p hp)
    · exact none_back' T F₆.keep (Nb p hp)
end
end
end Mine
end
section
open PySem PySem.W PySem.W.X PyProof.Rows PySem.Calls PySem.Spec
/-! Pairs -/
namespace Mine
set_option maxRecDepth 100000

/-- one side of a relation: its Vectors V, its BitSet B .. -/
structure HP where
  V : Addr
  dV : Addr
  L : Addr
  B : Addr
  dB : Addr
  mL : Addr
  sup : Addr
  dsup : Addr
  lV : List (Str × Value)
  lB : List (Str × Value)
  rs : List Value
  ys : List Value
  rows : List Nat
  n : Nat
  t : Tok
def RowsB (s : Shared) (B : Addr) (rs : List Value) (rows : List Nat) : Prop := Paired (fun v (n : Nat) => ∃ p, v = .ref p ∧ IsMB s p B n) rs rows
theorem pimp {α β : Type} {F G : α → β → Prop} (h : ∀ a b, F a b → G a b) : ∀ {l : List α} {l' : List β}, Paired F l l' → Paired G l l'
  | _, _, .nil => .nil
  | _, _, .cons a t => .cons (h _ _ a) (pimp h t)
theorem RowsB.at {s : Shared} {B : Addr} {rs : List Value} {rows : List Nat} (h : RowsB s B rs rows) : RowsAt s rs rows := pimp (fun v n ⟨p, e, d, _, t, _, _, a, _⟩ => ⟨p, d, t, e, a⟩) h
theorem RowsB.keep {s s' : Shared} {B : Addr} {rs : List Value} {rows : List Nat} (h : RowsB s B rs rows) (k : Keep s s') : RowsB s' B rs rows := pimp (fun v n ⟨p, e, a⟩ => ⟨p, e, a.keep k⟩) h
structure Half (s : Shared) (h : HP) : Prop where
  v : IsV s h.V h.dV h.lV h.L h.rs
  vb : h.lV.lookup (Str.ofString "BitSet") = some (.ref h.B)
  b : IsBS s h.B h.dB h.lB h.mL h.ys
  sup : s.heap.get? h.sup = some (mbObj h.dsup (h.n : Int) h.t)
  supl : h.lB.lookup (Str.ofString "supremum") = some (.ref h.sup)
  rows : RowsB s h.B h.rs h.rows
theorem Half.keep {s s' : Shared} {h : HP} (x : Half s h) (k : Keep s s') : Half s' h := ⟨x.v.keep k, x.vb, x.b.keep k, k.old _ _ (solid_cls rfl) x.sup, x.supl, x.rows.keep k⟩

structure FP where
  f1 : Addr
  f2 : Addr
  f3 : Addr
  cPrime : Addr
  cDouble : Addr
  c_prime : Addr
  c_double : Addr
  cOther : Addr
  cSelf : Addr
  bm : Addr
  bm1 : Addr
/-- a side that knows the other one -/
structure Paird (w : World) (s : Shared) (h o : HP) (f : FP) (r : Addr) (idx : Int) : Prop where
  rel : h.lV.lookup (Str.ofString "relation") = some (.ref r)
  idx : ∃ t, h.lV.lookup (Str.ofString "relation_index") = some (.int idx t)
  v1 : h.lV.lookup (Str.ofString "prime") = some (.ref f.f1)
  v2 : h.lV.lookup (Str.ofString "double") = some (.ref f.f2)
  v3 : h.lV.lookup (Str.ofString "doubleprime") = some (.ref f.f3)
  b0 : h.lB.lookup (Str.ofString "fromint") = none
  b1 : h.lB.lookup (Str.ofString "prime") = some (.ref f.f1)
  b2 : h.lB.lookup (Str.ofString "double") = some (.ref f.f2)
  b3 : h.lB.lookup (Str.ofString "doubleprime") = some (.ref f.f3)
  nb : h.lV.lookup (Str.ofString "bools") = none
  ns : h.lV.lookup (Str.ofString "index_sets") = none
  o1 : ClosAt w.params s.heap f.f1 6 [(Str.ofString "other", f.cOther), (Str.ofString "_prime", f.c_prime), (Str.ofString "Prime", f.cPrime)]
  o2 : ClosAt w.params s.heap f.f2 7 [(Str.ofString "self", f.cSelf), (Str.ofString "other", f.cOther), (Str.ofString "_double", f.c_double), (Str.ofString "Prime", f.cPrime), (Str.ofString "Double", f.cDouble)]
  o3 : ClosAt w.params s.heap f.f3 8 [(Str.ofString "self", f.cSelf), (Str.ofString "other", f.cOther), (Str.ofString "_prime", f.c_prime), (Str.ofString "_double", f.c_double), (Str.ofString "Prime", f.cPrime), (Str.ofString "Double", f.cDouble)]
  e1 : CellO s.heap f.cPrime (.ref o.sup)
  e2 : CellO s.heap f.cDouble (.ref h.sup)
  e3 : CellO s.heap f.c_prime (.ref f.bm)
  e4 : CellO s.heap f.c_double (.ref f.bm1)
  e5 : CellO s.heap f.cOther (.ref o.V)
  e6 : CellO s.heap f.cSelf (.ref h.V)
  m1 : s.heap.get? f.bm = some (bmObj o.B)
  m2 : s.heap.get? f.bm1 = some (bmObj h.B)
theorem Paird.keep {w : World} {s s' : Shared} {h o : HP} {f : FP} {r : Addr} {idx : Int} (x : Paird w s h o f r idx) (k : Keep s s') : Paird w s' h o f r idx :=
  ⟨x.rel, x.idx, x.v1, x.v2, x.v3, x.b0, x.b1, x.b2, x.b3, x.nb, x.ns, x.o1.keep k, x.o2.keep k, x.o3.keep k, x.e1.keep k, x.e2.keep k, x.e3.keep k, x.e4.keep k, x.e5.keep k, x.e6.keep k, k.old _ _ (solid_cls rfl) x.m1, k.old _ _ (solid_cls rfl) x.m2⟩

/-- the numbers' sides fit -/
structure Fit (h o : HP) : Prop where
  l1 : 0 < h.rs.length
  l2 : 0 < o.rs.length
  n1 : h.n < 2 ^ o.rs.length
  n2 : o.n < 2 ^ h.rs.length
theorem maskAnd_le : ∀ (rows : List Nat) (bits acc : Nat), maskAnd bits rows acc ≤ acc
  | [], _, _ => Nat.le_refl _
  | r :: rows, bits, acc => by
    have h : (if bits.testBit 0 then acc &&& r else acc) ≤ acc := by split; exact Nat.and_le_left; exact Nat.le_refl _
    unfold maskAnd
    split
    · exact h
    · exact Nat.le_trans (maskAnd_le rows _ _) h

section
variable {w : World} {A : Around} {s : Shared} {E Q : Value → Shared → Prop} {k n : Nat} {h o : HP} {f : FP} {r : Addr} {idx : Int} {v : Value}
theorem Ins.obj {h : Heap} {x C dx : Addr} (i : Ins h x C dx) : ∃ ob, h.get? x = some ob ∧ hasCls ob = true := let ⟨ob, a, b⟩ := i; ⟨ob, b, by unfold hasCls; rw [a.1]⟩
theorem fn_prime (hA : AOk (k + 3) A) (T : TopS w s) (H : Half s h) (O : Half s o) (P : Paird w s h o f r idx) (F : Fit h o) (hN : Num s v n) (hn : n < 2 ^ o.rs.length) (hQ : ∀ r s', Gives s (MBG o.B (maskAnd n o.rows o.n)) r s' → Q r s') :
    wpAny (model pw w) A (call (.ref f.f1) [v]) Q E s := by
  obtain ⟨ob, b1, b2⟩ := O.b.ins.obj
  exact prime_c hA T P.o1 P.e1 P.e3 P.e5 O.sup P.m1 b1 b2 O.v O.rows.at hN hn F.l2 hQ
theorem fn_double (hA : AOk (k + 3) A) (T : TopS w s) (H : Half s h) (O : Half s o) (P : Paird w s h o f r idx) (F : Fit h o) (hN : Num s v n) (hn : n < 2 ^ o.rs.length)
    (hQ : ∀ r s', Gives s (MBG h.B (maskAnd (maskAnd n o.rows o.n) h.rows h.n)) r s' → Q r s') : wpAny (model pw w) A (call (.ref f.f2) [v]) Q E s := by
  obtain ⟨ob, b1, b2⟩ := H.b.ins.obj
  exact double_c hA T P.o2 P.e2 P.e1 P.e4 P.e5 P.e6 O.sup H.sup P.m2 b1 b2 O.v O.rows.at H.v H.rows.at hN hn F.l2 (Nat.lt_of_le_of_lt (maskAnd_le _ _ _) F.n2) F.l1 hQ
theorem fn_doubleprime (hA : AOk (k + 3) A) (T : TopS w s) (H : Half s h) (O : Half s o) (P : Paird w s h o f r idx) (F : Fit h o) (hN : Num s v n) (hn : n < 2 ^ o.rs.length)
    (hQ : ∀ r s', Gives s (PairG (MBG h.B (maskAnd (maskAnd n o.rows o.n) h.rows h.n)) (MBG o.B (maskAnd n o.rows o.n))) r s' → Q r s') : wpAny (model pw w) A (call (.ref f.f3) [v]) Q E s := by
  obtain ⟨ob, b1, b2⟩ := H.b.ins.obj
  obtain ⟨ob', b1', b2'⟩ := O.b.ins.obj
  exact doubleprime_c hA T P.o3 P.e2 P.e1 P.e4 P.e5 P.e6 P.e3 O.sup H.sup P.m2 b1 b2 P.m1 b1' b2' O.v O.rows.at H.v H.rows.at hN hn F.l2 (Nat.lt_of_le_of_lt (maskAnd_le _ _ _) F.n2) F.l1 hQ

theorem IsMB.num {s : Shared} {p B : Addr} {n : Nat} (h : IsMB s p B n) : Num s (.ref p) n := let ⟨d, _, t, _, _, a, _⟩ := h; .inr ⟨p, d, t, rfl, a⟩
theorem Num.keep {s s' : Shared} {v : Value} {n : Nat} (h : Num s v n) (k : Keep s s') : Num s' v n := h.imp id fun ⟨p, d, t, e, a⟩ => ⟨p, d, t, e, k.old _ _ (solid_cls rfl) a⟩
theorem kp_clos {P : Params} {s : Shared} {f : Addr} {j : Nat} {cl : List (Str × Addr)} (x : ClosAt P s.heap f j cl) : Kp w (.ref f) s := let ⟨_, _, _, _, a, _⟩ := x; kp_obj a rfl

theorem mb_prime {p : Addr} (hA : AOk (k + 4) A) (T : TopS w s) (H : Half s h) (O : Half s o) (P : Paird w s h o f r idx) (F : Fit h o) (hp : IsMB s p h.B n) (hn : n < 2 ^ o.rs.length) (hQ : ∀ r s', Gives s (MBG o.B (maskAnd n o.rows o.n)) r s' → Q r s') :
    wpAny (model pw w) A (call (.ref 54) [.ref p]) Q E s := by
  refine enter_clos (args := ⟨[.ref p], []⟩) (binds := [(Str.ofString "self", .ref p)]) hA T (T.kin 54 _ rfl) rfl rfl ⟨_, _, _, _, rfl, T.kin _ _ rfl, rfl, rfl⟩ (BindsTo.of_eq rfl) (by decide) (fun x hx => by obtain rfl := List.mem_singleton.mp hx; rfl) ?_
  intro L' s₁ hA₁ T₁ F₁ _
  obtain ⟨d, hb, t, kt, m, hp1, hp2⟩ := hp.keep F₁.keep
  refine wpAny_execs_cons (wpAny_Return_some ?_)
  show wpAny _ _ _ Q _ _
  refine meth_1 (Attribute_any_ (F₁.name rfl ⟨rfl, by decide +kernel⟩ rfl (get_mb hA₁ T₁ hp1 hp2 fun tk => ?_)))
  have F₂ := F₁.toks (tk := tk)
  refine method_own (T.keep F₂.keep) (H.b.ins.keep F₂.keep) (H.b.dc.keep F₂.keep) P.b1 rfl (by kernel_rfl) ?_
  refine args_c ((F₂.toks (tk := _)).name rfl ⟨rfl, by decide +kernel⟩ rfl (args_0 ?_))
  have K := (F₂.toks (tk := tk + 1)).keep
  refine ⟨kp_clos (P.o1.keep K), ?_⟩
  exact fn_prime hA₁ (T.keep K) (H.keep K) (O.keep K) (P.keep K) F (hp.num.keep K) hn fun r s' g => hQ r s' (g.back T K)
theorem mb_double {p : Addr} (hA : AOk (k + 4) A) (T : TopS w s) (H : Half s h) (O : Half s o) (P : Paird w s h o f r idx) (F : Fit h o) (hp : IsMB s p h.B n) (hn : n < 2 ^ o.rs.length) (hQ : ∀ r s', Gives s (MBG h.B (maskAnd (maskAnd n o.rows o.n) h.rows h.n)) r s' → Q r s') :
    wpAny (model pw w) A (call (.ref 61) [.ref p]) Q E s := by
  refine enter_clos (args := ⟨[.ref p], []⟩) (binds := [(Str.ofString "self", .ref p)]) hA T (T.kin 61 _ rfl) rfl rfl ⟨_, _, _, _, rfl, T.kin _ _ rfl, rfl, rfl⟩ (BindsTo.of_eq rfl) (by decide) (fun x hx => by obtain rfl := List.mem_singleton.mp hx; rfl) ?_
  intro L' s₁ hA₁ T₁ F₁ _
  obtain ⟨d, hb, t, kt, m, hp1, hp2⟩ := hp.keep F₁.keep
  refine wpAny_execs_cons (wpAny_Return_some ?_)
  show wpAny _ _ _ Q _ _
  refine meth_1 (Attribute_any_ (F₁.name rfl ⟨rfl, by decide +kernel⟩ rfl (get_mb hA₁ T₁ hp1 hp2 fun tk => ?_)))
  have F₂ := F₁.toks (tk := tk)
  refine method_own (T.keep F₂.keep) (H.b.ins.keep F₂.keep) (H.b.dc.keep F₂.keep) P.b2 rfl (by kernel_rfl) ?_
  refine args_c ((F₂.toks (tk := _)).name rfl ⟨rfl, by decide +kernel⟩ rfl (args_0 ?_))
  have K := (F₂.toks (tk := tk + 1)).keep
  refine ⟨kp_clos (P.o2.keep K), ?_⟩
  exact fn_double hA₁ (T.keep K) (H.keep K) (O.keep K) (P.keep K) F (hp.num.keep K) hn fun r s' g => hQ r s' (g.back T K)
theorem mb_doubleprime {p : Addr} (hA : AOk (k + 4) A) (T : TopS w s) (H : Half s h) (O : Half s o) (P : Paird w s h o f r idx) (F : Fit h o) (hp : IsMB s p h.B n) (hn : n < 2 ^ o.rs.length) (hQ : ∀ r s', Gives s (PairG (MBG h.B (maskAnd (maskAnd n o.rows o.n) h.rows h.n)) (MBG o.B (maskAnd n o.rows o.n))) r s' → Q r s') :
    wpAny (model pw w) A (call (.ref 68) [.ref p]) Q E s := by
  refine enter_clos (args := ⟨[.ref p], []⟩) (binds := [(Str.ofString "self", .ref p)]) hA T (T.kin 68 _ rfl) rfl rfl ⟨_, _, _, _, rfl, T.kin _ _ rfl, rfl, rfl⟩ (BindsTo.of_eq rfl) (by decide) (fun x hx => by obtain rfl := List.mem_singleton.mp hx; rfl) ?_
  intro L' s₁ hA₁ T₁ F₁ _
  obtain ⟨d, hb, t, kt, m, hp1, hp2⟩ := hp.keep F₁.keep
  refine wpAny_execs_cons (wpAny_Return_some ?_)
  show wpAny _ _ _ Q _ _
  refine meth_1 (Attribute_any_ (F₁.name rfl ⟨rfl, by decide +kernel⟩ rfl (get_mb hA₁ T₁ hp1 hp2 fun tk => ?_)))
  have F₂ := F₁.toks (tk := tk)
  refine method_own (T.keep F₂.keep) (H.b.ins.keep F₂.keep) (H.b.dc.keep F₂.keep) P.b3 rfl (by kernel_rfl) ?_
  refine args_c ((F₂.toks (tk := _)).name rfl ⟨rfl, by decide +kernel⟩ rfl (args_0 ?_))
  have K := (F₂.toks (tk := tk + 1)).keep
  refine ⟨kp_clos (P.o3.keep K), ?_⟩
  exact fn_doubleprime hA₁ (T.keep K) (H.keep K) (O.keep K) (P.keep K) F (hp.num.keep K) hn fun r s' g => hQ r s' (g.back T K)
end
end Mine
end
section
open PySem PySem.W PySem.W.X PyProof.Rows PySem.Calls PySem.Spec
/-! Vec -/
namespace Mine
set_option maxRecDepth 100000

theorem RowsB.get {s : Shared} {B : Addr} : ∀ {rs : List Value} {rows : List Nat}, RowsB s B rs rows → ∀ {i : Nat} {v : Value}, rs[i]? = some v → ∃ p n, v = .ref p ∧ rows[i]? = some n ∧ IsMB s p B n
  | _, _, .nil, i, v, h => by simp at h
  | _, _, .cons h t, 0, v, e => by obtain ⟨p, rfl, a⟩ := h; simp at e; subst e; exact ⟨p, _, rfl, rfl, a⟩
  | _, _, .cons h t, i + 1, v, e => by simpa using RowsB.get t (by simpa using e)

section
variable {w : World} {A : Around} {s : Shared} {E Q : Value → Shared → Prop} {k n : Nat} {h o : HP} {f : FP} {r : Addr} {v : Value}
abbrev rowAt (rows : List Nat) (i : Nat) : Nat := rows.getD i 0
abbrev IntF (i : Nat) (y : Value) : Prop := ∃ t, y = .int (i : Int) t
theorem ell_ints : ∀ {is : List Nat} {ys : List Value} {ls : Objs}, Ell IntG is ys ls → Paired IntF is ys
  | _, _, _, .nil => .nil
  | _, _, _, .cons h t => .cons h.1 (ell_ints t)
/-- tuple(a list of ints) -/
theorem tuple_ints {is : List Nat} {v : Value} {s₁ : Shared} (T : TopS w s) (hl : is.length ≤ 1000) (g : Gives s (ListG IntG is) v s₁) (hQ : ∀ r s', Gives s (TupG IntF is) r s' → Q r s') : wpAny (model pw w) A (call (.type "tuple") [v]) Q E s₁ := by
  obtain ⟨l, ⟨D, ys, n, ls, rfl, rfl, hE⟩, hH, hN, K⟩ := g
  have hz := hE.length
  refine call_tuple_list (items := ys.toArray) ⟨_, hH.head, rfl, _, rfl⟩ (fun h' hk => ?_) (by rw [List.size_toArray, sizeLine_eq]; omega)
  have k' : Keep s₁ { s₁ with heap := h' } := .heapTok (tk := s₁.toks) hk
  refine hQ _ _ ⟨[(h'.objs.size, tupObj ys 0)], ⟨_, ys, 0, rfl, rfl, ell_ints hE⟩, Has.cons (Heap.get?_push_size _ rfl) (solid_cls rfl) .nil, ?_, (K.trans k').trans (push_keep (tk := s₁.toks))⟩
  intro p hp
  simp at hp; subst hp
  exact none_back' T (K.trans k') (none_of_size (Nat.le_refl _))
theorem vec_bools (hA : AOk (k + 5) A) (T : TopS w s) (H : Half s h) (hl : h.ys.length ≤ 60) (hl' : h.rs.length ≤ 60) (hQ : ∀ r s', Gives s (ListG (fun i => TupG (BoolF (rowAt h.rows i)) (List.range h.ys.length)) (List.range h.rs.length)) r s' → Q r s') :
    wpAny (model pw w) A (call (.ref 177) [.ref h.V]) Q E s := by
  refine enter_clos (args := ⟨[.ref h.V], []⟩) (binds := [(Str.ofString "self", .ref h.V)]) hA T (T.kin 177 _ rfl) rfl rfl ⟨_, _, _, _, rfl, T.kin _ _ rfl, rfl, rfl⟩ (BindsTo.of_eq rfl) (by decide) (fun x hx => by obtain rfl := List.mem_singleton.mp hx; rfl) ?_
  intro L' s₁ hA₁ T₁ F₁ _
  have H₁ := H.keep F₁.keep
  refine wpAny_execs_cons (wpAny_Return_some ?_)
  show wpAny _ _ _ Q _ _
  refine comp T₁ h.rs.length (fun i v l => h.rs[i]? = some v ∧ l = []) (fun _ => true) (fun i => TupG (BoolF (rowAt h.rows i)) (List.range h.ys.length)) rfl (by decide) rfl (by decide) rfl ?_ ?_ fun r s' g => ?_
  · refine Attribute_any_ (F₁.name rfl ⟨rfl, by decide +kernel⟩ rfl (get_own_ T₁ H₁.v.ins H₁.v.dc H₁.v.vec rfl (by kernel_rfl) ?_))
    obtain ⟨nn, hL⟩ := H₁.v.list
    exact wpAny_mono (src_list (hA₁) (T₁.keep toks_keep) hL (by omega)) (fun it s₃ h => by refine Src.back T₁ ?_ h; exact toks_keep) fun _ _ z => z
  · intro C i vv l s₃ m₃ hi hP hl₃ hC hn₃ hm₃ k₃
    obtain ⟨hv, rfl⟩ := hP
    have T₃ := T₁.keep k₃
    have H₃ := H₁.keep k₃
    obtain ⟨p, c, rfl, hc, hp⟩ := H₃.rows.get hv
    obtain ⟨d, hb, t, kt, m, hp1, hp2⟩ := id hp
    refine wpAny_tests_nil ⟨rfl, Keep.refl _, fun _ => ?_⟩
    refine meth_0 (nm_local hn₃ (method_mb (f := 42) T₃ hp1 hp2 (by kernel_rfl) (by kernel_rfl) (by decide +kernel) ⟨kp_top T₃ (by kernel_rfl) (.inl rfl), ?_⟩) hm₃)
    have e : rowAt h.rows i = c := by simp [rowAt, hc]
    rw [e]
    exact bools_c (k := k) (hA₁.le (by omega)) T₃ hp H₃.b hl fun r s' g => g
  · have e : (List.range h.rs.length).filter (fun _ => true) = List.range h.rs.length := all_range _
    rw [e] at g
    exact hQ r s' (g.back T F₁.keep)
theorem vec_sets (hA : AOk (k + 5) A) (T : TopS w s) (H : Half s h) (hl : h.ys.length ≤ 60) (hl' : h.rs.length ≤ 60) (hQ : ∀ r s', Gives s (ListG (fun i => TupG IntF (idx h.ys.length (rowAt h.rows i))) (List.range h.rs.length)) r s' → Q r s') :
    wpAny (model pw w) A (call (.ref 182) [.ref h.V]) Q E s := by
  refine enter_clos (args := ⟨[.ref h.V], []⟩) (binds := [(Str.ofString "self", .ref h.V)]) hA T (T.kin 182 _ rfl) rfl rfl ⟨_, _, _, _, rfl, T.kin _ _ rfl, rfl, rfl⟩ (BindsTo.of_eq rfl) (by decide) (fun x hx => by obtain rfl := List.mem_singleton.mp hx; rfl) ?_
  intro L' s₁ hA₁ T₁ F₁ _
  have H₁ := H.keep F₁.keep
  refine wpAny_execs_cons (wpAny_Return_some ?_)
  show wpAny _ _ _ Q _ _
  refine comp T₁ h.rs.length (fun i v l => h.rs[i]? = some v ∧ l = []) (fun _ => true) (fun i => TupG IntF (idx h.ys.length (rowAt h.rows i))) rfl (by decide) rfl (by decide) rfl ?_ ?_ fun r s' g => ?_
  · refine Attribute_any_ (F₁.name rfl ⟨rfl, by decide +kernel⟩ rfl (get_own_ T₁ H₁.v.ins H₁.v.dc H₁.v.vec rfl (by kernel_rfl) ?_))
    obtain ⟨nn, hL⟩ := H₁.v.list
    exact wpAny_mono (src_list (hA₁) (T₁.keep toks_keep) hL (by omega)) (fun it s₃ h => by refine Src.back T₁ ?_ h; exact toks_keep) fun _ _ z => z
  · intro C i vv l s₃ m₃ hi hP hl₃ hC hn₃ hm₃ k₃
    obtain ⟨hv, rfl⟩ := hP
    have T₃ := T₁.keep k₃
    have H₃ := H₁.keep k₃
    obtain ⟨p, c, rfl, hc, hp⟩ := H₃.rows.get hv
    obtain ⟨d, hb, t, kt, m, hp1, hp2⟩ := id hp
    refine wpAny_tests_nil ⟨rfl, Keep.refl _, fun _ => ?_⟩
    refine call_1 (nm_top T₃ (v := .type "tuple") (args_c ?_))
    refine meth_0 (nm_local hn₃ (method_mb (f := 47) T₃ hp1 hp2 (by kernel_rfl) (by kernel_rfl) (by decide +kernel) ⟨kp_top T₃ (by kernel_rfl) (.inl rfl), ?_⟩) hm₃)
    have e : rowAt h.rows i = c := by simp [rowAt, hc]
    rw [e]
    exact iter_set_c (k := k) (hA₁.le (by omega)) T₃ hp H₃.b hl fun r s' g => args_0 ⟨kp_type, tuple_ints T₃ (by rw [idx]; have := List.length_filter_le (has c) (List.range h.ys.length); simp at this; omega) g fun _ _ g => g⟩
  · have e : (List.range h.rs.length).filter (fun _ => true) = List.range h.rs.length := all_range _
    rw [e] at g
    exact hQ r s' (g.back T F₁.keep)
end
end Mine
end
section
open PySem PySem.W PySem.W.X PyProof.Rows PySem.Calls PySem.Spec
/-! CompC -/
namespace Mine
set_option maxRecDepth 100000
section
variable {w : World} {A : Around} {s : Shared} {E : Value → Shared → Prop} {env : Env}

theorem lookup_relabel_cell {env : Env} {scope : Scope} {x : Str} {C : Addr} {cl : List (Str × Addr)} (h : scope.names.lookup x = some .cell) : (compEnvC scope cl C env).kindOf x = some .cell := by
  show (relabel scope env).names.lookup x = _
  unfold relabel
  dsimp only
  generalize scope.names = names at h
  induction names with
  | nil => simp at h
  | cons p r ih =>
    obtain ⟨n, k⟩ := p
    rw [List.map_cons, List.lookup_cons]
    rw [List.lookup_cons] at h
    by_cases hc : (k == NameKind.free && env.scope.kind == .function && env.kindOf n == some .cell) = true
    · simp only [hc, if_true]
      cases hx : x == n with
      | true => rfl
      | false => rw [hx] at h; exact ih h
    · simp only [hc, if_false, Bool.false_eq_true]
      cases hx : x == n with
      | true => rw [hx] at h; exact h
      | false => rw [hx] at h; exact ih h
theorem newEnv_cell {scope : Scope} {cl : List (Str × Addr)} {x : Str} {g : Addr} {qual : Str} {cd : Value} {Q : Env → Shared → Prop} (hcells : ∀ n, cellsFrom n scope.names cl = (x, n) :: cl) (hpush : ∀ h, pushCells h scope.names = h.push { cls := .type "cell", data := .cell none })
    (h : Q { scope, locals := s.heap.objs.size, globals := g, cells := (x, (s.heap.push { cls := .type "dict", data := .dict #[] }).objs.size) :: cl, qual, func := none, code := env.code, frame := env.frame, builtins := env.builtins }
      { s with heap := (s.heap.push { cls := .type "dict", data := .dict #[] }).push { cls := .type "cell", data := .cell none } }) :
    wpAny (model pw w) A (newFunctionEnv scope g cl [] qual none cd (some env)) Q E s := by
  unfold newFunctionEnv
  refine wpAny_bind (wpAny_alloc ?_)
  refine wpAny_bind (wpAny_layCells _ (fun name kind cells => ?_) scope.names cl _ _ ?_)
  · cases h : (kind == NameKind.cell) <;> simp [h]
  dsimp only
  rw [hcells, hpush]
  exact wpAny_bind (wpAny_pure (wpAny_pure h))

theorem comp_anyC {elt iter : Expr} {x : Str} {px : Pos} {ifs : List Expr} {scope : Scope} {cl : List (Str × Addr)} {pos : Pos} {Q : Value → Shared → Prop} (T : TopS w s) (p : Nat → Bool) (G : Nat → Value → Objs → Prop)
    (hclos : closureFor scope env = pure cl) (hcells : ∀ n, cellsFrom n scope.names cl = (x, n) :: cl) (hpush : ∀ h, pushCells h scope.names = h.push { cls := .type "cell", data := .cell none }) (hkind : scope.kind = .function)
    (hnames : ∀ y ∈ scope.names, y.2 = .local → scope.names.lookup y.1 = some .local) (hx : scope.names.lookup x = some .cell)
    (h : wpAny (model pw w) A (eval iter env) (fun xv s₁ => wpAny (model pw w) A (pyIter xv) (fun it s₂ => ∃ I fp wr n P St, it = .ref I ∧ Wkr w A I fp wr n P St ∧ n ≤ sizeLine ∧ St 0 s₂.heap ∧
      (∀ b ∈ fp, b < s₂.heap.objs.size ∧ tabAddrs.contains b = false) ∧ (∀ b ∈ wr, s.heap.get? b = none) ∧ Keep s s₂ ∧
      (∀ C cc i v l s₃, i < n → P i v l → Has l s₃.heap → tabAddrs.contains cc = false → s₃.heap.IsCell cc (some v) → Keep s s₃ → Imm wr s₂ s₃ →
        wpAny (model pw w) A (forIn ifs true fun c r => if r = true then do let ok ← isTrue c (compEnvC scope ((x, cc) :: cl) C env) (eval c (compEnvC scope ((x, cc) :: cl) C env)); pure (ForInStep.yield ok) else pure (ForInStep.yield r))
          (fun ok s₄ => ok = p i ∧ Keep s₃ s₄ ∧ (p i = true → wpAny (model pw w) A (eval elt (compEnvC scope ((x, cc) :: cl) C env)) (Gives s₃ (G i)) (fun _ _ => False) s₄)) (fun _ _ => False) s₃) ∧
      (∀ v s', Gives s (ListG G ((List.range n).filter p)) v s' → Q v s')) E s₁) E s)
    (hs : ∀ x, foldedSetIterable iter env x = pure x := by intro _; rfl) :
    wpAny (model pw w) A (eval (.ListComp elt [⟨.Name x px, iter, ifs, 0⟩] scope pos) env) Q E s := by
  rw [eval_ListComp]
  refine wpAny_comprehension_free (use := none) rfl hs hclos hkind hnames (wpAny_mono h (fun xv s₁ h₁ => wpAny_mono h₁ (fun it s₂ h₂ => ?_) fun _ _ e => e) fun _ _ e => e)
  obtain ⟨I, fp, wr, n, P, St, rfl, W, hsz, hst, hfp, hwr, hk₀, hq, hQ⟩ := h₂
  have T₂ := T.keep hk₀
  have offN : ∀ a, s₂.heap.get? a = none → tabAddrs.contains a = false := fun a e => off_of_none T₂ e
  have fresh : ∀ a, s₂.heap.objs.size ≤ a → s₂.heap.get? a = none := fun a ha => none_of_size ha
  refine wpAny_newObj_type (newEnv_cell hcells hpush ?_)
  dsimp only
  generalize hH2 : s₂.heap.push { cls := .type "list", dict := none, data := .seq ([] : List Value).toArray } = H2
  generalize hH3 : H2.push { cls := .type "dict", data := .dict #[] } = H3
  generalize hH4 : H3.push { cls := .type "cell", data := .cell none } = h₁
  have hC : H2.objs.size = s₂.heap.objs.size + 1 := by rw [← hH2, Heap.size_push]
  have hc' : H3.objs.size = s₂.heap.objs.size + 1 + 1 := by rw [← hH3, Heap.size_push, hC]
  have hnD := fresh s₂.heap.objs.size (Nat.le_refl _)
  have hnC := fresh H2.objs.size (by rw [hC]; exact Nat.le_succ _)
  have hnc := fresh H3.objs.size (by rw [hc']; exact Nat.le_succ_of_le (Nat.le_succ _))
  have old : ∀ b o, s₂.heap.get? b = some o → h₁.get? b = some o := fun b o e => hH4 ▸ Heap.get?_push_of_some _ (hH3 ▸ Heap.get?_push_of_some _ (hH2 ▸ Heap.get?_push_of_some _ e))
  have hacc : h₁.PlainList s₂.heap.objs.size #[] := ⟨_, hH4 ▸ Heap.get?_push_of_some _ (hH3 ▸ Heap.get?_push_of_some _ (hH2 ▸ Heap.get?_push_size _ rfl))⟩
  have hns₁ : h₁.Ns H2.objs.size fun _ => none := hH4 ▸ (hH3 ▸ Heap.Ns.new ..).push _
  have hcl₁ : h₁.IsCell H3.objs.size none := ⟨_, hH4 ▸ Heap.get?_push_size _ rfl, rfl⟩
  have hDC : s₂.heap.objs.size ≠ H2.objs.size := by rw [hC]; exact Nat.ne_of_lt (Nat.lt_succ_self _)
  have hDc : s₂.heap.objs.size ≠ H3.objs.size := by rw [hc']; exact Nat.ne_of_lt (Nat.lt_succ_of_lt (Nat.lt_succ_self _))
  have hCc : H2.objs.size ≠ H3.objs.size := by rw [hc', hC]; exact Nat.ne_of_lt (Nat.lt_succ_self _)
  have hCf : H2.objs.size ∉ fp := fun hm => by have h0 := (hfp _ hm).1; rw [hC] at h0; exact Nat.lt_irrefl _ (Nat.lt_of_succ_lt h0)
  have hcf : H3.objs.size ∉ fp := fun hm => by have h0 := (hfp _ hm).1; rw [hc'] at h0; exact Nat.lt_irrefl _ (Nat.lt_of_succ_lt (Nat.lt_of_succ_lt h0))
  have hDf : s₂.heap.objs.size ∉ fp := fun hm => Nat.lt_irrefl _ (hfp _ hm).1
  generalize s₂.heap.objs.size = D at *
  generalize H2.objs.size = C at *
  generalize H3.objs.size = c at *
  have hst₁ : St 0 h₁ := W.frame _ _ _ hst fun b _ o e => old b o e
  have hCw : C ∉ wr := fun h => hCf (W.sub _ h)
  have hcw : c ∉ wr := fun h => hcf (W.sub _ h)
  have hDw : D ∉ wr := fun h => hDf (W.sub _ h)
  -- what may change
  let X : List Addr := C :: c :: D :: wr
  have hX : ∀ a ∈ X, s.heap.get? a = none := by
    intro a ha
    rcases List.mem_cons.mp ha with rfl | ha
    · exact none_back' T hk₀ hnC
    rcases List.mem_cons.mp ha with rfl | ha
    · exact none_back' T hk₀ hnc
    rcases List.mem_cons.mp ha with rfl | ha
    · exact none_back' T hk₀ hnD
    · exact hwr a ha
  have hXt : ∀ a ∈ X, tabAddrs.contains a = false := by
    intro a ha
    rcases List.mem_cons.mp ha with rfl | ha
    · exact offN _ hnC
    rcases List.mem_cons.mp ha with rfl | ha
    · exact offN _ hnc
    rcases List.mem_cons.mp ha with rfl | ha
    · exact offN _ hnD
    · exact (hfp a (W.sub a ha)).2
  have upd : ∀ {s' : Shared} {h' : Heap} {tk : Nat}, Keep s s' → (∀ b o, b ∉ X → s'.heap.get? b = some o → h'.get? b = some o) → Keep s { s' with heap := h', toks := tk } := fun k hk => Keep.upd T k hX hXt hk
  have imm : ∀ {s' : Shared} {h' : Heap} {tk : Nat}, Imm wr s₂ s' → (∀ b o, b ∉ X → s'.heap.get? b = some o → h'.get? b = some o) → Imm wr s₂ { s' with heap := h', toks := tk } := fun {s' h' tk} k hk a o ha so e =>
    hk a o (fun hm => by
      rcases List.mem_cons.mp hm with rfl | hm
      · rw [hnC] at e; cases e
      rcases List.mem_cons.mp hm with rfl | hm
      · rw [hnc] at e; cases e
      rcases List.mem_cons.mp hm with rfl | hm
      · rw [hnD] at e; cases e
      · exact ha hm) (k a o ha so e)
  have subX : ∀ {b : Addr}, b ∉ X → b ≠ C ∧ b ≠ D ∧ b ∉ wr ∧ b ≠ c := fun {b} h => ⟨fun e => h (e ▸ List.mem_cons_self), fun e => h (e ▸ List.mem_cons_of_mem _ (List.mem_cons_of_mem _ List.mem_cons_self)),
    fun e => h (List.mem_cons_of_mem _ (List.mem_cons_of_mem _ (List.mem_cons_of_mem _ e))), fun e => h (e ▸ List.mem_cons_of_mem _ List.mem_cons_self)⟩
  have DX : D ∈ X := List.mem_cons_of_mem _ (List.mem_cons_of_mem _ List.mem_cons_self)
  have cX : c ∈ X := List.mem_cons_of_mem _ List.mem_cons_self
  -- the loop
  have loop : ∀ s₃ : Shared, s₃ = { s₂ with heap := h₁ } →
      codeAny (model pw w) A (.compLoop (.ListComp elt [⟨.Name x px, iter, ifs, 0⟩] scope pos) 0 (.ref I) (.ref D) (compEnvC scope ((x, c) :: cl) C env))
        (compPost (model pw w) A E none Q (.ref D) C) s₃ := by
    rintro s₃ rfl
    refine codeAny_compLoop_tests (fun k s' => ∃ i m' ys ls, Keep s s' ∧ Imm wr s₂ s' ∧ St i s'.heap ∧ s'.heap.PlainList D ys.toArray ∧ s'.heap.Ns C m' ∧ (∃ v', s'.heap.IsCell c v') ∧ Ell G ((List.range i).filter p) ys ls ∧ Has ls s'.heap ∧
        NewL s ls ∧ (∀ q ∈ ls, q.1 ∉ X) ∧ i ≤ n ∧ k = n + 1 - i) ?_ (n + 1)
      ⟨0, _, [], [], upd (s' := s₂) (tk := s₂.toks) hk₀ fun b o hb e => old b o e, imm (s' := s₂) (tk := s₂.toks) (fun _ _ _ _ e => e) fun b o hb e => old b o e, hst₁, hacc, hns₁, ⟨_, hcl₁⟩, .nil, .nil, (fun _ e => nomatch e), (fun _ e => nomatch e), Nat.zero_le _, rfl⟩
    rintro k s' ⟨i, m', ys, ls, hk, hi', hst', hac, hn', ⟨v', hcv⟩, hE, hH, hN, hoff, hin, rfl⟩
    have hCs : s'.heap.get? C ≠ none := by obtain ⟨o, _, _, e, _⟩ := hn'; rw [e]; exact nofun
    have hcs : s'.heap.get? c ≠ none := by obtain ⟨o, e, _⟩ := hcv; rw [e]; exact nofun
    have hDs : s'.heap.get? D ≠ none := by obtain ⟨_, e⟩ := hac; rw [e]; exact nofun
    have hXs : ∀ a ∈ X, s'.heap.get? a ≠ none := by
      intro a ha
      rcases List.mem_cons.mp ha with rfl | ha
      · exact hCs
      rcases List.mem_cons.mp ha with rfl | ha
      · exact hcs
      rcases List.mem_cons.mp ha with rfl | ha
      · exact hDs
      · intro e; have := W.pres i _ a hst' ha; rw [e] at this; cases this
    by_cases hlt : i < n
    · refine W.item i _ _ _ hlt hst' fun v l h₃ tk₃ hP hHl hNl hst₃ hk₃ => ?_
      have k₃ : ∀ b o, b ∉ X → s'.heap.get? b = some o → h₃.get? b = some o := fun b o hb e => hk₃ b o (subX hb).2.2.1 e
      refine wpAny_assign_Name (wpAny_storeName_cell (c := c) (v₀ := v') (by simp [compEnvC, relabel, hkind]) (lookup_relabel_cell hx) (by simp [compEnvC]) (let ⟨o, a, b⟩ := hcv; ⟨o, hk₃ _ _ hcw a, b⟩) (fun h₄ hcell₄ hs₄ => ?_))
      have hs₄ : Heap.SameBut c h₃ h₄ := hs₄
      have hn₄ : h₄.Ns C m' := (hn'.at' fun o e => hk₃ _ o hCw e).sameBut hs₄ hCc
      have k₄ : ∀ b o, b ∉ X → s'.heap.get? b = some o → h₄.get? b = some o := fun b o hb e => hs₄.extBut b o (subX hb).2.2.2 (k₃ b o hb e)
      have hst₄ : St (i + 1) h₄ := W.frame _ _ _ hst₃ fun b hb o e => hs₄.extBut b o (fun h => hcf (h ▸ hb)) e
      have K₄ : Keep s { s' with heap := h₄, toks := tk₃ } := upd hk k₄
      have I₄ : Imm wr s₂ { s' with heap := h₄, toks := tk₃ } := imm hi' k₄
      have hl₄ : Has l h₄ := fun q hq => ⟨hs₄.extBut _ _ (fun h => hcs (h ▸ hNl q hq)) (hHl q hq).1, (hHl q hq).2⟩
      have hls₄ : Has ls h₄ := fun q hq => ⟨k₄ _ _ (hoff q hq) (hH q hq).1, (hH q hq).2⟩
      have hac₄ : h₄.PlainList D ys.toArray := hac.at fun o e => hs₄.extBut D o hDc (hk₃ D o hDw e)
      have T₄ := T.keep K₄
      have pr₄ : ∀ a ∈ X, h₄.get? a ≠ none := by
        intro a ha
        rcases List.mem_cons.mp ha with rfl | ha
        · obtain ⟨o, _, _, e, _⟩ := hn₄; rw [e]; exact nofun
        rcases List.mem_cons.mp ha with rfl | ha
        · obtain ⟨o, e, _⟩ := hcell₄; rw [e]; exact nofun
        rcases List.mem_cons.mp ha with rfl | ha
        · obtain ⟨_, e⟩ := hac₄; rw [e]; exact nofun
        · intro e; have := W.pres (i + 1) _ a hst₄ ha; rw [e] at this; cases this
      refine wpAny_mono (hq C c i v l _ hlt hP hl₄ (hXt c cX) hcell₄ K₄ I₄) (fun ok s₅ h₅ => ?_) fun _ _ z => z.elim
      obtain ⟨rfl, k₅, h₅⟩ := h₅
      have stk : ∀ {s₆ : Shared}, Keep { s' with heap := h₄, toks := tk₃ } s₆ → St (i + 1) s₆.heap := fun k => by
        exact W.frame _ _ _ hst₄ fun b hb o e => k.old b o (solid_off (hfp b hb).2) e
      cases hpi : p i with
      | false =>
        rw [if_neg Bool.false_ne_true]
        exact ⟨n + 1 - (i + 1), by omega, i + 1, _, ys, ls, K₄.trans k₅, I₄.trans k₅.imm, stk k₅, hac₄.at (fun o e => k₅.old D o (solid_off (hXt D DX)) e),
            Ns_keep hn₄ (hXt C List.mem_cons_self) k₅, ⟨_, IsCell_keep (s := { s' with heap := h₄, toks := tk₃ }) hcell₄ (hXt c cX) k₅⟩, by rw [range_filter_succ, hpi]; simpa using hE, Has.keep (s := { s' with heap := h₄, toks := tk₃ }) hls₄ k₅, hN, hoff, hlt, rfl⟩
      | true =>
        rw [if_pos rfl]
        refine wpAny_mono (h₅ hpi) (fun y s₆ h₆ => ?_) fun _ _ z => z.elim
        obtain ⟨ly, gy, hHy, hNy, k₆⟩ := h₆
        have hac₆ : s₆.heap.PlainList D ys.toArray := hac₄.at (fun o e => k₆.old D o (solid_off (hXt D DX)) e)
        have hys : ys.toArray.size ≤ sizeLine := by
          have e1 := hE.length
          have e2 : ((List.range i).filter p).length ≤ (List.range i).length := List.length_filter_le _ _
          rw [List.length_range] at e2
          rw [List.size_toArray]; omega
        obtain ⟨nn, hac₆'⟩ := id hac₆
        refine wpAny_list_append_plain (hsz := hys) hac₆ fun h₇ hl₇ hs₇ => ?_
        have k₇ : ∀ b o, b ∉ X → s₆.heap.get? b = some o → h₇.get? b = some o := fun b o hb e => hs₇.extBut b o (subX hb).2.1 e
        have yoff : ∀ q ∈ ly, q.1 ∉ X := fun q hq hm => pr₄ q.1 hm (hNy q hq)
        have hH₆ := Has.keep (s := { s' with heap := h₄, toks := tk₃ }) hls₄ k₆
        refine ⟨n + 1 - (i + 1), by omega, i + 1, _, ys ++ [y], ls ++ ly, upd (K₄.trans k₆) k₇, imm (I₄.trans k₆.imm) k₇, W.frame _ _ _ (stk k₆) (fun b hb o e => hs₇.extBut b o (fun h => hDf (h ▸ hb)) e), by simpa using hl₇,
            (Ns_keep hn₄ (hXt C List.mem_cons_self) k₆).sameBut hs₇ (Ne.symm hDC), ⟨_, (IsCell_keep (s := { s' with heap := h₄, toks := tk₃ }) hcell₄ (hXt c cX) k₆).sameBut hs₇ (Ne.symm hDc)⟩, by rw [range_filter_succ, hpi]; simpa using hE.snoc gy, ?_, NewL.app hN ?_, ?_, hlt, rfl⟩
        · intro q hq
          rcases List.mem_append.mp hq with h | h
          · exact ⟨k₇ _ _ (hoff q h) (hH₆ q h).1, (hH₆ q h).2⟩
          · exact ⟨k₇ _ _ (yoff q h) (hHy q h).1, (hHy q h).2⟩
        · exact fun q hq => none_back' T K₄ (hNy q hq)
        · exact fun q hq => (List.mem_append.mp hq).elim (hoff q) (yoff q)
    · have : i = n := by omega
      subst this
      refine W.done _ _ _ hst' fun h₃ tk₃ hk₃ => ?_
      have k₃ : ∀ b o, b ∉ X → s'.heap.get? b = some o → h₃.get? b = some o := fun b o hb e => hk₃ b o (subX hb).2.2.1 e
      refine ⟨m', hn'.at' fun o e => hk₃ _ o hCw e, fun h₄ hs₄ => ?_⟩
      have k₄ : ∀ b o, b ∉ X → s'.heap.get? b = some o → h₄.get? b = some o := fun b o hb e => hs₄.extBut b o (subX hb).1 (k₃ b o hb e)
      obtain ⟨nn, hD⟩ := hac
      refine hQ _ _ ⟨(D, listObj ys nn) :: ls, ⟨D, ys, nn, ls, rfl, rfl, hE⟩, Has.cons (hs₄.extBut D _ hDC (hk₃ D _ hDw hD)) (solid_cls rfl) (fun q hq => ⟨k₄ _ _ (hoff q hq) (hH q hq).1, (hH q hq).2⟩), ?_, show Keep s { s' with heap := h₄, toks := tk₃ } from upd hk k₄⟩
      intro q hq
      rcases List.mem_cons.mp hq with rfl | hq
      · exact hX D DX
      · exact hN q hq
  exact codeAny_compStart_list (loop _ rfl) (W.self 0 _ _ _ hst₁ (loop _ rfl))
end
end Mine
end
section
open PySem PySem.W PySem.W.X PyProof.Rows PySem.Calls PySem.Spec
/-! Law1 -/
namespace Mine
set_option maxRecDepth 100000

section
variable {w : World} {A : Around} {s : Shared} {E : Value → Shared → Prop} {env : Env} {k : Nat}
theorem compC {elt iter : Expr} {x : Str} {px : Pos} {ifs : List Expr} {scope : Scope} {cl : List (Str × Addr)} {pos : Pos} {Q : Value → Shared → Prop} (T : TopS w s) (n : Nat) (P : Nat → Value → Objs → Prop)
    (p : Nat → Bool) (G : Nat → Value → Objs → Prop)
    (hclos : closureFor scope env = pure cl) (hcells : ∀ n, cellsFrom n scope.names cl = (x, n) :: cl) (hpush : ∀ h, pushCells h scope.names = h.push { cls := .type "cell", data := .cell none }) (hkind : scope.kind = .function)
    (hnames : ∀ y ∈ scope.names, y.2 = .local → scope.names.lookup y.1 = some .local) (hx : scope.names.lookup x = some .cell)
    (hsrc : wpAny (model pw w) A (eval iter env) (fun xv s₁ => wpAny (model pw w) A (pyIter xv) (Src w A s n P) (fun _ _ => False) s₁) (fun _ _ => False) s)
    (helt : ∀ C cc i v l s₃, i < n → P i v l → Has l s₃.heap → tabAddrs.contains cc = false → s₃.heap.IsCell cc (some v) → Keep s s₃ →
        wpAny (model pw w) A (forIn ifs true fun c r => if r = true then do let ok ← isTrue c (compEnvC scope ((x, cc) :: cl) C env) (eval c (compEnvC scope ((x, cc) :: cl) C env)); pure (ForInStep.yield ok) else pure (ForInStep.yield r))
          (fun ok s₄ => ok = p i ∧ Keep s₃ s₄ ∧ (p i = true → wpAny (model pw w) A (eval elt (compEnvC scope ((x, cc) :: cl) C env)) (Gives s₃ (G i)) (fun _ _ => False) s₄)) (fun _ _ => False) s₃)
    (hQ : ∀ v s', Gives s (ListG G ((List.range n).filter p)) v s' → Q v s')
    (hs : ∀ x, foldedSetIterable iter env x = pure x := by intro _; rfl) :
    wpAny (model pw w) A (eval (.ListComp elt [⟨.Name x px, iter, ifs, 0⟩] scope pos) env) Q E s :=
  comp_anyC T p G hclos hcells hpush hkind hnames hx (wpAny_mono hsrc (fun xv s₁ h₁ => wpAny_mono h₁ (fun it s₂ h₂ => by
    obtain ⟨I, fp, wr, St, e, W, a, b, c, d, k⟩ := h₂
    exact ⟨I, fp, wr, n, P, St, e, W, a, b, c, d, k, fun C cc i v l s₃ h1 h2 h3 h4 h5 h6 _ => helt C cc i v l s₃ h1 h2 h3 h4 h5 h6, hQ⟩) fun _ _ z => z.elim) fun _ _ z => z.elim) hs

/-- the script -/
structure IsScript (s : Shared) (a : Addr) (xs : List Int) : Prop where
  list : ∃ o ys n, s.heap.get? a = some o ∧ o.cls = .type "list" ∧ o.data = .seq ys.toArray n ∧ Paired (fun x y => ∃ t, y = .int x t) xs ys
  len : xs.length ≤ 63
theorem IsScript.keep {s s' : Shared} {a : Addr} {xs : List Int} (h : IsScript s a xs) (K : Keep s s') : IsScript s' a xs := ⟨let ⟨o, ys, n, e, c, d, p⟩ := h.list; ⟨o, ys, n, K.old _ _ (solid_cls (by unfold hasCls; rw [c])) e, c, d, p⟩, h.len⟩
def item (xs : List Int) (i : Nat) : Int := xs.getD i 0
theorem paired_get {α β : Type} {F : α → β → Prop} : ∀ {l : List α} {l' : List β}, Paired F l l' → ∀ (i : Nat), i < l.length → ∃ x y, l[i]? = some x ∧ l'[i]? = some y ∧ F x y
  | _, _, .nil, i, h => absurd h (Nat.not_lt_zero _)
  | _, _, .cons h t, 0, _ => ⟨_, _, rfl, rfl, h⟩
  | _, _, .cons h t, i + 1, hi => by simpa using paired_get t i (by simpa using hi)

/-- v[i] -/
theorem sub_list {value slice : Expr} {a : Addr} {ys : List Value} {n i : Nat} {t : Tok} {x : Value} {Q : Value → Shared → Prop} (h : s.heap.get? a = some (listObj ys n)) (hl : ys.length ≤ 1000) (hx : ys[i]? = some x) (hQ : Q x s)
    (hs : subscripted slice false (.ref a) (.int (i : Int) t) = operate [.ref a, .int (i : Int) t] (getItem (.ref a) (.int (i : Int) t)) := by with_unfolding_all rfl) (ht : ∀ r, letTemporaryGo value (.ref a) r = pure () := by intro _; with_unfolding_all rfl) :
    wpAny (model pw w) A (subscriptTail value slice (.ref a) (.int (i : Int) t)) Q E s := by
  have hlt := (List.getElem?_eq_some_iff.mp hx).1
  exact subscriptTail_builtin ⟨_, h, rfl⟩ slot_list_getitem.lookup (getItem_listL ⟨_, h, rfl, _, rfl⟩ (by omega) (by omega) (by simpa using hx) hQ) hs ht
theorem sub_listI {value slice : Expr} {a : Addr} {ys : List Value} {i : Nat} {t : Tok} {x : Value} {Q : Value → Shared → Prop} (h : s.heap.IsList a ys.toArray) (hl : ys.length ≤ 1000) (hx : ys[i]? = some x) (hQ : Q x s)
    (hs : subscripted slice false (.ref a) (.int (i : Int) t) = operate [.ref a, .int (i : Int) t] (getItem (.ref a) (.int (i : Int) t)) := by with_unfolding_all rfl) (ht : ∀ r, letTemporaryGo value (.ref a) r = pure () := by intro _; with_unfolding_all rfl) :
    wpAny (model pw w) A (subscriptTail value slice (.ref a) (.int (i : Int) t)) Q E s := by
  have hlt := (List.getElem?_eq_some_iff.mp hx).1
  exact subscriptTail_builtin (T := "list") (let ⟨o, a, b, _⟩ := h; ⟨o, a, b⟩) slot_list_getitem.lookup (getItem_listL h (by omega) (by omega) (by simpa using hx) hQ) hs ht
theorem sub_tup {value slice : Expr} {a : Addr} {ys : List Value} {n i : Nat} {t : Tok} {x : Value} {Q : Value → Shared → Prop} (h : s.heap.get? a = some (tupObj ys n)) (hl : ys.length ≤ 1000) (hx : ys[i]? = some x) (hQ : Q x s)
    (hs : subscripted slice false (.ref a) (.int (i : Int) t) = operate [.ref a, .int (i : Int) t] (getItem (.ref a) (.int (i : Int) t)) := by with_unfolding_all rfl) (ht : ∀ r, letTemporaryGo value (.ref a) r = pure () := by intro _; with_unfolding_all rfl) :
    wpAny (model pw w) A (subscriptTail value slice (.ref a) (.int (i : Int) t)) Q E s := by
  have hlt := (List.getElem?_eq_some_iff.mp hx).1
  refine item_tupleL (l := ys) (j := i) ⟨_, h, rfl, _, rfl⟩ (by omega) (by omega) ?_ hx hQ hs ht
  unfold seqIndex?
  simp
  omega

theorem law_at_c {a : Addr} {xs : List Int} {i : Nat} {t : Tok} {Q : Value → Shared → Prop} (hA : AOk (k + 1) A) (T : TopS w s) (hS : IsScript s a xs) (hQ : ∀ t s', Keep s s' → Q (.int (item xs i) t) s') :
    wpAny (model pw w) A (call (.ref 246) [.ref a, .int (i : Int) t]) Q E s := by
  refine enter_clos (args := ⟨[.ref a, .int (i : Int) t], []⟩) (binds := [(Str.ofString "script", .ref a), (Str.ofString "place", .int (i : Int) t)]) hA T (T.kin 246 _ rfl) rfl rfl ⟨_, _, _, _, rfl, T.kin _ _ rfl, rfl, rfl⟩ (BindsTo.of_eq rfl) (by decide)
    (fun x hx => by simp only [List.mem_cons, List.not_mem_nil, or_false] at hx; rcases hx with rfl | rfl <;> rfl) ?_
  intro L' s₁ hA₁ T₁ F₁ _
  obtain ⟨o, ys, n, ho, hc, hd, hp⟩ := (hS.keep F₁.keep).list
  have hL : s₁.heap.IsList a ys.toArray := ⟨o, ho, hc, n, hd⟩
  have hz := hp.length
  have hl := hS.len
  refine wpAny_execs_cons (wpAny_Return_some ?_)
  show wpAny _ _ _ Q _ _
  refine wpAny_IfExp (wpAny_isTrue_Compare1 (F₁.name rfl ⟨rfl, by decide +kernel⟩ rfl (call_1 (nm_top T₁ (v := .builtin "len") (args_c (F₁.name rfl ⟨rfl, by decide +kernel⟩ rfl (args_0 ⟨kp_builtin, ?_⟩)))))))
  refine call_len_list (items := ys.toArray) hL (by simp; omega) ?_
  refine P.lt_int (wpAny_truthy_bool ?_)
  have F₂ := F₁.toks (tk := s₁.toks + 1 + 1)
  by_cases h : i < xs.length
  · have e : decide ((i : Int) < ((ys.toArray.size : Nat) : Int)) = true := by simp; omega
    rw [e]
    show wpAny _ _ _ _ _ _
    obtain ⟨x, y, hx, hy, t', rfl⟩ := paired_get hp i h
    have e2 : item xs i = x := by simp [item, hx]
    refine Subscript_ (F₂.name rfl ⟨rfl, by decide +kernel⟩ rfl (F₂.name rfl ⟨rfl, by decide +kernel⟩ rfl (sub_listI hL (by omega) hy ?_)))
    have := hQ t' { s₁ with toks := s₁.toks + 1 + 1 } (F₁.keep.trans toks_keep)
    rw [e2] at this
    exact this
  · have e : decide ((i : Int) < ((ys.toArray.size : Nat) : Int)) = false := by simp; omega
    rw [e]
    show wpAny _ _ _ _ _ _
    have e2 : item xs i = 0 := by simp [item, List.getD, List.getElem?_eq_none (Nat.le_of_not_lt h)]
    refine wpAny_Constant_int ?_
    have := hQ (s₁.toks + 1 + 1) { s₁ with toks := s₁.toks + 1 + 1 + 1 } (F₁.keep.trans toks_keep)
    rw [e2] at this
    exact this
end
end Mine
end
section
open PySem PySem.W PySem.W.X PyProof.Rows PySem.Calls PySem.Spec
/-! Law2 -/
namespace Mine
set_option maxRecDepth 100000

section
variable {w : World} {A : Around} {s : Shared} {E : Value → Shared → Prop} {env : Env} {k : Nat}
theorem ell_flat {G : Nat → Value → Objs → Prop} {F : Nat → Value → Prop} (h : ∀ i y l, G i y l → F i y) : ∀ {is : List Nat} {ys : List Value} {ls : Objs}, Ell G is ys ls → Paired F is ys
  | _, _, _, .nil => .nil
  | _, _, _, .cons a t => .cons (h _ _ _ a) (ell_flat h t)
/-- tuple(a list) -/
theorem tuple_flat {is : List Nat} {G : Nat → Value → Objs → Prop} {F : Nat → Value → Prop} {v : Value} {s₁ : Shared} {Q : Value → Shared → Prop} (hGF : ∀ i y l, G i y l → F i y) (T : TopS w s) (hl : is.length ≤ 1000) (g : Gives s (ListG G is) v s₁)
    (hQ : ∀ r s', Gives s (TupG F is) r s' → Q r s') : wpAny (model pw w) A (call (.type "tuple") [v]) Q E s₁ := by
  obtain ⟨l, ⟨D, ys, n, ls, rfl, rfl, hE⟩, hH, hN, K⟩ := g
  have hz := hE.length
  refine call_tuple_list (items := ys.toArray) ⟨_, hH.head, rfl, _, rfl⟩ (fun h' hk => ?_) (by rw [List.size_toArray, sizeLine_eq]; omega)
  have k' : Keep s₁ { s₁ with heap := h' } := .heapTok (tk := s₁.toks) hk
  refine hQ _ _ ⟨[(h'.objs.size, tupObj ys 0)], ⟨_, ys, 0, rfl, rfl, ell_flat hGF hE⟩, Has.cons (Heap.get?_push_size _ rfl) (solid_cls rfl) .nil, ?_, (K.trans k').trans (push_keep (tk := s₁.toks))⟩
  intro p hp
  simp at hp; subst hp
  exact none_back' T (K.trans k') (none_of_size (Nat.le_refl _))

def tcell (xs : List Int) (at_ i j : Nat) : Bool := Builtin.bitAnd ((Builtin.bitXor (item xs (at_ + i)) ((5 + 3 * i : Nat) : Int)).fdiv (2 ^ ((j : Nat) : Int).toNat)) 1 == 1
abbrev BoolT (f : Nat → Bool) (j : Nat) (y : Value) : Prop := y = .bool (f j)
/-- range(a name) -/
theorem src_range1 {n : Nat} {t : Tok} (hA : AOk k A) (T : TopS w s) (hn : n ≤ 1000) :
    wpAny (model pw w) A (call (.type "range") [.int (n : Int) t]) (fun xv s₁ => wpAny (model pw w) A (pyIter xv) (Src w A s n IntP) (fun _ _ => False) s₁) (fun _ _ => False) s := by
  refine wk hA (call_range T.kin fun r t u v s₂ _ k₂ n₂ => ?_)
  exact wpAny_mono (src_range hA (T.keep k₂) n₂.2 (by omega)) (fun it s₃ h => h.back T k₂) fun _ _ z => z

theorem law_table_c {a : Addr} {xs : List Int} {at_ kk n : Nat} {t1 t2 t3 : Tok} {Q : Value → Shared → Prop} (hA : AOk (k + 3) A) (T : TopS w s) (hS : IsScript s a xs) (hk : kk ≤ 10) (hn : n ≤ 10)
    (hQ : ∀ r s', Gives s (ListG (fun i => TupG (BoolT (tcell xs at_ i)) (List.range n)) (List.range kk)) r s' → Q r s') :
    wpAny (model pw w) A (call (.ref 251) [.ref a, .int (at_ : Int) t1, .int (kk : Int) t2, .int (n : Int) t3]) Q E s := by
  refine enter_cells (binds := [(Str.ofString "script", .ref a), (Str.ofString "at", .int (at_ : Int) t1), (Str.ofString "k", .int (kk : Int) t2), (Str.ofString "n", .int (n : Int) t3)]) hA T (T.kin 251 _ rfl) rfl rfl ⟨_, _, _, _, rfl, T.kin _ _ rfl, rfl, rfl⟩ rfl rfl (fun n x hx => ?_) (fun n => by simp [cellsFrom]; decide) ?_
  · simp only [List.mem_cons, List.not_mem_nil, or_false] at hx
    rcases hx with rfl | rfl | rfl | rfl
    · exact .inr ⟨rfl, rfl⟩
    · exact .inr ⟨rfl, rfl⟩
    · exact .inl rfl
    · exact .inr ⟨rfl, rfl⟩
  intro L s₁ hA₁ T₁ F₁ _
  have K₁ := F₁.keep
  refine wpAny_execs_cons (wpAny_Return_some ?_)
  show wpAny _ _ _ Q _ _
  refine compC T₁ kk IntP (fun _ => true) (fun i => TupG (BoolT (tcell xs at_ i)) (List.range n)) rfl (fun n => by rfl) (fun h => by rfl) rfl (by decide) rfl ?_ ?_ fun r s' g => ?_
  · exact call_1 (nm_top T₁ (v := .type "range") (args_c (F₁.name rfl ⟨rfl, by decide +kernel⟩ rfl (args_0 ⟨kp_type, src_range1 hA₁ T₁ (by omega)⟩))))
  · intro C cc i v l s₃ hi hP hl₃ hcc hcell k₃
    obtain ⟨⟨t, rfl⟩, rfl⟩ := hP
    have T₃ := T₁.keep k₃
    have F₃ := F₁.step k₃
    refine wpAny_tests_nil ⟨rfl, Keep.refl _, fun _ => ?_⟩
    refine call_1 (nm_top T₃ (v := .type "tuple") (args_c ?_))
    refine comp T₃ n IntP (fun _ => true) (fun j y l => BoolT (tcell xs at_ i) j y ∧ l = []) rfl (by decide) rfl (by decide) rfl ?_ ?_ fun r s' g => ?_
    · exact call_1 (nm_top T₃ (v := .type "range") (args_c (nm_cell rfl (F₃.c (Str.ofString "n") rfl rfl) (args_0 ⟨kp_type, src_range1 hA₁ T₃ (by omega)⟩))))
    · intro C' j v l s₄ m₄ hj hP hl₄ hC' hn₄ hm₄ k₄
      obtain ⟨⟨t', rfl⟩, rfl⟩ := hP
      have T₄ := T₃.keep k₄
      have F₄ := F₃.step k₄
      refine wpAny_tests_nil ⟨rfl, Keep.refl _, fun _ => ?_⟩
      refine wpAny_Compare1 (wpAny_BinOp (wpAny_BinOp (wpAny_BinOp ?_)))
      refine call_1 (nm_top T₄ (v := .ref 246) (args_c (nm_cell rfl (F₄.c (Str.ofString "script") rfl rfl) (args_c (wpAny_BinOp ?_)))))
      refine nm_cell rfl (F₄.c (Str.ofString "at") rfl rfl) (nm_cell rfl (IsCell_keep hcell hcc k₄) (add_int (args_0 ⟨kp_top (T₄.keep toks_keep) (by kernel_rfl) (.inl rfl), ?_⟩)))
      rw [show ((at_ : Int) + (i : Int)) = ((at_ + i : Nat) : Int) by push_cast; rfl]
      refine law_at_c (k := k) (hA₁.le (by omega)) (T₄.keep toks_keep) (hS.keep ((K₁.trans (k₃.trans k₄)).trans toks_keep)) fun t₅ s₅ k₅ => ?_
      have F₅ := (F₄.toks (tk := s₄.toks + 1)).step k₅
      refine wpAny_BinOp (wpAny_Constant_int (wpAny_BinOp (wpAny_Constant_int (nm_cell rfl ((IsCell_keep hcell hcc (k₄.trans (toks_keep.trans (k₅.trans toks_keep))))) (P.mul_int (add_int (xor_int ?_)) (IntMulOk.of_left (by decide)))))))
      refine nm_local (Ns_keep hn₄ hC' (toks_keep.trans (k₅.trans toks_keep))) (rshift_int (by omega) (wpAny_Constant_int (and_int (wpAny_Constant_int (P.eq_int ?_))))) hm₄
      refine gives_plain ⟨?_, rfl⟩ (toks_keep.trans (k₅.trans toks_keep))
      show Value.bool _ = Value.bool _
      unfold tcell
      push_cast
      rfl
    · have e : (List.range n).filter (fun _ => true) = List.range n := all_range _
      rw [e] at g
      refine args_0 ⟨kp_type, tuple_flat (fun i y l h => h.1) T₃ (by simp; omega) g fun r s' g => g⟩
  · have e : (List.range kk).filter (fun _ => true) = List.range kk := all_range _
    rw [e] at g
    exact hQ r s' (g.back T K₁)
end
end Mine
end
section
open PySem PySem.W PySem.W.X PyProof.Rows PySem.Calls PySem.Spec
/-! Pw1 -/
namespace Mine
set_option maxRecDepth 100000

/-- an address that is none of the top's -/
structure Free (w : World) (a : Addr) : Prop where
  off : tabAddrs.contains a = false
  kf : (KF w.params).lookup a = none
  cd : ∀ q ∈ tabs, q.1 ≠ a
theorem free_of {w : World} {s : Shared} {a : Addr} (T : TopS w s) (h : s.heap.get? a = none) : Free w a := by
  refine ⟨off_of_none T h, ?_, fun q hq e => ?_⟩
  · cases e : (KF w.params).lookup a with
    | none => rfl
    | some o => have := T.kin a o e; rw [h] at this; cases this
  · obtain ⟨ps, c, _⟩ := T.tab q hq
    obtain ⟨o, _, _, _, _, _, _, _, _, _, a', _⟩ := c
    rw [e, h] at a'; cases a'
/-- since s only X changed, and tables grew -/
structure Ch (w : World) (X : List Addr) (s s' : Shared) : Prop where
  old : ∀ a o, a ∉ X → solid a o = true → s.heap.get? a = some o → s'.heap.get? a = some o
  tab : ∀ q ∈ tabs, ∀ ps, s.heap.TableAt q.1 q.2 ps → ∃ more, s'.heap.TableAt q.1 q.2 (ps ++ more)
  top : TopS w s → TopS w s'
  gens : ∀ (i : Nat) (x : GenState), s.gens[i]? = some x → s'.gens[i]? = some x
  bare : AllBare s.gens → AllBare s'.gens
  os : s'.os = s.os
section
variable {w : World} {A : Around} {X : List Addr} {s s' s'' : Shared} {E : Value → Shared → Prop} {env : Env}
theorem Ch.of (k : Keep s s') : Ch w X s s' := ⟨fun a o _ => k.old a o, k.tab, fun T => T.keep k, k.gens, k.bare, k.os⟩
theorem Ch.trans (x : Ch w X s s') (y : Ch w X s' s'') : Ch w X s s'' :=
  ⟨fun p o n h e => y.old p o n h (x.old p o n h e), fun q hq ps t => by
    obtain ⟨m₁, t₁⟩ := x.tab q hq ps t
    obtain ⟨m₂, t₂⟩ := y.tab q hq _ t₁
    exact ⟨m₁ ++ m₂, by rw [← Array.append_assoc]; exact t₂⟩, fun T => y.top (x.top T), fun i z e => y.gens i z (x.gens i z e), fun h => y.bare (x.bare h), y.os.trans x.os⟩
theorem Ch.mono {Y : List Addr} (x : Ch w X s s') (h : ∀ a ∈ X, a ∈ Y) : Ch w Y s s' := ⟨fun a o n => x.old a o fun m => n (h a m), x.tab, x.top, x.gens, x.bare, x.os⟩
theorem Ch.set {a : Addr} {h' : Heap} {tk : Nat} (F : Free w a) (hs : Heap.SameBut a s.heap h') : Ch w [a] s { s with heap := h', toks := tk } := by
  have tt : ∀ q ∈ tabs, q.2 ≠ a := fun q hq e => by
    have h1 := F.off
    rw [← e] at h1
    have := tab_mem hq
    have e2 : tabAddrs.contains q.2 = ([30, 37, 162, 205] : List Addr).contains q.2 := rfl
    rw [e2, this] at h1; cases h1
  refine ⟨fun b o n _ e => hs.extBut b o (fun h => n (h ▸ List.mem_cons_self)) e, fun q hq ps t => ⟨#[], by simpa using t.extBut hs.extBut (F.cd q hq) (tt q hq)⟩, fun T => ⟨fun b o e => hs.extBut b o (fun h => ?_) (T.kin b o e), fun q hq => ?_⟩, fun _ _ e => e, fun b => b, rfl⟩
  · rw [h, F.kf] at e; cases e
  · obtain ⟨ps, c, t⟩ := T.tab q hq
    exact ⟨ps, c.extBut hs.extBut (F.cd q hq) (tt q hq), t.extBut hs.extBut (F.cd q hq) (tt q hq)⟩

def writes (P : Params) (C : Addr) (name : Str) : Prop := findIn (KF P) (.ref C) "__setattr__" = some (some (.builtin "object.__setattr__")) ∧ plainOver (KF P) C = true ∧ takerIn (KF P) C name = some none ∧ hasDictIn (KF P) C = true
theorem paired_snoc_ent {es : List DictEntry} {l : List (Str × Value)} {name : Str} {v : Value} {h : Int} {t : Tok} (p : Paired Ent es l) : Paired Ent (es ++ [⟨h, .str name t, v⟩]) (l ++ [(name, v)]) := p.snoc ⟨⟨t, rfl⟩, rfl⟩
theorem putL_none {name : Str} {h : Int} {k v : Value} {es : List DictEntry} (e : es.find? (·.key.isStr name) = none) : putL name h k v es = es ++ [⟨h, k, v⟩] := by
  induction es with
  | nil => rfl
  | cons e r ih =>
    rw [List.find?_cons] at e
    unfold putL
    split at e
    · cases e
    · rename_i q
      rw [if_neg (by rw [q]; decide), ih e]; rfl
/-- x.name = v, the name new to x -/
theorem set_inst {x C dx : Addr} {l : List (Str × Value)} {name : Str} {v : Value} {Q : Unit → Shared → Prop} (T : TopS w s) (hx : Ins s.heap x C dx) (hd : Dc s.heap dx l) (hl : l.lookup name = none) (hz : l.length < 900) (hg : writes w.params C name)
    (h : ∀ h', Heap.SameBut dx s.heap h' → Dc h' dx (l ++ [(name, v)]) → Q () { s with heap := h', toks := s.toks + 2 }) : wpAny (model pw w) A (setAttr (.ref x) name v) Q E s := by
  obtain ⟨ox, a, b⟩ := hx
  obtain ⟨od, ⟨es, n, rfl, hp⟩, d⟩ := hd
  obtain ⟨h1, h2, h3, h4⟩ := hg
  have hfind : es.find? (·.key.isStr name) = none := by
    have := Ent.find (name := name) hp
    rw [hl] at this
    simpa using this
  have hnr := Ent.noRef hp
  obtain ⟨hh, gg, dr, tt, oo⟩ := s
  dsimp only at b d h
  have I := instAt a b d
  have X := T.kin
  dsimp only at X
  refine set_plain T.kin I h1 (osa_open (s := ⟨hh, gg, dr, tt + 1, oo⟩) T.kin I h2 h3 fun bb => ?_)
  obtain ⟨cd, hc, hd'⟩ := any_some h4
  obtain ⟨oc, odi, oda, osl⟩ := ox
  obtain ⟨a1, a2, a3⟩ := a
  dsimp only at a1 a2
  subst a1 a2
  refine wpAny_bind (wpAny_pure (wpAny_bind (wpAny_bind (wpAny_loadPart b (wpAny_bind ((looks_clsIn (M := model pw w) X hc).at ?_))))))
  rw [hd']
  refine wpAny_pure (a := some dx) (wpAny_bind (wpAny_pure (wpAny_bind ?_)))
  unfold nsSet
  refine wpAny_bind (wpAny_bind (wpAny_askSetting (wpAny_pure (wpAny_bind (wpAny_mkText (wpAny_bind (wpAny_loadPart d ?_)))))))
  dsimp only [dictOf]
  have c : (!es.toArray.any (·.key.isStr name) && es.toArray.any (·.refKey)) = false := by
    rw [List.any_toArray, List.any_toArray, hnr, Bool.and_false]
  rw [aRefKeyMayBeTheName_at, c]
  have e1 : Obj.putName name (PyData.keyHash w.params name) (.str name (tt + 1)) v (dictOf es n) = dictOf (es ++ [⟨PyData.keyHash w.params name, .str name (tt + 1), v⟩]) (putN name es n) := by rw [putName_dict, putL_none hfind]
  have hget := Heap.get?_update_self (h := hh) (Obj.putName name (PyData.keyHash w.params name) (.str name (tt + 1)) v) d (by rw [e1]; rfl)
  rw [e1] at hget
  refine wpAny_updatePart d ?_
  refine wpAny_bind (wpAny_lookBehind hget (pastItsLine_dict (by have := hp.length; rw [List.size_toArray, sizeLine_eq]; simp; omega)) ?_)
  exact wpAny_pure (h _ (Heap.SameBut.update ..) ⟨_, ⟨_, _, rfl, paired_snoc_ent hp⟩, hget⟩)
end
end Mine
end
section
open PySem PySem.W PySem.W.X PyProof.Rows PySem.Calls PySem.Spec
/-! Pw2 -/
namespace Mine
set_option maxRecDepth 100000

def nameAt (line : Nat) : Option Str := if line = 92 then some (Str.ofString "Vectors._pair_with.<locals>.prime") else if line = 102 then some (Str.ofString "Vectors._pair_with.<locals>.double")
  else if line = 119 then some (Str.ofString "Vectors._pair_with.<locals>.doubleprime") else none
/-- the codes that _pair_with's table knows -/
def Codes (h : Heap) (ps : Array Value) : Prop := ∀ (pos : Pos) c', codeAmong pos ps.toList = some c' → ∀ n, nameAt pos.line = some n → CodeS h c' n
def PT (s : Shared) : Prop := ∃ ps, s.heap.TableAt 209 205 ps ∧ Codes s.heap ps
theorem CodeS.but {h h' : Heap} {cd : Value} {q : Str} {ps : Array Value} (x : CodeS h cd q) (t : h.TableAt 209 205 ps) (hk : Heap.ExtBut 205 h h') : CodeS h' cd q := by
  obtain ⟨c, o, vs, t', a, b, so, d, e⟩ := x
  refine ⟨c, o, vs, t', a, hk _ _ (fun hc => ?_) b, so, d, e⟩
  subst hc
  rw [t.2] at b
  cases b
  cases so
theorem codeAmong_snoc_or {pos pos' : Pos} {c c' : Value} : ∀ {l : List Value}, TriplesOk l → codeAmong pos' (l ++ [rawInt pos.line, rawInt pos.col, c]) = some c' → codeAmong pos' l = some c' ∨ (pos'.line = pos.line ∧ c' = c) := by
  intro l h e
  fun_induction TriplesOk l with
  | case1 =>
    simp only [List.nil_append, codeAmong, rawInt] at e
    split at e
    · rename_i hc
      simp only [Bool.and_eq_true, beq_iff_eq] at hc
      cases e
      exact .inr ⟨by omega, rfl⟩
    · cases e
  | case2 a t b u x rest ih =>
    simp only [List.cons_append, codeAmong] at e ⊢
    split at e
    · rename_i hc; rw [if_pos hc]; exact .inl e
    · rename_i hc; rw [if_neg hc]; exact ih h e
  | case3 l h1 h2 => exact h.elim
section
variable {w : World} {A : Around} {X : List Addr} {s s' s'' : Shared} {E : Value → Shared → Prop} {env : Env}
theorem Ch.refl (X : List Addr) (s : Shared) : Ch w X s s := Ch.of (Keep.refl s)
theorem fn_code {pos : Pos} {firstLine : Nat} {name qual : Str} {p : Arguments} {scope : Scope} {body : FuncBody} {Q : Value → Shared → Prop} (T : TopS w s) (P : PT s) (hc : env.code = .ref 209) (hn : nameAt pos.line = some qual)
    (hQ : ∀ cd s', Ch w [] s s' → PT s' → CodeS s'.heap cd qual → Heap.ExtBut 205 s.heap s'.heap → s'.gens = s.gens → Q cd s') : wpAny (model pw w) A (functionCode env pos firstLine name qual p scope body) Q E s := by
  obtain ⟨ps, ht, hC⟩ := P
  obtain ⟨ps', hcode, ht'⟩ := T.tab (209, 205) (by decide)
  have : ps' = ps := by have := ht'.2.symm.trans ht.2; cases this; rfl
  subst this
  cases e : codeAmong pos ps'.toList with
  | some c' => exact wpAny_functionCode_hit hc hcode e (hQ c' s (Ch.refl _ _) ⟨ps', ht, hC⟩ (hC pos c' e _ hn) (fun _ _ _ e => e) rfl)
  | none =>
    refine wpAny_functionCodeX hc hcode ht e fun c' h' tk hk h1 h2 hc' hrec ht'' hnew => ?_
    have htr : TriplesOk ps'.toList := by obtain ⟨_, _, _, _, _, _, _, _, _, _, _, _, _, _, _, _, _, _, _, htr, _⟩ := hcode; exact htr
    have cs : CodeS h' (.ref c') qual := by
      obtain ⟨P', _, _, ⟨o, vs, a, b, _⟩, _⟩ := hnew
      obtain ⟨c₂, o₂, vs₂, t₂, e₂, g₂, r₂, r₃⟩ := hrec
      cases e₂
      rw [a] at g₂
      cases g₂
      exact ⟨_, o, vs₂, t₂, rfl, a, solid_cls (by unfold hasCls; rw [b]), r₂, r₃⟩
    have C : Codes h' (ps' ++ #[rawInt pos.line, rawInt pos.col, .ref c']) := by
      intro pos' c'' h'' n hn'
      have h3 : codeAmong pos' (ps'.toList ++ [rawInt pos.line, rawInt pos.col, .ref c']) = some c'' := by simpa using h''
      rcases codeAmong_snoc_or htr h3 with h4 | ⟨h4, rfl⟩
      · exact (hC pos' c'' h4 n hn').but ht hk
      · rw [h4, hn] at hn'
        cases hn'
        exact cs
    refine hQ _ _ ⟨fun a o _ so e => ?_, fun q' hq' ps₂ t' => ?_, fun T => ⟨fun a o e => ?_, fun q' hq' => ?_⟩, fun _ _ e => e, fun b => b, rfl⟩ ⟨_, ht'', C⟩ cs hk rfl
    · by_cases h : a = 205
      · subst h
        rw [ht.2] at e; cases e; cases so
      · exact hk a o h e
    · by_cases h : q' = (209, 205)
      · subst h
        have := t'.2.symm.trans ht.2
        cases this
        exact ⟨_, ht''⟩
      · have a := tabs_apart (209, 205) (by decide) q' hq'
        exact ⟨#[], by simpa using t'.extBut hk a.1 (fun e => h (a.2 e))⟩
    · refine hk a o (fun h => ?_) (T.kin a o e)
      have := KF_solid e
      rw [h] at this
      have t := T.kin a o e
      rw [h, ht.2] at t
      cases t
      cases this
    · by_cases h : q' = (209, 205)
      · subst h
        exact ⟨_, hc', ht''⟩
      · have a := tabs_apart (209, 205) (by decide) q' hq'
        obtain ⟨ps₂, c, t⟩ := T.tab q' hq'
        exact ⟨ps₂, c.extBut hk a.1 (fun e => h (a.2 e)), t.extBut hk a.1 (fun e => h (a.2 e))⟩

theorem make_clos {pos : Pos} {firstLine : Nat} {name qual : Str} {params : Arguments} {body : List Stmt} {scope : Scope} {cl : List (Str × Addr)} {Q : Value → Shared → Prop} (T : TopS w s) (P : PT s) (hc : env.code = .ref 209) (hn : nameAt pos.line = some qual)
    (hcl : closureFor scope env = pure cl) (hne : cl.isEmpty = false) (hdoc : docOf body = none) (hg : env.globals = 3) (hbi : peek (KF w.params) ⟨pw, w.params⟩ (builtinsFor 3 env.builtins) = some 0) (hnm : (peek (KF w.params) ⟨pw, w.params⟩ (nsGet 3 "__name__")).isSome = true)
    (hkw : params.kwonlyargs = [])
    (hQ : ∀ f ct cd pm s', Ch w [] s s' → PT s' → CodeS s'.heap cd qual → (∀ b o, b ≠ 205 → s.heap.get? b = some o → s'.heap.get? b = some o) → s.heap.get? f = none → s'.gens = s.gens →
      s'.heap.get? f = some { cls := .type "function", data := .func (closFd name qual params body scope cl ct cd pm) } → Q (.ref f) s') :
    wpAny (model pw w) A (makeFunction name qual params (.stmts body) scope env [] [] [] pos firstLine) Q E s := by
  obtain ⟨r, hr⟩ := Option.isSome_iff_exists.mp hnm
  simp only [makeFunction, hkw, List.zip_nil_left, List.filterMap_nil, List.isEmpty_nil, if_true, pure_bind, hcl, hne, Bool.false_eq_true, if_false, hdoc, hg]
  refine wpAny_bind (wpAny_newTextTuple ?_)
  generalize hct : s.heap.objs.size = ct
  have K₁ : Keep s { s with heap := s.heap.push { cls := .type "tuple", data := .seq ((cl.mergeSort fun a b => a.1.cps.toList ≤ b.1.cps.toList).map (.ref ·.2)).toArray } } := push_keep (tk := s.toks)
  have P₁ : PT { s with heap := s.heap.push { cls := .type "tuple", data := .seq ((cl.mergeSort fun a b => a.1.cps.toList ≤ b.1.cps.toList).map (.ref ·.2)).toArray } } := by
    obtain ⟨ps, a, b⟩ := P
    exact ⟨ps, K₁.pt ps a, fun pos c' h n hn => (b pos c' h n hn).keep K₁⟩
  refine wpAny_bind (fn_code (T.keep K₁) P₁ hc hn fun cd s₂ C₂ P₂ cs₂ e₂ g₂ => ?_)
  have T₂ := C₂.top (T.keep K₁)
  refine wpAny_bind ((pk T₂ hbi).here ?_)
  refine wpAny_bind ((pk T₂ hr).here ?_)
  refine wpAny_newObj_type ?_ (by size_fits)
  have K₃ : Keep s₂ { s₂ with heap := s₂.heap.push { cls := .type "function", data := .func (closFd name qual params body scope cl (.ref ct) cd (r.getD .none)) } } := push_keep (tk := s₂.toks)
  have P₃ : PT { s₂ with heap := s₂.heap.push { cls := .type "function", data := .func (closFd name qual params body scope cl (.ref ct) cd (r.getD .none)) } } := by
    obtain ⟨ps, a, b⟩ := P₂
    exact ⟨ps, K₃.pt ps a, fun pos c' h n hn => (b pos c' h n hn).keep K₃⟩
  refine hQ _ (.ref ct) cd (r.getD .none) _ (((Ch.of K₁).trans C₂).trans (Ch.of K₃)) P₃ (cs₂.keep K₃) (fun b o hb e => Heap.get?_push_of_some _ (e₂ b o hb (Heap.get?_push_of_some _ e))) ?_ g₂ (Heap.get?_push_size _ rfl)
  have hz : s₂.heap.get? s₂.heap.objs.size = none := push_new
  cases e : s.heap.get? s₂.heap.objs.size with
  | none => rfl
  | some o =>
    have hne : s₂.heap.objs.size ≠ 205 := fun h => by
      obtain ⟨ps, _, t⟩ := T₂.tab (209, 205) (by decide)
      have := t.2
      rw [← h, hz] at this; cases this
    rw [e₂ _ o hne (Heap.get?_push_of_some _ e)] at hz; cases hz

/-- a frame where more may have changed -/
structure FmX (w : World) (X : List Addr) (s₀ : Shared) (env : Env) (own : List (Str × Addr)) (m cm : Str → Option Value) (s : Shared) : Prop where
  ch : Ch w X s₀ s
  ns : s.heap.Ns env.locals m
  cell : ∀ n c, own.lookup n = some c → s.heap.IsCell c (cm n)
  apart : own.Pairwise fun x y => x.2 ≠ y.2
  new : ∀ a ∈ mutX env own, s₀.heap.get? a = none
  ne : ∀ x ∈ own, x.2 ≠ env.locals
  xs : ∀ a ∈ X, s₀.heap.get? a ≠ none
  nd : (own.map (·.1)).Nodup
variable {s₀ : Shared} {own : List (Str × Addr)} {m m' cm cm' : Str → Option Value} {k : Nat}
theorem FmX.of (F : Fm s₀ env own m cm s) (hX : ∀ a ∈ X, s₀.heap.get? a ≠ none) : FmX w X s₀ env own m cm s := ⟨Ch.of F.keep, F.ns, F.cell, F.apart, fun a ha => (F.new a ha).1, F.ne, hX, F.nd⟩
theorem FmX.off (T : TopS w s₀) (F : FmX w X s₀ env own m cm s) {a : Addr} (h : a ∈ mutX env own) : Free w a ∧ a ∉ X := ⟨free_of T (F.new a h), fun hm => F.xs a hm (F.new a h)⟩
theorem FmX.step (T : TopS w s₀) (F : FmX w X s₀ env own m cm s) (C : Ch w X s s') : FmX w X s₀ env own m cm s' :=
  ⟨F.ch.trans C, F.ns.at' fun o e => C.old _ o (F.off T List.mem_cons_self).2 (solid_off (F.off T List.mem_cons_self).1.off) e, fun n c hc => let ⟨o, a, b⟩ := F.cell n c hc; ⟨o, C.old _ _ (F.off T (mem_mut (mem_of_lookup hc))).2 (solid_off (F.off T (mem_mut (mem_of_lookup hc))).1.off) a, b⟩, F.apart, F.new, F.ne, F.xs, F.nd⟩
theorem FmX.set (T : TopS w s₀) (F : FmX w X s₀ env own m cm s) {a : Addr} {h' : Heap} {tk : Nat} (ha : a ∈ mutX env own) (hs : Heap.SameBut a s.heap h') : Ch w X s₀ { s with heap := h', toks := tk } := by
  have C := Ch.set (tk := tk) (F.off T ha).1 hs
  exact ⟨fun b o n so e => hs.extBut b o (fun h => by rw [h, F.new a ha] at e; cases e) (F.ch.old b o n so e), (F.ch.mono (Y := a :: X) fun _ h => List.mem_cons_of_mem _ h).trans (C.mono (Y := a :: X) fun _ h => by rw [List.mem_singleton.mp h]; exact List.mem_cons_self) |>.tab,
    fun T => C.top (F.ch.top T), F.ch.gens, F.ch.bare, F.ch.os⟩
theorem FmX.store {x : Str} {v : Value} {Q : Unit → Shared → Prop} (T : TopS w s₀) (F : FmX w X s₀ env own m cm s) (hf : env.scope.kind = .function) (hx : Loc env x)
    (h : ∀ s', FmX w X s₀ env own (fun y => if y = x then some v else m y) cm s' → s'.gens = s.gens → Heap.SameBut env.locals s.heap s'.heap → Q () s') : wpAny (model pw w) A (storeName env x v) Q E s :=
  wpAny_storeName_local hx.kind F.ns (fun h' hn hs => h _ ⟨F.set T List.mem_cons_self hs, hn, fun n c hc => (F.cell n c hc).sameBut hs (F.ne _ (mem_of_lookup hc)), F.apart, F.new, F.ne, F.xs, F.nd⟩ rfl hs) (by simp [hf])
theorem FmX.storeC {x : Str} {v : Value} {c : Addr} {Q : Unit → Shared → Prop} (T : TopS w s₀) (F : FmX w X s₀ env own m cm s) (hf : env.scope.kind = .function) (hx : env.kindOf x = some .cell) (hc : own.lookup x = some c) (he : env.cells.lookup x = some c)
    (h : ∀ s', FmX w X s₀ env own m (fun y => if y = x then some v else cm y) s' → s'.gens = s.gens → Heap.SameBut c s.heap s'.heap → Q () s') : wpAny (model pw w) A (storeName env x v) Q E s := by
  have hm := mem_mut (env := env) (mem_of_lookup hc)
  refine wpAny_storeName_cell hf hx he (F.cell x c hc) fun h' hcell hs => h _ ⟨F.set (tk := s.toks) T hm hs, F.ns.sameBut hs (Ne.symm (F.ne _ (mem_of_lookup hc))), fun n c' hc' => ?_, F.apart, F.new, F.ne, F.xs, F.nd⟩ rfl hs
  by_cases hn : n = x
  · subst hn
    rw [hc] at hc'; cases hc'
    simpa using hcell
  · simp only [hn, if_false]
    exact (F.cell n c' hc').sameBut hs fun e => hn (name_of_addr F.apart (mem_of_lookup hc') (e ▸ mem_of_lookup hc))
theorem FmX.name {x : Str} {v : Value} {pos : Pos} {Q : Value → Shared → Prop} (F : FmX w X s₀ env own m cm s) (hf : env.scope.kind = .function) (hx : Loc env x) (hv : m x = some v) (h : Q v s) : wpAny (model pw w) A (eval (.Name x pos) env) Q E s :=
  wpAny_Name (wpAny_loadName_local hf hx.kind F.ns hv h) hx.dbg
theorem FmX.c (F : FmX w X s₀ env own m cm s) (n : Str) {c : Addr} {v : Value} (hl : own.lookup n = some c) (hc : cm n = some v) : s.heap.IsCell c (some v) := by
  rw [← hc]; exact F.cell n c hl
end
end Mine
end
section
open PySem PySem.W PySem.W.X PyProof.Rows PySem.Calls PySem.Spec
/-! Pw3 -/
namespace Mine
set_option maxRecDepth 100000

section
variable {w : World} {A : Around} {X : List Addr} {s s' s'' : Shared} {E : Value → Shared → Prop} {env : Env} {k : Nat}
theorem findObj_bind {K : Frag} {C : Addr} {od : Obj} {name : Str} {a g : Value} (hh : hasDictIn K C = true) (ha : findIn K (.ref C) name = some (some a)) (hg : specialIn K a "__get__" = some (some g)) (ht : takesIn K a = some false)
    (hc : copiedNames.contains name = false) (hl : lookIn name od = some none) : findObj K C (some od) name = some (.bind g a) := by
  obtain ⟨cd, hc', hd⟩ := any_some hh
  unfold findObj
  have ho : W.ownOf cd (some od) name = some none := by unfold W.ownOf; rw [if_pos hd]; exact hl
  rw [hc', Option.bind_some, ha, Option.bind_some]
  simp only [hg, Option.bind_some, ht, ho, hc, Bool.false_and, Bool.false_eq_true, if_false]
/-- B.fromint, bound -/
theorem get_bm {B dB : Addr} {l : List (Str × Value)} {expr : Bool} {Q : Value → Shared → Prop} (hA : AOk (k + 1) A) (T : TopS w s) (hx : Ins s.heap B 149 dB) (hd : Dc s.heap dB l) (hl : l.lookup (Str.ofString "fromint") = none)
    (hQ : ∀ bm s', Keep s s' → New s s' bm (bmObj B) → Q (.ref bm) s') : wpAny (model pw w) A (getAttr (.ref B) (Str.ofString "fromint") expr) Q E s := by
  obtain ⟨ox, a, b⟩ := hx
  obtain ⟨od, c, d⟩ := hd
  refine get_bind T.kin (instAt a b d) (by kernel_rfl) (findObj_bind (g := .builtin "function.__get__") (a := .ref 116) (by kernel_rfl) (by kernel_rfl) (by kernel_rfl) (by kernel_rfl) (by kernel_rfl) (by rw [c.look, hl])) (by kernel_rfl) ?_
  refine wk hA.in1 (bm_make (T.keep toks_keep).kin b fun p s' _ k' n' => ?_)
  rw [handedOut_of rfl]
  exact wpAny_pure (hQ p s' (toks_keep.trans k') n')

/-- X: dicts of instances -/
def DX (s : Shared) (X : List Addr) : Prop := ∀ a ∈ X, ∃ od l, DcO od l ∧ s.heap.get? a = some od ∧ 2 ≤ l.length
theorem DX.out {a : Addr} {o : Obj} (d : DX s X) (h : s.heap.get? a = some o) (hc : o.cls ≠ .type "dict") : a ∉ X := fun hm => by
  obtain ⟨od, l, ⟨es, n, rfl, _⟩, e, _⟩ := d a hm
  rw [h] at e; cases e; exact hc rfl
theorem DX.mb {a B : Addr} {hb : Int} {kt : Tok} {n : Nat} (d : DX s X) (h : s.heap.get? a = some (mbDict hb kt B n)) : a ∉ X := fun hm => by
  obtain ⟨od, l, ⟨es, n', rfl, p⟩, e, hl⟩ := d a hm
  rw [h] at e
  have := p.length
  unfold dictOf mbDict at e
  simp at e
  obtain ⟨e1, _⟩ := e
  subst e1
  simp at this
  omega
theorem Ch.ins {x C dx : Addr} (c : Ch w X s s') (d : DX s X) (h : Ins s.heap x C dx) : Ins s'.heap x C dx := by
  obtain ⟨o, a, b⟩ := h
  exact ⟨o, a, c.old _ _ (d.out b (by rw [a.1]; exact nofun)) (solid_cls (by unfold hasCls; rw [a.1])) b⟩
theorem Ch.dc {dx : Addr} {l : List (Str × Value)} (c : Ch w X s s') (hx : dx ∉ X) (h : Dc s.heap dx l) : Dc s'.heap dx l := by
  obtain ⟨o, a, b⟩ := h
  exact ⟨o, a, c.old _ _ hx a.solid b⟩
theorem Ch.isMB {p B : Addr} {n : Nat} (c : Ch w X s s') (d : DX s X) (h : IsMB s p B n) : IsMB s' p B n := by
  obtain ⟨dd, hb, t, kt, m, a, b⟩ := h
  exact ⟨dd, hb, t, kt, m, c.old _ _ (d.out a (by simp)) (solid_cls rfl) a, c.old _ _ (d.mb b) (solid_cls rfl) b⟩
theorem Ch.rows {B : Addr} {rs : List Value} {rows : List Nat} (c : Ch w X s s') (d : DX s X) (h : RowsB s B rs rows) : RowsB s' B rs rows := pimp (fun v n ⟨p, e, a⟩ => ⟨p, e, c.isMB d a⟩) h
theorem Ch.listO {a : Addr} {ys : List Value} (c : Ch w X s s') (d : DX s X) (h : ∃ n, s.heap.get? a = some (listObj ys n)) : ∃ n, s'.heap.get? a = some (listObj ys n) := let ⟨n, e⟩ := h; ⟨n, c.old _ _ (d.out e (by simp)) (solid_cls rfl) e⟩
theorem Ch.half {h : HP} (c : Ch w X s s') (d : DX s X) (h1 : h.dV ∉ X) (h2 : h.dB ∉ X) (H : Half s h) : Half s' h :=
  ⟨⟨c.ins d H.v.ins, c.dc h1 H.v.dc, H.v.vec, c.listO d H.v.list⟩, H.vb, ⟨c.ins d H.b.ins, c.dc h2 H.b.dc, H.b.mem, c.listO d H.b.list⟩, c.old _ _ (d.out H.sup (by simp)) (solid_cls rfl) H.sup, H.supl, c.rows d H.rows⟩
theorem Ch.halfD {h : HP} {lV lB : List (Str × Value)} (c : Ch w X s s') (d : DX s X) (H : Half s h) (d1 : Dc s'.heap h.dV lV) (d2 : Dc s'.heap h.dB lB) (e1 : lV.lookup (Str.ofString "vectors") = some (.ref h.L)) (e2 : lV.lookup (Str.ofString "BitSet") = some (.ref h.B))
    (e3 : lB.lookup nMembers = some (.ref h.mL)) (e4 : lB.lookup (Str.ofString "supremum") = some (.ref h.sup)) : Half s' { h with lV := lV, lB := lB } :=
  ⟨⟨c.ins d H.v.ins, d1, e1, c.listO d H.v.list⟩, e2, ⟨c.ins d H.b.ins, d2, e3, c.listO d H.b.list⟩, c.old _ _ (d.out H.sup (by simp)) (solid_cls rfl) H.sup, e4, c.rows d H.rows⟩

/-- x.a = v -/
theorem asg_attr {o value : Expr} {attr : Str} {p1 pos : Pos} {Q : Flow → Shared → Prop} (h : wpAny (model pw w) A (eval value env) (fun v s₁ => wpAny (model pw w) A (eval o env) (fun ov s₂ => wpAny (model pw w) A (setAttr ov attr v) (fun _ => Q .next) E s₂) E s₁) E s)
    (hs : swapsWith value (some (.Attribute o attr p1)) pos.line env = pure false := by rfl) : wpAny (model pw w) A (exec (.Assign [.Attribute o attr p1] value pos) env) Q E s := plainObj_wpAny_Assign_Attribute h hs

theorem Dc.but {a dx : Addr} {l : List (Str × Value)} {h h' : Heap} (d : Dc h dx l) (hs : Heap.SameBut a h h') (hne : dx ≠ a) : Dc h' dx l := let ⟨o, x, y⟩ := d; ⟨o, x, (hs.2 dx hne).trans y⟩
theorem PT.set {a : Addr} {h' : Heap} {tk : Nat} (P : PT s) (hs : Heap.SameBut a s.heap h') (ha : ∀ o, s.heap.get? a = some o → ∀ vs, o.data ≠ .fields vs) : PT { s with heap := h', toks := tk } := by
  obtain ⟨ps, ⟨⟨o, vs, e, e1, e2, e3⟩, t⟩, c⟩ := P
  have n1 : (209 : Addr) ≠ a := fun h => ha o (h ▸ e) vs e2
  have n2 : (205 : Addr) ≠ a := fun h => ha _ (h ▸ t) ps rfl
  refine ⟨ps, ⟨⟨o, vs, (hs.2 _ n1).trans e, e1, e2, e3⟩, (hs.2 _ n2).trans t⟩, fun pos c' h n hn => ?_⟩
  obtain ⟨cc, oc, vc, tc, x1, x2, x3, x4, x5⟩ := c pos c' h n hn
  exact ⟨cc, oc, vc, tc, x1, (hs.2 _ (fun h => ha oc (h ▸ x2) vc x4)).trans x2, x3, x4, x5⟩
theorem CodeS.set {cd : Value} {q : Str} {a : Addr} {h h' : Heap} (x : CodeS h cd q) (hs : Heap.SameBut a h h') (ha : ∀ o, h.get? a = some o → ∀ vs, o.data ≠ .fields vs) : CodeS h' cd q := by
  obtain ⟨cc, oc, vc, tc, x1, x2, x3, x4, x5⟩ := x
  exact ⟨cc, oc, vc, tc, x1, (hs.2 _ (fun h => ha oc (h ▸ x2) vc x4)).trans x2, x3, x4, x5⟩
theorem PT.keep (P : PT s) (K : Keep s s') : PT s' := let ⟨ps, a, b⟩ := P; ⟨ps, K.pt ps a, fun pos c' h n hn => (b pos c' h n hn).keep K⟩

theorem Has.but {a : Addr} {l : Objs} {h h' : Heap} (x : Has l h) (hs : Heap.SameBut a h h') (hn : ∀ p ∈ l, p.1 ≠ a) : Has l h' := fun p hp => ⟨(hs.2 _ (hn p hp)).trans (x p hp).1, (x p hp).2⟩
abbrev oneArg1 (x : Str) (px : Pos) : Arguments := ⟨[], [⟨x, none, px⟩], none, [], [], none, []⟩
theorem def_stmt {name bind x : Str} {px : Pos} {body : List Stmt} {scope : Scope} {pos : Pos} {Q : Flow → Shared → Prop}
    (h : wpAny (model pw w) A (makeFunction name (qualnameIn env name bind) (oneArg1 x px) (.stmts body) scope env [] [] [] pos pos.line) (fun f s' => wpAny (model pw w) A (storeName env bind f) (fun _ => Q .next) E s') E s) :
    wpAny (model pw w) A (exec (.FunctionDef name (oneArg1 x px) body [] none [] scope none bind pos) env) Q E s := by
  rw [arm_exec_FunctionDef]
  unfold defStmt
  rw [show defaultsOf (oneArg1 x px) env = ([], []) from rfl]
  dsimp only [List.isEmpty, Bool.not_true, Bool.false_and]
  rw [if_neg (by decide)]
  refine wpAny_bind (m := evalAll (evalEach [] env)) (wpAny_pure (wpAny_bind (wpAny_standAt (wpAny_bind (wpAny_holding (wpAny_bind (m := evalAll []) (wpAny_pure (wpAny_bind (wpAny_holding (m := evalAllOpt []) (wpAny_pure (wpAny_holding ?_)))))))))))
  refine wpAny_bind (m := evalNamed _) (wpAny_pure ?_)
  refine wpAny_mono h (fun f s' h' => ?_) fun _ _ z => z
  refine wpAny_bind (m := decorate _ _) (wpAny_pure (wpAny_bind (wpAny_standAt (wpAny_bind (wpAny_bindName (wpAny_mono h' (fun _ _ h'' => wpAny_pure h'') fun _ _ z => z))))))
structure PW (w : World) (s₀ : Shared) (env : Env) (own : List (Str × Addr)) (h : HP) (m cm : Str → Option Value) (lV lB : List (Str × Value)) (ex : Objs) (cds : List (Value × Str)) (s : Shared) : Prop where
  z : FmX w [h.dV, h.dB] s₀ env own m cm s
  dv : Dc s.heap h.dV lV
  db : Dc s.heap h.dB lB
  pt : PT s
  has : Has ex s.heap
  out : ∀ p ∈ ex, p.1 ∉ [h.dV, h.dB] ∧ p.1 ∉ mutX env own
  cs : ∀ q ∈ cds, CodeS s.heap q.1 q.2
variable {cds : List (Value × Str)} {ex : Objs} {s₀ : Shared} {own : List (Str × Addr)} {m m' cm cm' : Str → Option Value} {h : HP} {lV lB : List (Str × Value)}
theorem PW.keep (T : TopS w s₀) (x : PW w s₀ env own h m cm lV lB ex cds s) (K : Keep s s') : PW w s₀ env own h m cm lV lB ex cds s' := ⟨x.z.step T (Ch.of K), x.dv.keep K, x.db.keep K, x.pt.keep K, x.has.keep K, x.out, fun q hq => (x.cs q hq).keep K⟩
theorem Dc.noF {dx : Addr} {l : List (Str × Value)} {hh : Heap} (d : Dc hh dx l) : ∀ o, hh.get? dx = some o → ∀ vs, o.data ≠ .fields vs := by
  obtain ⟨od, ⟨es, n, rfl, _⟩, e⟩ := d
  intro o e' vs
  rw [e] at e'; cases e'; exact nofun
theorem Ns_noF {L : Addr} {hh : Heap} {m : Str → Option Value} (d : hh.Ns L m) : ∀ o, hh.get? L = some o → ∀ vs, o.data ≠ .fields vs := by
  obtain ⟨o, es, ep, e, hd, _⟩ := d
  intro o' e' vs
  rw [e] at e'; cases e'; rw [hd]; exact nofun
theorem Cell_noF {c : Addr} {hh : Heap} {v : Option Value} (d : hh.IsCell c v) : ∀ o, hh.get? c = some o → ∀ vs, o.data ≠ .fields vs := by
  obtain ⟨o, e, hd⟩ := d
  intro o' e' vs
  rw [e] at e'; cases e'; rw [hd]; exact nofun
theorem PW.setV {name : Str} {v : Value} {Q : Unit → Shared → Prop} (T : TopS w s₀) (n1 : h.dV ≠ h.dB) (Fv : Free w h.dV) (x : PW w s₀ env own h m cm lV lB ex cds s) (hx : Ins s.heap h.V 213 h.dV) (hl : lV.lookup name = none) (hz : lV.length < 900) (hg : writes w.params 213 name)
    (hQ : ∀ s', PW w s₀ env own h m cm (lV ++ [(name, v)]) lB ex cds s' → s'.gens = s.gens → Q () s') : wpAny (model pw w) A (setAttr (.ref h.V) name v) Q E s :=
  set_inst (x.z.ch.top T) hx x.dv hl hz hg fun h' hs d' => hQ _ ⟨x.z.step T ((Ch.set Fv hs).mono fun a ha => by rw [List.mem_singleton.mp ha]; exact List.mem_cons_self), d', x.db.but hs (Ne.symm n1), x.pt.set hs x.dv.noF, x.has.but hs (fun p hp e => (x.out p hp).1 (e ▸ List.mem_cons_self)), x.out, fun q hq => (x.cs q hq).set hs x.dv.noF⟩ rfl
theorem PW.setB {name : Str} {v : Value} {Q : Unit → Shared → Prop} (T : TopS w s₀) (n1 : h.dV ≠ h.dB) (Fv : Free w h.dB) (x : PW w s₀ env own h m cm lV lB ex cds s) (hx : Ins s.heap h.B 149 h.dB) (hl : lB.lookup name = none) (hz : lB.length < 900) (hg : writes w.params 149 name)
    (hQ : ∀ s', PW w s₀ env own h m cm lV (lB ++ [(name, v)]) ex cds s' → s'.gens = s.gens → Q () s') : wpAny (model pw w) A (setAttr (.ref h.B) name v) Q E s :=
  set_inst (x.z.ch.top T) hx x.db hl hz hg fun h' hs d' => hQ _ ⟨x.z.step T ((Ch.set Fv hs).mono fun a ha => by rw [List.mem_singleton.mp ha]; exact List.mem_cons_of_mem _ List.mem_cons_self), x.dv.but hs n1, d', x.pt.set hs x.db.noF, x.has.but hs (fun p hp e => (x.out p hp).1 (e ▸ List.mem_cons_of_mem _ List.mem_cons_self)), x.out, fun q hq => (x.cs q hq).set hs x.db.noF⟩ rfl
theorem PW.ndV (x : PW w s₀ env own h m cm lV lB ex cds s) {a : Addr} (ha : a ∈ mutX env own) : h.dV ≠ a ∧ h.dB ≠ a := ⟨fun e => x.z.xs h.dV List.mem_cons_self (e ▸ x.z.new a ha), fun e => x.z.xs h.dB (List.mem_cons_of_mem _ List.mem_cons_self) (e ▸ x.z.new a ha)⟩
theorem PW.store {n : Str} {v : Value} {Q : Unit → Shared → Prop} (T : TopS w s₀) (x : PW w s₀ env own h m cm lV lB ex cds s) (hf : env.scope.kind = .function) (hx : Loc env n)
    (hQ : ∀ s', PW w s₀ env own h (fun y => if y = n then some v else m y) cm lV lB ex cds s' → Heap.SameBut env.locals s.heap s'.heap → Q () s') : wpAny (model pw w) A (storeName env n v) Q E s :=
  wpAny_storeName_local hx.kind x.z.ns (fun h' hn hs => hQ _ ⟨⟨x.z.set T List.mem_cons_self hs, hn, fun n c hc => (x.z.cell n c hc).sameBut hs (x.z.ne _ (mem_of_lookup hc)), x.z.apart, x.z.new, x.z.ne, x.z.xs, x.z.nd⟩, x.dv.but hs (x.ndV List.mem_cons_self).1, x.db.but hs (x.ndV List.mem_cons_self).2, x.pt.set hs (Ns_noF x.z.ns), x.has.but hs (fun p hp e => (x.out p hp).2 (e ▸ List.mem_cons_self)), x.out, fun q hq => (x.cs q hq).set hs (Ns_noF x.z.ns)⟩ hs) (by simp [hf])
theorem PW.storeC {n : Str} {v : Value} {c : Addr} {Q : Unit → Shared → Prop} (T : TopS w s₀) (x : PW w s₀ env own h m cm lV lB ex cds s) (hf : env.scope.kind = .function) (hx : env.kindOf n = some .cell) (hc : own.lookup n = some c) (he : env.cells.lookup n = some c)
    (hQ : ∀ s', PW w s₀ env own h m (fun y => if y = n then some v else cm y) lV lB ex cds s' → Heap.SameBut c s.heap s'.heap → Q () s') : wpAny (model pw w) A (storeName env n v) Q E s := by
  have hm := mem_mut (env := env) (mem_of_lookup hc)
  refine wpAny_storeName_cell hf hx he (x.z.cell n c hc) fun h' hcell hs => hQ _ ⟨⟨x.z.set (tk := s.toks) T hm hs, x.z.ns.sameBut hs (Ne.symm (x.z.ne _ (mem_of_lookup hc))), fun n' c' hc' => ?_, x.z.apart, x.z.new, x.z.ne, x.z.xs, x.z.nd⟩,
    x.dv.but hs (x.ndV hm).1, x.db.but hs (x.ndV hm).2, x.pt.set hs (Cell_noF (x.z.cell n c hc)), x.has.but hs (fun p hp e => (x.out p hp).2 (e ▸ hm)), x.out, fun q hq => (x.cs q hq).set hs (Cell_noF (x.z.cell n c hc))⟩ hs
  by_cases hn : n' = n
  · subst hn
    rw [hc] at hc'; cases hc'
    simpa using hcell
  · simp only [hn, if_false]
    exact (x.z.cell n' c' hc').sameBut hs fun e => hn (name_of_addr x.z.apart (mem_of_lookup hc') (e ▸ mem_of_lookup hc))
theorem PW.ext (T : TopS w s₀) (x : PW w s₀ env own h m cm lV lB ex cds s) (C : Ch w [] s s') (P : PT s') : PW w s₀ env own h m cm lV lB ex cds s' :=
  ⟨x.z.step T (C.mono fun a ha => nomatch ha), C.dc (by simp) x.dv, C.dc (by simp) x.db, P, fun p hp => ⟨C.old _ _ (by simp) (x.has p hp).2 (x.has p hp).1, (x.has p hp).2⟩, x.out, fun q hq => let ⟨c, o, vs, t, a, b, so, d, e⟩ := x.cs q hq; ⟨c, o, vs, t, a, C.old _ _ (by simp) so b, so, d, e⟩⟩

theorem PW.addN {a : Addr} {ob : Obj} {s₂ : Shared} {ex₂ : Objs} {cds₂ : List (Value × Str)} (x : PW w s₀ env own h m cm lV lB ex cds s) (hg : s.heap.get? a = some ob) (so : solid a ob = true) (y : PW w s₀ env own h m cm lV lB ex₂ cds₂ s₂) (hn : s₂.heap.get? a = none) : PW w s₀ env own h m cm lV lB ((a, ob) :: ex) cds s := by
  refine ⟨x.z, x.dv, x.db, x.pt, Has.cons hg so x.has, fun p hp => ?_, x.cs⟩
  rcases List.mem_cons.mp hp with rfl | hp
  · refine ⟨fun hm => ?_, fun hm => ?_⟩
    · simp only [List.mem_cons, List.not_mem_nil, or_false] at hm
      rcases hm with e | e
      · obtain ⟨o, _, e'⟩ := y.dv; rw [← e, hn] at e'; cases e'
      · obtain ⟨o, _, e'⟩ := y.db; rw [← e, hn] at e'; cases e'
    · rcases List.mem_cons.mp hm with e | hm
      · obtain ⟨o, _, _, e', _⟩ := y.z.ns
        have e : a = env.locals := e
        rw [← e, hn] at e'; cases e'
      · obtain ⟨⟨nn, aa⟩, hx, e⟩ := List.mem_map.mp hm
        have e : aa = a := e
        subst e
        obtain ⟨o, e', _⟩ := y.z.cell nn aa (lookup_of_mem y.z.nd hx)
        rw [hn] at e'; cases e'
  · exact x.out p hp
theorem PW.code {cd : Value} {q : Str} (x : PW w s₀ env own h m cm lV lB ex cds s) (c : CodeS s.heap cd q) : PW w s₀ env own h m cm lV lB ex ((cd, q) :: cds) s :=
  ⟨x.z, x.dv, x.db, x.pt, x.has, x.out, fun p hp => (List.mem_cons.mp hp).elim (fun e => by rw [e]; exact c) (x.cs p)⟩
/-- a def of the body -/
theorem PW.defs {n x : Str} {px : Pos} {body : List Stmt} {scope : Scope} {pos : Pos} {cl : List (Str × Addr)} {Q : Flow → Shared → Prop} (T : TopS w s₀) (y : PW w s₀ env own h m cm lV lB ex cds s) (hf : env.scope.kind = .function) (hx : Loc env n) (hc : env.code = .ref 209)
    (hn : nameAt pos.line = some (qualnameIn env n n)) (hcl : closureFor scope env = pure cl) (hne : cl.isEmpty = false) (hdoc : docOf body = none) (hg : env.globals = 3) (hbi : peek (KF w.params) ⟨pw, w.params⟩ (builtinsFor 3 env.builtins) = some 0)
    (hnm : (peek (KF w.params) ⟨pw, w.params⟩ (nsGet 3 "__name__")).isSome = true)
    (hQ : ∀ f ct cd pm s', PW w s₀ env own h (fun y => if y = n then some (.ref f) else m y) cm lV lB ((f, { cls := .type "function", data := .func (closFd n (qualnameIn env n n) (oneArg1 x px) body scope cl ct cd pm) }) :: ex) ((cd, qualnameIn env n n) :: cds) s' → Q .next s') :
    wpAny (model pw w) A (exec (.FunctionDef n (oneArg1 x px) body [] none [] scope none n pos) env) Q E s := by
  refine def_stmt (make_clos (y.z.ch.top T) y.pt hc hn hcl hne hdoc hg hbi hnm rfl fun f ct cd pm s' C P cS _ hf0 _ hget => ?_)
  refine PW.store T ((y.ext T C P).code cS |>.addN hget (solid_cls rfl) y hf0) hf hx fun s₂ y₂ _ => hQ f ct cd pm s₂ y₂
theorem assign_attr {o : Expr} {attr : Str} {p1 : Pos} {v : Value} {Q : Unit → Shared → Prop} (h : wpAny (model pw w) A (eval o env) (fun ov s₂ => wpAny (model pw w) A (setAttr ov attr v) Q E s₂) E s) :
    wpAny (model pw w) A (assign (.Attribute o attr p1) env v) Q E s := by
  rw [assign_Attribute]
  exact wpAny_bind (wpAny_holding (wpAny_mono h (fun ov s₂ h₂ => wpAny_bind (wpAny_standAt (wpAny_bind (wpAny_holding (wpAny_mono h₂ (fun _ _ hq => wpAny_release hq) fun _ _ z => z))))) fun _ _ z => z))
theorem PW.cellO {n : Str} {c : Addr} {v : Value} (T : TopS w s₀) (x : PW w s₀ env own h m cm lV lB ex cds s) (hl : own.lookup n = some c) (hc : cm n = some v) : CellO s.heap c v := by
  obtain ⟨o, a, b⟩ := x.z.cell n c hl
  rw [hc] at b
  exact ⟨o, a, solid_off (x.z.off T (mem_mut (mem_of_lookup hl))).1.off, b⟩
theorem pair_with_c {sb : Shared} {h o : HP} {r : Addr} {i : Int} {ti : Tok} {inf inf' : Value} {Q : Value → Shared → Prop} (hA : AOk (k + 3) A) (TB : TopS w sb) (T : TopS w s) (f1 : sb.heap.get? h.dV = none) (f2 : sb.heap.get? h.dB = none)
    (H : Half s h) (O : Half s o) (P : PT s) (n1 : h.dV ≠ h.dB) (n2 : o.dV ∉ [h.dV, h.dB]) (n3 : o.dB ∉ [h.dV, h.dB])
    (hlV : h.lV = [(Str.ofString "BitSet", .ref h.B), (Str.ofString "vectors", .ref h.L)]) (hlB : h.lB = [(nMembers, .ref h.mL), (Str.ofString "infimum", inf), (Str.ofString "supremum", .ref h.sup), (Str.ofString "Tuple", .ref h.V)])
    (hob : o.lB.lookup (Str.ofString "fromint") = none)
    (hQ : ∀ s' lV lB f, Ch w [h.dV, h.dB] s s' → PT s' → Half s' { h with lV := lV, lB := lB } → Paird w s' { h with lV := lV, lB := lB } o f r i → Q .none s') :
    wpAny (model pw w) A (call (.ref 210) [.ref h.V, .ref r, .int i ti, .ref o.V]) Q E s := by
  have F1 := free_of TB f1
  have F2 := free_of TB f2
  have d0 : DX s [h.dV, h.dB] := by
    intro a ha
    simp only [List.mem_cons, List.not_mem_nil, or_false] at ha
    rcases ha with rfl | rfl
    · obtain ⟨od, a, b⟩ := H.v.dc; exact ⟨od, h.lV, a, b, by rw [hlV]; simp⟩
    · obtain ⟨od, a, b⟩ := H.b.dc; exact ⟨od, h.lB, a, b, by rw [hlB]; simp⟩
  refine enter_cells (binds := [(Str.ofString "self", .ref h.V), (Str.ofString "relation", .ref r), (Str.ofString "index", .int i ti), (Str.ofString "other", .ref o.V)]) hA T (T.kin 210 _ rfl) rfl rfl ⟨_, _, _, _, rfl, T.kin _ _ rfl, rfl, rfl⟩ rfl rfl (fun n x hx => ?_) (fun n => by simp [cellsFrom]; decide) ?_
  · simp only [List.mem_cons, List.not_mem_nil, or_false] at hx
    rcases hx with rfl | rfl | rfl | rfl
    · exact .inr ⟨rfl, rfl⟩
    · exact .inl rfl
    · exact .inl rfl
    · exact .inr ⟨rfl, rfl⟩
  intro L s₁ hA₁ T₁ F₀ _
  have W₁ : PW w s (callEnvC _ L 210) _ h _ _ h.lV h.lB [] [] s₁ := ⟨FmX.of F₀ (fun a ha => by obtain ⟨od, l, _, e, _⟩ := d0 a ha; rw [e]; exact nofun), H.v.dc.keep F₀.keep, H.b.dc.keep F₀.keep, P.keep F₀.keep, .nil, (fun _ e => nomatch e), fun _ e => nomatch e⟩
  rw [hlV, hlB] at W₁
  -- self.relation = relation; self.relation_index = index
  refine wpAny_execs_cons (asg_attr (W₁.z.name rfl ⟨rfl, by decide +kernel⟩ rfl (nm_cell rfl (W₁.z.c (Str.ofString "self") rfl rfl) ?_)))
  refine W₁.setV T n1 F1 (W₁.z.ch.ins d0 H.v.ins) rfl (by simp) ⟨by kernel_rfl, by kernel_rfl, by kernel_rfl, by kernel_rfl⟩ fun s₂ W₂ _ => ?_
  refine wpAny_execs_cons (asg_attr (W₂.z.name rfl ⟨rfl, by decide +kernel⟩ rfl (nm_cell rfl (W₂.z.c (Str.ofString "self") rfl rfl) ?_)))
  refine W₂.setV T n1 F1 (W₂.z.ch.ins d0 H.v.ins) rfl (by simp) ⟨by kernel_rfl, by kernel_rfl, by kernel_rfl, by kernel_rfl⟩ fun s₃ W₃ _ => ?_
  -- Prime, Double
  have O₃ := W₃.z.ch.half d0 n2 n3 O
  have T₃ := W₃.z.ch.top T
  refine wpAny_execs_cons (wpAny_Assign_Name (Attribute_any_ (Attribute_any_ (nm_cell rfl (W₃.z.c (Str.ofString "other") rfl rfl) ?_))))
  refine get_own_ T₃ O₃.v.ins O₃.v.dc O₃.vb rfl (by kernel_rfl) (get_own_ (T₃.keep toks_keep) O₃.b.ins O₃.b.dc O₃.supl rfl (by kernel_rfl) ?_)
  refine (W₃.keep T (toks_keep (tk := s₃.toks + 1 + 1))).storeC T rfl rfl rfl rfl fun s₄ W₄ _ => ?_
  have T₄ := W₄.z.ch.top T
  have B₄ := W₄.z.ch.ins d0 H.b.ins
  refine wpAny_execs_cons (wpAny_Assign_Name (Attribute_any_ (Attribute_any_ (nm_cell rfl (W₄.z.c (Str.ofString "self") rfl rfl) ?_))))
  refine get_own_ T₄ (W₄.z.ch.ins d0 H.v.ins) W₄.dv (v := .ref h.B) rfl rfl (by kernel_rfl) (get_own_ (T₄.keep toks_keep) B₄ W₄.db (v := .ref h.sup) rfl rfl (by kernel_rfl) ?_)
  refine (W₄.keep T (toks_keep (tk := s₄.toks + 1 + 1))).storeC T rfl rfl rfl rfl fun s₅ W₅ _ => ?_
  -- _prime, _double
  have T₅ := W₅.z.ch.top T
  have O₅ := W₅.z.ch.half d0 n2 n3 O
  refine wpAny_execs_cons (wpAny_Assign_Name (Attribute_any_ (Attribute_any_ (nm_cell rfl (W₅.z.c (Str.ofString "other") rfl rfl) ?_))))
  refine get_own_ T₅ O₅.v.ins O₅.v.dc O₅.vb rfl (by kernel_rfl) (get_bm hA₁ (T₅.keep toks_keep) O₅.b.ins O₅.b.dc hob fun bm s₆ k₆ n₆ => ?_)
  have W₆ := W₅.keep T ((toks_keep (s := s₅)).trans k₆)
  have W₆' := W₆.addN n₆.2 (solid_cls rfl) (W₅.keep T toks_keep) n₆.1
  refine W₆'.storeC T rfl rfl rfl rfl fun s₇ W₇ hs₇ => ?_
  have T₇ := W₇.z.ch.top T
  have B₇ := W₇.z.ch.ins d0 H.b.ins
  refine wpAny_execs_cons (wpAny_Assign_Name (Attribute_any_ (Attribute_any_ (nm_cell rfl (W₇.z.c (Str.ofString "self") rfl rfl) ?_))))
  refine get_own_ T₇ (W₇.z.ch.ins d0 H.v.ins) W₇.dv (v := .ref h.B) rfl rfl (by kernel_rfl) (get_bm hA₁ (T₇.keep toks_keep) B₇ W₇.db rfl fun bm1 s₈ k₈ n₈ => ?_)
  have W₈ := (W₇.keep T ((toks_keep (s := s₇)).trans k₈)).addN n₈.2 (solid_cls rfl) (W₇.keep T toks_keep) n₈.1
  refine W₈.storeC T rfl rfl rfl rfl fun s₉ W₉ hs₉ => ?_
  refine wpAny_execs_cons (W₉.defs T rfl ⟨rfl, by decide +kernel⟩ rfl (by kernel_rfl) rfl rfl rfl rfl (by kernel_rfl) (by kernel_rfl) fun fa cta cda pma sa Wa => ?_)
  refine wpAny_execs_cons (Wa.defs T rfl ⟨rfl, by decide +kernel⟩ rfl (by kernel_rfl) rfl rfl rfl rfl (by kernel_rfl) (by kernel_rfl) fun fb ctb cdb pmb sb' Wb => ?_)
  refine wpAny_execs_cons (Wb.defs T rfl ⟨rfl, by decide +kernel⟩ rfl (by kernel_rfl) rfl rfl rfl rfl (by kernel_rfl) (by kernel_rfl) fun fc ctc cdc pmc sc Wc => ?_)
  refine wpAny_execs_cons (wpAny_Assign_two (Wc.z.name rfl ⟨rfl, by decide +kernel⟩ (v := .ref fa) rfl (assign_attr (nm_cell rfl (Wc.z.c (Str.ofString "self") rfl rfl) ?_))))
  refine Wc.setV T n1 F1 (Wc.z.ch.ins d0 H.v.ins) rfl (by simp) ⟨by kernel_rfl, by kernel_rfl, by kernel_rfl, by kernel_rfl⟩ fun sv0 Wv0 _ => ?_
  refine assign_attr (Attribute_any_ (nm_cell rfl (Wv0.z.c (Str.ofString "self") rfl rfl) (get_own_ (Wv0.z.ch.top T) (Wv0.z.ch.ins d0 H.v.ins) Wv0.dv (v := .ref h.B) rfl rfl (by kernel_rfl) ?_)))
  refine (Wv0.keep T (toks_keep (tk := sv0.toks + 1))).setB T n1 F2 (Wv0.z.ch.ins d0 H.b.ins) rfl (by simp) ⟨by kernel_rfl, by kernel_rfl, by kernel_rfl, by kernel_rfl⟩ fun sb0 Wb0 _ => ?_
  refine wpAny_execs_cons (wpAny_Assign_two (Wb0.z.name rfl ⟨rfl, by decide +kernel⟩ (v := .ref fb) rfl (assign_attr (nm_cell rfl (Wb0.z.c (Str.ofString "self") rfl rfl) ?_))))
  refine Wb0.setV T n1 F1 (Wb0.z.ch.ins d0 H.v.ins) rfl (by simp) ⟨by kernel_rfl, by kernel_rfl, by kernel_rfl, by kernel_rfl⟩ fun sv1 Wv1 _ => ?_
  refine assign_attr (Attribute_any_ (nm_cell rfl (Wv1.z.c (Str.ofString "self") rfl rfl) (get_own_ (Wv1.z.ch.top T) (Wv1.z.ch.ins d0 H.v.ins) Wv1.dv (v := .ref h.B) rfl rfl (by kernel_rfl) ?_)))
  refine (Wv1.keep T (toks_keep (tk := sv1.toks + 1))).setB T n1 F2 (Wv1.z.ch.ins d0 H.b.ins) rfl (by simp) ⟨by kernel_rfl, by kernel_rfl, by kernel_rfl, by kernel_rfl⟩ fun sb1 Wb1 _ => ?_
  refine wpAny_execs_cons (wpAny_Assign_two (Wb1.z.name rfl ⟨rfl, by decide +kernel⟩ (v := .ref fc) rfl (assign_attr (nm_cell rfl (Wb1.z.c (Str.ofString "self") rfl rfl) ?_))))
  refine Wb1.setV T n1 F1 (Wb1.z.ch.ins d0 H.v.ins) rfl (by simp) ⟨by kernel_rfl, by kernel_rfl, by kernel_rfl, by kernel_rfl⟩ fun sv2 Wv2 _ => ?_
  refine assign_attr (Attribute_any_ (nm_cell rfl (Wv2.z.c (Str.ofString "self") rfl rfl) (get_own_ (Wv2.z.ch.top T) (Wv2.z.ch.ins d0 H.v.ins) Wv2.dv (v := .ref h.B) rfl rfl (by kernel_rfl) ?_)))
  refine (Wv2.keep T (toks_keep (tk := sv2.toks + 1))).setB T n1 F2 (Wv2.z.ch.ins d0 H.b.ins) rfl (by simp) ⟨by kernel_rfl, by kernel_rfl, by kernel_rfl, by kernel_rfl⟩ fun sb2 Wb2 _ => ?_
  refine wpAny_execs_nil ?_
  have Z := Wb2
  refine hQ _ _ _ ⟨fa, fb, fc, L + 4, L + 3, L + 6, L + 5, L + 2, L + 1, bm, bm1⟩ Z.z.ch Z.pt (Z.z.ch.halfD d0 H Z.dv Z.db rfl rfl rfl rfl) ?_
  have hs := Z.has
  have hc := Z.cs
  refine ⟨rfl, ⟨_, rfl⟩, rfl, rfl, rfl, rfl, rfl, rfl, rfl, rfl, rfl, ⟨_, cta, cda, pma, (hs _ (.tail _ (.tail _ (.head _)))).1, hc _ (.tail _ (.tail _ (.head _)))⟩, ⟨_, ctb, cdb, pmb, (hs _ (.tail _ (.head _))).1, hc _ (.tail _ (.head _))⟩,
    ⟨_, ctc, cdc, pmc, (hs _ (.head _)).1, hc _ (.head _)⟩, Z.cellO T (n := Str.ofString "Prime") rfl rfl, Z.cellO T (n := Str.ofString "Double") rfl rfl, Z.cellO T (n := Str.ofString "_prime") rfl rfl, Z.cellO T (n := Str.ofString "_double") rfl rfl,
    Z.cellO T (n := Str.ofString "other") rfl rfl, Z.cellO T (n := Str.ofString "self") rfl rfl, ?_, ?_⟩
  · exact (hs _ (.tail _ (.tail _ (.tail _ (.tail _ (.head _)))))).1
  · exact (hs _ (.tail _ (.tail _ (.tail _ (.head _))))).1
end
end Mine
end
section
open PySem PySem.W PySem.W.X PyProof.Rows PySem.Calls PySem.Spec
/-! Bs -/
namespace Mine
set_option maxRecDepth 100000
section
variable {w : World} {A : Around} {X : List Addr} {s₀ s s' s'' : Shared} {E : Value → Shared → Prop} {env : Env} {own : List (Str × Addr)} {m cm : Str → Option Value} {k : Nat}
theorem Fm.base {s₁ : Shared} (T : TopS w s₀) (K : Keep s₀ s₁) (F : Fm s₁ env own m cm s) : Fm s₀ env own m cm s :=
  ⟨K.trans F.keep, F.ns, F.cell, F.apart, fun a ha => ⟨none_back K (F.new a ha).2 (F.new a ha).1, (F.new a ha).2⟩, F.ne, F.nd⟩
theorem Fm.setD {dx : Addr} {h' : Heap} {tk : Nat} (T : TopS w s₀) (F : Fm s₀ env own m cm s) (h0 : s₀.heap.get? dx = none) (ho : tabAddrs.contains dx = false) (hx : dx ∉ mutX env own) (hs : Heap.SameBut dx s.heap h') : Fm s₀ env own m cm { s with heap := h', toks := tk } := by
  have K := Keep.upd (X := [dx]) (tk := tk) T F.keep (fun a ha => by rw [List.mem_singleton.mp ha]; exact h0) (fun a ha => by rw [List.mem_singleton.mp ha]; exact ho) (fun b o hb e => hs.extBut b o (fun h => hb (h ▸ List.mem_cons_self)) e)
  exact F.sin K (X := [dx]) (fun b hb hm => hx (List.mem_singleton.mp hb ▸ hm)) fun b o hb e => hs.extBut b o (fun h => hb (h ▸ List.mem_cons_self)) e
theorem make_inst {C : Addr} {init : Value} {rest : List Value} {Q : Value → Shared → Prop} (T : TopS w s) (hm : makesIn (KF w.params) C = true) (hi : findIn (KF w.params) (.ref C) "__init__" = some (some init)) (hb : ∀ (h : Heap) self, (KF w.params).In h → Looks (model pw w) h (bindSpecial init self) (init, [self]))
    (hne : (some init != some (Value.builtin "object.__init__")) = true ∨ (rest = [] ∧ ([] : List (Str × Value)) = []))
    (h : codeAny (model pw w) (A.under (.builtin "type.__call__" ⟨.ref C :: rest, []⟩)) (.call init ⟨.ref (s.heap.objs.size + 1) :: rest, []⟩)
      (fun r s' => match r with | .ok (.ret v) => v = .none ∧ Q (.ref (s.heap.objs.size + 1)) s' | .ok _ => False | .error e => E e s') { s with heap := (s.heap.push emptyDict).push (instObj C s.heap.objs.size) }) :
    wpAny (model pw w) A (call (.ref C) rest) Q E s := by
  obtain ⟨hh, g, d, t, os⟩ := s
  refine wpAny_call (make_core (makes_of T.kin hm) (looks_findIn T.kin hi) (fun self => hb hh self T.kin) hne (codeAny_mono h fun r s' hr => ?_))
  rcases r with e | (v | _ | _ | _) <;> exact hr
theorem AOk.call {k : Nat} {A : Around} {C : Addr} {rest : List Value} (h : AOk (k + 1) A) : AOk k (A.under (.builtin "type.__call__" ⟨.ref C :: rest, []⟩)) := by
  refine ⟨h.handled, ?_, ?_⟩
  · have := h.depth
    show A.depth + Code.weight (.builtin "type.__call__" ⟨.ref C :: rest, []⟩) + k ≤ 600
    have : Code.weight (.builtin "type.__call__" ⟨.ref C :: rest, []⟩) = 1 := by kernel_rfl
    omega
  · have := h.units
    show A.units + Code.cUnits (.builtin "type.__call__" ⟨.ref C :: rest, []⟩) + 8 * k ≤ 6000
    have : Code.cUnits (.builtin "type.__call__" ⟨.ref C :: rest, []⟩) = 1 := by kernel_rfl
    omega

theorem enter_code {k : Nat} {a : Addr} {o : Obj} {fd : FuncData} {body : List Stmt} {args : Args} {binds : List (Str × Value)} {R : Result → Shared → Prop} (hA : AOk (k + 1) A) (T : TopS w s) (ho : s.heap.get? a = some o) (hd : o.data = .func fd)
    (hbody : fd.body = .stmts body) (hcd : s.heap.CodeRec fd.code fd.qualname) (hbind : BindsTo s fd args binds)
    (hcell : ∀ x ∈ fd.scope.names, x.2 ≠ .cell) (hloc : ∀ x ∈ binds, fd.scope.names.lookup x.1 = some .local)
    (h : ∀ L s₁, AOk k (A.deeper (callEnv fd L a)) → TopS w s₁ → Fm s (callEnv fd L a) [] (fun x => binds.reverse.lookup x) (fun _ => none) s₁ → s₁.gens = s.gens →
      wpAny (model pw w) (A.deeper (callEnv fd L a)) (execs body (callEnv fd L a)) (fun f s' => R (.ok (.ret (retOf f))) s') (fun _ _ => False) s₁)
    (hco : fd.scope.isCoroutine = false := by rfl) (hgen : fd.scope.isGenerator = false := by rfl) (hk : fd.scope.kind = .function := by rfl) :
    codeAny (model pw w) A (.call (.ref a) args) R s := by
  refine codeAny_call_def (A := A) hA.room ho hd (nolimit T) hcd hbody hbind hcell hloc (fun h₁ hns hk₁ => ?_) hco hgen hk
  have kp : Keep s { s with heap := h₁, toks := s.toks + binds.length } := .heapTok hk₁
  refine wpAny_mono (h s.heap.objs.size _ hA.deeper (T.keep kp) ⟨kp, hns, fun _ _ e => (nomatch e), List.Pairwise.nil, fun y hy => ?_, fun _ hy => (nomatch hy), List.nodup_nil⟩ rfl)
    (fun f s' hq => by cases f <;> exact hq) (fun _ _ z => z.elim)
  rcases List.mem_cons.mp hy with e | hy
  · subst e; exact ⟨none_of_size (Nat.le_refl _), off_of_none T (none_of_size (Nat.le_refl _))⟩
  · cases hy
end
section
variable {w : World} {S : Shared} {E Q : Value → Shared → Prop}
set_option hygiene false in
local macro_rules | `(tactic| x_close) => `(tactic| (exact hQ _ _ _ rfl (mem_keep (by assumption)) (mem_new (by assumption) (.head _)) (mem_new (by assumption) (.tail _ (.head _)))))
set_option maxHeartbeats 0 in
theorem make_vec_x (KX : Frag.In (KF w.params) S.heap)
   (hQ : ∀ (V dV : Addr) (s' : Shared), s'.gens = S.gens → Keep S s' → New S s' V ⟨.ref 213, some dV, .plain, #[]⟩ → New S s' dV ⟨.type "dict", none, .dict #[] 0, #[]⟩ → Q (.ref V) s') :
   wpAny (model pw w) Amax (call (.ref 213) [] []) Q E S := by
  x_run
end
section
variable {w : World} {A : Around} {X : List Addr} {s₀ s s' s'' : Shared} {E : Value → Shared → Prop} {env : Env} {own : List (Str × Addr)} {m cm : Str → Option Value} {k : Nat}
theorem make_vec {Q : Value → Shared → Prop} (hA : AOk k A) (T : TopS w s) (hQ : ∀ V dV s', Keep s s' → s.heap.get? V = none → s.heap.get? dV = none → Ins s'.heap V 213 dV → Dc s'.heap dV [] → Q (.ref V) s') :
    wpAny (model pw w) A (call (.ref 213) []) Q E s :=
  wk hA (make_vec_x T.kin fun V dV s' _ k' nV nd => hQ V dV s' k' nV.1 nd.1 ⟨_, ⟨rfl, rfl, rfl⟩, nV.2⟩ ⟨_, ⟨[], 0, rfl, .nil⟩, nd.2⟩)

theorem call_0 {func : Expr} {pos : Pos} {Q : Value → Shared → Prop} (h : wpAny (model pw w) A (eval func env) (fun f s₀ => Kp w f s₀ ∧ wpAny (model pw w) A (call f []) Q E s₀) E s)
    (hform : eval (.Call func [] [] pos) env = (do callWith pos (← eval func env) [] (backTo pos (starEach [] env)) (backToKw pos (keywordEach [] env))) := by rfl) : wpAny (model pw w) A (eval (.Call func [] [] pos) env) Q E s := by
  rw [hform]
  exact wpAny_bind (wpAny_mono h (fun f s₀ h₀ => callW0 h₀.1 (by simpa using h₀.2)) fun _ _ z => z)
theorem Ins.but {a x C dx : Addr} {h h' : Heap} (i : Ins h x C dx) (hs : Heap.SameBut a h h') (hne : x ≠ a) : Ins h' x C dx := let ⟨o, a', b⟩ := i; ⟨o, a', (hs.2 x hne).trans b⟩
theorem Ins.ne {x C dx a : Addr} {h : Heap} {l : List (Str × Value)} (i : Ins h x C dx) (d : Dc h a l) : x ≠ a := fun e => by
  obtain ⟨o, a', b⟩ := i
  obtain ⟨od, ⟨es, n, rfl, _⟩, e'⟩ := d
  rw [e, e'] at b; cases b
  exact nomatch a'.1
/-- a frame that owns a thing's dict -/
structure BI (s₀ : Shared) (env : Env) (own : List (Str × Addr)) (m cm : Str → Option Value) (x C dx : Addr) (l : List (Str × Value)) (s : Shared) : Prop where
  f : Fm s₀ env own m cm s
  d : Dc s.heap dx l
  i : Ins s.heap x C dx
  n : s₀.heap.get? dx = none
  o : tabAddrs.contains dx = false
  a : dx ∉ mutX env own
theorem BI.keep {x C dx : Addr} {l : List (Str × Value)} (b : BI s₀ env own m cm x C dx l s) (K : Keep s s') : BI s₀ env own m cm x C dx l s' := ⟨b.f.step K, b.d.keep K, b.i.keep K, b.n, b.o, b.a⟩
theorem BI.set {x C dx : Addr} {l : List (Str × Value)} {name : Str} {v : Value} {Q : Unit → Shared → Prop} (T : TopS w s₀) (b : BI s₀ env own m cm x C dx l s) (hl : l.lookup name = none) (hz : l.length < 900) (hg : writes w.params C name)
    (hQ : ∀ s', BI s₀ env own m cm x C dx (l ++ [(name, v)]) s' → Heap.SameBut dx s.heap s'.heap → s'.gens = s.gens → Q () s') : wpAny (model pw w) A (setAttr (.ref x) name v) Q E s :=
  set_inst (T.keep b.f.keep) b.i b.d hl hz hg fun h' hs d' => hQ _ ⟨b.f.setD T b.n b.o b.a hs, d', b.i.but hs (b.i.ne b.d), b.n, b.o, b.a⟩ hs rfl
theorem IsMB.but {p B a : Addr} {n : Nat} {l : List (Str × Value)} {h' : Heap} {tk : Nat} (i : IsMB s p B n) (hs : Heap.SameBut a s.heap h') (d : Dc s.heap a l) (hl : l.length ≠ 1) : IsMB { s with heap := h', toks := tk } p B n := by
  obtain ⟨dd, hb, t, kt, k, x, y⟩ := i
  obtain ⟨od, ⟨es, n', rfl, hp⟩, e⟩ := d
  refine ⟨dd, hb, t, kt, k, hs.extBut _ _ (fun h => ?_) x, hs.extBut _ _ (fun h => ?_) y⟩
  · rw [h, e] at x; simp [dictOf] at x
  · rw [h, e] at y
    have := hp.length
    unfold dictOf mbDict at y
    simp at y
    rw [← this] at hl
    apply hl
    have := y.1
    rw [this]; rfl
def nInf : Str := Str.ofString "infimum"
def nSup : Str := Str.ofString "supremum"
def nTup : Str := Str.ofString "Tuple"
/-- BitSet(members, Vectors) -/
theorem make_bs {mL : Addr} {ys : List Value} {n : Nat} {Q : Value → Shared → Prop} (hA : AOk (k + 4) A) (T : TopS w s) (hL : s.heap.get? mL = some (listObj ys n)) (hl : ys.length ≤ 10)
    (hQ : ∀ (B dB V dV : Addr) (inf : Value) (sup : Addr) s', Keep s s' → s.heap.get? dB = none → s.heap.get? dV = none → dV ≠ dB → s.heap.get? B = none → s.heap.get? V = none → Ins s'.heap B 149 dB → Dc s'.heap dB [(nMembers, .ref mL), (nInf, inf), (nSup, .ref sup), (nTup, .ref V)] →
      IsMB s' sup B (2 ^ ys.length - 1) → Ins s'.heap V 213 dV → Dc s'.heap dV [(Str.ofString "BitSet", .ref B)] → Q (.ref B) s') : wpAny (model pw w) A (call (.ref 149) [.ref mL, .ref 213]) Q E s := by
  refine make_inst T (by kernel_rfl) (init := .ref 109) (by kernel_rfl) (fun h self X => bind_fn X self (by kernel_rfl)) (.inl rfl) ?_
  have hA' : AOk (k + 3) (A.under (.builtin "type.__call__" ⟨.ref 149 :: [.ref mL, .ref 213], []⟩)) := hA.call
  generalize hB0 : s.heap.objs.size = dB at *
  have hdBn : s.heap.get? dB = none := hB0 ▸ push_new
  have hBn : s.heap.get? (dB + 1) = none := none_of_size (by rw [hB0]; exact Nat.le_succ _)
  have K₁ : Keep s { s with heap := (s.heap.push emptyDict).push (instObj 149 dB) } := .heapTok (tk := s.toks) fun b o e => Heap.get?_push_of_some _ (Heap.get?_push_of_some _ e)
  have gB : ((s.heap.push emptyDict).push (instObj 149 dB)).get? (dB + 1) = some (instObj 149 dB) := by
    have := Heap.get?_push_size (s.heap.push emptyDict) (o := instObj 149 dB) rfl
    rwa [Heap.size_push, hB0] at this
  have gd : ((s.heap.push emptyDict).push (instObj 149 dB)).get? dB = some emptyDict := by
    have := Heap.get?_push_of_some (instObj 149 dB) (Heap.get?_push_size s.heap (o := emptyDict) rfl)
    rwa [hB0] at this
  have T₁ := T.keep K₁
  refine enter_code (args := ⟨[.ref (dB + 1), .ref mL, .ref 213], []⟩) (binds := [(Str.ofString "self", .ref (dB + 1)), (Str.ofString "members", .ref mL), (Str.ofString "series", .ref 213)]) hA' T₁ (T₁.kin 109 _ rfl) rfl rfl ⟨_, _, _, _, rfl, T₁.kin _ _ rfl, rfl, rfl⟩ (BindsTo.of_eq rfl) (by decide)
    (fun x hx => by simp only [List.mem_cons, List.not_mem_nil, or_false] at hx; rcases hx with rfl | rfl | rfl <;> rfl) ?_
  intro L s₂ hA₂ T₂ F₂' _
  have off := off_of_none T hdBn
  have hdx : dB ∉ mutX (callEnv _ L 109) [] := fun hm => by have := (F₂'.new _ hm).1; rw [gd] at this; cases this
  have b₂ : BI s (callEnv _ L 109) [] _ _ (dB + 1) 149 dB [] s₂ := ⟨F₂'.base T K₁, Dc.keep (s := { s with heap := (s.heap.push emptyDict).push (instObj 149 dB) }) ⟨_, ⟨[], 0, rfl, .nil⟩, gd⟩ F₂'.keep,
    Ins.keep (s := { s with heap := (s.heap.push emptyDict).push (instObj 149 dB) }) ⟨_, ⟨rfl, rfl, rfl⟩, gB⟩ F₂'.keep, hdBn, off, hdx⟩
  -- self._members = members
  refine wpAny_execs_cons (asg_attr (b₂.f.name rfl ⟨rfl, by decide +kernel⟩ (v := .ref mL) rfl (b₂.f.name rfl ⟨rfl, by decide +kernel⟩ (v := .ref (dB + 1)) rfl ?_)))
  refine b₂.set T rfl (by simp) ⟨by kernel_rfl, by kernel_rfl, by kernel_rfl, by kernel_rfl⟩ fun s₃ b₃ hs₃ _ => ?_
  -- self.infimum = self.fromint(0)
  have T₃ := T.keep b₃.f.keep
  refine wpAny_execs_cons (asg_attr (meth_1 (b₃.f.name rfl ⟨rfl, by decide +kernel⟩ (v := .ref (dB + 1)) rfl ?_)))
  refine method_cls (f := 116) T₃ b₃.i b₃.d rfl (by kernel_rfl) (args_c (wpAny_Constant_int (args_0 ⟨kp_top (T₃.keep toks_keep) (by kernel_rfl) (.inl rfl), ?_⟩)))
  obtain ⟨oB, gb₃, _⟩ := b₃.i.obj
  refine wk hA₂ (fromint_int (n := 0) (T₃.keep (toks_keep (tk := s₃.toks + 1))).kin gb₃ fun inf s₄ g₄ => ?_)
  have b₄ := b₃.keep ((toks_keep (tk := s₃.toks + 1)).trans g₄.keep)
  refine b₄.f.name rfl ⟨rfl, by decide +kernel⟩ (v := .ref (dB + 1)) rfl ?_
  refine b₄.set T rfl (by simp) ⟨by kernel_rfl, by kernel_rfl, by kernel_rfl, by kernel_rfl⟩ fun s₅ b₅ hs₅ _ => ?_
  -- self.supremum
  have T₅ := T.keep b₅.f.keep
  refine wpAny_execs_cons (asg_attr (meth_1 (b₅.f.name rfl ⟨rfl, by decide +kernel⟩ (v := .ref (dB + 1)) rfl ?_)))
  refine method_cls (f := 116) T₅ b₅.i b₅.d rfl (by kernel_rfl) (args_c (wpAny_BinOp (wpAny_BinOp (wpAny_Constant_int ?_))))
  have hL₅ := b₅.f.keep.old _ _ (solid_cls rfl) hL
  refine call_1 (nm_top (T₅.keep toks_keep) (v := .builtin "len") (args_c ((b₅.f.toks (tk := s₅.toks + 1)).name rfl ⟨rfl, by decide +kernel⟩ (v := .ref mL) rfl (args_0 ⟨kp_builtin, ?_⟩))))
  refine call_len_list (items := ys.toArray) ⟨_, hL₅, rfl, _, rfl⟩ (by simp; omega) ?_
  refine lshift_int (by simp) ?_ (wpAny_Constant_int (sub_int' (args_0 ⟨kp_top (T₅.keep toks_keep) (by kernel_rfl) (.inl rfl), ?_⟩)))
  · have : Builtin.Int.intBits 1 = 1 := by decide
    rw [this, List.size_toArray]; omega
  have en : ((1 : Int) * 2 ^ ((ys.toArray.size : Nat) : Int).toNat - 1) = ((2 ^ ys.length - 1 : Nat) : Int) := by
    rw [List.size_toArray, Int.toNat_natCast, Int.one_mul]
    have := Nat.one_le_two_pow (n := ys.length)
    push_cast [this]
    rfl
  rw [en]
  obtain ⟨oB', gb₅, _⟩ := b₅.i.obj
  refine wk hA₂ (fromint_int (T₅.keep (toks_keep (tk := _))).kin gb₅ fun vs s₆ g₆ => ?_)
  obtain ⟨ls, ⟨sup, d6, hb6, t6, kt6, kk6, rfl, rfl⟩, h6, ns, k₆⟩ := g₆
  have b₆ := b₅.keep ((toks_keep (tk := _)).trans k₆)
  refine b₆.f.name rfl ⟨rfl, by decide +kernel⟩ (v := .ref (dB + 1)) rfl ?_
  refine b₆.set T rfl (by simp) ⟨by kernel_rfl, by kernel_rfl, by kernel_rfl, by kernel_rfl⟩ fun s₇ b₇ hs₇ _ => ?_
  have nB6 : ∀ p ∈ [(sup, mbObj d6 ((2 ^ ys.length - 1 : Nat) : Int) t6), (d6, mbDict hb6 kt6 (dB + 1) kk6)], p.1 ≠ dB := fun p hp h => by
    have := ns p hp
    obtain ⟨_, _, e⟩ := b₅.d
    rw [h] at this
    have e' : s₅.heap.get? dB = none := this
    rw [e'] at e; cases e
  have h7 := h6.but hs₇ nB6
  -- self.Tuple = series()
  have T₇ := T.keep b₇.f.keep
  refine wpAny_execs_cons (asg_attr (call_0 (b₇.f.name rfl ⟨rfl, by decide +kernel⟩ (v := .ref 213) rfl ⟨kp_top T₇ (by kernel_rfl) (.inr rfl), ?_⟩)))
  refine make_vec hA₂ T₇ fun V dV s₈ k₈ nV nd IV DV => ?_
  have b₈ := b₇.keep k₈
  refine b₈.f.name rfl ⟨rfl, by decide +kernel⟩ (v := .ref (dB + 1)) rfl ?_
  refine b₈.set T rfl (by simp) ⟨by kernel_rfl, by kernel_rfl, by kernel_rfl, by kernel_rfl⟩ fun s₉ b₉ hs₉ _ => ?_
  -- self.Tuple.BitSet = self
  have T₉ := T.keep b₉.f.keep
  have ndB : dV ≠ dB := fun h => by obtain ⟨_, _, e⟩ := b₇.d; rw [h, e] at nd; cases nd
  have nVB : V ≠ dB := fun h => by obtain ⟨_, _, e⟩ := b₇.d; rw [h, e] at nV; cases nV
  have IV₉ := IV.but hs₉ nVB
  have DV₉ := DV.but hs₉ ndB
  refine wpAny_execs_cons (asg_attr (b₉.f.name rfl ⟨rfl, by decide +kernel⟩ (v := .ref (dB + 1)) rfl (Attribute_any_ (b₉.f.name rfl ⟨rfl, by decide +kernel⟩ (v := .ref (dB + 1)) rfl ?_))))
  refine get_own_ T₉ b₉.i b₉.d (v := .ref V) rfl rfl (by kernel_rfl) ?_
  refine set_inst (T₉.keep toks_keep) IV₉ DV₉ rfl (by simp) ⟨by kernel_rfl, by kernel_rfl, by kernel_rfl, by kernel_rfl⟩ fun h₁ hs DV₁ => ?_
  refine wpAny_execs_nil ⟨rfl, ?_⟩
  have nds : s.heap.get? dV = none := none_back' T b₇.f.keep nd
  have F₁ := (b₉.f.toks (tk := s₉.toks + 1)).setD (tk := s₉.toks + 1 + 2) T nds (off_of_none T nds) (fun hm => by have := b₇.f.pres _ hm; exact this nd) hs
  refine hQ _ dB V dV inf sup _ F₁.keep hdBn nds ndB hBn (none_back' T b₇.f.keep nV) (b₉.i.but hs (fun h => ?_)) (b₉.d.but hs (Ne.symm ndB)) ?_ (IV₉.but hs (IV₉.ne DV₉)) DV₁
  · obtain ⟨_, _, e⟩ := b₇.i; rw [h, nd] at e; cases e
  · have h9 := (h7.keep k₈).but hs₉ nB6
    have h10 := h9.but hs (fun p hp h => by have := (h7 p hp).1; rw [h, nd] at this; cases this)
    exact ⟨d6, hb6, t6, kt6, kk6, h10.head, h10.tail.head⟩
end
end Mine
end
section
open PySem PySem.W PySem.W.X PyProof.Rows PySem.Calls PySem.Spec
/-! Fb -/
namespace Mine
set_option maxRecDepth 100000
/-- the number of a row of truths -/
def rowNum (f : Nat → Bool) (n : Nat) : Nat := (((List.range n).filter f).map (2 ^ ·)).sum
theorem preSum_list (is : List Nat) (val : Nat → Int) (h : ∀ j i, is[j]? = some i → val j = ((2 ^ i : Nat) : Int)) : ∀ k, k ≤ is.length → preSum val k = (((is.take k).map (2 ^ ·)).sum : Nat)
  | 0, _ => rfl
  | k + 1, hk => by
    have hlt : k < is.length := by omega
    show preSum val k + val k = _
    rw [preSum_list is val h k (by omega), h k _ (List.getElem?_eq_getElem hlt), List.take_succ_eq_append_getElem hlt, List.map_append, List.sum_append]
    simp
section
variable {w : World} {A : Around} {s : Shared} {E : Value → Shared → Prop} {k : Nat}
theorem sum_of {is : List Nat} {v : Value} {s₅ : Shared} {Q : Value → Shared → Prop} (T : TopS w s) (h : GenR w A s is.length (fun j y => ∃ i, is[j]? = some i ∧ ∃ t, y = .int ((2 ^ i : Nat) : Int) t) v s₅)
    (hQ : ∀ t s', Keep s s' → Q (.int (((is.map (2 ^ ·)).sum : Nat) : Int) t) s') : wpAny (model pw w) A (call (.builtin "sum") [v]) Q E s₅ := by
  obtain ⟨a, fp, wr, g, St, rfl, W, hst, hfp, ha, hT, hwr, hoff, hg, k₅⟩ := h
  refine call_sum_walkAnyS (W.in4_1.self 0 s₅ _ _ hst ?_)
  refine ⟨a, fp, wr, GenOnlyQ g, is.length, _, St, fun j => ((2 ^ (is.getD j 0) : Nat) : Int), rfl, W.in4_1, hst, hfp, fun i v ⟨i', e, t, hv⟩ => ⟨t, by rw [hv]; simp [e]⟩, fun s' t' hm => ?_⟩
  rw [preSum_list is _ (fun j i e => by simp [e]) is.length (Nat.le_refl _), List.take_length]
  exact hQ t' s' (keep_moved T k₅ hwr hoff hg hm)

/-- an item of the rows: a tuple of truths -/
def RowP (sb : Shared) (f : Nat → Nat → Bool) (n : Nat) (i : Nat) (v : Value) (l : Objs) : Prop := ∃ t ys nn, v = .ref t ∧ ((t, tupObj ys nn) ∈ l ∨ sb.heap.get? t = some (tupObj ys nn)) ∧ Paired (BoolT (f i)) (List.range n) ys
/-- rows that are new since sb -/
def RowsN (sb s : Shared) (B : Addr) (rs : List Value) (rows : List Nat) : Prop := Paired (fun v (n : Nat) => ∃ p d hb t kt m, v = .ref p ∧ s.heap.get? p = some (mbObj d (n : Int) t) ∧ s.heap.get? d = some (mbDict hb kt B m) ∧ sb.heap.get? p = none ∧ sb.heap.get? d = none) rs rows
theorem RowsN.b {sb s : Shared} {B : Addr} {rs : List Value} {rows : List Nat} (h : RowsN sb s B rs rows) : RowsB s B rs rows := pimp (fun v n ⟨p, d, hb, t, kt, m, e, a, b, _⟩ => ⟨p, e, d, hb, t, kt, m, a, b⟩) h
theorem RowsN.sol {sb s s' : Shared} {B : Addr} {rs : List Value} {rows : List Nat} {Z : List Addr} (h : RowsN sb s B rs rows) (k : Sol Z s s') (hZ : ∀ z ∈ Z, sb.heap.get? z ≠ none) : RowsN sb s' B rs rows :=
  pimp (fun v n ⟨p, d, hb, t, kt, m, e, a, b, c, c'⟩ => ⟨p, d, hb, t, kt, m, e, k _ _ (fun hm => hZ _ hm c) (solid_cls rfl) a, k _ _ (fun hm => hZ _ hm c') (solid_cls rfl) b, c, c'⟩) h
theorem ell_rows {B : Addr} {f : Nat → Nat → Bool} {n : Nat} {sb s' : Shared} : ∀ {is : List Nat} {rs : List Value} {ls : Objs}, Has ls s'.heap → NewL sb ls → Ell (fun i => MBG B (rowNum (f i) n)) is rs ls → RowsN sb s' B rs (is.map fun i => rowNum (f i) n)
  | _, _, _, _, _, .nil => .nil
  | _, _, _, H, N, .cons g t => by
    refine .cons ?_ (ell_rows H.right (fun p hp => N p (List.mem_append_right _ hp)) t)
    obtain ⟨p, d, hb, t', kt, k, rfl, rfl⟩ := g
    exact ⟨p, d, hb, t', kt, k, rfl, H.left.head, H.left.tail.head, N _ (List.mem_append_left _ (.head _)), N _ (List.mem_append_left _ (.tail _ (.head _)))⟩
theorem frombools_c {sb : Shared} {V dV B dB : Addr} {lB : List (Str × Value)} {rv : Value} {f : Nat → Nat → Bool} {kk n : Nat} {Q : Value → Shared → Prop} (W : List Addr) (hA : AOk (k + 6) A) (T : TopS w sb) (K₀ : Keep sb s) (hW : ∀ b ∈ W, s.heap.get? b ≠ none)
    (hdV : Dc sb.heap dV [(Str.ofString "BitSet", .ref B)]) (hV : Ins sb.heap V 213 dV)
    (hB : Ins sb.heap B 149 dB) (hdB : Dc sb.heap dB lB) (hb0 : lB.lookup (Str.ofString "fromint") = none) (hn : n ≤ 10) (hk : kk ≤ 10)
    (hsrc : ∀ (A' : Around) s', AOk (k + 5) A' → Keep s s' → wpAny (model pw w) A' (pyIter rv) (SrcB w A' sb s' W kk (RowP sb f n)) (fun _ _ => False) s')
    (TB : Free w dV) (hQ : ∀ (L : Addr) (rs : List Value) s', Ch w [dV] sb s' → (PT sb → PT s') → Dc s'.heap dV [(Str.ofString "BitSet", .ref B), (Str.ofString "vectors", .ref L)] → (∃ n, s'.heap.get? L = some (listObj rs n)) →
      RowsN sb s' B rs ((List.range kk).map fun i => rowNum (f i) n) → Q (.ref V) s') :
    wpAny (model pw w) A (call (.ref 165) [.ref V, rv]) Q E s := by
  have T₀ := T.keep K₀
  refine enter_cells (binds := [(Str.ofString "self", .ref V), (Str.ofString "rows", rv)]) hA T₀ (T₀.kin 165 _ rfl) rfl rfl ⟨_, _, _, _, rfl, T₀.kin _ _ rfl, rfl, rfl⟩ rfl rfl (fun n x hx => ?_) (fun n => by simp [cellsFrom]) ?_
  · simp only [List.mem_cons, List.not_mem_nil, or_false] at hx
    rcases hx with rfl | rfl
    · exact .inr ⟨rfl, rfl⟩
    · exact .inl rfl
  intro L s₁ hA₁ T₁ F₀ _
  have hWm : ∀ a ∈ mutX (callEnvC _ L 165) (callEnvC _ L 165).cells, a ∉ W := fun a ha hw => hW a hw (F₀.new a ha).1
  have k01 := F₀.keep
  have F₁ := F₀.base T K₀
  have K₁ := F₁.keep
  refine wpAny_execs_cons (asg_attr ?_)
  refine compB W T kk (RowP sb f n) (fun _ => true) (fun i => MBG B (rowNum (f i) n)) rfl (by decide) rfl (by decide) rfl ?_ ?_ fun r s' im g => ?_
  · exact F₁.name rfl ⟨rfl, by decide +kernel⟩ rfl (hsrc _ s₁ hA₁ k01)
  · intro C i v l s₃ m₃ hi hP hl₃ hC hn₃ hm₃ K₃ im₃
    obtain ⟨t, bs, nn, rfl, ht, hbs⟩ := hP
    have T₃ := T.keep K₃
    have F₃ := F₁.stepI K₃ im₃ hWm
    have gt : s₃.heap.get? t = some (tupObj bs nn) := ht.elim (fun h => (hl₃ _ h).1) fun h => K₃.old _ _ (solid_cls rfl) h
    have hz := hbs.length
    simp at hz
    refine wpAny_tests_nil ⟨rfl, Keep.refl _, fun _ => ?_⟩
    refine meth_1 (Attribute_any_ (nm_cell rfl (F₃.c (Str.ofString "self") rfl rfl) (get_own_ T₃ (hV.keep K₃) (hdV.keep K₃) (v := .ref B) rfl rfl (by kernel_rfl) ?_)))
    refine method_cls (f := 116) (T₃.keep toks_keep) (hB.keep (K₃.trans toks_keep)) (hdB.keep (K₃.trans toks_keep)) hb0 (by kernel_rfl) (args_c ?_)
    refine call_1 (nm_top (T₃.keep toks_keep) (v := .builtin "sum") (args_c ?_))
    refine genexp2 (q := (164, 162)) (bi := 0) (k := k) (hA₁.le (by omega)) (T₃.keep toks_keep) (by decide) (by decide) rfl (by kernel_rfl) (f i) (fun j y => ∃ t, y = .int ((2 ^ j : Nat) : Int) t) rfl rfl (by decide) rfl rfl rfl (by decide) rfl (n := bs.length)
      (P := fun j va vb => (∃ t, va = .int (j : Int) t) ∧ bs[j]? = some vb) ?_ ?_ ?_ (fun _ => rfl)
    · refine call_1 (nm_top (T₃.keep toks_keep) (v := .type "enumerate") (args_c (nm_local hn₃ (args_0 ⟨kp_type, ?_⟩) hm₃)))
      exact srct_tuple (hA₁) (T₃.keep toks_keep) gt
    · intro C' code A' j va vb s₄ m₄ hA' hj hP hn₄ hma hmb k₄
      obtain ⟨⟨t', rfl⟩, hy⟩ := hP
      obtain ⟨x, y, hx, hy', rfl⟩ := paired_get hbs j (by simp; omega)
      rw [hy'] at hy; cases hy
      have : x = j := by
        obtain ⟨h1, h2⟩ := List.getElem?_eq_some_iff.mp hx
        rw [List.getElem_range] at h2; exact h2.symm
      subst this
      refine ⟨wpAny_tests_one (wpAny_isTrue_value (nm_local hn₄ (wpAny_truthy_bool ⟨rfl, _, _, rfl, fun _ _ e => e⟩) hmb)), fun _ => wpAny_BinOp (wpAny_Constant_int (nm_local hn₄ (lshift_int (by omega) ?_ ⟨⟨s₄.toks + 1, ?_⟩, _, _, rfl, fun _ _ e => e⟩) hma))⟩
      · have : Builtin.Int.intBits 1 = 1 := by decide
        rw [this]; omega
      · rw [Int.toNat_natCast, Int.one_mul]; push_cast; rfl
    · intro v' s' hg
      refine args_0 ⟨kp_builtin, sum_of (T₃.keep toks_keep) hg fun t' s'' k'' => ?_⟩
      have K'' := (toks_keep (tk := s₃.toks + 1)).trans k''
      refine args_0 ⟨kp_top (T₃.keep K'') (by kernel_rfl) (.inl rfl), ?_⟩
      obtain ⟨oB, gb, _⟩ := (hB.keep (K₃.trans K'')).obj
      have e : ((((List.range bs.length).filter (f i)).map (2 ^ ·)).sum : Nat) = rowNum (f i) n := by rw [rowNum, ← hz]
      rw [e]
      exact wk hA₁ (fromint_int (T₃.keep K'').kin gb fun v s₅ g => g.back T₃ K'')
  · have e : (List.range kk).filter (fun _ => true) = List.range kk := all_range _
    rw [e] at g
    have F₂ := F₁.stepI g.keep im hWm
    have K₂ := F₂.keep
    refine nm_cell rfl (F₂.c (Str.ofString "self") rfl rfl) ?_
    refine set_inst (T.keep K₂) (hV.keep K₂) (hdV.keep K₂) rfl (by simp) ⟨by kernel_rfl, by kernel_rfl, by kernel_rfl, by kernel_rfl⟩ fun h' hs' D' => ?_
    have n0 : sb.heap.get? dV ≠ none := by obtain ⟨_, _, e⟩ := hdV; rw [e]; exact nofun
    have Z₂ := FmX.of (w := w) (X := [dV]) F₂ (fun a ha => by rw [List.mem_singleton.mp ha]; exact n0)
    have Z₃ := Z₂.step T (Ch.set (tk := s'.toks + 2) TB hs')
    obtain ⟨l, ⟨Lv, rs, nn, ls, rfl, rfl, hE⟩, hH, hN, Kg⟩ := g
    have dvs : Dc s'.heap dV [(Str.ofString "BitSet", .ref B)] := hdV.keep K₂
    refine wpAny_execs_cons (wpAny_Return_some (nm_cell rfl (Z₃.c (Str.ofString "self") rfl rfl) ?_))
    have hne : ∀ p ∈ (Lv, listObj rs nn) :: ls, p.1 ≠ dV := fun p hp h => n0 (h ▸ hN p hp)
    have hH' : Has ((Lv, listObj rs nn) :: ls) h' := hH.but hs' hne
    refine hQ Lv rs _ Z₃.ch (fun P => PT.set (P.keep K₂) hs' dvs.noF) D' ⟨nn, hH'.head⟩ ?_
    exact ell_rows hH'.tail (fun p hp => hN p (List.mem_cons_of_mem _ hp)) hE
end
end Mine
end
section
open PySem PySem.W PySem.W.X PyProof.Rows PySem.Calls PySem.Spec
/-! Zip -/
namespace Mine
set_option maxRecDepth 100000
abbrev ZT := Addr × Addr × List Value
abbrev zipObj (f0 : Value) (b : Bool) (TI TO : Addr) : Obj := { cls := .type "zip", dict := none, data := .fields #[f0, .bool b, .bool false, .ref TI, .ref TO], slots := #[] }
structure ZS (z TI TO : Addr) (its : List ZT) (j : Nat) (h : Heap) : Prop where
  zz : ∃ f0 b, h.get? z = some (zipObj f0 b TI TO) ∧ (f0 = .none ∨ ∃ a : Nat, f0 = rawInt a)
  ti : ∃ n, h.get? TI = some (tupObj (its.map fun q => .ref q.1) n)
  to : ∃ ys n, h.get? TO = some (tupObj ys n) ∧ ys.length = its.length
  it : ∀ q ∈ its, h.IsTupleIter q.1 q.2.1 j
  tp : ∀ q ∈ its, h.IsTuple q.2.1 q.2.2.toArray
structure ZApart (z TI TO : Addr) (its : List ZT) : Prop where
  a1 : z ≠ TI
  a2 : z ≠ TO
  a3 : TI ≠ TO
  a4 : ∀ q ∈ its, q.1 ≠ z ∧ q.1 ≠ TI ∧ q.1 ≠ TO
  a5 : ∀ q ∈ its, q.2.1 ≠ z ∧ q.2.1 ≠ TI ∧ q.2.1 ≠ TO ∧ ∀ q' ∈ its, q.2.1 ≠ q'.1
  a6 : (its.map (·.1)).Nodup
section
variable {w : World} {A : Around} {s : Shared} {E : Value → Shared → Prop} {k : Nat}
theorem wpAny_loadIfAlive_ {a : Addr} {Q : Option Obj → Shared → Prop} (h : Q (s.heap.get? a) s) : wpAny (model pw w) A (loadIfAlive a) Q E s := fun _ _ _ => h
/-- the draws of one round, on the way -/
structure ZMid (z TI TO : Addr) (its dn rest : List ZT) (j : Nat) (s s' : Shared) : Prop where
  e : its = dn ++ rest
  st : ∃ h' tk, s' = { s with heap := h', toks := tk }
  keep : ∀ b o, b ≠ z → b ≠ TO → b ∉ its.map (·.1) → s.heap.get? b = some o → s'.heap.get? b = some o
  a : ∀ q ∈ dn, s'.heap.IsTupleIter q.1 q.2.1 (j + 1)
  b : ∀ q ∈ rest, s'.heap.IsTupleIter q.1 q.2.1 j
  to : ∃ ys n, s'.heap.get? TO = some (tupObj ys n) ∧ ys.length = its.length
theorem ZMid.draw {z TI TO : Addr} {its dn rest : List ZT} {q : ZT} {j : Nat} {s' : Shared} {Q : Value → Shared → Prop} (D : ZApart z TI TO its) (M : ZMid z TI TO its dn (q :: rest) j s s') (tp : ∀ q ∈ its, s.heap.IsTuple q.2.1 q.2.2.toArray) (hj : ∀ q ∈ its, j < q.2.2.length)
    (hQ : ∀ h', Heap.SameBut q.1 s'.heap h' → ZMid z TI TO its (dn ++ [q]) rest j s { s' with heap := h' } → Q (q.2.2.getD j .none) { s' with heap := h' }) : wpAny (model pw w) A (Builtin.SmallTypes.nextOf (.ref q.1)) Q E s' := by
  have hq : q ∈ its := by rw [M.e]; simp
  have t0 : s'.heap.IsTuple q.2.1 q.2.2.toArray := by
    obtain ⟨o, e, r⟩ := tp q hq
    refine ⟨o, M.keep _ o (D.a5 q hq).1 (D.a5 q hq).2.2.1 (fun hm => ?_) e, r⟩
    obtain ⟨q', h1, h2⟩ := List.mem_map.mp hm
    exact (D.a5 q hq).2.2.2 q' h1 h2.symm
  have hx : q.2.2.toArray[j]? = some (q.2.2.getD j .none) := by
    have := hj q hq
    simp [List.getD, this]
  refine tup_next (M.b q List.mem_cons_self) t0 hx fun h' hit hs => hQ h' hs ?_
  have nd := D.a6
  rw [M.e, List.map_append, List.map_cons] at nd
  have nd' := List.nodup_append.mp nd
  have nd2 := List.nodup_cons.mp nd'.2.1
  obtain ⟨h₁, tk, e⟩ := M.st
  refine ⟨by rw [M.e]; simp, ⟨h', tk, by rw [e]⟩, fun b o h1 h2 h3 h4 => hs.extBut b o (fun h => h3 (by rw [h]; exact List.mem_map_of_mem hq)) (M.keep b o h1 h2 h3 h4), fun p hp => ?_, fun p hp => ?_, let ⟨ys, n, e, l⟩ := M.to; ⟨ys, n, hs.extBut _ _ (Ne.symm (D.a4 q hq).2.2) e, l⟩⟩
  · rcases List.mem_append.mp hp with hp | hp
    · exact (M.a p hp).extBut hs.extBut (fun h => nd'.2.2 p.1 (List.mem_map_of_mem hp) q.1 List.mem_cons_self h)
    · rw [List.mem_singleton.mp hp]; exact hit
  · exact (M.b p (List.mem_cons_of_mem _ hp)).extBut hs.extBut (fun h => nd2.1 (h ▸ List.mem_map_of_mem hp))
theorem zip_body {z TI TO : Addr} {its : List ZT} {j : Nat} {Q : Fin → Shared → Prop} (D : ZApart z TI TO its) (S : ZS z TI TO its j s.heap) (hne : its ≠ []) (hj : ∀ q ∈ its, j < q.2.2.length) (hl : its.length ≤ 10)
    (hQ : ∀ T n h' tk, s.heap.get? T = none → h'.get? T = some (tupObj (its.map fun q => q.2.2.getD j .none) n) → ZS z TI TO its (j + 1) h' → (∀ b o, b ≠ z → b ≠ TO → b ∉ its.map (·.1) → s.heap.get? b = some o → h'.get? b = some o) → Q (.done (.ret (.ref T))) { s with heap := h', toks := tk }) :
    wpAny (model pw w) A (Builtin.«zip.__next__» ⟨[.ref z], []⟩) Q E s := by
  obtain ⟨f0, b, hz, hf⟩ := S.zz
  obtain ⟨nt, hti⟩ := S.ti
  obtain ⟨ys, ny, hto, hyl⟩ := S.to
  show wpAny _ _ (field (.ref z) 2 >>= _) _ _ _
  refine wpAny_bind (wpAny_field hz rfl (x := .bool false) rfl ?_)
  show wpAny _ _ (field (.ref z) 3 >>= _) _ _ _
  refine wpAny_bind (wpAny_field hz rfl (x := .ref TI) rfl ?_)
  refine wpAny_bind (wpAny_seqItems hti rfl ?_)
  dsimp only
  have he : (its.map fun q => Value.ref q.1).toArray.isEmpty = false := by
    cases its with
    | nil => exact absurd rfl hne
    | cons a r => rfl
  rw [he]
  show wpAny _ _ (Builtin.SmallTypes.ownedTupleIsFree (.ref z) >>= _) _ _ _
  refine wpAny_bind (m := Builtin.SmallTypes.ownedTupleIsFree (.ref z)) ?_
  refine wpAny_mono (Q := fun bb s₁ => (bb = true ∧ s₁ = s) ∨ (bb = false ∧ ∃ h₁, s₁ = { s with heap := h₁ } ∧ Heap.SameBut z s.heap h₁ ∧ h₁.get? z = some (zipObj f0 true TI TO))) (E := fun _ _ => False) ?_ (fun bb s₁ h₁ => ?_) fun _ _ z => z.elim
  · unfold Builtin.SmallTypes.ownedTupleIsFree
    refine wpAny_bind (wpAny_field hz rfl (x := f0) rfl ?_)
    rcases hf with rfl | ⟨a, rfl⟩
    · exact wpAny_pure (.inl ⟨rfl, rfl⟩)
    · refine wpAny_bind (m := loadIfAlive _) (wpAny_loadIfAlive_ ?_)
      cases hg : s.heap.get? ((a : Int).toNat) with
      | none => exact wpAny_pure (.inl ⟨rfl, rfl⟩)
      | some o =>
        rw [if_neg (by simp)]
        refine wpAny_bind (wpAny_field hz rfl (x := .bool b) rfl ?_)
        cases b with
        | true => exact wpAny_pure (.inr ⟨rfl, s.heap, rfl, Heap.SameBut.refl _ _, hz⟩)
        | false =>
          rw [if_pos (by decide)]
          exact wpAny_bind (wpAny_setField_rec hz (by simp) fun h₁ hz₁ hs₁ => wpAny_pure (.inr ⟨rfl, h₁, rfl, hs₁, hz₁⟩))
  rcases h₁ with ⟨rfl, rfl⟩ | ⟨rfl, h₁, rfl, hs₁, hz₁⟩
  · rw [if_pos rfl]
    refine wpAny_bind (wpAny_rule ?_)
    refine wpAny_bind (wpAny_field hz rfl (x := .ref TO) rfl ?_)
    dsimp only
    refine wpAny_bind (wpAny_setField_rec hz (by simp) fun h₁ hz₁ hs₁ => ?_)
    have hz₁ : h₁.get? z = some (zipObj .ellipsis b TI TO) := hz₁
    refine wpAny_bind ?_
    refine wpAny_forIn_list _ (fun l bb s' => ∃ dn rest, l = (rest.map (fun q => Value.ref q.1)).zipIdx dn.length ∧ bb = (none, ()) ∧ ZMid z TI TO its dn rest j { s₁ with heap := h₁ } s' ∧ s'.heap.get? z = some (zipObj .ellipsis b TI TO) ∧
      ∃ ys n, s'.heap.get? TO = some (tupObj ys n) ∧ ys.length = its.length ∧ ys.take dn.length = dn.map fun q => q.2.2.getD j .none) _ ?_ ?_ _ _
      ⟨[], its, rfl, rfl, ⟨rfl, ⟨h₁, s₁.toks, rfl⟩, fun _ _ _ _ _ e => e, (fun _ e => nomatch e), (fun q hq => (S.it q hq).extBut hs₁.extBut (D.a4 q hq).1), ⟨ys, ny, hs₁.extBut _ _ (Ne.symm D.a2) hto, hyl⟩⟩, hz₁, ys, ny, hs₁.extBut _ _ (Ne.symm D.a2) hto, hyl, rfl⟩
    · rintro x rest' bb s' ⟨dn, rest, hr, rfl, M, hz', yt, nn, hto', hyl', htk⟩
      cases rest with
      | nil => cases hr
      | cons q rest =>
        simp only [List.map_cons, List.zipIdx_cons, List.cons.injEq] at hr
        obtain ⟨rfl, rfl⟩ := hr
        refine wpAny_bind (wpAny_onRaise ?_)
        show wpAny _ _ (Builtin.SmallTypes.nextOf (.ref q.1) >>= _) _ _ _
        have hq : q ∈ its := by rw [M.e]; simp
        have hlen : dn.length < its.length := by rw [M.e]; simp
        refine wpAny_bind (M.draw D (fun q hq => (S.tp q hq).extBut hs₁.extBut (D.a5 q hq).1) hj fun h' hs' M' => wpAny_pure ?_)
        have hto₂ : h'.get? TO = some (tupObj yt nn) := hs'.extBut _ _ (Ne.symm (D.a4 q hq).2.2) hto'
        dsimp only
        refine wpAny_bind (wpAny_seqItems hto₂ rfl ?_)
        dsimp only
        have hz2 : h'.get? z = some (zipObj .ellipsis b TI TO) := (hs'.2 z (Ne.symm (D.a4 q hq).1)).trans hz'
        refine wpAny_bind (wpAny_updateSeq hto₂ rfl ?_ (by simp; rw [sizeLine_eq]; omega) (by simp; rw [sizeLine_eq]; omega))
        refine wpAny_bind (wpAny_letGo (wpAny_pure ?_))
        have hg := Heap.get?_update_self (h := h') (Obj.mapSeq (·.setIfInBounds dn.length (q.2.2.getD j .none))) hto₂ rfl
        have hsu : Heap.SameBut TO h' (h'.update TO (Obj.mapSeq (·.setIfInBounds dn.length (q.2.2.getD j .none)))) := Heap.SameBut.update ..
        have hg' : (h'.update TO (Obj.mapSeq (·.setIfInBounds dn.length (q.2.2.getD j .none)))).get? TO = some (tupObj (yt.set dn.length (q.2.2.getD j .none)) nn) := by
          rw [hg]; simp [Obj.mapSeq]
        refine ⟨dn ++ [q], rest, by simp, rfl, ⟨M'.e, ?_, fun b' o h1 h2 h3 e => hsu.extBut b' o h2 (M'.keep b' o h1 h2 h3 e), fun p hp => (M'.a p hp).extBut hsu.extBut (D.a4 p (by rw [M'.e]; exact List.mem_append_left _ hp)).2.2, fun p hp => (M'.b p hp).extBut hsu.extBut (D.a4 p (by rw [M'.e]; exact List.mem_append_right _ hp)).2.2,
          ⟨_, _, hg', by simpa using hyl'⟩⟩, hsu.extBut _ _ D.a2 hz2, _, _, hg', by simpa using hyl', ?_⟩
        · obtain ⟨h₀, tk, e⟩ := M'.st
          rw [Shared.mk.injEq] at e
          obtain ⟨-, a, b, c, d⟩ := e
          exact ⟨_, tk, by rw [Shared.mk.injEq]; exact ⟨rfl, a, b, c, d⟩⟩
        · have hdl : dn.length < yt.length := by omega
          rw [List.length_append, List.length_singleton, List.take_succ_eq_append_getElem (by simpa using hdl), List.take_set_of_le (Nat.le_refl _), htk, List.map_append]
          simp
    · rintro bb s' ⟨dn, rest, hr, rfl, M, hz', yt, nn, hto', hyl', htk⟩
      have hr' : rest = [] := by cases rest with | nil => rfl | cons _ _ => simp [List.zipIdx_cons] at hr
      subst hr'
      have he : its = dn := by rw [M.e]; simp
      subst he
      dsimp only
      rw [List.take_of_length_le (by omega)] at htk
      subst htk
      refine wpAny_bind (wpAny_seqItems hto' rfl ?_)
      dsimp only
      refine wpAny_bind (wpAny_newTuple ?_ (by simp; rw [sizeLine_eq]; omega))
      obtain ⟨h₂, tk, rfl⟩ := M.st
      dsimp only at hz' hto' ⊢
      refine wpAny_bind ?_
      unfold Builtin.SmallTypes.ownedTupleHandOut
      have zlt := Heap.lt_size hz'
      have tlt := Heap.lt_size hto'
      have hz6 := Heap.get?_push_of_some { cls := .type "tuple", data := .seq (its.map fun q => q.2.2.getD j .none).toArray } hz'
      refine wpAny_bind (wpAny_setField_rec hz6 (by simp) fun h₇ hz₇ hs₇ => ?_)
      refine wpAny_setField_rec hz₇ (by simp) fun h₈ hz₈ hs₈ => ?_
      refine wpAny_pure ?_
      have hz₈ : h₈.get? z = some (zipObj (rawInt h₂.objs.size) false TI TO) := hz₈
      have up8 : ∀ b o, b ≠ z → (h₂.push { cls := .type "tuple", data := .seq (its.map fun q => q.2.2.getD j .none).toArray }).get? b = some o → h₈.get? b = some o := fun b o h1 e => hs₈.extBut b o h1 (hs₇.extBut b o h1 e)
      have up : ∀ b o, b ≠ z → b ≠ TO → b ∉ its.map (·.1) → s₁.heap.get? b = some o → h₂.get? b = some o := fun b o h1 h2 h3 e => M.keep b o h1 h2 h3 (hs₁.extBut b o h1 e)
      refine hQ h₂.objs.size 0 h₈ tk ?_ (up8 _ _ (fun h => by rw [h] at zlt; exact Nat.lt_irrefl _ zlt) (by simpa using Heap.get?_push_size h₂ (o := { cls := .type "tuple", data := .seq (its.map fun q => q.2.2.getD j .none).toArray }) rfl))
        ⟨⟨_, _, hz₈, .inr ⟨_, rfl⟩⟩, ⟨nt, up8 _ _ (Ne.symm D.a1) (Heap.get?_push_of_some _ (up _ _ (Ne.symm D.a1) D.a3 (fun hm => ?_) hti))⟩, ⟨_, _, up8 _ _ (Ne.symm D.a2) (Heap.get?_push_of_some _ hto'), hyl'⟩, fun q hq => ?_, fun q hq => ?_⟩
        (fun b o h1 h2 h3 e => up8 b o h1 (Heap.get?_push_of_some _ (up b o h1 h2 h3 e)))
      · cases e : s₁.heap.get? h₂.objs.size with
        | none => rfl
        | some o =>
          have := up _ o (fun h => by rw [h] at zlt; exact Nat.lt_irrefl _ zlt) (fun h => by rw [h] at tlt; exact Nat.lt_irrefl _ tlt) (fun hm => by
            obtain ⟨q, hq, h⟩ := List.mem_map.mp hm
            obtain ⟨o', e', _⟩ := M.a q hq
            have := Heap.lt_size e'
            have h : q.1 = h₂.objs.size := h
            rw [h] at this; exact Nat.lt_irrefl _ this) e
          rw [none_of_size (Nat.le_refl _)] at this; cases this
      · obtain ⟨q, hq, h⟩ := List.mem_map.mp hm
        exact (D.a4 q hq).2.1 h
      · obtain ⟨o, e, r⟩ := M.a q hq
        exact ⟨o, up8 _ _ (D.a4 q hq).1 (Heap.get?_push_of_some _ e), r⟩
      · obtain ⟨o, e, r⟩ := S.tp q hq
        refine ⟨o, up8 _ _ (D.a5 q hq).1 (Heap.get?_push_of_some _ (up _ o (D.a5 q hq).1 (D.a5 q hq).2.2.1 (fun hm => ?_) e)), r⟩
        obtain ⟨q', h1, h2⟩ := List.mem_map.mp hm
        exact (D.a5 q hq).2.2.2 q' h1 h2.symm
  · rw [if_neg Bool.false_ne_true]
    refine wpAny_bind ?_
    rw [List.forIn_toArray]
    refine wpAny_forIn_list _ (fun l bb s' => ∃ dn rest, l = rest.map (fun q => Value.ref q.1) ∧ bb = (none, (dn.map fun q => q.2.2.getD j .none).toArray) ∧ ZMid z TI TO its dn rest j { s with heap := h₁ } s' ∧ s'.heap.get? z = some (zipObj f0 true TI TO)) _ ?_ ?_ _ _
      ⟨[], its, rfl, rfl, ⟨rfl, ⟨h₁, s.toks, rfl⟩, fun _ _ _ _ _ e => e, (fun _ e => nomatch e), (fun q hq => (S.it q hq).extBut hs₁.extBut (D.a4 q hq).1), ⟨ys, ny, hs₁.extBut _ _ (Ne.symm D.a2) hto, hyl⟩⟩, hz₁⟩
    · rintro x rest' bb s' ⟨dn, rest, hr, rfl, M, hz'⟩
      cases rest with
      | nil => cases hr
      | cons q rest =>
        simp only [List.map_cons, List.cons.injEq] at hr
        obtain ⟨rfl, rfl⟩ := hr
        refine wpAny_bind (wpAny_holding ?_)
        show wpAny _ _ (Builtin.SmallTypes.nextOf (.ref q.1) >>= _) _ _ _
        have hq : q ∈ its := by rw [M.e]; simp
        refine wpAny_bind (M.draw D (fun q hq => (S.tp q hq).extBut hs₁.extBut (D.a5 q hq).1) hj fun h' hs' M' => wpAny_pure ?_)
        exact wpAny_pure ⟨dn ++ [q], rest, rfl, by simp, M', (hs'.2 z (Ne.symm (D.a4 q hq).1)).trans hz'⟩
    · rintro bb s' ⟨dn, rest, hr, rfl, M, hz'⟩
      have hr' : rest = [] := by cases rest with | nil => rfl | cons _ _ => cases hr
      subst hr'
      have he : its = dn := by rw [M.e]; simp
      subst he
      dsimp only
      refine wpAny_bind (wpAny_newTuple ?_ (by simp; rw [sizeLine_eq]; omega))
      refine wpAny_pure ?_
      obtain ⟨h₂, tk, rfl⟩ := M.st
      dsimp only at hz' ⊢
      obtain ⟨yt, ny', hto', hyl'⟩ := M.to
      dsimp only at hto'
      have up : ∀ b o, b ≠ z → b ≠ TO → b ∉ its.map (·.1) → s.heap.get? b = some o → h₂.get? b = some o := fun b o h1 h2 h3 e => M.keep b o h1 h2 h3 (hs₁.extBut b o h1 e)
      have zlt := Heap.lt_size hz'
      have tlt := Heap.lt_size hto'
      refine hQ _ 0 _ _ ?_ (by simpa using Heap.get?_push_size h₂ (o := { cls := .type "tuple", data := .seq (its.map fun q => q.2.2.getD j .none).toArray }) rfl) ⟨⟨_, _, Heap.get?_push_of_some _ hz', hf⟩, ⟨nt, Heap.get?_push_of_some _ (up _ _ (Ne.symm D.a1) D.a3 (fun hm => ?_) hti)⟩, ⟨yt, ny', Heap.get?_push_of_some _ hto', hyl'⟩, fun q hq => ?_, fun q hq => ?_⟩ (fun b o h1 h2 h3 e => Heap.get?_push_of_some _ (up b o h1 h2 h3 e))
      · cases e : s.heap.get? h₂.objs.size with
        | none => rfl
        | some o =>
          have := up _ o (fun h => by rw [h] at zlt; exact Nat.lt_irrefl _ zlt) (fun h => by rw [h] at tlt; exact Nat.lt_irrefl _ tlt) (fun hm => by
            obtain ⟨q, hq, h⟩ := List.mem_map.mp hm
            obtain ⟨o', e', _⟩ := M.a q hq
            have := Heap.lt_size e'
            have h : q.1 = h₂.objs.size := h
            rw [h] at this; exact Nat.lt_irrefl _ this) e
          rw [none_of_size (Nat.le_refl _)] at this; cases this
      · obtain ⟨q, hq, h⟩ := List.mem_map.mp hm
        exact (D.a4 q hq).2.1 h
      · obtain ⟨o, e, r⟩ := M.a q hq
        exact ⟨o, Heap.get?_push_of_some _ e, r⟩
      · obtain ⟨o, e, r⟩ := S.tp q hq
        refine ⟨o, Heap.get?_push_of_some _ (up _ o (D.a5 q hq).1 (D.a5 q hq).2.2.1 (fun hm => ?_) e), r⟩
        obtain ⟨q', h1, h2⟩ := List.mem_map.mp hm
        exact (D.a5 q hq).2.2.2 q' h1 h2.symm

theorem zip_stop {z TI TO : Addr} {its : List ZT} {j : Nat} {Q : Fin → Shared → Prop} (hh : A.handled = none) (D : ZApart z TI TO its) (S : ZS z TI TO its j s.heap) (hne : its ≠ []) (hj : ∀ q ∈ its, q.2.2.length ≤ j)
    (hE : ∀ h' e, (∀ b o, b ≠ z → b ≠ TO → b ∉ its.map (·.1) → s.heap.get? b = some o → h'.get? b = some o) → (∃ o, h'.get? e = some o ∧ o.cls = .type "StopIteration") → E (.ref e) { s with heap := h' }) :
    wpAny (model pw w) A (Builtin.«zip.__next__» ⟨[.ref z], []⟩) Q E s := by
  obtain ⟨f0, b, hz, hf⟩ := S.zz
  obtain ⟨nt, hti⟩ := S.ti
  obtain ⟨ys, ny, hto, hyl⟩ := S.to
  cases its with
  | nil => exact absurd rfl hne
  | cons q r =>
  have hq : q ∈ q :: r := List.mem_cons_self
  have hx : q.2.2.toArray[j]? = none := by simpa using hj q hq
  show wpAny _ _ (field (.ref z) 2 >>= _) _ _ _
  refine wpAny_bind (wpAny_field hz rfl (x := .bool false) rfl ?_)
  show wpAny _ _ (field (.ref z) 3 >>= _) _ _ _
  refine wpAny_bind (wpAny_field hz rfl (x := .ref TI) rfl ?_)
  refine wpAny_bind (wpAny_seqItems hti rfl ?_)
  dsimp only
  show wpAny _ _ (Builtin.SmallTypes.ownedTupleIsFree (.ref z) >>= _) _ _ _
  refine wpAny_bind (m := Builtin.SmallTypes.ownedTupleIsFree (.ref z)) ?_
  refine wpAny_mono (Q := fun bb s₁ => (bb = true ∧ s₁ = s) ∨ (bb = false ∧ ∃ h₁, s₁ = { s with heap := h₁ } ∧ Heap.SameBut z s.heap h₁ ∧ h₁.get? z = some (zipObj f0 true TI TO))) (E := fun _ _ => False) ?_ (fun bb s₁ h₁ => ?_) fun _ _ z => z.elim
  · unfold Builtin.SmallTypes.ownedTupleIsFree
    refine wpAny_bind (wpAny_field hz rfl (x := f0) rfl ?_)
    rcases hf with rfl | ⟨a, rfl⟩
    · exact wpAny_pure (.inl ⟨rfl, rfl⟩)
    · refine wpAny_bind (m := loadIfAlive _) (wpAny_loadIfAlive_ ?_)
      cases hg : s.heap.get? ((a : Int).toNat) with
      | none => exact wpAny_pure (.inl ⟨rfl, rfl⟩)
      | some o =>
        rw [if_neg (by simp)]
        refine wpAny_bind (wpAny_field hz rfl (x := .bool b) rfl ?_)
        cases b with
        | true => exact wpAny_pure (.inr ⟨rfl, s.heap, rfl, Heap.SameBut.refl _ _, hz⟩)
        | false =>
          rw [if_pos (by decide)]
          exact wpAny_bind (wpAny_setField_rec hz (by simp) fun h₁ hz₁ hs₁ => wpAny_pure (.inr ⟨rfl, h₁, rfl, hs₁, hz₁⟩))
  rcases h₁ with ⟨rfl, rfl⟩ | ⟨rfl, h₁, rfl, hs₁, hz₁⟩
  · rw [if_pos rfl]
    refine wpAny_bind (wpAny_rule ?_)
    refine wpAny_bind (wpAny_field hz rfl (x := .ref TO) rfl ?_)
    dsimp only
    refine wpAny_bind (wpAny_setField_rec hz (by simp) fun h₁ hz₁ hs₁ => ?_)
    refine wpAny_bind ?_
    simp only [List.map_cons, List.zipIdx_cons, List.forIn_cons]
    refine wpAny_bind (wpAny_bind (wpAny_onRaise ?_))
    show wpAny _ _ (Builtin.SmallTypes.nextOf (.ref q.1) >>= _) _ _ _
    refine wpAny_bind (tup_next_end hh ((S.it q hq).extBut hs₁.extBut (D.a4 q hq).1) ((S.tp q hq).extBut hs₁.extBut (D.a5 q hq).1) hx fun h' e hx' he => ?_)
    have hz₂ := hx' _ _ (Ne.symm (D.a4 q hq).1) hz₁
    refine wpAny_setField_rec hz₂ (by simp) fun h₃ hz₃ hs₃ => ?_
    refine hE h₃ e (fun c o h1 h2 h3 e' => hs₃.extBut c o h1 (hx' c o (fun h => h3 (by rw [h]; simp)) (hs₁.extBut c o h1 e'))) ?_
    obtain ⟨o, e1, e2⟩ := he
    refine ⟨o, hs₃.extBut _ _ (fun h => ?_) e1, e2⟩
    rw [h, hz₂] at e1; cases e1; simp at e2
  · rw [if_neg Bool.false_ne_true]
    refine wpAny_bind ?_
    rw [List.forIn_toArray]
    simp only [List.map_cons, List.forIn_cons]
    refine wpAny_bind (wpAny_bind (wpAny_holding ?_))
    show wpAny _ _ (Builtin.SmallTypes.nextOf (.ref q.1) >>= _) _ _ _
    refine wpAny_bind (tup_next_end hh ((S.it q hq).extBut hs₁.extBut (D.a4 q hq).1) ((S.tp q hq).extBut hs₁.extBut (D.a5 q hq).1) hx fun h' e hx' he => ?_)
    exact hE h' e (fun c o h1 h2 h3 e' => hx' c o (fun h => h3 (by rw [h]; simp)) (hs₁.extBut c o h1 e')) he

theorem zip_item {z TI TO : Addr} {its : List ZT} {j : Nat} {Q : Option Value → Shared → Prop} (D : ZApart z TI TO its) (S : ZS z TI TO its j s.heap) (hne : its ≠ []) (hj : ∀ q ∈ its, j < q.2.2.length) (hl : its.length ≤ 10)
    (hQ : ∀ T n h' tk, s.heap.get? T = none → h'.get? T = some (tupObj (its.map fun q => q.2.2.getD j .none) n) → ZS z TI TO its (j + 1) h' → (∀ b o, b ≠ z → b ≠ TO → b ∉ its.map (·.1) → s.heap.get? b = some o → h'.get? b = some o) → Q (some (.ref T)) { s with heap := h', toks := tk }) :
    wpAny (model pw w) A (pyNext (.ref z)) Q E s := by
  obtain ⟨f0, b, hz, hf⟩ := S.zz
  have hT : s.TypeIs (.ref z) "zip" := ⟨_, hz, rfl⟩
  unfold pyNext
  exact wpAny_bind (wpAny_attempt (wpAny_callSpecial?_slot (name := Str.ofString "__next__") hT F.slot_zip_next (wpAny_call_entry F.slot_zip_next hT F.entry_zip_next
      (zip_body D S hne hj hl fun T n h' tk a1 a2 a3 a4 => ⟨_, rfl, wpAny_pure (hQ T n h' tk a1 a2 a3 a4)⟩) (F.args_zip_next_1 _))))
theorem zip_end {z TI TO : Addr} {its : List ZT} {j : Nat} {Q : Option Value → Shared → Prop} (hh : A.handled = none) (D : ZApart z TI TO its) (S : ZS z TI TO its j s.heap) (hne : its ≠ []) (hj : ∀ q ∈ its, q.2.2.length ≤ j)
    (hQ : ∀ h', (∀ b o, b ≠ z → b ≠ TO → b ∉ its.map (·.1) → s.heap.get? b = some o → h'.get? b = some o) → Q none { s with heap := h' }) : wpAny (model pw w) A (pyNext (.ref z)) Q E s := by
  obtain ⟨f0, b, hz, hf⟩ := S.zz
  have hT : s.TypeIs (.ref z) "zip" := ⟨_, hz, rfl⟩
  unfold pyNext
  refine wpAny_bind (wpAny_attempt (wpAny_callSpecial?_slot (name := Str.ofString "__next__") hT F.slot_zip_next
    (wpAny_call_entry F.slot_zip_next hT F.entry_zip_next (zip_stop hh D S hne hj fun h' e hk he => ?_) (F.args_zip_next_1 _))))
  obtain ⟨o, ho, hc⟩ := he
  refine wpAny_bind (wpAny_isInstance (T := "StopIteration") (b := true) ⟨o, ho, hc⟩ isSubtype_stop ?_)
  exact wpAny_pure (hQ _ hk)

/-- the walk over zip(*rows) -/
theorem wkr_zip {z TI TO : Addr} {its : List ZT} {n : Nat} {f : Nat → Nat → Bool} (hh : A.handled = none) (D : ZApart z TI TO its) (hne : its ≠ []) (hl : its.length ≤ 10) (hn : ∀ q ∈ its, q.2.2.length = n) :
    Wkr w A z (z :: TI :: TO :: (its.map (·.1) ++ its.map (·.2.1))) (z :: TO :: its.map (·.1)) n (fun j v l => ∃ T m, v = .ref T ∧ l = [(T, tupObj (its.map fun q => q.2.2.getD j .none) m)]) (fun j h => ZS z TI TO its j h) where
  pres := fun i h b S hb => by
    rcases List.mem_cons.mp hb with rfl | hb
    · obtain ⟨_, _, e, _⟩ := S.zz; rw [e]; rfl
    rcases List.mem_cons.mp hb with rfl | hb
    · obtain ⟨_, _, e, _⟩ := S.to; rw [e]; rfl
    · obtain ⟨q, hq, rfl⟩ := List.mem_map.mp hb
      obtain ⟨o, e, _⟩ := S.it q hq; rw [e]; rfl
  sub := fun b hb => by
    rcases List.mem_cons.mp hb with rfl | hb
    · simp
    rcases List.mem_cons.mp hb with rfl | hb
    · simp
    · simp only [List.mem_cons, List.mem_append]; exact .inr (.inr (.inr (.inl hb)))
  frame := fun i h h' S hk => by
    obtain ⟨f0, b, hz, hf⟩ := S.zz
    obtain ⟨nt, hti⟩ := S.ti
    obtain ⟨ys, ny, hto, hyl⟩ := S.to
    refine ⟨⟨f0, b, hk _ (by simp) _ hz, hf⟩, ⟨nt, hk _ (by simp) _ hti⟩, ⟨ys, ny, hk _ (by simp) _ hto, hyl⟩, fun q hq => ?_, fun q hq => ?_⟩
    · obtain ⟨o, e, r⟩ := S.it q hq
      exact ⟨o, hk _ (by simp only [List.mem_cons, List.mem_append]; exact .inr (.inr (.inr (.inl (List.mem_map_of_mem hq))))) _ e, r⟩
    · obtain ⟨o, e, r⟩ := S.tp q hq
      exact ⟨o, hk _ (by simp only [List.mem_cons, List.mem_append]; exact .inr (.inr (.inr (.inr (List.mem_map.mpr ⟨q, hq, rfl⟩))))) _ e, r⟩
  item := fun i s Q E hi S hQ => zip_item D S hne (fun q hq => by rw [hn q hq]; exact hi) hl fun T m h' tk a1 a2 a3 a4 =>
    hQ _ [(T, tupObj (its.map fun q => q.2.2.getD i .none) m)] h' tk ⟨T, m, rfl, rfl⟩ (Has.cons a2 (solid_cls rfl) .nil) (fun p hp => by simp at hp; subst hp; exact a1) a3 (fun b o hb e => a4 b o (fun h => hb (by simp [h])) (fun h => hb (by simp [h])) (fun h => hb (by simp only [List.mem_cons]; exact .inr (.inr h))) e)
  done := fun s Q E S hQ => zip_end hh D S hne (fun q hq => by rw [hn q hq]; exact Nat.le_refl _) fun h' a => by
    have := hQ h' s.toks (fun b o hb e => a b o (fun h => hb (by simp [h])) (fun h => hb (by simp [h])) (fun h => hb (by simp only [List.mem_cons]; exact .inr (.inr h))) e)
    exact this
  self := fun i s Q E S h => by
    obtain ⟨f0, b, hz, hf⟩ := S.zz
    have hT : s.TypeIs (.ref z) "zip" := ⟨_, hz, rfl⟩
    refine wpAny_pyIter_slot hT F.slot_zip_iter (wpAny_call_entry F.slot_zip_iter hT F.entry_zip_iter ?_ (F.args_zip_iter_1 _))
    show wpAny _ _ (ret (.ref z)) _ _ s
    exact wpAny_pure ⟨_, rfl, "zip", _, hT, F.slot_zip_next.lookup, h⟩
end
end Mine
end
section
open PySem PySem.W PySem.W.X PyProof.Rows PySem.Calls PySem.Spec
/-! Zip2 -/
namespace Mine
set_option maxRecDepth 100000
abbrev itObj (t : Addr) : Obj := { cls := .type "tuple_iterator", data := .fields #[.ref t, .int 0 0] }
/-- zip(*rows), just made -/
structure ZNew (s s' : Shared) (z TI TO : Addr) (its : List ZT) : Prop where
  ap : ZApart z TI TO its
  st : ZS z TI TO its 0 s'.heap
  fz : s.heap.get? z = none
  fo : s.heap.get? TO = none
  fi : s.heap.get? TI = none
  fq : ∀ q ∈ its, s.heap.get? q.1 = none
  tp : ∀ q ∈ its, ∃ n, s.heap.get? q.2.1 = some (tupObj q.2.2 n)
theorem zip_mk {S : Shared} {h : Heap} {g : Array GenState} {d : Drawn} {t : Nat} {os : OsState} {news : List (Addr × Obj)} {its : List ZT} {z TI TO : Addr} {ys : List Value} {n1 n2 : Nat} (D : Mem S.heap h [] news) (hn : news.map (·.1) = z :: TO :: TI :: (its.map (·.1)).reverse)
    (gz : (z, zipObj .none false TI TO) ∈ news) (gO : (TO, tupObj ys n1) ∈ news) (gI : (TI, tupObj (its.map fun q => .ref q.1) n2) ∈ news) (gq : ∀ q ∈ its, (q.1, itObj q.2.1) ∈ news) (hy : ys.length = its.length)
    (ht : ∀ q ∈ its, ∃ n, S.heap.get? q.2.1 = some (tupObj q.2.2 n)) : ZNew S ⟨h, g, d, t, os⟩ z TI TO its := by
  have nd : (news.map (·.1)).Nodup := D.ord.imp (fun h => Nat.ne_of_gt h)
  rw [hn] at nd
  obtain ⟨nd1, nd⟩ := List.nodup_cons.mp nd
  obtain ⟨nd2, nd⟩ := List.nodup_cons.mp nd
  obtain ⟨nd3, nd⟩ := List.nodup_cons.mp nd
  have fz := (D.nw _ gz).2
  have fo := (D.nw _ gO).2
  have fi := (D.nw _ gI).2
  have fq : ∀ q ∈ its, S.heap.get? q.1 = none := fun q hq => (D.nw _ (gq q hq)).2
  have mem : ∀ q ∈ its, q.1 ∈ (its.map (·.1)).reverse := fun q hq => List.mem_reverse.mpr (List.mem_map_of_mem hq)
  refine ⟨⟨fun e => nd1 (e ▸ by simp), fun e => nd1 (e ▸ by simp), fun e => nd2 (e ▸ by simp), fun q hq => ⟨fun e => nd1 (e ▸ List.mem_cons_of_mem _ (List.mem_cons_of_mem _ (mem q hq))), fun e => nd3 (e ▸ mem q hq), fun e => nd2 (e ▸ List.mem_cons_of_mem _ (mem q hq))⟩, fun q hq => ?_, (List.reverse_perm _).nodup_iff.mp nd⟩,
    ⟨⟨_, _, (D.nw _ gz).1, .inl rfl⟩, ⟨_, (D.nw _ gI).1⟩, ⟨_, _, (D.nw _ gO).1, hy⟩, fun q hq => ⟨_, (D.nw _ (gq q hq)).1, rfl, rfl⟩, fun q hq => ?_⟩, fz, fo, fi, fq, ht⟩
  · obtain ⟨n, e⟩ := ht q hq
    exact ⟨fun h => (by rw [h, fz] at e; cases e), fun h => (by rw [h, fi] at e; cases e), fun h => (by rw [h, fo] at e; cases e), fun q' hq' h => (by rw [h, fq q' hq'] at e; cases e)⟩
  · obtain ⟨n, e⟩ := ht q hq
    exact ⟨_, D.keep _ _ e (by simp [away]), rfl, _, rfl⟩
section
variable {w : World} {S : Shared} {E Q : Value → Shared → Prop} {t1 t2 t3 t4 : Addr} {y1 y2 y3 y4 : List Value} {n1 n2 n3 n4 : Nat}
set_option hygiene false in
local macro_rules | `(tactic| x_close) => `(tactic| exact hQ _ _ _ [(_, t1, y1)] _ rfl (mem_keep (by assumption)) (zip_mk (ys := [.none]) (n1 := 0) (n2 := 0) (by assumption) rfl (.head _) (.tail _ (.head _)) (.tail _ (.tail _ (.head _))) (by simp) rfl (by simp; exact ⟨_, h1⟩)) rfl)
set_option maxHeartbeats 0 in
theorem zip_x1 (KX : Frag.In (KF w.params) S.heap) (h1 : S.heap.get? t1 = some (tupObj y1 n1))
   (hQ : ∀ (z TI TO : Addr) (its : List ZT) (s' : Shared), s'.gens = S.gens → Keep S s' → ZNew S s' z TI TO its → its.map (·.2) = [(t1, y1)] → Q (.ref z) s') :
   wpAny (model pw w) Amax (call (.type "zip") [.ref t1] []) Q E S := by
  unfold tupObj at h1
  x_run
set_option hygiene false in
local macro_rules | `(tactic| x_close) => `(tactic| exact hQ _ _ _ [(_, t1, y1), (_, t2, y2)] _ rfl (mem_keep (by assumption)) (zip_mk (ys := [.none, .none]) (n1 := 0) (n2 := 0) (by assumption) rfl (.head _) (.tail _ (.head _)) (.tail _ (.tail _ (.head _))) (by simp) rfl (by simp; exact ⟨⟨_, h1⟩, ⟨_, h2⟩⟩)) rfl)
set_option maxHeartbeats 0 in
theorem zip_x2 (KX : Frag.In (KF w.params) S.heap) (h1 : S.heap.get? t1 = some (tupObj y1 n1)) (h2 : S.heap.get? t2 = some (tupObj y2 n2))
   (hQ : ∀ (z TI TO : Addr) (its : List ZT) (s' : Shared), s'.gens = S.gens → Keep S s' → ZNew S s' z TI TO its → its.map (·.2) = [(t1, y1), (t2, y2)] → Q (.ref z) s') :
   wpAny (model pw w) Amax (call (.type "zip") [.ref t1, .ref t2] []) Q E S := by
  unfold tupObj at h1 h2
  x_run
set_option hygiene false in
local macro_rules | `(tactic| x_close) => `(tactic| exact hQ _ _ _ [(_, t1, y1), (_, t2, y2), (_, t3, y3)] _ rfl (mem_keep (by assumption)) (zip_mk (ys := [.none, .none, .none]) (n1 := 0) (n2 := 0) (by assumption) rfl (.head _) (.tail _ (.head _)) (.tail _ (.tail _ (.head _))) (by simp) rfl (by simp; exact ⟨⟨_, h1⟩, ⟨_, h2⟩, ⟨_, h3⟩⟩)) rfl)
set_option maxHeartbeats 0 in
theorem zip_x3 (KX : Frag.In (KF w.params) S.heap) (h1 : S.heap.get? t1 = some (tupObj y1 n1)) (h2 : S.heap.get? t2 = some (tupObj y2 n2)) (h3 : S.heap.get? t3 = some (tupObj y3 n3))
   (hQ : ∀ (z TI TO : Addr) (its : List ZT) (s' : Shared), s'.gens = S.gens → Keep S s' → ZNew S s' z TI TO its → its.map (·.2) = [(t1, y1), (t2, y2), (t3, y3)] → Q (.ref z) s') :
   wpAny (model pw w) Amax (call (.type "zip") [.ref t1, .ref t2, .ref t3] []) Q E S := by
  unfold tupObj at h1 h2 h3
  x_run
set_option hygiene false in
local macro_rules | `(tactic| x_close) => `(tactic| exact hQ _ _ _ [(_, t1, y1), (_, t2, y2), (_, t3, y3), (_, t4, y4)] _ rfl (mem_keep (by assumption)) (zip_mk (ys := [.none, .none, .none, .none]) (n1 := 0) (n2 := 0) (by assumption) rfl (.head _) (.tail _ (.head _)) (.tail _ (.tail _ (.head _))) (by simp) rfl (by simp; exact ⟨⟨_, h1⟩, ⟨_, h2⟩, ⟨_, h3⟩, ⟨_, h4⟩⟩)) rfl)
set_option maxHeartbeats 0 in
theorem zip_x4 (KX : Frag.In (KF w.params) S.heap) (h1 : S.heap.get? t1 = some (tupObj y1 n1)) (h2 : S.heap.get? t2 = some (tupObj y2 n2)) (h3 : S.heap.get? t3 = some (tupObj y3 n3)) (h4 : S.heap.get? t4 = some (tupObj y4 n4))
   (hQ : ∀ (z TI TO : Addr) (its : List ZT) (s' : Shared), s'.gens = S.gens → Keep S s' → ZNew S s' z TI TO its → its.map (·.2) = [(t1, y1), (t2, y2), (t3, y3), (t4, y4)] → Q (.ref z) s') :
   wpAny (model pw w) Amax (call (.type "zip") [.ref t1, .ref t2, .ref t3, .ref t4] []) Q E S := by
  unfold tupObj at h1 h2 h3 h4
  x_run
end
end Mine
end
section
open PySem PySem.W PySem.W.X PyProof.Rows PySem.Calls PySem.Spec
/-! Rel1 -/
namespace Mine
set_option maxRecDepth 100000
abbrev supObj : Obj := { cls := .type "super", data := .fields #[.ref 235, .ref 235, .ref 235] }
abbrev relObj (d : Addr) (x y : Value) (n : Nat) : Obj := { cls := .ref 235, dict := some d, data := .seq #[x, y] n, slots := #[] }
section
variable {w : World} {S : Shared} {E Q : Value → Shared → Prop} {t : Addr} {x y : Value} {n : Nat} {p : Addr} {tk : Tok}
set_option hygiene false in
local macro_rules | `(tactic| x_close) => `(tactic| exact hQ _ _ rfl (mem_keep (by assumption)) (mem_new (by assumption) (.head _)))
set_option maxHeartbeats 0 in
theorem super_x (KX : Frag.In (KF w.params) S.heap)
   (hQ : ∀ (z : Addr) (s' : Shared), s'.gens = S.gens → Keep S s' → New S s' z supObj → Q (.ref z) s') :
   wpAny (model pw w) Amax (call (.type "super") [.ref 235, .ref 235] []) Q E S := by
  x_run
set_option hygiene false in
local macro_rules | `(tactic| x_close) => `(tactic| exact hQ _ _ _ _ rfl (mem_keep (by assumption)) (mem_new (by assumption) (.head _)))
set_option maxHeartbeats 0 in
theorem tupnew_x (KX : Frag.In (KF w.params) S.heap) (h1 : S.heap.get? t = some (tupObj [x, y] n))
   (hQ : ∀ (z d : Addr) (n : Nat) (s' : Shared), s'.gens = S.gens → Keep S s' → New S s' z (relObj d x y n) → Q (.ref z) s') :
   wpAny (model pw w) Amax (call (.builtin "tuple.__new__") [.ref 235, .ref t] []) Q E S := by
  unfold tupObj at h1
  x_run
end
section
variable {w : World} {A : Around} {s : Shared} {E : Value → Shared → Prop} {k : Nat} {p : Addr}
theorem super_ga {tk : Tok} {Q : Fin → Shared → Prop} (T : TopS w s) (hp : s.heap.get? p = some supObj) (hQ : Q (.done (.ret (.builtin "tuple.__new__"))) s) :
    wpAny (model pw w) A (Builtin.«super.__getattribute__» ⟨[.ref p, .str (Str.ofString "__new__") tk], []⟩) Q E s := by
  unfold Builtin.«super.__getattribute__»
  show wpAny _ _ (field (.ref p) 0 >>= _) _ _ _
  refine wpAny_bind (wpAny_field hp rfl (x := .ref 235) rfl ?_)
  refine wpAny_bind (wpAny_field hp rfl (x := .ref 235) rfl ?_)
  refine wpAny_bind (wpAny_field hp rfl (x := .ref 235) rfl ?_)
  exact (pk T (by kernel_rfl)).here hQ
theorem super_method {pl : Sem Bool} {Q : Value × List Value → Shared → Prop} (hA : AOk k A) (T : TopS w s) (hp : s.heap.get? p = some supObj) (hQ : ∀ tk', Q (.builtin "tuple.__new__", []) { s with toks := tk' }) :
    wpAny (model pw w) A (getMethod (.ref p) (Str.ofString "__new__") pl) Q E s := by
  have T' : TopS w { s with toks := s.toks + 1 } := T.keep (.heapTok fun _ _ e => e)
  have L0 : Looks (model pw w) s.heap (typeOf (.ref p)) (.type "super") := (Looks.ld hp).andThen .now
  have L1 : Looks (model pw w) s.heap (typeLookup (.type "super") "__getattribute__") (some (.builtin "super.__getattribute__")) := pk T (by kernel_rfl)
  have L0' : Looks (model pw w) { s with toks := s.toks + 1 }.heap (typeOf (.ref p)) (.type "super") := L0
  have L1' : Looks (model pw w) { s with toks := s.toks + 1 }.heap (typeLookup (.type "super") "__getattribute__") (some (.builtin "super.__getattribute__")) := L1
  have L2 : Looks (model pw w) { s with toks := s.toks + 1 }.heap (typeLookup (.type "super") "__getattr__") none := pk T' (by kernel_rfl)
  unfold getMethod specialOf
  refine wpAny_bind (wpAny_bind (L0.here (L1.here ?_)))
  dsimp only
  rw [if_pos (by decide +kernel)]
  refine wpAny_bind ?_
  unfold getAttr getAttrBy
  refine wpAny_bind (wpAny_mkText (wpAny_holding (wpAny_bind (L0'.here (wpAny_bind (L1'.here ?_))))))
  show wpAny _ _ (getAttrByItsOwn (.ref p) (.str (Str.ofString "__new__") s.toks) (.type "super") (.builtin "super.__getattribute__") true false) _ _ _
  unfold getAttrByItsOwn
  refine wpAny_bind (m := hookBefore (.type "super")) (L2.here ?_)
  refine wpAny_bind (wpAny_attempt (wpAny_holding ?_))
  have hT : (⟨s.heap, s.gens, s.drawn, s.toks + 1, s.os⟩ : Shared).TypeIs (.ref p) "super" := ⟨_, hp, rfl⟩
  unfold callGetattribute boundAndCalled
  show wpAny _ _ (bindSpecial (.builtin "super.__getattribute__") (.ref p) >>= _) _ _ _
  refine wpAny_bind (wpAny_of_eq (F.ks_slot_super_ga.bind _) ?_)
  refine wpAny_mono (Q := fun v s' => v = .builtin "tuple.__new__" ∧ s' = { s with toks := s.toks + 1 }) (E := fun _ _ => False)
    (wpAny_call_entry F.ks_slot_super_ga hT F.ks_entry_super_ga (super_ga T' hp ⟨_, rfl, rfl, rfl⟩) (F.ks_gaArgs_super _ _)) (fun v s' hv => ?_) fun _ _ z => z.elim
  obtain ⟨rfl, rfl⟩ := hv
  exact wpAny_pure (wpAny_pure (hQ _))
end
end Mine
end
section
open PySem PySem.W PySem.W.X PyProof.Rows PySem.Calls PySem.Spec
/-! Rel2 -/
namespace Mine
set_option maxRecDepth 100000
/-- a BitSet, its Vectors yet empty -/
structure BSet (s : Shared) (h : HP) (inf : Value) : Prop where
  b : Ins s.heap h.B 149 h.dB
  db : Dc s.heap h.dB [(nMembers, .ref h.mL), (nInf, inf), (nSup, .ref h.sup), (nTup, .ref h.V)]
  sup : IsMB s h.sup h.B (2 ^ h.ys.length - 1)
  v : Ins s.heap h.V 213 h.dV
  dv : Dc s.heap h.dV [(Str.ofString "BitSet", .ref h.B)]
  ml : ∃ n, s.heap.get? h.mL = some (listObj h.ys n)
section
variable {w : World} {A : Around} {s : Shared} {E : Value → Shared → Prop} {k : Nat}
theorem bitset_c {mL : Addr} {ys : List Value} {n : Nat} {nm : Str} {t : Tok} {Q : Value → Shared → Prop} (hA : AOk (k + 5) A) (T : TopS w s) (hL : s.heap.get? mL = some (listObj ys n)) (hl : ys.length ≤ 10)
    (hQ : ∀ B dB V dV inf sup s', Keep s s' → s.heap.get? dB = none → s.heap.get? dV = none → dV ≠ dB → s.heap.get? B = none → s.heap.get? V = none → Ins s'.heap B 149 dB → Dc s'.heap dB [(nMembers, .ref mL), (nInf, inf), (nSup, .ref sup), (nTup, .ref V)] →
      IsMB s' sup B (2 ^ ys.length - 1) → Ins s'.heap V 213 dV → Dc s'.heap dV [(Str.ofString "BitSet", .ref B)] → Q (.ref B) s') : wpAny (model pw w) A (call (.ref 196) [.str nm t, .ref mL, .ref 92, .ref 213]) Q E s := by
  refine enter_clos (args := ⟨[.str nm t, .ref mL, .ref 92, .ref 213], []⟩) (binds := [(Str.ofString "name", .str nm t), (Str.ofString "members", .ref mL), (Str.ofString "base", .ref 92), (Str.ofString "vectors", .ref 213)]) hA T (T.kin 196 _ rfl) rfl rfl ⟨_, _, _, _, rfl, T.kin _ _ rfl, rfl, rfl⟩ (BindsTo.of_eq rfl) (by decide)
    (fun x hx => by simp only [List.mem_cons, List.not_mem_nil, or_false] at hx; rcases hx with rfl | rfl | rfl | rfl <;> rfl) ?_
  intro L s₁ hA₁ T₁ F₁ _
  refine wpAny_execs_cons (wpAny_Return_some ?_)
  show wpAny _ _ _ Q _ _
  refine call_1 (nm_top T₁ (v := .ref 149) (args_c (F₁.name rfl ⟨rfl, by decide +kernel⟩ rfl (args_c (F₁.name rfl ⟨rfl, by decide +kernel⟩ rfl (args_0 ⟨kp_top T₁ (by kernel_rfl) (.inr rfl), ?_⟩))))))
  refine make_bs (k := k) hA₁ T₁ (F₁.keep.old _ _ (solid_cls rfl) hL) hl fun B dB V dV inf sup s' K a1 a2 a3 a4 a0 a5 a6 a7 a8 a9 => ?_
  exact hQ B dB V dV inf sup s' (F₁.keep.trans K) (none_back' T F₁.keep a1) (none_back' T F₁.keep a2) a3 (none_back' T F₁.keep a4) (none_back' T F₁.keep a0) a5 a6 a7 a8 a9

theorem Ch.drop {s₀ s' : Shared} {X : List Addr} (C0 : Ch w [] s₀ s) (C : Ch w X s s') (hX : ∀ a ∈ X, s₀.heap.get? a = none) : Ch w [] s₀ s' :=
  ⟨fun a o _ so e => C.old a o (fun hm => by rw [hX a hm] at e; cases e) so (C0.old a o (by simp) so e), (C0.mono (Y := X) fun _ h => nomatch h).trans C |>.tab, fun T => C.top (C0.top T), fun i x e => C.gens i x (C0.gens i x e), fun b => C.bare (C0.bare b), C.os.trans C0.os⟩
theorem FmX.stepN {s₀ s' : Shared} {env : Env} {own : List (Str × Addr)} {m cm : Str → Option Value} {X : List Addr} (T : TopS w s₀) (F : FmX w [] s₀ env own m cm s) (C : Ch w X s s') (hX : ∀ a ∈ X, s₀.heap.get? a = none) (hm : ∀ a ∈ X, a ∉ mutX env own) : FmX w [] s₀ env own m cm s' :=
  ⟨F.ch.drop C hX, F.ns.at' fun o e => C.old _ o (fun h => hm _ h List.mem_cons_self) (solid_off (F.off T List.mem_cons_self).1.off) e, fun n c hc => let ⟨o, a, b⟩ := F.cell n c hc; ⟨o, C.old _ _ (fun h => hm _ h (mem_mut (mem_of_lookup hc))) (solid_off (F.off T (mem_mut (mem_of_lookup hc))).1.off) a, b⟩, F.apart, F.new, F.ne, F.xs, F.nd⟩
end
end Mine
end
section
open PySem PySem.W PySem.W.X PyProof.Rows PySem.Calls PySem.Spec
/-! Rel3 -/
namespace Mine
set_option maxRecDepth 100000
section
variable {w : World} {A : Around} {s : Shared} {E : Value → Shared → Prop} {k : Nat} {env : Env}
/-- f( *e) -/
theorem call_star {func e : Expr} {p pos : Pos} {Q : Value → Shared → Prop}
    (h : wpAny (model pw w) A (eval func env) (fun f s₀ => wpAny (model pw w) A (eval e env) (fun v s₁ => StarOf (model pw w) A E v (fun vs s₂ => Kp w f s₂ ∧ wpAny (model pw w) A (call f vs) Q E s₂) s₁) E s₀) E s)
    (hform : eval (.Call func [.Starred e p] [] pos) env = (do callWith pos (← eval func env) [] (backTo pos (starEach [.Starred e p] env)) (backToKw pos (keywordEach [] env))) := by rfl)
    (he : starEach [.Starred e p] env = [(true, eval e env)] := by rfl) : wpAny (model pw w) A (eval (.Call func [.Starred e p] [] pos) env) Q E s := by
  rw [hform]
  refine wpAny_bind (wpAny_mono h (fun f s₀ h₀ => ?_) fun _ _ z => z)
  rw [he]
  exact ks_call (P := fun h => ∃ k, (k = Keeper.frame ∨ k = Keeper.machine ∨ k = Keeper.boundFrame) ∧ Looks (model pw w) h (keeperOf f) k) rfl (fun h x => x) (ks_lone (wpAny_mono h₀ (fun v s₁ h₁ => h₁) fun _ _ z => z))
theorem star_list {a : Addr} {ys : List Value} {n : Nat} {Q : List Value → Shared → Prop} (ha : s.heap.get? a = some (listObj ys n)) (hl : ys.length ≤ 1000) (hQ : ∀ s', Keep s s' → s'.gens = s.gens → Q ys s') : StarOf (model pw w) A E (.ref a) Q s := by
  have hT : s.TypeIs (.ref a) "list" := ⟨_, ha, rfl⟩
  have z : wpAny (model pw w) A (collect (.ref a)) Q E s :=
    wpAny_collect_seq a (.inl rfl) ha rfl rfl (fun h' hk => by exact hQ { s with heap := h' } (.heapTok (tk := s.toks) hk) rfl) (by rw [List.size_toArray, sizeLine_eq]; omega)
  unfold StarOf notIterableAtAll
  exact wpAny_bind (wpAny_specialOf hT PySem.F.slot_list_iter.lookup (wpAny_pure ⟨rfl, z⟩))

abbrev ColP (f : Nat → Nat → Bool) (n : Nat) (i : Nat) (q : Addr × List Value) : Prop := Paired (BoolT (f i)) (List.range n) q.2
/-- a matrix of truths, a list of tuples -/
theorem ell_tups {f : Nat → Nat → Bool} {n : Nat} : ∀ {is : List Nat} {ys : List Value} {ls : Objs}, Ell (fun i => TupG (BoolT (f i)) (List.range n)) is ys ls →
    ∃ ts : List (Addr × List Value), ys = ts.map (fun q => .ref q.1) ∧ Paired (ColP f n) is ts ∧ ∀ q ∈ ts, ∃ m, (q.1, tupObj q.2 m) ∈ ls
  | _, _, _, .nil => ⟨[], rfl, .nil, fun _ h => nomatch h⟩
  | _, _, _, .cons h t => by
    obtain ⟨ts, e1, e2, e3⟩ := ell_tups t
    obtain ⟨a, ys, m, rfl, rfl, hp⟩ := h
    refine ⟨(a, ys) :: ts, by rw [e1]; rfl, .cons hp e2, fun q hq => ?_⟩
    rcases List.mem_cons.mp hq with rfl | hq
    · exact ⟨m, List.mem_append_left _ List.mem_cons_self⟩
    · obtain ⟨m', h'⟩ := e3 q hq
      exact ⟨m', List.mem_append_right _ h'⟩
theorem col_at {f : Nat → Nat → Bool} {n i : Nat} (hi : i < n) : ∀ {is : List Nat} {ts : List (Addr × List Value)}, Paired (ColP f n) is ts → Paired (BoolT fun j => f j i) is (ts.map fun q => q.2.getD i .none)
  | _, _, .nil => .nil
  | _, _, .cons h t => by
    refine .cons ?_ (col_at hi t)
    obtain ⟨x, y, hx, hy, rfl⟩ := paired_get h i (by rw [List.length_range]; exact hi)
    have : x = i := by
      obtain ⟨h1, h2⟩ := List.getElem?_eq_some_iff.mp hx
      rw [List.getElem_range] at h2; exact h2.symm
    subst this
    simp [List.getD_eq_getElem?_getD, hy]
theorem zip_call {ts : List (Addr × List Value)} {Q : Value → Shared → Prop} (hA : AOk k A) (T : TopS w s) (h : ∀ q ∈ ts, ∃ n, s.heap.get? q.1 = some (tupObj q.2 n)) (h1 : 0 < ts.length) (h2 : ts.length ≤ 4)
    (hQ : ∀ z TI TO its s', s'.gens = s.gens → Keep s s' → ZNew s s' z TI TO its → its.map (·.2) = ts → Q (.ref z) s') : wpAny (model pw w) A (call (.type "zip") (ts.map fun q => .ref q.1)) Q E s := by
  match ts, h, h1, h2, hQ with
  | [(t1, y1)], h, _, _, hQ =>
    obtain ⟨n1, g1⟩ := h (t1, y1) (by simp)
    exact wk hA (zip_x1 T.kin g1 hQ)
  | [(t1, y1), (t2, y2)], h, _, _, hQ =>
    obtain ⟨n1, g1⟩ := h (t1, y1) (by simp)
    obtain ⟨n2, g2⟩ := h (t2, y2) (by simp)
    exact wk hA (zip_x2 T.kin g1 g2 hQ)
  | [(t1, y1), (t2, y2), (t3, y3)], h, _, _, hQ =>
    obtain ⟨n1, g1⟩ := h (t1, y1) (by simp)
    obtain ⟨n2, g2⟩ := h (t2, y2) (by simp)
    obtain ⟨n3, g3⟩ := h (t3, y3) (by simp)
    exact wk hA (zip_x3 T.kin g1 g2 g3 hQ)
  | [(t1, y1), (t2, y2), (t3, y3), (t4, y4)], h, _, _, hQ =>
    obtain ⟨n1, g1⟩ := h (t1, y1) (by simp)
    obtain ⟨n2, g2⟩ := h (t2, y2) (by simp)
    obtain ⟨n3, g3⟩ := h (t3, y3) (by simp)
    obtain ⟨n4, g4⟩ := h (t4, y4) (by simp)
    exact wk hA (zip_x4 T.kin g1 g2 g3 g4 hQ)
  | _ :: _ :: _ :: _ :: _ :: _, _, _, h2, _ => simp at h2
/-- the star of a matrix, handed to zip: a source of its columns -/
theorem zip_star {f : Nat → Nat → Bool} {n kk : Nat} {v : Value} {s₁ : Shared} {Q : Value → Shared → Prop} (hA : AOk k A) (T : TopS w s) (h1 : 0 < kk) (h2 : kk ≤ 4) (hn : n ≤ 10) (g : Gives s (ListG (fun i => TupG (BoolT (f i)) (List.range n)) (List.range kk)) v s₁)
    (hQ : ∀ z W s', Keep s s' → (∀ b ∈ W, s'.heap.get? b ≠ none) → (∀ (A' : Around) s'', A'.handled = none → Keep s' s'' → wpAny (model pw w) A' (pyIter (.ref z)) (SrcB w A' s s'' W n (RowP s (fun j i => f i j) kk)) (fun _ _ => False) s'') → Q (.ref z) s') :
    StarOf (model pw w) A E v (fun vs s₂ => Kp w (.type "zip") s₂ ∧ wpAny (model pw w) A (call (.type "zip") vs) Q E s₂) s₁ := by
  obtain ⟨l, ⟨D, ys, nn, ls, rfl, rfl, hE⟩, hH, hN, K⟩ := g
  obtain ⟨ts, rfl, hp, ht⟩ := ell_tups hE
  have hl := hp.length
  rw [List.length_range] at hl
  refine star_list hH.head (by simp; omega) fun s₂ k₂ _ => ⟨kp_type, ?_⟩
  have T₂ := (T.keep K).keep k₂
  refine zip_call hA T₂ (fun q hq => ?_) (by omega) (by omega) fun z TI TO its s' _ k₃ Z e => ?_
  · obtain ⟨m, hm⟩ := ht q hq
    exact ⟨m, k₂.old _ _ (solid_cls rfl) (hH.tail _ hm).1⟩
  have K₂ := K.trans k₂
  have hz : its.length = kk := by rw [← List.length_map (f := (·.2)), e]; omega
  have hlen : ∀ q ∈ its, q.2.2.length = n := fun q hq => by
    have : q.2 ∈ ts := e ▸ List.mem_map_of_mem hq
    obtain ⟨i, hi, e'⟩ := List.getElem_of_mem this
    obtain ⟨x, y, hx, hy, hc⟩ := paired_get hp i (by rw [List.length_range]; omega)
    rw [List.getElem?_eq_getElem hi, e'] at hy
    cases hy
    have := hc.length
    rw [List.length_range] at this
    exact this.symm
  have nw : ∀ b ∈ z :: TO :: its.map (·.1), s₂.heap.get? b = none ∧ s'.heap.get? b ≠ none := fun b hb => by
    rcases List.mem_cons.mp hb with rfl | hb
    · obtain ⟨_, _, a, _⟩ := Z.st.zz; exact ⟨Z.fz, by rw [a]; exact nofun⟩
    rcases List.mem_cons.mp hb with rfl | hb
    · obtain ⟨_, _, a, _⟩ := Z.st.to; exact ⟨Z.fo, by rw [a]; exact nofun⟩
    · obtain ⟨q, hq, rfl⟩ := List.mem_map.mp hb
      obtain ⟨_, a, _⟩ := Z.st.it q hq; exact ⟨Z.fq q hq, by rw [a]; exact nofun⟩
  have T' := T₂.keep k₃
  have hne : its ≠ [] := fun h => by rw [h] at hz; simp at hz; omega
  refine hQ z _ s' (K₂.trans k₃) (fun b hb => (nw b hb).2) fun A' s'' hA' k₄ => ?_
  have Wk := wkr_zip (w := w) (A := A') (f := f) (n := n) hA' Z.ap hne (by omega) hlen
  have all : ∀ b ∈ z :: TI :: TO :: (its.map (·.1) ++ its.map (·.2.1)), ∃ o, s'.heap.get? b = some o ∧ hasCls o = true := fun b hb => by
    rcases List.mem_cons.mp hb with rfl | hb
    · obtain ⟨_, _, a, _⟩ := Z.st.zz; exact ⟨_, a, rfl⟩
    rcases List.mem_cons.mp hb with rfl | hb
    · obtain ⟨_, a⟩ := Z.st.ti; exact ⟨_, a, rfl⟩
    rcases List.mem_cons.mp hb with rfl | hb
    · obtain ⟨_, _, a, _⟩ := Z.st.to; exact ⟨_, a, rfl⟩
    rcases List.mem_append.mp hb with hb | hb
    · obtain ⟨q, hq, rfl⟩ := List.mem_map.mp hb
      obtain ⟨o, a, c, _⟩ := Z.st.it q hq; exact ⟨o, a, by unfold hasCls; rw [c]⟩
    · obtain ⟨q, hq, rfl⟩ := List.mem_map.mp hb
      obtain ⟨o, a, c, _⟩ := Z.st.tp q hq; exact ⟨o, a, by unfold hasCls; rw [c]⟩
  have st4 : ZS z TI TO its 0 s''.heap := Wk.frame 0 _ _ Z.st fun b hb o e => by
    obtain ⟨o', a, c⟩ := all b hb
    rw [a] at e; cases e
    exact k₄.old b _ (solid_cls c) a
  refine Wk.self 0 s'' _ _ st4 ⟨z, z :: TI :: TO :: (its.map (·.1) ++ its.map (·.2.1)), z :: TO :: its.map (·.1), fun j h => ZS z TI TO its j h, rfl, ?_, ?_, st4, fun b hb => ?_, fun b hb => ⟨none_back' T K₂ (nw b hb).1, .inl hb⟩, (K₂.trans k₃).trans k₄, fun _ _ _ _ e => e⟩
  · refine ⟨Wk.pres, Wk.sub, Wk.frame, fun i s Q E hi S hQ => Wk.item i s Q E hi S fun v l h' tk hP => hQ v l h' tk ?_, Wk.done, Wk.self⟩
    obtain ⟨Tt, m, rfl, rfl⟩ := hP
    refine ⟨Tt, _, m, rfl, .inl List.mem_cons_self, ?_⟩
    have e5 : its.map (fun q => q.2.2.getD i .none) = ts.map fun q => q.2.getD i .none := by rw [← e, List.map_map]; rfl
    rw [e5]
    exact col_at hi hp
  · rw [sizeLine_eq]; omega
  · obtain ⟨o', a, c⟩ := all b hb
    exact ⟨Heap.lt_size (k₄.old b _ (solid_cls c) a), off_of_cls T' a c⟩
end
end Mine
end
section
open PySem PySem.W PySem.W.X PyProof.Rows PySem.Calls PySem.Spec
/-! Rel4 -/
namespace Mine
set_option maxRecDepth 100000
/-- Z: dicts -/
def DicZ (s : Shared) (Z : List Addr) : Prop := ∀ a ∈ Z, ∃ o es n, s.heap.get? a = some o ∧ o.data = .dict es n
theorem DicZ.out {s : Shared} {Z : List Addr} {a : Addr} {o : Obj} (d : DicZ s Z) (h : s.heap.get? a = some o) (hd : ∀ es n, o.data ≠ .dict es n) : a ∉ Z := fun hm => by
  obtain ⟨o', es, n, e, x⟩ := d a hm
  rw [h] at e; cases e; exact hd _ _ x
theorem DicZ.alive {s : Shared} {Z : List Addr} (d : DicZ s Z) : ∀ a ∈ Z, s.heap.get? a ≠ none := fun a hm => by
  obtain ⟨o', es, n, e, x⟩ := d a hm
  rw [e]; exact nofun
theorem DicZ.ns {s : Shared} {L : Addr} {m : Str → Option Value} (h : s.heap.Ns L m) : DicZ s [L] := fun a ha => by
  rw [List.mem_singleton.mp ha]
  obtain ⟨o, es, ep, a, b, _⟩ := h
  exact ⟨o, es, ep, a, b⟩
theorem DicZ.dc {s : Shared} {dx : Addr} {l : List (Str × Value)} (h : Dc s.heap dx l) : DicZ s [dx] := fun a ha => by
  rw [List.mem_singleton.mp ha]
  obtain ⟨o, ⟨es, n, rfl, _⟩, e⟩ := h
  exact ⟨_, _, _, e, rfl⟩
def OffH (Z : List Addr) (h : HP) : Prop := h.B ∉ Z ∧ h.V ∉ Z ∧ h.dB ∉ Z ∧ h.dV ∉ Z
/-- a BitSet with its Vectors -/
structure Pre (s : Shared) (h : HP) (inf : Value) : Prop where
  b : Ins s.heap h.B 149 h.dB
  db : Dc s.heap h.dB h.lB
  sup : s.heap.get? h.sup = some (mbObj h.dsup (h.n : Int) h.t)
  v : Ins s.heap h.V 213 h.dV
  dv : Dc s.heap h.dV h.lV
  ml : ∃ n, s.heap.get? h.mL = some (listObj h.ys n)
  eb : h.lB = [(nMembers, .ref h.mL), (nInf, inf), (nSup, .ref h.sup), (nTup, .ref h.V)]
theorem Pre.sol {s s' : Shared} {h : HP} {inf : Value} {Z : List Addr} (x : Pre s h inf) (k : Sol Z s s') (d : DicZ s Z) (o : OffH Z h) : Pre s' h inf where
  b := let ⟨ob, a, b⟩ := x.b; ⟨ob, a, k _ _ o.1 (solid_cls (by unfold hasCls; rw [a.1])) b⟩
  db := let ⟨ob, a, b⟩ := x.db; ⟨ob, a, k _ _ o.2.2.1 a.solid b⟩
  sup := k _ _ (d.out x.sup (fun _ _ h => by cases h)) (solid_cls rfl) x.sup
  v := let ⟨ob, a, b⟩ := x.v; ⟨ob, a, k _ _ o.2.1 (solid_cls (by unfold hasCls; rw [a.1])) b⟩
  dv := let ⟨ob, a, b⟩ := x.dv; ⟨ob, a, k _ _ o.2.2.2 a.solid b⟩
  ml := let ⟨n, e⟩ := x.ml; ⟨n, k _ _ (d.out e (fun _ _ h => by cases h)) (solid_cls rfl) e⟩
  eb := x.eb
theorem Keep.sol {s s' : Shared} (k : Keep s s') : Sol [] s s' := fun b o _ so e => k.old b o so e
theorem DicZ.nil {s : Shared} : DicZ s [] := fun _ h => nomatch h
theorem OffH.nil {h : HP} : OffH [] h := ⟨nofun, nofun, nofun, nofun⟩
theorem Pre.keep {s s' : Shared} {h : HP} {inf : Value} (x : Pre s h inf) (k : Keep s s') : Pre s' h inf := x.sol k.sol .nil .nil
theorem Ch.sol {w : World} {X : List Addr} {s s' : Shared} (c : Ch w X s s') : Sol X s s' := fun b o n so e => c.old b o n so e
/-- .. with its rows -/
structure Full (sb s : Shared) (h : HP) (inf : Value) : Prop where
  p : Pre s h inf
  l : ∃ n, s.heap.get? h.L = some (listObj h.rs n)
  r : RowsN sb s h.B h.rs h.rows
  ev : h.lV = [(Str.ofString "BitSet", .ref h.B), (Str.ofString "vectors", .ref h.L)]
theorem Full.sol {sb s s' : Shared} {h : HP} {inf : Value} {Z : List Addr} (x : Full sb s h inf) (k : Sol Z s s') (d : DicZ s Z) (o : OffH Z h) (hZ : ∀ z ∈ Z, sb.heap.get? z ≠ none) : Full sb s' h inf :=
  ⟨x.p.sol k d o, let ⟨n, e⟩ := x.l; ⟨n, k _ _ (d.out e (fun _ _ h => by cases h)) (solid_cls rfl) e⟩, x.r.sol k hZ, x.ev⟩
theorem Full.keep {sb s s' : Shared} {h : HP} {inf : Value} (x : Full sb s h inf) (k : Keep s s') : Full sb s' h inf := x.sol k.sol .nil .nil (fun _ h => nomatch h)
theorem Full.half {sb s : Shared} {h : HP} {inf : Value} (x : Full sb s h inf) : Half s h :=
  ⟨⟨x.p.v, x.p.dv, by rw [x.ev]; rfl, x.l⟩, by rw [x.ev]; rfl, ⟨x.p.b, x.p.db, by rw [x.p.eb]; rfl, x.p.ml⟩, x.p.sup, by rw [x.p.eb]; rfl, x.r.b⟩
section
variable {w : World} {X : List Addr} {s s' : Shared}
theorem DX.noDict {a : Addr} {o : Obj} (d : DX s X) (h : s.heap.get? a = some o) (hd : ∀ es n, o.data ≠ .dict es n) : a ∉ X := fun hm => by
  obtain ⟨od, l, ⟨es, n, rfl, _⟩, e, _⟩ := d a hm
  rw [h] at e; cases e; exact hd _ _ rfl
theorem Ch.codeS {cd : Value} {q : Str} (c : Ch w X s s') (d : DX s X) (x : CodeS s.heap cd q) : CodeS s'.heap cd q := by
  obtain ⟨cc, o, vs, t', a, b, so, dd, e⟩ := x
  exact ⟨cc, o, vs, t', a, c.old _ _ (d.noDict b (fun _ _ h => by rw [dd] at h; cases h)) so b, so, dd, e⟩
theorem Ch.closAt {f : Addr} {j : Nat} {cl : List (Str × Addr)} (c : Ch w X s s') (d : DX s X) (x : ClosAt w.params s.heap f j cl) : ClosAt w.params s'.heap f j cl := by
  obtain ⟨qual, ct, cd, pm, a, b⟩ := x
  exact ⟨qual, ct, cd, pm, c.old _ _ (d.noDict a (fun _ _ h => by cases h)) (solid_cls rfl) a, c.codeS d b⟩
theorem Ch.cellO {f : Addr} {v : Value} (c : Ch w X s s') (d : DX s X) (x : CellO s.heap f v) : CellO s'.heap f v := by
  obtain ⟨o, a, so, b⟩ := x
  exact ⟨o, c.old _ _ (d.noDict a (fun _ _ h => by rw [b] at h; cases h)) so a, so, b⟩
theorem Ch.bm {f B : Addr} (c : Ch w X s s') (d : DX s X) (x : s.heap.get? f = some (bmObj B)) : s'.heap.get? f = some (bmObj B) := c.old _ _ (d.noDict x (fun _ _ h => by cases h)) (solid_cls rfl) x
theorem Ch.paird {h o : HP} {f : FP} {r : Addr} {idx : Int} (c : Ch w X s s') (d : DX s X) (x : Paird w s h o f r idx) {lV lB : List (Str × Value)} : Paird w s' h { o with lV := lV, lB := lB } f r idx :=
  ⟨x.rel, x.idx, x.v1, x.v2, x.v3, x.b0, x.b1, x.b2, x.b3, x.nb, x.ns, c.closAt d x.o1, c.closAt d x.o2, c.closAt d x.o3, c.cellO d x.e1, c.cellO d x.e2, c.cellO d x.e3, c.cellO d x.e4, c.cellO d x.e5, c.cellO d x.e6, c.bm d x.m1, c.bm d x.m2⟩
end
end Mine
end
section
open PySem PySem.W PySem.W.X PyProof.Rows PySem.Calls PySem.Spec
/-! Rel5 -/
namespace Mine
set_option maxRecDepth 100000
section
variable {w : World} {A : Around} {s : Shared} {E : Value → Shared → Prop} {k : Nat}
/-- a list of tuples of truths -/
def TabAt (s : Shared) (D : Addr) (f : Nat → Nat → Bool) (kk n : Nat) : Prop := ∃ vs m, s.heap.get? D = some (listObj vs m) ∧ Paired (fun i v => ∃ t bs m', v = .ref t ∧ s.heap.get? t = some (tupObj bs m') ∧ Paired (BoolT (f i)) (List.range n) bs) (List.range kk) vs
/-- a relation, made -/
structure RelAt (w : World) (s : Shared) (r : Addr) (hX hY : HP) (fX fY : FP) (xs ys : List Value) (f : Nat → Nat → Bool) : Prop where
  obj : ∃ d n, s.heap.get? r = some (relObj d (.ref hX.V) (.ref hY.V) n)
  hx : Half s hX
  hy : Half s hY
  px : Paird w s hX hY fX r 0
  py : Paird w s hY hX fY r 1
  xx : hX.ys = xs
  yy : hY.ys = ys
  rx : hX.rows = (List.range ys.length).map fun i => rowNum (f i) xs.length
  ry : hY.rows = (List.range xs.length).map fun j => rowNum (fun i => has (rowAt hX.rows i) j) ys.length
  nx : hX.n = 2 ^ xs.length - 1
  ny : hY.n = 2 ^ ys.length - 1
/-- what was made for a relation -/
def NewR (s : Shared) (hX hY : HP) : Prop := ∀ a ∈ [hX.dV, hX.dB, hX.V, hX.B, hY.dV, hY.dB, hY.V, hY.B], s.heap.get? a = none
theorem Pre.setV {s s' : Shared} {h : HP} {inf : Value} {lV : List (Str × Value)} {L : Addr} {rs : List Value} {rows : List Nat} (x : Pre s h inf) (k : Sol [h.dV] s s') (n : h.dV ≠ h.dB) (D : Dc s'.heap h.dV lV) : Pre s' { h with lV := lV, L := L, rs := rs, rows := rows } inf where
  b := let ⟨ob, a, b⟩ := x.b; ⟨ob, a, k _ _ (fun hm => x.b.ne x.dv (List.mem_singleton.mp hm)) (solid_cls (by unfold hasCls; rw [a.1])) b⟩
  db := let ⟨ob, a, b⟩ := x.db; ⟨ob, a, k _ _ (fun hm => n (List.mem_singleton.mp hm).symm) a.solid b⟩
  sup := k _ _ ((DicZ.dc x.dv).out x.sup (fun _ _ h => by cases h)) (solid_cls rfl) x.sup
  v := let ⟨ob, a, b⟩ := x.v; ⟨ob, a, k _ _ (fun hm => x.v.ne x.dv (List.mem_singleton.mp hm)) (solid_cls (by unfold hasCls; rw [a.1])) b⟩
  dv := D
  ml := let ⟨n, e⟩ := x.ml; ⟨n, k _ _ ((DicZ.dc x.dv).out e (fun _ _ h => by cases h)) (solid_cls rfl) e⟩
  eb := x.eb
theorem TabAt.ch {D : Addr} {f : Nat → Nat → Bool} {kk n : Nat} {s' : Shared} (h : TabAt s D f kk n) (c : Ch w [] s s') : TabAt s' D f kk n :=
  let ⟨vs, m, e, p⟩ := h; ⟨vs, m, c.old _ _ (by simp) (solid_cls rfl) e, pimp (fun i v ⟨t, bs, m', e1, e2, e3⟩ => ⟨t, bs, m', e1, c.old _ _ (by simp) (solid_cls rfl) e2, e3⟩) p⟩
theorem not1 {a b : Addr} {s : Shared} (h : s.heap.get? a = none) (hb : s.heap.get? b ≠ none) : a ∉ [b] := fun hm => hb (by rw [← List.mem_singleton.mp hm]; exact h)
theorem not1' {a b : Addr} {s : Shared} (h : s.heap.get? b = none) (hb : s.heap.get? a ≠ none) : a ∉ [b] := fun hm => hb (by rw [List.mem_singleton.mp hm]; exact h)
theorem Ins.some {h : Heap} {x C dx : Addr} (i : Ins h x C dx) : h.get? x ≠ none := let ⟨_, _, e⟩ := i; by rw [e]; exact nofun
theorem Dc.some {h : Heap} {x : Addr} {l : List (Str × Value)} (i : Dc h x l) : h.get? x ≠ none := let ⟨_, _, e⟩ := i; by rw [e]; exact nofun
theorem Ch.none {a : Addr} {s' : Shared} (c : Ch w [] s s') (T : TopS w s) (h : s'.heap.get? a = none) : s.heap.get? a = none := by
  cases e : s.heap.get? a with
  | none => rfl
  | some o => have := c.old a o (by simp) (solid_off (off_of_none (c.top T) h)) e; rw [h] at this; cases this
theorem PT.same {s' : Shared} {a : Addr} (P : PT s) (hs : Heap.SameBut a s.heap s'.heap) (ha : ∀ o, s.heap.get? a = some o → ∀ vs, o.data ≠ .fields vs) : PT s' := (PT.set (tk := 0) P hs ha : PT { s with heap := s'.heap, toks := 0 })
theorem Sol.of {a : Addr} {s' : Shared} (hs : Heap.SameBut a s.heap s'.heap) : Sol [a] s s' := fun b o hb _ e => hs.extBut b o (fun h => hb (by rw [h]; exact List.mem_cons_self)) e
theorem tab_src {D : Addr} {f : Nat → Nat → Bool} {kk n : Nat} {s' : Shared} (hA : AOk k A) (T : TopS w s) (h : TabAt s D f kk n) (hk : kk ≤ 10) (K : Keep s s') : wpAny (model pw w) A (pyIter (.ref D)) (SrcB w A s s' [] kk (RowP s f n)) (fun _ _ => False) s' := by
  obtain ⟨vs, m, e, hp⟩ := h
  have hl := hp.length
  rw [List.length_range] at hl
  refine wpAny_mono (src_list hA (T.keep K) (K.old _ _ (solid_cls rfl) e) (by omega)) (fun it s₃ h => ?_) fun _ _ z => z
  obtain ⟨I, fp, wr, St, e', W, a, b, c, d, k'⟩ := h.toB T K
  rw [← hl] at W a
  refine ⟨I, fp, wr, St, e', ⟨W.pres, W.sub, W.frame, fun i s Q E hi S hQ => W.item i s Q E hi S fun v l h' tk hP => hQ v l h' tk ?_, W.done, W.self⟩, a, b, c, d, k'⟩
  obtain ⟨hv, rfl⟩ := hP
  obtain ⟨x, y, hx, hy, t, bs, m', rfl, h2, h3⟩ := paired_get hp i (by rw [List.length_range]; exact hi)
  rw [hy] at hv; cases hv
  have : x = i := by
    obtain ⟨h1, h2⟩ := List.getElem?_eq_some_iff.mp hx
    rw [List.getElem_range] at h2; exact h2.symm
  subst this
  exact ⟨t, bs, m', rfl, .inr h2, h3⟩
set_option maxHeartbeats 1000000 in
theorem new_c {mX mY D : Addr} {xs ys : List Value} {n1 n2 : Nat} {a1 a2 : Str} {t1 t2 : Tok} {f : Nat → Nat → Bool} {Q : Value → Shared → Prop} (hA : AOk (k + 10) A) (T : TopS w s) (P : PT s)
    (hX : s.heap.get? mX = some (listObj xs n1)) (hY : s.heap.get? mY = some (listObj ys n2)) (hx : 0 < xs.length) (hx4 : xs.length ≤ 4) (hy : 0 < ys.length) (hy4 : ys.length ≤ 4) (hD : TabAt s D f ys.length xs.length)
    (hQ : ∀ r hX hY fX fY s', Ch w [] s s' → PT s' → s.heap.get? r = none → NewR s hX hY → RelAt w s' r hX hY fX fY xs ys f → Q (.ref r) s') :
    wpAny (model pw w) A (call (.ref 232) [.ref 235, .str a1 t1, .str a2 t2, .ref mX, .ref mY, .ref D]) Q E s := by
  refine enter_clos (args := ⟨[.ref 235, .str a1 t1, .str a2 t2, .ref mX, .ref mY, .ref D], []⟩) (binds := [(Str.ofString "cls", .ref 235), (Str.ofString "xname", .str a1 t1), (Str.ofString "yname", .str a2 t2), (Str.ofString "xmembers", .ref mX), (Str.ofString "ymembers", .ref mY), (Str.ofString "xbools", .ref D), (Str.ofString "_ids", .none)])
    hA T (T.kin 232 _ rfl) rfl rfl ⟨_, _, _, _, rfl, T.kin _ _ rfl, rfl, rfl⟩ (BindsTo.of_defaults (T := 224) rfl (T.kin 224 _ rfl) rfl rfl rfl) (by decide)
    (fun x hx => by simp only [List.mem_cons, List.not_mem_nil, or_false] at hx; rcases hx with rfl | rfl | rfl | rfl | rfl | rfl | rfl <;> rfl) ?_
  intro L s₁ hA₁ T₁ F₁ _
  have Z₁ := FmX.of (w := w) (X := []) F₁ (fun _ h => nomatch h)
  have P₁ := P.keep F₁.keep
  -- X = bitset(..)
  refine wpAny_execs_cons (wpAny_Assign_Name (call_1 (nm_top T₁ (v := .ref 196) (args_c ?_))))
  refine Z₁.name rfl ⟨rfl, by decide +kernel⟩ rfl (args_c ?_)
  refine Z₁.name rfl ⟨rfl, by decide +kernel⟩ rfl (args_c ?_)
  refine nm_top T₁ (v := .ref 92) (args_c (nm_top T₁ (v := .ref 213) (args_0 ⟨kp_top T₁ (by kernel_rfl) (.inl rfl), ?_⟩)))
  refine bitset_c (k := k + 4) (hA₁.le (by omega)) T₁ (F₁.keep.old _ _ (solid_cls rfl) hX) (by omega) fun B dB V dV inf sup s₂ K₂ b1 b2 b3 b4 b5 iB DB mS iV DV => ?_
  obtain ⟨ds, hb, t, kt, m, g1, g2⟩ := mS
  have Px₂ : Pre s₂ ⟨V, dV, 0, B, dB, mX, sup, ds, [(Str.ofString "BitSet", .ref B)], [(nMembers, .ref mX), (nInf, inf), (nSup, .ref sup), (nTup, .ref V)], [], xs, [], 2 ^ xs.length - 1, t⟩ inf := ⟨iB, DB, g1, iV, DV, ⟨n1, (F₁.keep.trans K₂).old _ _ (solid_cls rfl) hX⟩, rfl⟩
  have Z₂ := Z₁.step T (Ch.of K₂)
  have P₂ := P₁.keep K₂
  have bk₁ := F₁.keep
  have aL₁ : s₁.heap.get? L ≠ none := (DicZ.ns Z₁.ns).alive _ (List.mem_cons_self ..)
  refine Z₂.store T rfl ⟨rfl, by decide +kernel⟩ fun s₃ Z₃ _ k₃ => ?_
  have oX : OffH [L] ⟨V, dV, 0, B, dB, mX, sup, ds, [(Str.ofString "BitSet", .ref B)], [(nMembers, .ref mX), (nInf, inf), (nSup, .ref sup), (nTup, .ref V)], [], xs, [], 2 ^ xs.length - 1, t⟩ := ⟨not1 b4 aL₁, not1 b5 aL₁, not1 b1 aL₁, not1 b2 aL₁⟩
  have Px₃ := Px₂.sol (Sol.of k₃) (.ns Z₂.ns) oX
  have P₃ := P₂.same k₃ (Ns_noF Z₂.ns)
  have T₃ := Z₃.ch.top T
  have aL₃ : s₃.heap.get? L ≠ none := (DicZ.ns Z₃.ns).alive _ (List.mem_cons_self ..)
  -- Y = bitset(..)
  refine wpAny_execs_cons (wpAny_Assign_Name (call_1 (nm_top T₃ (v := .ref 196) (args_c ?_))))
  refine Z₃.name rfl ⟨rfl, by decide +kernel⟩ rfl (args_c ?_)
  refine Z₃.name rfl ⟨rfl, by decide +kernel⟩ rfl (args_c ?_)
  refine nm_top T₃ (v := .ref 92) (args_c (nm_top T₃ (v := .ref 213) (args_0 ⟨kp_top T₃ (by kernel_rfl) (.inl rfl), ?_⟩)))
  refine bitset_c (k := k + 4) (hA₁.le (by omega)) T₃ (Z₃.ch.old _ _ (by simp) (solid_cls rfl) hY) (by omega) fun B' dB' V' dV' inf' sup' s₄ K₄ c1 c2 c3 c4 c5 iB' DB' mS' iV' DV' => ?_
  obtain ⟨ds', hb', t', kt', m', g1', g2'⟩ := mS'
  have Z₄ := Z₃.step T (Ch.of K₄)
  have Py₄ : Pre s₄ ⟨V', dV', 0, B', dB', mY, sup', ds', [(Str.ofString "BitSet", .ref B')], [(nMembers, .ref mY), (nInf, inf'), (nSup, .ref sup'), (nTup, .ref V')], [], ys, [], 2 ^ ys.length - 1, t'⟩ inf' := ⟨iB', DB', g1', iV', DV', ⟨n2, Z₄.ch.old _ _ (by simp) (solid_cls rfl) hY⟩, rfl⟩
  have Px₄ := Px₃.keep K₄
  have P₄ := P₃.keep K₄
  refine Z₄.store T rfl ⟨rfl, by decide +kernel⟩ fun s₅ Z₅ _ k₅ => ?_
  have oY : OffH [L] ⟨V', dV', 0, B', dB', mY, sup', ds', [(Str.ofString "BitSet", .ref B')], [(nMembers, .ref mY), (nInf, inf'), (nSup, .ref sup'), (nTup, .ref V')], [], ys, [], 2 ^ ys.length - 1, t'⟩ := ⟨not1 c4 aL₃, not1 c5 aL₃, not1 c1 aL₃, not1 c2 aL₃⟩
  have Px₅ := Px₄.sol (Sol.of k₅) (.ns Z₄.ns) oX
  have Py₅ := Py₄.sol (Sol.of k₅) (.ns Z₄.ns) oY
  have P₅ := P₄.same k₅ (Ns_noF Z₄.ns)
  have T₅ := Z₅.ch.top T
  have Z₅' := Z₅.step T (Ch.of (toks_keep (s := s₅) (tk := s₅.toks + 1)))
  have T₅' := Z₅'.ch.top T
  have Px₅' := Px₅.keep (toks_keep (tk := s₅.toks + 1))
  have Py₅' := Py₅.keep (toks_keep (tk := s₅.toks + 1))
  have P₅' := P₅.keep (toks_keep (tk := s₅.toks + 1))
  have dn : s.heap.get? dV = none := none_back' T bk₁ b2
  have dbn : s.heap.get? dB = none := none_back' T bk₁ b1
  have FV : Free w dV := free_of T dn
  -- x = X.Tuple.frombools(xbools)
  refine wpAny_execs_cons (wpAny_Assign_Name (meth_1 (Attribute_any_ (Z₅.name rfl ⟨rfl, by decide +kernel⟩ rfl (get_own_ T₅ Px₅.b Px₅.db (v := .ref V) rfl rfl (by kernel_rfl) ?_)))))
  refine method_cls (f := 165) T₅' Px₅'.v Px₅'.dv rfl (by kernel_rfl) (args_c (Z₅'.name rfl ⟨rfl, by decide +kernel⟩ rfl (args_0 ⟨kp_top T₅' (by kernel_rfl) (.inl rfl), ?_⟩)))
  refine frombools_c (k := k + 3) (f := f) (kk := ys.length) (n := xs.length) (lB := [(nMembers, .ref mX), (nInf, inf), (nSup, .ref sup), (nTup, .ref V)]) [] (hA₁.le (by omega)) T₅' (Keep.refl _) (fun _ h => nomatch h) Px₅'.dv Px₅'.v Px₅'.b Px₅'.db rfl (by omega) (by omega) (fun A' s' hA' K => tab_src hA' T₅' (hD.ch Z₅'.ch) (by omega) K) FV
    fun Lx rs s₆ C₆ p₆ D₆ L₆ R₆ => ?_
  have P₆ := p₆ P₅'
  have Fx₆ : Full { s₅ with toks := s₅.toks + 1 } s₆ ⟨V, dV, Lx, B, dB, mX, sup, ds, [(Str.ofString "BitSet", .ref B), (Str.ofString "vectors", .ref Lx)], [(nMembers, .ref mX), (nInf, inf), (nSup, .ref sup), (nTup, .ref V)], rs, xs, (List.range ys.length).map fun i => rowNum (f i) xs.length, 2 ^ xs.length - 1, t⟩ inf :=
    ⟨Px₅'.setV C₆.sol b3 D₆, L₆, R₆, rfl⟩
  have aV₃ : s₃.heap.get? dV ≠ none := Px₃.dv.some
  have Py₆ := Py₅'.sol C₆.sol (.dc Px₅'.dv) ⟨not1 c4 aV₃, not1 c5 aV₃, not1 c1 aV₃, not1 c2 aV₃⟩
  have Z₆ := Z₅'.stepN T C₆ (fun a ha => by rw [List.mem_singleton.mp ha]; exact dn) (fun a ha hm => by rw [List.mem_singleton.mp ha] at hm; exact not1 b2 aL₁ hm)
  refine Z₆.store T rfl ⟨rfl, by decide +kernel⟩ fun s₇ Z₇ _ k₇ => ?_
  have oX₆ : OffH [L] ⟨V, dV, Lx, B, dB, mX, sup, ds, [(Str.ofString "BitSet", .ref B), (Str.ofString "vectors", .ref Lx)], [(nMembers, .ref mX), (nInf, inf), (nSup, .ref sup), (nTup, .ref V)], rs, xs, (List.range ys.length).map fun i => rowNum (f i) xs.length, 2 ^ xs.length - 1, t⟩ := ⟨not1 b4 aL₁, not1 b5 aL₁, not1 b1 aL₁, not1 b2 aL₁⟩
  have Fx₇ := Fx₆.sol (Sol.of k₇) (.ns Z₆.ns) oX₆ ((DicZ.ns Z₅'.ns).alive)
  have Py₇ := Py₆.sol (Sol.of k₇) (.ns Z₆.ns) oY
  have P₇ := P₆.same k₇ (Ns_noF Z₆.ns)
  have T₇ := Z₇.ch.top T
  have Z₇' := Z₇.step T (Ch.of (toks_keep (s := s₇) (tk := s₇.toks + 1)))
  have T₇' := Z₇'.ch.top T
  have Fx₇' := Fx₇.keep (toks_keep (tk := s₇.toks + 1))
  have Py₇' := Py₇.keep (toks_keep (tk := s₇.toks + 1))
  have P₇' := P₇.keep (toks_keep (tk := s₇.toks + 1))
  have hrs : rs.length = ys.length := by have := R₆.length; simpa using this
  -- y = Y.Tuple.frombools(zip( *x.bools()))
  have dn' : s.heap.get? dV' = none := Z₃.ch.none T c2
  have dbn' : s.heap.get? dB' = none := Z₃.ch.none T c1
  refine wpAny_execs_cons (wpAny_Assign_Name (meth_1 (Attribute_any_ (Z₇.name rfl ⟨rfl, by decide +kernel⟩ rfl (get_own_ T₇ Py₇.b Py₇.db (v := .ref V') rfl rfl (by kernel_rfl) ?_)))))
  refine method_cls (f := 165) T₇' Py₇'.v Py₇'.dv rfl (by kernel_rfl) (args_c (call_star (nm_top T₇' (v := .type "zip") ?_)))
  refine meth_0 (Z₇'.name rfl ⟨rfl, by decide +kernel⟩ rfl (method_cls (f := 177) T₇' Fx₇'.p.v Fx₇'.p.dv rfl (by kernel_rfl) ⟨kp_top T₇' (by kernel_rfl) (.inl rfl), ?_⟩))
  refine vec_bools (k := k + 4) (hA₁.le (by omega)) T₇' Fx₇'.half (by dsimp only; omega) (by dsimp only; omega) fun r₈ s₈ g₈ => ?_
  dsimp only at g₈
  refine zip_star (k := k) (f := fun i j => has (rowAt ((List.range ys.length).map fun i => rowNum (f i) xs.length) i) j) (hA₁.le (by omega)) T₇' (by omega) (by omega) (by omega) g₈ fun z W s₉ K₉ hW hsrc => args_0 ⟨kp_top (T₇'.keep K₉) (by kernel_rfl) (.inl rfl), ?_⟩
  refine frombools_c (k := k + 3) (f := fun j i => has (rowAt ((List.range ys.length).map fun i => rowNum (f i) xs.length) i) j) (kk := xs.length) (n := rs.length) (lB := [(nMembers, .ref mY), (nInf, inf'), (nSup, .ref sup'), (nTup, .ref V')]) W (hA₁.le (by omega)) T₇' K₉ hW Py₇'.dv Py₇'.v Py₇'.b Py₇'.db rfl (by omega) (by omega)
    (fun A' s' hA' K => hsrc A' s' hA'.handled K) (free_of T dn') fun Ly rs' s₁₀ C₁₀ p₁₀ D₁₀ L₁₀ R₁₀ => ?_
  have P₁₀ := p₁₀ P₇'
  have Fy₁₀ : Full { s₇ with toks := s₇.toks + 1 } s₁₀ ⟨V', dV', Ly, B', dB', mY, sup', ds', [(Str.ofString "BitSet", .ref B'), (Str.ofString "vectors", .ref Ly)], [(nMembers, .ref mY), (nInf, inf'), (nSup, .ref sup'), (nTup, .ref V')], rs', ys, (List.range xs.length).map fun j => rowNum ((fun j i => has (rowAt ((List.range ys.length).map fun i => rowNum (f i) xs.length) i) j) j) rs.length, 2 ^ ys.length - 1, t'⟩ inf' :=
    ⟨Py₇'.setV C₁₀.sol c3 D₁₀, L₁₀, R₁₀, rfl⟩
  have Fx₁₀ := Fx₇'.sol C₁₀.sol (.dc Py₇'.dv) ⟨not1' c2 Px₃.b.some, not1' c2 Px₃.v.some, not1' c2 Px₃.db.some, not1' c2 Px₃.dv.some⟩ ((DicZ.dc Py₅'.dv).alive)
  have Z₁₀ := Z₇'.stepN T C₁₀ (fun a ha => by rw [List.mem_singleton.mp ha]; exact dn') (fun a ha hm => by rw [List.mem_singleton.mp ha] at hm; exact not1 c2 aL₃ hm)
  refine Z₁₀.store T rfl ⟨rfl, by decide +kernel⟩ fun s₁₁ Z₁₁ _ k₁₁ => ?_
  have Fx₁₁ := Fx₁₀.sol (Sol.of k₁₁) (.ns Z₁₀.ns) oX₆ ((DicZ.ns Z₅'.ns).alive)
  have Fy₁₁ := Fy₁₀.sol (Sol.of k₁₁) (.ns Z₁₀.ns) ⟨not1 c4 aL₃, not1 c5 aL₃, not1 c1 aL₃, not1 c2 aL₃⟩ ((DicZ.ns Z₇'.ns).alive)
  have P₁₁ := P₁₀.same k₁₁ (Ns_noF Z₁₀.ns)
  have T₁₁ := Z₁₁.ch.top T
  -- self = super(Relation, cls).__new__(cls, (x, y))
  refine wpAny_execs_cons (wpAny_Assign_Name (meth_1 (call_1 (nm_top T₁₁ (v := .type "super") (args_c (nm_top T₁₁ (v := .ref 235) (args_c (Z₁₁.name rfl ⟨rfl, by decide +kernel⟩ rfl (args_0 ⟨kp_type, ?_⟩)))))))))
  refine wk hA₁ (super_x T₁₁.kin fun z₁ s₁₂ _ K₁₂ N₁₂ => ?_)
  refine super_method hA₁ (T₁₁.keep K₁₂) N₁₂.2 fun tk' => ?_
  have K₁₂' := K₁₂.trans (toks_keep (tk := tk'))
  have Z₁₂ := Z₁₁.step T (Ch.of K₁₂')
  have T₁₂ := Z₁₂.ch.top T
  refine args_c (Z₁₂.name rfl ⟨rfl, by decide +kernel⟩ rfl (args_c (wpAny_Tuple (wpAny_items_cons (Z₁₂.name rfl ⟨rfl, by decide +kernel⟩ rfl (wpAny_items_cons (Z₁₂.name rfl ⟨rfl, by decide +kernel⟩ rfl (wpAny_items_nil ⟨by rw [sizeLine_eq]; simp, ?_⟩))))))))
  have Kt := push_keep (s := { s₁₂ with toks := tk' }) (o := { cls := .type "tuple", data := .seq ([Value.ref V, Value.ref V'] : List Value).toArray }) (tk := tk')
  refine args_0 ⟨kp_builtin, wk hA₁ (tupnew_x (T₁₂.keep Kt).kin (Heap.get?_push_size _ rfl) fun r d n s₁₃ _ K₁₃ N₁₃ => ?_)⟩
  have Ka := K₁₂'.trans (Kt.trans K₁₃)
  have Z₁₃ := Z₁₁.step T (Ch.of Ka)
  have Fx₁₃ := Fx₁₁.keep Ka
  have Fy₁₃ := Fy₁₁.keep Ka
  have P₁₃ := P₁₁.keep Ka
  have nr : s₁₁.heap.get? r = none := none_back' T₁₁ (K₁₂'.trans Kt) N₁₃.1
  refine Z₁₃.store T rfl ⟨rfl, by decide +kernel⟩ fun s₁₄ Z₁₄ _ k₁₄ => ?_
  have Fx₁₄ := Fx₁₃.sol (Sol.of k₁₄) (.ns Z₁₃.ns) oX₆ ((DicZ.ns Z₅'.ns).alive)
  have Fy₁₄ := Fy₁₃.sol (Sol.of k₁₄) (.ns Z₁₃.ns) ⟨not1 c4 aL₃, not1 c5 aL₃, not1 c1 aL₃, not1 c2 aL₃⟩ ((DicZ.ns Z₇'.ns).alive)
  have P₁₄ := P₁₃.same k₁₄ (Ns_noF Z₁₃.ns)
  have T₁₄ := Z₁₄.ch.top T
  have gr₁₄ : s₁₄.heap.get? r = some (relObj d (.ref V) (.ref V') n) := Sol.of k₁₄ _ _ ((DicZ.ns Z₁₃.ns).out N₁₃.2 (fun _ _ h => by cases h)) (solid_cls rfl) N₁₃.2
  -- x._pair_with(self, 0, y)
  refine wpAny_execs_cons (wpAny_Expr (meth_1 (Z₁₄.name rfl ⟨rfl, by decide +kernel⟩ rfl (method_cls (f := 210) T₁₄ Fx₁₄.p.v Fx₁₄.p.dv rfl (by kernel_rfl) (args_c ?_)))))
  refine Z₁₄.name rfl ⟨rfl, by decide +kernel⟩ rfl (args_c (wpAny_Constant_int ?_))
  have tk₁₄ := toks_keep (s := s₁₄) (tk := s₁₄.toks + 1)
  have Z₁₄' := Z₁₄.step T (Ch.of tk₁₄)
  have T₁₄' := T₁₄.keep tk₁₄
  have Fx₁₄' := Fx₁₄.keep tk₁₄
  have Fy₁₄' := Fy₁₄.keep tk₁₄
  refine args_c (Z₁₄'.name rfl ⟨rfl, by decide +kernel⟩ rfl (args_0 ⟨kp_top T₁₄' (by kernel_rfl) (.inl rfl), ?_⟩))
  have ne1 : dV' ∉ [dV, dB] := fun hm => by
    rcases List.mem_cons.mp hm with e | hm
    · exact Px₃.dv.some (e ▸ c2)
    · exact Px₃.db.some (List.mem_singleton.mp hm ▸ c2)
  have ne2 : dB' ∉ [dV, dB] := fun hm => by
    rcases List.mem_cons.mp hm with e | hm
    · exact Px₃.dv.some (e ▸ c1)
    · exact Px₃.db.some (List.mem_singleton.mp hm ▸ c1)
  refine pair_with_c (inf' := .none) (k := k) (hA₁.le (by omega)) T T₁₄' dn dbn Fx₁₄'.half Fy₁₄'.half (P₁₄.keep tk₁₄) b3 ne1 ne2 rfl rfl rfl fun s₁₅ lV lB fX C₁₅ P₁₅ HX PXY => ?_
  have nX : ∀ a ∈ [dV, dB], s.heap.get? a = none ∧ a ≠ L := fun a ha => by
    rcases List.mem_cons.mp ha with rfl | ha
    · exact ⟨dn, fun h => aL₁ (h ▸ b2)⟩
    · rw [List.mem_singleton.mp ha]; exact ⟨dbn, fun h => aL₁ (h ▸ b1)⟩
  have Z₁₅ := Z₁₄'.stepN T C₁₅ (fun a ha => (nX a ha).1) (fun a ha hm => (nX a ha).2 (List.mem_singleton.mp hm))
  have T₁₅ := Z₁₅.ch.top T
  have dx : DX { s₁₄ with toks := s₁₄.toks + 1 } [dV, dB] := by
    intro a ha
    rcases List.mem_cons.mp ha with rfl | ha
    · obtain ⟨od, a, b⟩ := Fx₁₄'.p.dv; exact ⟨od, _, a, b, by simp⟩
    · rw [List.mem_singleton.mp ha]; obtain ⟨od, a, b⟩ := Fx₁₄'.p.db; exact ⟨od, _, a, b, by simp⟩
  have HY := C₁₅.half dx ne1 ne2 Fy₁₄'.half
  have gr₁₅ := C₁₅.old _ _ (dx.noDict gr₁₄ (fun _ _ h => by cases h)) (solid_cls rfl) gr₁₄
  -- y._pair_with(self, 1, x)
  refine wpAny_execs_cons (wpAny_Expr (meth_1 (Z₁₅.name rfl ⟨rfl, by decide +kernel⟩ rfl (method_cls (f := 210) T₁₅ HY.v.ins HY.v.dc rfl (by kernel_rfl) (args_c ?_)))))
  refine Z₁₅.name rfl ⟨rfl, by decide +kernel⟩ rfl (args_c (wpAny_Constant_int ?_))
  have tk₁₅ := toks_keep (s := s₁₅) (tk := s₁₅.toks + 1)
  have Z₁₅' := Z₁₅.step T (Ch.of tk₁₅)
  have T₁₅' := T₁₅.keep tk₁₅
  refine args_c (Z₁₅'.name rfl ⟨rfl, by decide +kernel⟩ rfl (args_0 ⟨kp_top T₁₅' (by kernel_rfl) (.inl rfl), ?_⟩))
  have ne3 : dV ∉ [dV', dB'] := fun hm => by
    rcases List.mem_cons.mp hm with e | hm
    · exact Px₃.dv.some (e ▸ c2)
    · exact Px₃.dv.some (List.mem_singleton.mp hm ▸ c1)
  have ne4 : dB ∉ [dV', dB'] := fun hm => by
    rcases List.mem_cons.mp hm with e | hm
    · exact Px₃.db.some (e ▸ c2)
    · exact Px₃.db.some (List.mem_singleton.mp hm ▸ c1)
  refine pair_with_c (inf' := .none) (k := k) (hA₁.le (by omega)) T T₁₅' dn' dbn' (HY.keep tk₁₅) (HX.keep tk₁₅) (P₁₅.keep tk₁₅) c3 ne3 ne4 rfl rfl PXY.b0 fun s₁₆ lV' lB' fY C₁₆ P₁₆ HY' PYX => ?_
  have nY : ∀ a ∈ [dV', dB'], s.heap.get? a = none ∧ a ≠ L := fun a ha => by
    rcases List.mem_cons.mp ha with rfl | ha
    · exact ⟨dn', fun h => aL₃ (h ▸ c2)⟩
    · rw [List.mem_singleton.mp ha]; exact ⟨dbn', fun h => aL₃ (h ▸ c1)⟩
  have Z₁₆ := Z₁₅'.stepN T C₁₆ (fun a ha => (nY a ha).1) (fun a ha hm => (nY a ha).2 (List.mem_singleton.mp hm))
  have dy : DX { s₁₅ with toks := s₁₅.toks + 1 } [dV', dB'] := by
    intro a ha
    rcases List.mem_cons.mp ha with rfl | ha
    · obtain ⟨od, a, b⟩ := HY.v.dc; exact ⟨od, _, a, b, by simp⟩
    · rw [List.mem_singleton.mp ha]; obtain ⟨od, a, b⟩ := HY.b.dc; exact ⟨od, _, a, b, by simp⟩
  have gr₁₆ := C₁₆.old _ _ (dy.noDict gr₁₅ (fun _ _ h => by cases h)) (solid_cls rfl) gr₁₅
  refine wpAny_execs_cons (wpAny_Return_some (Z₁₆.name rfl ⟨rfl, by decide +kernel⟩ rfl ?_))
  refine hQ r _ _ fX fY s₁₆ Z₁₆.ch P₁₆ (Z₁₁.ch.none T nr) (fun a ha => by
    simp only [List.mem_cons, List.not_mem_nil, or_false] at ha
    rcases ha with rfl | rfl | rfl | rfl | rfl | rfl | rfl | rfl
    · exact dn
    · exact dbn
    · exact none_back' T bk₁ b5
    · exact none_back' T bk₁ b4
    · exact dn'
    · exact dbn'
    · exact Z₃.ch.none T c5
    · exact Z₃.ch.none T c4) ⟨⟨d, n, gr₁₆⟩, C₁₆.half dy ne3 ne4 (HX.keep tk₁₅), HY', C₁₆.paird dy (PXY.keep tk₁₅), PYX, rfl, rfl, rfl, ?_, rfl, rfl⟩
  rw [← hrs]
end
end Mine
end
section
open PySem PySem.W PySem.W.X PyProof.Rows PySem.Calls PySem.Spec
/-! Rel6 -/
namespace Mine
set_option maxRecDepth 100000
section
variable {w : World} {S : Shared} {E Q : Value → Shared → Prop}
set_option hygiene false in
local macro_rules | `(tactic| x_close) => `(tactic| first | exact hQ _ rfl (mem_keep (by assumption)) | exact hQ _ rfl (Keep.refl _) | exact hQ _ rfl toks_keep)
set_option maxHeartbeats 0 in
theorem sget_x (KX : Frag.In (KF w.params) S.heap) (hQ : ∀ (s' : Shared), s'.gens = S.gens → Keep S s' → Q (.ref 232) s') :
   wpAny (model pw w) Amax (call (.builtin "staticmethod.__get__") [.ref 236, .none, .ref 235] []) Q E S := by
  x_run
end
section
variable {w : World} {A : Around} {s : Shared} {E : Value → Shared → Prop} {k : Nat}
theorem getnew {expr : Bool} {Q : Value → Shared → Prop} (hA : AOk (k + 1) A) (T : TopS w s) (hQ : ∀ (s' : Shared), s'.gens = s.gens → Keep s s' → Q (.ref 232) s') :
    wpAny (model pw w) A (getAttr (.ref 235) (Str.ofString "__new__") expr) Q E s := by
  have T' := T.keep (toks_keep (tk := s.toks + 1))
  refine cls_bind (g := .builtin "staticmethod.__get__") (a := .ref 236) (obj := .none) (tp := .ref 235) (mc := .type "type") T.kin (by kernel_rfl) (by kernel_rfl) ?_
  refine wk hA.in1 (sget_x T'.kin fun s' hg K => ?_)
  exact handed_on rfl (hQ s' hg ((toks_keep (tk := s.toks + 1)).trans K))
theorem oiargs (a : Value) (rest : List Value) : argsOk "object.__init__" ⟨a :: rest, []⟩ := by unfold argsOk; kernel_rfl
/-- object.__init__ on a thing of a class that has a __new__ of its own -/
theorem oi_run {r : Addr} {rest : List Value} {s' : Shared} {Q : PySem.Fin → Shared → Prop} {E : Value → Shared → Prop} (t1 : Looks (model pw w) s'.heap (typeOf (.ref r)) (.ref 235)) (t3 : Looks (model pw w) s'.heap (typeLookup (.ref 235) "__init__") (some (.builtin "object.__init__")))
    (t5 : Looks (model pw w) s'.heap (Bind.madeBy (.ref 235)) none) (hq : Q (.done (.ret .none)) s') : wpAny (model pw w) A (Builtin.«object.__init__» ⟨.ref r :: rest, []⟩) Q E s' := by
  unfold Builtin.«object.__init__»
  dsimp only
  split
  · refine wpAny_bind (t1.here (wpAny_bind (t3.here (wpAny_bind (t5.here ?_)))))
    dsimp only
    rw [if_neg (by decide +kernel), if_neg (by decide +kernel)]
    exact wpAny_pure hq
  · exact wpAny_pure hq
theorem make_rel {rest : List Value} {Q : Value → Shared → Prop} (hA : AOk (k + 3) A) (T : TopS w s)
    (h : ∀ s₁ A', AOk (k + 1) A' → Keep s s₁ → wpAny (model pw w) A' (call (.ref 232) (.ref 235 :: rest)) (fun v s' => ∃ r d x y n, v = .ref r ∧ s'.heap.get? r = some (relObj d x y n) ∧ TopS w s' ∧ Q v s') (fun _ _ => False) s₁) :
    wpAny (model pw w) A (call (.ref 235) rest) Q E s := by
  refine wpAny_call ?_
  refine codeAny_of_tree ?_
  show wpAny _ _ (callAny (.ref 235) _) _ _ _
  refine nd_load (T.kin 235 _ rfl) ?_
  show wpAny _ _ (callAny.viaDunder (.ref 235) _) _ _ _
  unfold callAny.viaDunder
  refine wpAny_bind ((pk T (r := some (.builtin "type.__call__")) (by kernel_rfl)).here ?_)
  dsimp only
  rw [tc_bind]
  refine wpAny_bind (wpAny_pure (wpAny_bind (wpAny_pure ?_)))
  refine wpAny_pure (a := Fin.again (.call (.builtin "type.__call__") ⟨.ref 235 :: rest, []⟩)) (And.intro rfl ?_)
  refine codeAny_call_builtin_at (Code.quiet_builtin _ (by decide +kernel)) entry_typeCall (check_slot tc_kind tc_split (pk T (by kernel_rfl)) (tc_args _ _ _) ?_)
  unfold Builtin.«type.__call__»
  have hA' : AOk (k + 2) (A.under (.builtin "type.__call__" ⟨.ref 235 :: rest, []⟩)) := hA.call
  show wpAny _ _ (mroOf (.ref 235) >>= _) _ _ _
  refine wpAny_bind ((pk T (r := [.ref 235, .type "tuple", .type "object"]) (by kernel_rfl)).here ?_)
  rw [if_neg (by simp)]
  refine wpAny_bind ((pk T (r := none) (by kernel_rfl)).here ?_)
  dsimp only
  refine wpAny_bind (getnew hA' T fun s₁ _ K₁ => ?_)
  refine wpAny_bind (wpAny_holding (wpAny_mono (h s₁ _ (hA'.le (by omega)) K₁) (fun v s' hv => ?_) fun _ _ z => z.elim))
  obtain ⟨r, d, x, y, n, rfl, hr, T', hQ'⟩ := hv
  have t1 : Looks (model pw w) s'.heap (typeOf (.ref r)) (.ref 235) := (Looks.ld hr).andThen .now
  have t2 : Looks (model pw w) s'.heap (isSubtype (.ref 235) (.ref 235)) true := pk T' (by kernel_rfl)
  have t3 : Looks (model pw w) s'.heap (typeLookup (.ref 235) "__init__") (some (.builtin "object.__init__")) := pk T' (by kernel_rfl)
  have t12 : Looks (model pw w) s'.heap (isInstance (.ref r) (.ref 235)) true := t1.andThen t2
  refine wpAny_bind (t12.here ?_)
  rw [if_neg (by decide)]
  refine wpAny_bind (wpAny_holding ?_)
  unfold callSpecial? specialOf
  refine wpAny_bind (wpAny_bind (t1.here (t3.here ?_)))
  dsimp only
  refine wpAny_holding ?_
  rw [oi_bind]
  refine wpAny_bind (wpAny_pure ?_)
  have t4 : Looks (model pw w) s'.heap (isInstance (.ref r) (.type "object")) true := t1.andThen (pk T' (by kernel_rfl))
  have t5 : Looks (model pw w) s'.heap (Bind.madeBy (.ref 235)) none := pk T' (by kernel_rfl)
  refine wpAny_bind (wpAny_call ?_)
  refine codeAny_call_builtin oi_plain entry_oi (@check_slot (model pw w) _ _ _ "object.__init__" "object" "__init__" (.ref r) rest [] _ oi_kind oi_split t4 (oiargs _ _) ?_)
  refine oi_run t1 t3 t5 ?_
  refine wpAny_pure ?_
  dsimp only
  rw [if_neg (by decide)]
  exact wpAny_pure hQ'
theorem TabAt.keep {D : Addr} {f : Nat → Nat → Bool} {kk n : Nat} {s' : Shared} (h : TabAt s D f kk n) (c : Keep s s') : TabAt s' D f kk n :=
  let ⟨vs, m, e, p⟩ := h; ⟨vs, m, c.old _ _ (solid_cls rfl) e, pimp (fun i v ⟨t, bs, m', e1, e2, e3⟩ => ⟨t, bs, m', e1, c.old _ _ (solid_cls rfl) e2, e3⟩) p⟩
/-- Relation(..) -/
theorem rel_c {mX mY D : Addr} {xs ys : List Value} {n1 n2 : Nat} {a1 a2 : Str} {t1 t2 : Tok} {f : Nat → Nat → Bool} {Q : Value → Shared → Prop} (hA : AOk (k + 12) A) (T : TopS w s) (P : PT s)
    (hX : s.heap.get? mX = some (listObj xs n1)) (hY : s.heap.get? mY = some (listObj ys n2)) (hx : 0 < xs.length) (hx4 : xs.length ≤ 4) (hy : 0 < ys.length) (hy4 : ys.length ≤ 4) (hD : TabAt s D f ys.length xs.length)
    (hQ : ∀ r hX hY fX fY s', Ch w [] s s' → PT s' → s.heap.get? r = none → NewR s hX hY → RelAt w s' r hX hY fX fY xs ys f → Q (.ref r) s') :
    wpAny (model pw w) A (call (.ref 235) [.str a1 t1, .str a2 t2, .ref mX, .ref mY, .ref D]) Q E s := by
  refine make_rel (k := k + 9) hA T fun s₁ A' hA' K₁ => ?_
  refine new_c (k := k) hA' (T.keep K₁) (P.keep K₁) (K₁.old _ _ (solid_cls rfl) hX) (K₁.old _ _ (solid_cls rfl) hY) hx hx4 hy hy4 (hD.keep K₁) fun r gX gY fX fY s' C P' nr N4 R => ?_
  obtain ⟨d, n, hr⟩ := R.obj
  exact ⟨r, d, _, _, n, rfl, hr, C.top (T.keep K₁), hQ r gX gY fX fY s' ((Ch.of K₁).trans C) P' (none_back' T K₁ nr) (fun a ha => none_back' T K₁ (N4 a ha)) R⟩
end
end Mine
end
section
open PySem PySem.W PySem.W.X PyProof.Rows PySem.Calls PySem.Spec
/-! Plain -/
namespace Mine

theorem has_maskAnd (j : Nat) : ∀ (rows : List Nat) (bits acc : Nat), has (maskAnd bits rows acc) j = (has acc j && (List.range rows.length).all fun i => !has bits i || has (rowAt rows i) j)
  | [], bits, acc => by simp [maskAnd]
  | r :: rows, bits, acc => by
    have h0 : has (if bits.testBit 0 then acc &&& r else acc) j = (has acc j && (!has bits 0 || has r j)) := by
      unfold has
      cases h : bits.testBit 0 <;> simp [Nat.testBit_and]
    have hs : ∀ i, has (bits >>> 1) i = has bits (i + 1) := fun i => by unfold has; rw [Nat.testBit_shiftRight, Nat.add_comm]
    have hr : (List.range (r :: rows).length).all (fun i => !has bits i || has (rowAt (r :: rows) i) j) = ((!has bits 0 || has r j) && (List.range rows.length).all fun i => !has (bits >>> 1) i || has (rowAt rows i) j) := by
      rw [List.length_cons, List.range_succ_eq_map, List.all_cons, List.all_map]
      congr 1
      congr 1
      funext i
      simp [hs, rowAt, Function.comp]
    rw [hr, ← Bool.and_assoc, ← h0]
    unfold maskAnd
    by_cases hz : bits >>> 1 = 0
    · rw [if_pos hz, hz]
      have : ((List.range rows.length).all fun i => !has 0 i || has (rowAt rows i) j) = true := by
        rw [List.all_eq_true]; intro i _; unfold has; simp
      rw [this, Bool.and_true]
    · rw [if_neg hz]
      exact has_maskAnd j rows _ _

theorem rowNum_succ (f : Nat → Bool) (n : Nat) : rowNum f (n + 1) = rowNum f n + if f n then 2 ^ n else 0 := by
  unfold rowNum
  rw [range_filter_succ, List.map_append, List.sum_append]
  cases f n <;> simp
theorem rowNum_lt (f : Nat → Bool) : ∀ n, rowNum f n < 2 ^ n
  | 0 => by simp [rowNum]
  | n + 1 => by
    rw [rowNum_succ, Nat.pow_succ]
    have := rowNum_lt f n
    split <;> omega
theorem has_rowNum (f : Nat → Bool) (j : Nat) : ∀ n, has (rowNum f n) j = (decide (j < n) && f j)
  | 0 => by simp [rowNum, has]
  | n + 1 => by
    rw [rowNum_succ]
    have hlt := rowNum_lt f n
    have ih := has_rowNum f j n
    unfold has at ih ⊢
    cases hf : f n with
    | false =>
      simp only [Bool.false_eq_true, if_false, Nat.add_zero]
      rw [ih]
      by_cases h : j = n
      · subst h; simp [hf]
      · have : decide (j < n) = decide (j < n + 1) := by apply decide_eq_decide.mpr; omega
        rw [this]
    | true =>
      simp only [if_true]
      rw [Nat.add_comm]
      by_cases h : j = n
      · subst h
        rw [Nat.testBit_two_pow_add_eq, Nat.testBit_lt_two_pow hlt]
        simp [hf]
      · rcases Nat.lt_or_gt_of_ne h with h' | h'
        · rw [Nat.testBit_two_pow_add_gt h', ih]
          have : decide (j < n) = decide (j < n + 1) := by apply decide_eq_decide.mpr; omega
          rw [this]
        · have e1 : Nat.testBit (2 ^ n + rowNum f n) j = false := Nat.testBit_lt_two_pow (Nat.lt_of_lt_of_le (by rw [Nat.pow_succ]; omega) (Nat.pow_le_pow_right (by decide) h'))
          rw [e1]
          have : decide (j < n + 1) = false := decide_eq_false (by omega)
          rw [this, Bool.false_and]
theorem has_ones (n j : Nat) : has (2 ^ n - 1) j = decide (j < n) := by unfold has; exact Nat.testBit_two_pow_sub_one n j

/-- the sets as the law has them -/
def sharedL (g : Nat → Nat → Bool) (K N nu : Nat) : List Nat := (List.range N).filter fun j => (idx K nu).all fun i => g i j
def closedL (g : Nat → Nat → Bool) (K N nu : Nat) : List Nat := (List.range K).filter fun i => (sharedL g K N nu).all fun j => g i j

/-- the two sides' numbers tell the grid -/
structure Grid (h o : HP) (g : Nat → Nat → Bool) (K N : Nat) : Prop where
  hk : h.ys.length = K
  ok : o.rs.length = K
  ok' : o.rows.length = K
  hn : h.rs.length = N
  hn' : h.rows.length = N
  on : o.ys.length = N
  nh : h.n = 2 ^ K - 1
  no : o.n = 2 ^ N - 1
  ro : ∀ i j, i < K → j < N → has (rowAt o.rows i) j = g i j
  rh : ∀ i j, i < K → j < N → has (rowAt h.rows j) i = g i j

theorem filter_congr' {p q : Nat → Bool} : ∀ {l : List Nat}, (∀ i ∈ l, p i = q i) → l.filter p = l.filter q := fun h => List.filter_congr h
theorem shared_is {h o : HP} {g : Nat → Nat → Bool} {K N nu : Nat} (G : Grid h o g K N) : idx N (maskAnd nu o.rows o.n) = sharedL g K N nu := by
  unfold idx sharedL
  refine List.filter_congr fun j hj => ?_
  have hj' := List.mem_range.mp hj
  rw [has_maskAnd, G.no, has_ones, decide_eq_true hj', Bool.true_and, G.ok']
  unfold idx
  rw [Bool.eq_iff_iff, List.all_eq_true, List.all_eq_true]
  constructor
  · intro h i hi
    obtain ⟨h1, h2⟩ := List.mem_filter.mp hi
    have := h i h1
    rw [h2, Bool.not_true, Bool.false_or, G.ro i j (List.mem_range.mp h1) hj'] at this
    exact this
  · intro h i hi
    cases hh : has nu i with
    | false => rfl
    | true =>
      rw [Bool.not_true, Bool.false_or, G.ro i j (List.mem_range.mp hi) hj']
      exact h i (List.mem_filter.mpr ⟨hi, hh⟩)
theorem closed_is {h o : HP} {g : Nat → Nat → Bool} {K N nu : Nat} (G : Grid h o g K N) : idx K (maskAnd (maskAnd nu o.rows o.n) h.rows h.n) = closedL g K N nu := by
  unfold closedL
  rw [← shared_is G]
  generalize maskAnd nu o.rows o.n = p
  unfold idx
  refine List.filter_congr fun i hi => ?_
  have hi' := List.mem_range.mp hi
  rw [has_maskAnd, G.nh, has_ones, decide_eq_true hi', Bool.true_and, G.hn']
  rw [Bool.eq_iff_iff, List.all_eq_true, List.all_eq_true]
  constructor
  · intro h j hj
    obtain ⟨h1, h2⟩ := List.mem_filter.mp hj
    have := h j h1
    rw [h2, Bool.not_true, Bool.false_or, G.rh i j hi' (List.mem_range.mp h1)] at this
    exact this
  · intro h j hj
    cases hh : has p j with
    | false => rfl
    | true =>
      rw [Bool.not_true, Bool.false_or, G.rh i j hi' (List.mem_range.mp hj)]
      exact h j (List.mem_filter.mpr ⟨hj, hh⟩)
theorem places_in {g : Nat → Nat → Bool} {K N nu : Nat} : (idx K nu).all (fun i => (closedL g K N nu).any (· == i)) = true := by
  rw [List.all_eq_true]
  intro i hi
  rw [List.any_eq_true]
  refine ⟨i, ?_, by simp⟩
  unfold closedL
  refine List.mem_filter.mpr ⟨(List.mem_filter.mp hi).1, ?_⟩
  rw [List.all_eq_true]
  intro j hj
  exact (List.all_eq_true.mp (List.mem_filter.mp hj).2) i hi
theorem grid_fit {h o : HP} {g : Nat → Nat → Bool} {K N : Nat} (G : Grid h o g K N) (hK : 0 < K) (hN : 0 < N) : Fit h o :=
  ⟨by rw [G.hn]; exact hN, by rw [G.ok]; exact hK, by rw [G.nh, G.ok]; have := Nat.two_pow_pos K; omega, by rw [G.no, G.hn]; have := Nat.two_pow_pos N; omega⟩
end Mine
end
section
open PySem PySem.W PySem.W.X PyProof.Rows PySem.Calls PySem.Spec PySem.SeqAt
/-! Side1 -/
namespace Mine
set_option maxRecDepth 100000

section
variable {w : World} {A : Around} {s s' s₀ : Shared} {E : Value → Shared → Prop} {env : Env} {own : List (Str × Addr)} {m cm : Str → Option Value} {k : Nat} {X : List Addr} {v : Value} {is : List Nat}
theorem Sol.refl (X : List Addr) (s : Shared) : Sol X s s := fun _ _ _ _ e => e
theorem Sol.trans {a b c : Shared} (x : Sol X a b) (y : Sol X b c) : Sol X a c := fun p o n so e => y p o n so (x p o n so e)
theorem Keep.solX (k : Keep s s') : Sol X s s' := fun b o _ so e => k.old b o so e
theorem Fm.newX (F : Fm s₀ env own m cm s) {l : Objs} (n : NewL s l) : ∀ p ∈ l, p.1 ∉ mutX env own := fun p hp => F.other (n p hp)

/-- a list whose items are told -/
def LF (F : Nat → Value → Prop) (X : List Addr) (s : Shared) (v : Value) (is : List Nat) : Prop := ∃ D ys n, v = .ref D ∧ D ∉ X ∧ s.heap.get? D = some (listObj ys n) ∧ Paired F is ys
abbrev LI := LF IntF
theorem LF.sol {F : Nat → Value → Prop} (h : LF F X s v is) (k : Sol X s s') : LF F X s' v is := let ⟨D, ys, n, e, a, b, c⟩ := h; ⟨D, ys, n, e, a, k _ _ a (solid_cls rfl) b, c⟩
theorem LF.keep {F : Nat → Value → Prop} (h : LF F X s v is) (k : Keep s s') : LF F X s' v is := h.sol k.solX
theorem LI.of (F : Fm s₀ env own m cm s) (g : Gives s (ListG IntG is) v s') : LI (mutX env own) s' v is := by
  obtain ⟨l, ⟨D, ys, n, ls, rfl, rfl, hE⟩, hH, hN, K⟩ := g
  exact ⟨D, ys, n, rfl, F.newX hN _ List.mem_cons_self, hH.head, ell_ints hE⟩
/-- a number of MemberBits -/
def MBx (X : List Addr) (s : Shared) (v : Value) (B : Addr) (n : Nat) : Prop := ∃ p d hb t kt k, v = .ref p ∧ p ∉ X ∧ d ∉ X ∧ s.heap.get? p = some (mbObj d (n : Int) t) ∧ s.heap.get? d = some (mbDict hb kt B k)
theorem MBx.sol {B : Addr} {n : Nat} (h : MBx X s v B n) (k : Sol X s s') : MBx X s' v B n := let ⟨p, d, hb, t, kt, q, e, a, b, c, f⟩ := h; ⟨p, d, hb, t, kt, q, e, a, b, k _ _ a (solid_cls rfl) c, k _ _ b (solid_cls rfl) f⟩
theorem MBx.keep {B : Addr} {n : Nat} (h : MBx X s v B n) (k : Keep s s') : MBx X s' v B n := h.sol k.solX
theorem MBx.mb {B : Addr} {n : Nat} (h : MBx X s v B n) : ∃ p, v = .ref p ∧ IsMB s p B n := let ⟨p, d, hb, t, kt, q, e, a, b, c, f⟩ := h; ⟨p, e, d, hb, t, kt, q, c, f⟩
theorem mbx_of {B : Addr} {n : Nat} {l : Objs} (F : Fm s₀ env own m cm s) (g : MBG B n v l) (H : Has l s'.heap) (N : NewL s l) : MBx (mutX env own) s' v B n := by
  obtain ⟨p, d, hb, t, kt, q, rfl, rfl⟩ := g
  exact ⟨p, d, hb, t, kt, q, rfl, F.newX N _ List.mem_cons_self, F.newX N _ (List.mem_cons_of_mem _ List.mem_cons_self), H.head, H.tail.head⟩
theorem MBx.of {B : Addr} {n : Nat} (F : Fm s₀ env own m cm s) (g : Gives s (MBG B n) v s') : MBx (mutX env own) s' v B n := let ⟨l, a, b, c, d⟩ := g; mbx_of F a b c
/-- a pair of those -/
def PRx (X : List Addr) (s : Shared) (v : Value) (B : Addr) (n : Nat) (B' : Addr) (n' : Nat) : Prop := ∃ t a b q, v = .ref t ∧ t ∉ X ∧ s.heap.get? t = some (tupObj [a, b] q) ∧ MBx X s a B n ∧ MBx X s b B' n'
theorem PRx.sol {B B' : Addr} {n n' : Nat} (h : PRx X s v B n B' n') (k : Sol X s s') : PRx X s' v B n B' n' := let ⟨t, a, b, q, e, x, y, c, d⟩ := h; ⟨t, a, b, q, e, x, k _ _ x (solid_cls rfl) y, c.sol k, d.sol k⟩
theorem PRx.of {B B' : Addr} {n n' : Nat} (F : Fm s₀ env own m cm s) (g : Gives s (PairG (MBG B n) (MBG B' n')) v s') : PRx (mutX env own) s' v B n B' n' := by
  obtain ⟨l, ⟨t, q, a, b, la, lb, rfl, rfl, ga, gb⟩, H, N, K⟩ := g
  have N' : NewL s (la ++ lb) := fun p hp => N p (List.mem_cons_of_mem _ hp)
  exact ⟨t, a, b, q, rfl, F.newX N _ List.mem_cons_self, H.head, mbx_of F ga H.tail.left (fun p hp => N' p (List.mem_append_left _ hp)), mbx_of F gb H.tail.right (fun p hp => N' p (List.mem_append_right _ hp))⟩

/-- names known -/
def Kn (m : Str → Option Value) (l : List (Str × Value)) : Prop := ∀ x v, l.lookup x = some v → m x = some v
theorem Kn.set {l : List (Str × Value)} {x : Str} (h : Kn m l) (v : Value) : Kn (fun y => if y = x then some v else m y) ((x, v) :: l) := fun y u e => by
  rw [List.lookup_cons] at e
  by_cases hy : y = x
  · subst hy
    rw [beq_self_eq_true] at e
    simpa using e
  · rw [beq_eq_false_iff_ne.mpr hy] at e
    simp only [hy, if_false]
    exact h y u e
/-- a frame, by what is known of it -/
structure Fk (s₀ : Shared) (env : Env) (own : List (Str × Addr)) (l lc : List (Str × Value)) (s : Shared) : Prop where
  ex : ∃ m cm, Fm s₀ env own m cm s ∧ Kn m l ∧ Kn cm lc
variable {l lc : List (Str × Value)}
theorem Fk.keep (F : Fk s₀ env own l lc s) : Keep s₀ s := let ⟨_, _, a, _⟩ := F.ex; a.keep
theorem Fk.top (F : Fk s₀ env own l lc s) (T : TopS w s₀) : TopS w s := T.keep F.keep
theorem Fk.step (F : Fk s₀ env own l lc s) (K : Keep s s') : Fk s₀ env own l lc s' := let ⟨_, _, a, b, c⟩ := F.ex; ⟨_, _, a.step K, b, c⟩
theorem Fk.less {l' lc' : List (Str × Value)} (F : Fk s₀ env own l lc s) (h : ∀ x v, l'.lookup x = some v → l.lookup x = some v) (h' : ∀ x v, lc'.lookup x = some v → lc.lookup x = some v) : Fk s₀ env own l' lc' s :=
  let ⟨_, _, a, b, c⟩ := F.ex; ⟨_, _, a, fun x v e => b x v (h x v e), fun x v e => c x v (h' x v e)⟩
theorem Fk.name {x : Str} {pos : Pos} {Q : Value → Shared → Prop} (F : Fk s₀ env own l lc s) (h : Q v s) (hv : l.lookup x = some v := by rfl) (hf : env.scope.kind = .function := by rfl) (hx : env.kindOf x = some .local := by rfl) (hd : (x == ("__debug__" : Str)) = false := by decide +kernel) :
    wpAny (model pw w) A (eval (.Name x pos) env) Q E s := let ⟨_, _, a, b, c⟩ := F.ex; a.name hf ⟨hx, hd⟩ (b _ _ hv) h
theorem Fk.cell {x : Str} {c : Addr} (F : Fk s₀ env own l lc s) (hl : own.lookup x = some c) (hv : lc.lookup x = some v) : s.heap.IsCell c (some v) := let ⟨_, _, a, _, d⟩ := F.ex; a.c x hl (d _ _ hv)
theorem Fk.cname {x : Str} {c : Addr} {pos : Pos} {Q : Value → Shared → Prop} (F : Fk s₀ env own l lc s) (h : Q v s) (hl : own.lookup x = some c := by rfl) (he : env.cells.lookup x = some c := by rfl) (hv : lc.lookup x = some v := by rfl) (hf : env.scope.kind = .function := by rfl) (hx : env.kindOf x = some .cell := by rfl) (hd : (x == ("__debug__" : Str)) = false := by decide +kernel) :
    wpAny (model pw w) A (eval (.Name x pos) env) Q E s := nm_cell he (F.cell hl hv) h hf hx hd
theorem Fk.store {x : Str} {Q : Unit → Shared → Prop} (T : TopS w s₀) (F : Fk s₀ env own l lc s) (h : ∀ s', Fk s₀ env own ((x, v) :: l) lc s' → Sol (mutX env own) s s' → Q () s') (hf : env.scope.kind = .function := by rfl) (hx : env.kindOf x = some .local := by rfl) (hd : (x == ("__debug__" : Str)) = false := by decide +kernel) :
    wpAny (model pw w) A (storeName env x v) Q E s := by
  obtain ⟨m, cm, a, b, c⟩ := F.ex
  exact a.store T hf ⟨hx, hd⟩ fun s' F' _ hk => h s' ⟨_, _, F', b.set v, c⟩ fun p o hp _ e => hk p o (fun h => hp (h ▸ List.mem_cons_self)) e
theorem Fm.storeC {x : Str} {c : Addr} {Q : Unit → Shared → Prop} (T : TopS w s₀) (F : Fm s₀ env own m cm s) (hf : env.scope.kind = .function) (hx : env.kindOf x = some .cell) (hc : own.lookup x = some c) (he : env.cells.lookup x = some c)
    (h : ∀ s', Fm s₀ env own m (fun y => if y = x then some v else cm y) s' → Heap.SameBut c s.heap s'.heap → Q () s') : wpAny (model pw w) A (storeName env x v) Q E s := by
  have hm := mem_mut (env := env) (mem_of_lookup hc)
  have new := F.new _ hm
  refine wpAny_storeName_cell hf hx he (F.cell x c hc) fun h' hcell hs => h _ ⟨?_, F.ns.sameBut hs (Ne.symm (F.ne _ (mem_of_lookup hc))), fun n c' hc' => ?_, F.apart, F.new, F.ne, F.nd⟩ hs
  · exact Keep.upd (X := [c]) (tk := s.toks) T F.keep (fun a ha => by rw [List.mem_singleton.mp ha]; exact new.1) (fun a ha => by rw [List.mem_singleton.mp ha]; exact new.2) (fun b o hb e => hs.extBut b o (fun h => hb (h ▸ List.mem_cons_self)) e)
  · by_cases hn : n = x
    · subst hn
      rw [hc] at hc'; cases hc'
      simpa using hcell
    · simp only [hn, if_false]
      exact (F.cell n c' hc').sameBut hs fun e => hn (name_of_addr F.apart (mem_of_lookup hc') (e ▸ mem_of_lookup hc))
theorem Fk.storeC {x : Str} {c : Addr} {Q : Unit → Shared → Prop} (T : TopS w s₀) (F : Fk s₀ env own l lc s) (h : ∀ s', Fk s₀ env own l ((x, v) :: lc) s' → Sol (mutX env own) s s' → Q () s') (hc : own.lookup x = some c := by rfl) (he : env.cells.lookup x = some c := by rfl)
    (hf : env.scope.kind = .function := by rfl) (hx : env.kindOf x = some .cell := by rfl) : wpAny (model pw w) A (storeName env x v) Q E s := by
  obtain ⟨m, cm, a, b, d⟩ := F.ex
  exact a.storeC T hf hx hc he fun s' F' hs => h s' ⟨_, _, F', b, d.set v⟩ fun p o hp _ e => hs.extBut p o (fun h => hp (h ▸ mem_mut (mem_of_lookup hc))) e

/-- what a call gives, seen from the frame -/
theorem Fk.li (F : Fk s₀ env own l lc s) (g : Gives s (ListG IntG is) v s') : LI (mutX env own) s' v is := let ⟨_, _, a, _⟩ := F.ex; LI.of a g
theorem Fk.mb {B : Addr} {n : Nat} (F : Fk s₀ env own l lc s) (g : Gives s (MBG B n) v s') : MBx (mutX env own) s' v B n := let ⟨_, _, a, _⟩ := F.ex; MBx.of a g
theorem Fk.pr {B B' : Addr} {n n' : Nat} (F : Fk s₀ env own l lc s) (g : Gives s (PairG (MBG B n) (MBG B' n')) v s') : PRx (mutX env own) s' v B n B' n' := let ⟨_, _, a, _⟩ := F.ex; PRx.of a g

/-- two names stored, in the order that the compiler gives -/
theorem store2 {elts : List Expr} {q : Nat} {tpos pos : Pos} {value : Expr} {x y : Str} {Q : Flow → Shared → Prop} (hA : AOk k A)
    (h : wpAny (model pw w) A (eval value env) (fun v s₁ => ∃ t a b n, v = .ref t ∧ s₁.heap.get? t = some (tupObj [a, b] n) ∧
      ∀ s₂, Keep s₁ s₂ → wpAny (model pw w) A (storeName env y b) (fun _ s₃ => wpAny (model pw w) A (storeName env x a) (fun _ => Q .next) E s₃) E s₂) E s)
    (hs : swapsWithSole [.Tuple elts q tpos] value pos.line env = pure false) (hw : swappedStores [.Tuple elts q tpos] value env = pure (some [x, y])) :
    wpAny (model pw w) A (exec (.Assign [.Tuple elts q tpos] value pos) env) Q E s := by
  refine Assign_Tuple_swapped (wpAny_mono h (fun v s₁ h₁ => ?_) fun _ _ z => z) hs hw
  obtain ⟨t, a, b, n, rfl, ht, h₂⟩ := h₁
  refine unpackItems_tuple (items := #[a, b]) hA.handled ⟨_, ht, rfl, n, rfl⟩ fun h' he => ?_
  have K : Keep s₁ { s₁ with heap := h' } := .heapTok (tk := s₁.toks) fun p o e => he p o (fun h => by rw [h, push_new] at e; cases e) e
  show wpAny _ _ (assignInOrder [fun v => bindName env y v, fun v => bindName env x v] [b, a]) _ _ _
  unfold assignInOrder
  refine wpAny_bind (wpAny_holding (bindName_ (wpAny_mono (h₂ _ K) (fun _ s₃ h₃ => ?_) fun _ _ z => z)))
  unfold assignInOrder
  refine wpAny_bind (wpAny_holding (bindName_ (wpAny_mono h₃ (fun _ s₄ h₄ => ?_) fun _ _ z => z)))
  unfold assignInOrder
  exact wpAny_pure h₄
end
end Mine
end
section
open PySem PySem.W PySem.W.X PyProof.Rows PySem.Calls PySem.Spec PySem.SeqAt
/-! Side2 -/
namespace Mine
set_option maxRecDepth 100000

theorem paired_at {α β : Type} {F : α → β → Prop} {l : List α} {l' : List β} (h : Paired F l l') {j : Nat} {y : β} (e : l'[j]? = some y) : ∃ x, l[j]? = some x ∧ F x y := by
  have hj : j < l.length := by rw [h.length]; exact (List.getElem?_eq_some_iff.mp e).1
  obtain ⟨x, z, hx, hz, f⟩ := paired_get h j hj
  rw [e] at hz; cases hz
  exact ⟨x, hx, f⟩
theorem paired_re {F : Nat → Value → Prop} {is : List Nat} {zs : List Value} (h : Paired (fun q y => ∃ j, is[q]? = some j ∧ F j y) (List.range is.length) zs) : Paired F is zs := by
  refine paired_of (by have := h.length; rw [List.length_range] at this; exact this.symm) fun j y hy => ?_
  obtain ⟨q, hq, i, hi, f⟩ := paired_at h hy
  obtain ⟨h1, h2⟩ := List.getElem?_eq_some_iff.mp hq
  rw [List.getElem_range] at h2
  subst h2
  exact ⟨i, hi, f⟩
theorem paired_fn {F : Nat → Value → Prop} (hF : ∀ i a b, F i a → F i b → a = b) : ∀ {is : List Nat} {as bs : List Value}, Paired F is as → Paired F is bs → as = bs
  | _, _, _, .nil, .nil => rfl
  | _, _, _, .cons a t, .cons b u => by rw [hF _ _ _ a b, paired_fn hF t u]

section
variable {w : World} {A : Around} {s s' s₀ : Shared} {E : Value → Shared → Prop} {env : Env} {own : List (Str × Addr)} {l lc : List (Str × Value)} {k : Nat} {v : Value} {is : List Nat}

def SrcX (w : World) (A : Around) (s : Shared) (n : Nat) (it : Value) (s₂ : Shared) : Prop := ∃ I St, it = .ref I ∧ Wkr w A I [I] [I] n IntP St ∧ St 0 s₂.heap ∧ s.heap.get? I = none ∧ Keep s s₂
theorem srcx_range {n : Nat} {t : Tok} (hA : AOk k A) (T : TopS w s) (hn : n ≤ 1000) :
    wpAny (model pw w) A (call (.type "range") [.int (n : Int) t]) (fun xv s₁ => wpAny (model pw w) A (pyIter xv) (SrcX w A s n) (fun _ _ => False) s₁) (fun _ _ => False) s := by
  refine wk hA (call_range T.kin fun r t u v s₂ _ k₂ n₂ => ?_)
  have hsz : Builtin.Range.rangeSize 0 n 1 = (n : Int) := by rw [rangeSize_one]; split <;> omega
  refine wpAny_pyIter_range n₂.2 (small_one (by omega) (by omega) (by omega) (by omega)) ?_
  have W : Wkr w A s₂.heap.objs.size [s₂.heap.objs.size] [s₂.heap.objs.size] n IntP fun i h => IsRangeIter h s₂.heap.objs.size (0 + (i : Nat) * 1) ((n : Int) - (i : Nat)) 1 := by
    have W := Wkr.of (Walks.range (prog := pw) (w := w) hA.handled s₂.heap.objs.size 0 1 n) (fun i h b st hb => by
      simp at hb; subst hb; rw [st]; rfl)
    simpa [IntP] using W
  refine ⟨s₂.heap.objs.size, _, rfl, W, ?_, none_back' T k₂ push_new, k₂.trans (push_keep (tk := s₂.toks))⟩
  have e := Heap.get?_push_size s₂.heap (o := { cls := .type "range_iterator", data := .fields #[rawInt 0, rawInt (Builtin.Range.rangeSize 0 n 1), rawInt 1] }) rfl
  rw [hsz] at e ⊢
  simpa using e
/-- for x in range(..) -/
theorem for_range {x : Str} {px pos : Pos} {iter : Expr} {body : List Stmt} {n : Nat} {Q : Flow → Shared → Prop} (T : TopS w s₀) (F : Fk s₀ env own l lc s)
    (hsrc : wpAny (model pw w) A (eval iter env) (fun xv s₁ => wpAny (model pw w) A (pyIter xv) (SrcX w A s n) (fun _ _ => False) s₁) (fun _ _ => False) s)
    (hbody : ∀ i t s₁, i < n → Fk s₀ env own l lc s₁ → wpAny (model pw w) A (storeName env x (.int ((i : Nat) : Int) t)) (fun _ s₂ => wpAny (model pw w) A (execs body env)
      (fun f s₃ => f = .next ∧ Fk s₀ env own l lc s₃ ∧ Sol (mutX env own) s₁ s₃) (fun _ _ => False) s₂) (fun _ _ => False) s₁)
    (hQ : ∀ s', Fk s₀ env own l lc s' → Q .next s')
    (hs : ∀ x, foldedSetIterable iter env x = pure x := by intro _; rfl) : wpAny (model pw w) A (exec (.For (.Name x px) iter body [] pos) env) Q E s := by
  refine wpAny_For (wpAny_mono hsrc (fun xv s₁ h₁ => wpAny_mono h₁ (fun it s₂ h₂ => ?_) fun _ _ z => z.elim) fun _ _ z => z.elim) hs
  obtain ⟨I, St, rfl, W, hst, hI, K₂⟩ := h₂
  have hIm : I ∉ mutX env own := by obtain ⟨_, _, a, _⟩ := F.ex; exact a.other hI
  have hIo : tabAddrs.contains I = false := off_of_none (F.top T) hI
  have hI0 : s₀.heap.get? I = none := none_back' T F.keep hI
  refine codeAny_forLoop (R := fun r s' => match r with | .ok f => Q f s' | .error e => cameBackBy (model pw w) A env E e s') (fun q s' => ∃ i, i ≤ n ∧ Fk s₀ env own l lc s' ∧ St i s'.heap ∧ q = n - i) ?_ n
    ⟨0, Nat.zero_le _, F.step K₂, hst, rfl⟩
  rintro q s₃ ⟨i, hi, F₃, hst₃, rfl⟩
  have moved : ∀ {h' : Heap} {tk : Nat}, (∀ b o, b ∉ [I] → s₃.heap.get? b = some o → h'.get? b = some o) → Fk s₀ env own l lc { s₃ with heap := h', toks := tk } := fun {h' tk} hk => by
    obtain ⟨m, cm, a, b, c⟩ := F₃.ex
    refine ⟨m, cm, a.sin (X := [I]) (Keep.upd T a.keep (fun z hz => by rw [List.mem_singleton.mp hz]; exact hI0) (fun z hz => by rw [List.mem_singleton.mp hz]; exact hIo) hk) (fun z hz => by rw [List.mem_singleton.mp hz]; exact hIm) hk, b, c⟩
  by_cases hlt : i < n
  · refine W.item i _ _ _ hlt hst₃ fun v lv h₄ tk₄ hP _ _ hst₄ hk₄ => ?_
    obtain ⟨⟨t, rfl⟩, rfl⟩ := hP
    have F₄ := moved (tk := tk₄) hk₄
    refine wpAny_assign_Name (wpAny_mono (hbody i t _ hlt F₄) (fun _ s₅ h₅ => wpAny_mono h₅ (fun f s₆ h₆ => ?_) fun _ _ z => z.elim) fun _ _ z => z.elim)
    obtain ⟨rfl, F₆, S₆⟩ := h₆
    exact ⟨n - (i + 1), by omega, i + 1, hlt, F₆, W.frame _ _ _ hst₄ (fun b hb o e => S₆ b o (by rw [List.mem_singleton.mp hb]; exact hIm) (by rw [List.mem_singleton.mp hb]; exact solid_off hIo) e), rfl⟩
  · obtain rfl : i = n := by omega
    refine W.done _ _ _ hst₃ fun h₄ tk₄ hk₄ => ?_
    exact wpAny_execs_nil (hQ _ (moved hk₄))

theorem all_flat {f : Nat → Bool} {D : Addr} {ys : List Value} {n : Nat} {Q : Value → Shared → Prop} (hA : AOk k A) (T : TopS w s) (hD : s.heap.get? D = some (listObj ys n)) (hp : Paired (BoolT f) is ys)
    (hQ : ∀ s', Keep s s' → Q (.bool (is.all f)) s') : wpAny (model pw w) A (call (.builtin "all") [.ref D]) Q E s := by
  have hL : s.heap.IsList D ys.toArray := ⟨_, hD, rfl, _, rfl⟩
  have hne : D ≠ s.heap.objs.size := Nat.ne_of_lt (Heap.lt_size hD)
  refine call_all_walk (wpAny_pyIter_list hL ?_)
  have W := Walks.list (prog := pw) (w := w) (A := A.in1) hA.handled s.heap.objs.size D hne ys.toArray
  refine ⟨_, _, _, _, _, _, fun i => f (is.getD i 0), rfl, W, ⟨⟨_, Heap.get?_push_size _ rfl, rfl, rfl⟩, ⟨_, Heap.get?_push_of_some _ hD, rfl, _, rfl⟩⟩, fun i v s Q E hP hq => ?_, fun h' tk hk => ?_⟩
  · have hP' : ys[i]? = some v := by simpa using hP
    obtain ⟨x, hx, rfl⟩ := paired_at hp hP'
    refine wpAny_truthy_bool ?_
    have : is.getD i 0 = x := by simp [List.getD, hx]
    have hq' : Q (f (is.getD i 0)) s := hq
    rw [this] at hq'
    exact hq'
  · have e : (List.range ys.toArray.size).all (fun i => f (is.getD i 0)) = is.all f := by
      have hz : ys.toArray.size = is.length := by rw [List.size_toArray]; exact hp.length.symm
      rw [hz, Bool.eq_iff_iff, List.all_eq_true, List.all_eq_true]
      constructor
      · intro h x hx
        obtain ⟨i, hi, e⟩ := List.mem_iff_getElem.mp hx
        have := h i (List.mem_range.mpr hi)
        simpa [List.getD, hi, e] using this
      · intro h i hi
        have hi := List.mem_range.mp hi
        have := h _ (List.getElem_mem hi)
        simpa [List.getD, hi] using this
    rw [e]
    refine hQ _ ?_
    have k₁ : Keep s { s with heap := s.heap.push { cls := .type "list_iterator", data := .fields #[.ref D, .int 0 0] } } := push_keep (tk := s.toks)
    exact Keep.upd T k₁ (X := [s.heap.objs.size]) (fun z hz => by rw [List.mem_singleton.mp hz]; exact push_new) (fun z hz => by rw [List.mem_singleton.mp hz]; exact off_of_none T push_new) hk

theorem ne_ints {a b : Addr} {ys zs : List Value} {n n' : Nat} {Q : Value → Shared → Prop} (hA : AOk k A) (ha : s.heap.get? a = some (listObj ys n)) (hb : s.heap.get? b = some (listObj zs n')) (hp : Paired IntF is ys) (hq : Paired IntF is zs) (h : Q (.bool false) s) :
    wpAny (model pw w) A (compareOp .NotEq (.ref a) (.ref b)) Q E s := by
  have hu := hA.cline
  refine EqBoolInt.of_rcne (RcNeAt.lists (e := fun _ => true) (items := ys.toArray) (items2 := zs.toArray) ⟨_, ha, rfl, _, rfl⟩ ⟨_, hb, rfl, _, rfl⟩ ?_ (by omega) fun j h1 h2 => ?_) ?_
  · rw [List.size_toArray, List.size_toArray, ← hp.length, ← hq.length]
  · simp only [List.size_toArray] at h1 h2
    obtain ⟨x, hx, t, e1⟩ := paired_at hp (j := j) (y := ys[j]) (by simp [h1])
    obtain ⟨x', hx', t', e2⟩ := paired_at hq (j := j) (y := zs[j]) (by simp [h2])
    rw [hx] at hx'; cases hx'
    have e : EqAt A.in1 s (.int (x : Int) t) (.int (x : Int) t') (((x : Nat) : Int) == ((x : Nat) : Int)) := EqAt.int_int _ _ _ _
    rw [beq_self_eq_true] at e
    simpa [e1, e2] using e
  · rw [show (List.range ys.toArray.size).all (fun _ => true) = true by simp]
    exact h
theorem ne_tups {a b : Addr} {ys zs : List Value} {n n' : Nat} {Q : Value → Shared → Prop} (hA : AOk k A) (ha : s.heap.get? a = some (tupObj ys n)) (hb : s.heap.get? b = some (tupObj zs n')) (e : ys = zs) (h : Q (.bool false) s) :
    wpAny (model pw w) A (compareOp .NotEq (.ref a) (.ref b)) Q E s := by
  subst e
  have hu := hA.cline
  refine EqBoolInt.of_rcne (RcNeAt.tuples (e := fun _ => true) (items := ys.toArray) (items2 := ys.toArray) ⟨_, ha, rfl, _, rfl⟩ ⟨_, hb, rfl, _, rfl⟩ (by omega) fun j h1 h2 => EqAt.same _) ?_
  rw [show (!((List.range (min ys.toArray.size ys.toArray.size)).all (fun _ => true) && ys.toArray.size == ys.toArray.size)) = false by simp]
  exact h

/-- a new list, flat -/
def FlatL (s : Shared) (F : Nat → Value → Prop) (is : List Nat) (v : Value) (s' : Shared) : Prop := ∃ D zs n, v = .ref D ∧ s.heap.get? D = none ∧ s'.heap.get? D = some (listObj zs n) ∧ Paired F is zs ∧ Keep s s'
/-- [elt for x in a list of ints] -/
theorem compI {elt iter : Expr} {x : Str} {px : Pos} {scope : Scope} {cl : List (Str × Addr)} {pos : Pos} {D : Addr} {ys : List Value} {n : Nat} {Q : Value → Shared → Prop} (F : Nat → Value → Prop) (hA : AOk k A) (T : TopS w s)
    (hD : s.heap.get? D = some (listObj ys n)) (hp : Paired IntF is ys) (hl : is.length ≤ 100)
    (hclos : closureFor scope env = pure cl) (hcell : ∀ y ∈ scope.names, y.2 ≠ .cell) (hkind : scope.kind = .function)
    (hnames : ∀ y ∈ scope.names, y.2 = .local → scope.names.lookup y.1 = some .local) (hx : scope.names.lookup x = some .local)
    (hsrc : wpAny (model pw w) A (eval iter env) (fun v s' => v = .ref D ∧ s' = s) (fun _ _ => False) s)
    (helt : ∀ C i t s₃ m₃, i ∈ is → tabAddrs.contains C = false → s₃.heap.Ns C m₃ → m₃ x = some (.int ((i : Nat) : Int) t) → Keep s s₃ → wpAny (model pw w) A (eval elt (compEnvC scope cl C env)) (fun y s₄ => F i y ∧ Keep s₃ s₄) (fun _ _ => False) s₃)
    (hQ : ∀ v s', FlatL s F is v s' → Q v s')
    (hs : ∀ x, foldedSetIterable iter env x = pure x := by intro _; rfl) :
    wpAny (model pw w) A (eval (.ListComp elt [⟨.Name x px, iter, [], 0⟩] scope pos) env) Q E s := by
  have hz := hp.length
  refine comp (sb := s) T ys.length (fun i v l => ys[i]? = some v ∧ l = []) (fun _ => true) (fun q y l => (∃ j, is[q]? = some j ∧ F j y) ∧ l = []) hclos hcell hkind hnames hx (wpAny_mono hsrc (fun v s' h => ?_) fun _ _ z => z) ?_ (fun v s' g => ?_) hs
  · obtain ⟨rfl, rfl⟩ := h
    exact src_list hA T hD (by omega)
  · intro C i v lv s₃ m₃ hi hP hl₃ hC hn₃ hm₃ k₃
    obtain ⟨hy, rfl⟩ := hP
    obtain ⟨j, hj, t, rfl⟩ := paired_at hp hy
    refine wpAny_tests_nil ⟨rfl, Keep.refl _, fun _ => ?_⟩
    exact wpAny_mono (helt C j t s₃ m₃ (List.mem_of_getElem? hj) hC hn₃ hm₃ k₃) (fun y s₄ h => gives_plain ⟨⟨j, hj, h.1⟩, rfl⟩ h.2) fun _ _ z => z
  · rw [all_range] at g
    obtain ⟨lv, ⟨D', zs, n', ls, rfl, rfl, hE⟩, hH, hN, K⟩ := g
    refine hQ _ _ ⟨D', zs, n', rfl, hN _ List.mem_cons_self, hH.head, paired_re (ell_flat (G := fun q y l => (∃ j, is[q]? = some j ∧ F j y) ∧ l = []) (fun i y l h => h.1) (by rw [hz]; exact hE)), K⟩

/-- the grid -/
def GridAt (s : Shared) (a : Addr) (g : Nat → Nat → Bool) (K N : Nat) : Prop := ∃ vs n, s.heap.get? a = some (listObj vs n) ∧ Paired (fun i v => ∃ t bs m, v = .ref t ∧ s.heap.get? t = some (listObj bs m) ∧ Paired (BoolT (g i)) (List.range N) bs) (List.range K) vs
theorem GridAt.keep {a : Addr} {g : Nat → Nat → Bool} {K N : Nat} (h : GridAt s a g K N) (k : Keep s s') : GridAt s' a g K N :=
  let ⟨vs, m, e, p⟩ := h; ⟨vs, m, k.old _ _ (solid_cls rfl) e, pimp (fun i v ⟨t, bs, m', e1, e2, e3⟩ => ⟨t, bs, m', e1, k.old _ _ (solid_cls rfl) e2, e3⟩) p⟩
theorem range_at {n j x : Nat} (h : (List.range n)[j]? = some x) : x = j := by
  obtain ⟨h1, h2⟩ := List.getElem?_eq_some_iff.mp h
  rw [List.getElem_range] at h2; exact h2.symm
theorem grid_row {a : Addr} {g : Nat → Nat → Bool} {K N i : Nat} (h : GridAt s a g K N) (hi : i < K) : ∃ vs n t bs m, s.heap.get? a = some (listObj vs n) ∧ vs.length = K ∧ vs[i]? = some (.ref t) ∧ s.heap.get? t = some (listObj bs m) ∧ Paired (BoolT (g i)) (List.range N) bs := by
  obtain ⟨vs, n, e, p⟩ := h
  obtain ⟨x, y, hx, hy, t, bs, m, rfl, e2, e3⟩ := paired_get p i (by rw [List.length_range]; exact hi)
  obtain rfl := range_at hx
  exact ⟨vs, n, t, bs, m, e, by have := p.length; rw [List.length_range] at this; exact this.symm, hy, e2, e3⟩
theorem row_item {f : Nat → Bool} {N j : Nat} {bs : List Value} (p : Paired (BoolT f) (List.range N) bs) (hj : j < N) : bs[j]? = some (.bool (f j)) ∧ bs.length = N := by
  obtain ⟨x, y, hx, hy, rfl⟩ := paired_get p j (by rw [List.length_range]; exact hj)
  obtain rfl := range_at hx
  exact ⟨hy, by have := p.length; rw [List.length_range] at this; exact this.symm⟩
/-- v[i], whatever v's expression is -/
theorem subR_list {value slice : Expr} {a : Addr} {ys : List Value} {n i : Nat} {t : Tok} {x : Value} {Q : Value → Shared → Prop} (h : s.heap.get? a = some (listObj ys n)) (hl : ys.length ≤ 1000) (hx : ys[i]? = some x) (hQ : Q x s)
    (hs : subscripted slice false (.ref a) (.int (i : Int) t) = operate [.ref a, .int (i : Int) t] (getItem (.ref a) (.int (i : Int) t)) := by with_unfolding_all rfl) :
    wpAny (model pw w) A (subscriptTail value slice (.ref a) (.int (i : Int) t)) Q E s := by
  have hlt := (List.getElem?_eq_some_iff.mp hx).1
  exact subscriptTail_builtinR (x := x) ⟨_, h, rfl⟩ slot_list_getitem.lookup (getItem_listL ⟨_, h, rfl, _, rfl⟩ (by omega) (by omega) (by simpa using hx) ⟨rfl, hQ⟩) hs
/-- g[i][j] -/
theorem grid_item {e1 e2 e3 : Expr} {p1 p2 : Pos} {a : Addr} {g : Nat → Nat → Bool} {K N i j : Nat} {t1 t2 : Tok} {Q : Value → Shared → Prop} (hG : GridAt s a g K N) (hi : i < K) (hj : j < N) (hK : K ≤ 10) (hN : N ≤ 10)
    (h1 : wpAny (model pw w) A (eval e1 env) (fun v s' => v = .ref a ∧ s' = s) (fun _ _ => False) s) (h2 : wpAny (model pw w) A (eval e2 env) (fun v s' => v = .int ((i : Nat) : Int) t1 ∧ s' = s) (fun _ _ => False) s)
    (h3 : wpAny (model pw w) A (eval e3 env) (fun v s' => v = .int ((j : Nat) : Int) t2 ∧ s' = s) (fun _ _ => False) s) (hQ : Q (.bool (g i j)) s)
    (hs1 : subscripted e2 false (.ref a) (.int (i : Int) t1) = operate [.ref a, .int (i : Int) t1] (getItem (.ref a) (.int (i : Int) t1)))
    (hs2 : ∀ t, subscripted e3 false (.ref t) (.int (j : Int) t2) = operate [.ref t, .int (j : Int) t2] (getItem (.ref t) (.int (j : Int) t2))) :
    wpAny (model pw w) A (eval (.Subscript (.Subscript e1 e2 p1) e3 p2) env) Q E s := by
  obtain ⟨vs, n, t, bs, m, ha, hl, hv, ht, hb⟩ := grid_row hG hi
  obtain ⟨hx, hl'⟩ := row_item hb hj
  refine Subscript_ (Subscript_ (wpAny_mono h1 (fun v s' h => ?_) fun _ _ z => z.elim))
  obtain ⟨rfl, rfl⟩ := h
  refine wpAny_mono h2 (fun v s' h => ?_) fun _ _ z => z.elim
  obtain ⟨rfl, rfl⟩ := h
  refine subR_list ha (by omega) hv ?_ hs1
  refine wpAny_mono h3 (fun v s' h => ?_) fun _ _ z => z.elim
  obtain ⟨rfl, rfl⟩ := h
  exact subR_list ht (by omega) hx hQ (hs2 t)

/-- o.iter_set() -/
theorem ev_iter {o : Expr} {apos pos : Pos} {pl : Sem Bool} {Q : Value → Shared → Prop} (hA : AOk (k + 1) A)
    (h : wpAny (model pw w) A (eval o env) (fun v s₁ => TopS w s₁ ∧ ∃ p B nu dB lB mL ys, v = .ref p ∧ IsMB s₁ p B nu ∧ IsBS s₁ B dB lB mL ys ∧ ys.length ≤ 60 ∧ ∀ r s', Gives s₁ (ListG IntG (idx ys.length nu)) r s' → Q r s') E s)
    (he : eval (.Call (.Attribute o (Str.ofString "iter_set") apos) [] [] pos) env = (do
      let ov ← eval o env
      standAt apos.atName
      let (f, first) ← holding [ov] (getMethod ov (Str.ofString "iter_set") pl)
      callWith pos f first (backTo pos (starEach [] env)) (backToKw pos (keywordEach [] env))) := by rfl) :
    wpAny (model pw w) A (eval (.Call (.Attribute o (Str.ofString "iter_set") apos) [] [] pos) env) Q E s := by
  refine meth_0 (wpAny_mono h (fun v s₁ h₁ => ?_) fun _ _ z => z) he
  obtain ⟨T, p, B, nu, dB, lB, mL, ys, rfl, hp, hB, hl, hQ⟩ := h₁
  obtain ⟨d, hb, t, kt, n, hp1, hp2⟩ := id hp
  exact method_mb (f := 47) T hp1 hp2 (by kernel_rfl) (by kernel_rfl) (by decide +kernel) ⟨kp_top T (by kernel_rfl) (.inl rfl), iter_set_c hA T hp hB hl hQ⟩
/-- o.members() -/
theorem ev_members {o : Expr} {apos pos : Pos} {pl : Sem Bool} {Q : Value → Shared → Prop} (hA : AOk (k + 3) A)
    (h : wpAny (model pw w) A (eval o env) (fun v s₁ => TopS w s₁ ∧ ∃ p B nu dB lB mL ys, v = .ref p ∧ IsMB s₁ p B nu ∧ IsBS s₁ B dB lB mL ys ∧ ys.length ≤ 60 ∧ ∀ r s', Gives s₁ (TupG (fun i y => ys[i]? = some y) (idx ys.length nu)) r s' → Q r s') E s)
    (he : eval (.Call (.Attribute o (Str.ofString "members") apos) [] [] pos) env = (do
      let ov ← eval o env
      standAt apos.atName
      let (f, first) ← holding [ov] (getMethod ov (Str.ofString "members") pl)
      callWith pos f first (backTo pos (starEach [] env)) (backToKw pos (keywordEach [] env))) := by rfl) :
    wpAny (model pw w) A (eval (.Call (.Attribute o (Str.ofString "members") apos) [] [] pos) env) Q E s := by
  refine meth_0 (wpAny_mono h (fun v s₁ h₁ => ?_) fun _ _ z => z) he
  obtain ⟨T, p, B, nu, dB, lB, mL, ys, rfl, hp, hB, hl, hQ⟩ := h₁
  obtain ⟨d, hb, t, kt, n, hp1, hp2⟩ := id hp
  exact method_mb (f := 35) T hp1 hp2 (by kernel_rfl) (by kernel_rfl) (by decide +kernel) ⟨kp_top T (by kernel_rfl) (.inl rfl), members_c hA T hp hB hl hQ⟩
end
end Mine
end
section
open PySem PySem.W PySem.W.X PyProof.Rows PySem.Calls PySem.Spec PySem.SeqAt
/-! Side3 -/
namespace Mine
set_option maxRecDepth 100000
set_option maxHeartbeats 0

/-- a def of the top, by its place in the written heap -/
noncomputable def fnAt (P : Params) (j : Nat) : FuncData := match ((hd.heap_39 P).drop j).head? with
  | some (_, ⟨_, _, .func fd, _⟩) => fd
  | _ => closFd default default ⟨[], [], none, [], [], none, []⟩ [] { kind := .function, names := [], isGenerator := false, isCoroutine := false } [] .none .none .none
noncomputable def stAt (P : Params) (a : Nat) (j : Nat) : Stmt := match (fnAt P a).body with
  | .stmts b => b.getD j (.Pass default)
  | _ => .Pass default
def bodyOf : Stmt → List Stmt
  | .For _ _ b _ _ => b
  | _ => []
noncomputable abbrev sE (P : Params) (L : Addr) : Env := callEnvC (fnAt P 216) L 256
noncomputable abbrev sO (P : Params) (L : Addr) : List (Str × Addr) := (callEnvC (fnAt P 216) L 256).cells
/-- a statement of the loop -/
noncomputable def lst (P : Params) (j : Nat) : Stmt := (bodyOf (stAt P 216 1)).getD j (.Pass default)

/-- what _law_side is called with -/
structure SideIn (w : World) (s : Shared) (h o : HP) (f : FP) (r : Addr) (ix : Int) (g : Nat → Nat → Bool) (K N : Nat) (GA MA TA : Addr) : Prop where
  H : Half s h
  O : Half s o
  P : Paird w s h o f r ix
  G : Grid h o g K N
  gr : GridAt s GA g K N
  mi : ∃ n, s.heap.get? MA = some (listObj h.ys n)
  th : ∃ n, s.heap.get? TA = some (listObj o.ys n)
  k0 : 0 < K
  n0 : 0 < N
  k4 : K ≤ 4
  n4 : N ≤ 4
theorem SideIn.keep {w : World} {s s' : Shared} {h o : HP} {f : FP} {r : Addr} {ix : Int} {g : Nat → Nat → Bool} {K N : Nat} {GA MA TA : Addr} (x : SideIn w s h o f r ix g K N GA MA TA) (k : Keep s s') : SideIn w s' h o f r ix g K N GA MA TA :=
  ⟨x.H.keep k, x.O.keep k, x.P.keep k, x.G, x.gr.keep k, let ⟨n, e⟩ := x.mi; ⟨n, k.old _ _ (solid_cls rfl) e⟩, let ⟨n, e⟩ := x.th; ⟨n, k.old _ _ (solid_cls rfl) e⟩, x.k0, x.n0, x.k4, x.n4⟩

section
variable {w : World} {A : Around} {s s' s₀ : Shared} {E : Value → Shared → Prop} {k : Nat} {L V GA MA TA r : Addr} {h o : HP} {f : FP} {ix : Int} {g : Nat → Nat → Bool} {K N nu : Nat} {tk tn tu : Tok} {l lc : List (Str × Value)} {Q : Flow → Shared → Prop} {pv sv cv : Value}
noncomputable abbrev sX (P : Params) (L : Addr) : List Addr := mutX (sE P L) (sO P L)
abbrev lB (V : Addr) (K N : Nat) (tk tn : Tok) : List (Str × Value) := [(Str.ofString "k", .int (K : Int) tk), (Str.ofString "n", .int (N : Int) tn), (Str.ofString "side", .ref V)]
abbrev cB (GA MA TA : Addr) (nu : Nat) (tu : Tok) : List (Str × Value) := [(Str.ofString "number", .int (nu : Int) tu), (Str.ofString "grid", .ref GA), (Str.ofString "mine", .ref MA), (Str.ofString "theirs", .ref TA)]
theorem side_places {st : Stmt} (hst : st = lst w.params 0) (hA : AOk (k + 1) A) (T : TopS w s₀) (hK : K ≤ 10) (F : Fk s₀ (sE w.params L) (sO w.params L) (lB V K N tk tn) (cB GA MA TA nu tu) s)
    (hQ : ∀ v s', Fk s₀ (sE w.params L) (sO w.params L) (lB V K N tk tn) ((Str.ofString "places", v) :: cB GA MA TA nu tu) s' → LI (sX w.params L) s' v (idx K nu) → Sol (sX w.params L) s s' → Q .next s') :
    wpAny (model pw w) A (exec st (sE w.params L)) Q E s := by
  subst hst
  refine wpAny_Assign_Name ?_
  refine comp (sb := s) (F.top T) K IntP (has nu) IntG rfl (by decide) rfl (by decide) rfl ?_ ?_ fun v s' g => ?_
  · exact call_1 (nm_top (F.top T) (v := .type "range") (args_c (F.name (args_0 ⟨kp_type, src_range1 hA (F.top T) (by omega)⟩))))
  · intro C i v lv s₃ m₃ hi hP hl₃ hC hn₃ hm₃ k₃
    obtain ⟨⟨t, rfl⟩, rfl⟩ := hP
    have F₃ := F.step k₃
    refine wpAny_tests_one (wpAny_isTrue_Compare1 (wpAny_BinOp (wpAny_BinOp (F₃.cname (nm_local hn₃ (rshift_int (by omega) (wpAny_Constant_int (and_int (wpAny_Constant_int (P.eq_int (wpAny_truthy_bool ⟨?_, ?_, fun _ => ?_⟩)))))) hm₃)))))
    · rw [shr_cast]
      exact test_eq nu i
    · exact toks_keep
    · exact nm_local hn₃ (gives_plain ⟨⟨t, rfl⟩, rfl⟩ toks_keep) hm₃
  · refine (F.step g.keep).storeC T fun s₅ F₅ S₅ => hQ v s₅ F₅ ((F.li g).sol S₅) (g.keep.solX.trans S₅)
theorem side_shared {st : Stmt} (hst : st = lst w.params 1) (hA : AOk (k + 1) A) (T : TopS w s₀) (D : SideIn w s₀ h o f r ix g K N GA MA TA) (F : Fk s₀ (sE w.params L) (sO w.params L) (lB V K N tk tn) ((Str.ofString "places", pv) :: cB GA MA TA nu tu) s)
    (hp : LI (sX w.params L) s pv (idx K nu))
    (hQ : ∀ v s', Fk s₀ (sE w.params L) (sO w.params L) (lB V K N tk tn) ((Str.ofString "shared", v) :: (Str.ofString "places", pv) :: cB GA MA TA nu tu) s' → LI (sX w.params L) s' v (sharedL g K N nu) → Sol (sX w.params L) s s' → Q .next s') :
    wpAny (model pw w) A (exec st (sE w.params L)) Q E s := by
  subst hst
  have hN := D.n4
  have hK := D.k4
  obtain ⟨PD, ys, pn, rfl, hPX, hPD, hpp⟩ := id hp
  refine wpAny_Assign_Name ?_
  refine compC (F.top T) N IntP (fun j => (idx K nu).all fun i => g i j) IntG rfl (fun n => by rfl) (fun h => by rfl) rfl (by decide) rfl ?_ ?_ fun v s' gv => ?_
  · exact call_1 (nm_top (F.top T) (v := .type "range") (args_c (F.name (args_0 ⟨kp_type, src_range1 hA (F.top T) (by omega)⟩))))
  · intro C cc j v lv s₃ hj hP hl₃ hcc hcell k₃
    obtain ⟨⟨t, rfl⟩, rfl⟩ := hP
    have F₃ := F.step k₃
    have T₃ := F₃.top T
    have hPD₃ := k₃.old _ _ (solid_cls rfl) hPD
    refine wpAny_tests_one (wpAny_isTrue_value (call_1 (nm_top T₃ (v := .builtin "all") (args_c ?_))))
    refine compI (BoolT fun i => g i j) hA T₃ hPD₃ hpp (by have := List.length_filter_le (has nu) (List.range K); simp [idx] at this ⊢; omega) rfl (by decide) rfl (by decide) rfl (nm_cell rfl (F₃.cell (x := Str.ofString "places") rfl rfl) ⟨rfl, rfl⟩) ?_ ?_
    · intro C' i t' s₄ m₄ hi hC' hn₄ hm₄ k₄
      have F₄ := F₃.step k₄
      have hi' : i < K := List.mem_range.mp (List.mem_filter.mp hi).1
      refine grid_item (t1 := t') (t2 := t) ((D.keep F₄.keep).gr) hi' hj (by omega) (by omega) (nm_cell rfl (F₄.cell (x := Str.ofString "grid") rfl rfl) ⟨rfl, rfl⟩) (nm_local hn₄ ⟨rfl, rfl⟩ hm₄) (nm_cell rfl (IsCell_keep hcell hcc k₄) ⟨rfl, rfl⟩) ⟨rfl, Keep.refl _⟩ (by with_unfolding_all rfl) (by intro _; with_unfolding_all rfl)
    · intro v s₄ hv
      obtain ⟨D', zs, n', rfl, hnew, hD', hz, k₄⟩ := hv
      refine args_0 ⟨kp_builtin, all_flat hA (T₃.keep k₄) hD' hz fun s₅ k₅ => wpAny_truthy_bool ⟨rfl, k₄.trans k₅, fun _ => ?_⟩⟩
      exact nm_cell rfl (IsCell_keep hcell hcc (k₄.trans k₅)) (gives_plain ⟨⟨t, rfl⟩, rfl⟩ (k₄.trans k₅))
  · refine (F.step gv.keep).storeC T fun s₅ F₅ S₅ => hQ v s₅ F₅ ((F.li gv).sol S₅) (gv.keep.solX.trans S₅)
theorem side_closed {st : Stmt} (hst : st = lst w.params 2) (hA : AOk (k + 1) A) (T : TopS w s₀) (D : SideIn w s₀ h o f r ix g K N GA MA TA) (F : Fk s₀ (sE w.params L) (sO w.params L) (lB V K N tk tn) ((Str.ofString "shared", sv) :: (Str.ofString "places", pv) :: cB GA MA TA nu tu) s)
    (hp : LI (sX w.params L) s sv (sharedL g K N nu))
    (hQ : ∀ v s', Fk s₀ (sE w.params L) (sO w.params L) (lB V K N tk tn) ((Str.ofString "closed", v) :: (Str.ofString "shared", sv) :: (Str.ofString "places", pv) :: cB GA MA TA nu tu) s' → LI (sX w.params L) s' v (closedL g K N nu) → Sol (sX w.params L) s s' → Q .next s') :
    wpAny (model pw w) A (exec st (sE w.params L)) Q E s := by
  subst hst
  have hN := D.n4
  have hK := D.k4
  obtain ⟨PD, ys, pn, rfl, hPX, hPD, hpp⟩ := id hp
  refine wpAny_Assign_Name ?_
  refine compC (F.top T) K IntP (fun i => (sharedL g K N nu).all fun j => g i j) IntG rfl (fun n => by rfl) (fun h => by rfl) rfl (by decide) rfl ?_ ?_ fun v s' gv => ?_
  · exact call_1 (nm_top (F.top T) (v := .type "range") (args_c (F.name (args_0 ⟨kp_type, src_range1 hA (F.top T) (by omega)⟩))))
  · intro C cc i v lv s₃ hi hP hl₃ hcc hcell k₃
    obtain ⟨⟨t, rfl⟩, rfl⟩ := hP
    have F₃ := F.step k₃
    have T₃ := F₃.top T
    have hPD₃ := k₃.old _ _ (solid_cls rfl) hPD
    refine wpAny_tests_one (wpAny_isTrue_value (call_1 (nm_top T₃ (v := .builtin "all") (args_c ?_))))
    refine compI (BoolT fun j => g i j) hA T₃ hPD₃ hpp (by have := List.length_filter_le (fun j => (idx K nu).all fun i => g i j) (List.range N); simp [sharedL] at this ⊢; omega) rfl (by decide) rfl (by decide) rfl (nm_cell rfl (F₃.cell (x := Str.ofString "shared") rfl rfl) ⟨rfl, rfl⟩) ?_ ?_
    · intro C' j t' s₄ m₄ hj hC' hn₄ hm₄ k₄
      have F₄ := F₃.step k₄
      have hj' : j < N := List.mem_range.mp (List.mem_filter.mp hj).1
      refine grid_item (t1 := t) (t2 := t') ((D.keep F₄.keep).gr) hi hj' (by omega) (by omega) (nm_cell rfl (F₄.cell (x := Str.ofString "grid") rfl rfl) ⟨rfl, rfl⟩) (nm_cell rfl (IsCell_keep hcell hcc k₄) ⟨rfl, rfl⟩) (nm_local hn₄ ⟨rfl, rfl⟩ hm₄) ⟨rfl, Keep.refl _⟩ (by with_unfolding_all rfl) (by intro _; with_unfolding_all rfl)
    · intro v s₄ hv
      obtain ⟨D', zs, n', rfl, hnew, hD', hz, k₄⟩ := hv
      refine args_0 ⟨kp_builtin, all_flat hA (T₃.keep k₄) hD' hz fun s₅ k₅ => wpAny_truthy_bool ⟨rfl, k₄.trans k₅, fun _ => ?_⟩⟩
      exact nm_cell rfl (IsCell_keep hcell hcc (k₄.trans k₅)) (gives_plain ⟨⟨t, rfl⟩, rfl⟩ (k₄.trans k₅))
  · refine (F.step gv.keep).storeC T fun s₅ F₅ S₅ => hQ v s₅ F₅ ((F.li gv).sol S₅) (gv.keep.solX.trans S₅)
end
end Mine
end
section
open PySem PySem.W PySem.W.X PyProof.Rows PySem.Calls PySem.Spec PySem.SeqAt
/-! Side4 -/
namespace Mine
set_option maxRecDepth 100000
set_option maxHeartbeats 0

section
variable {w : World} {A : Around} {s s' s₀ : Shared} {E : Value → Shared → Prop} {env : Env} {k : Nat} {v : Value} {is : List Nat}
theorem or_f {x : Expr} {rest : List Expr} {pos : Pos} {whole : Sem Value} {Q : Bool → Shared → Prop}
    (h : wpAny (model pw w) A (isTrue x env (eval x env)) (fun c s' => c = false ∧ wpAny (model pw w) A (isTrue (.BoolOp .Or rest pos) env whole) Q E s') E s) :
    wpAny (model pw w) A (isTrue (.BoolOp .Or (x :: rest) pos) env whole) Q E s :=
  isTrue_or (wpAny_mono h (fun c s' hc => by obtain ⟨rfl, hc⟩ := hc; exact hc) fun _ _ z => z)
theorem if_f {test : Expr} {body : List Stmt} {pos : Pos} {Q : Flow → Shared → Prop}
    (h : wpAny (model pw w) A (isTrue test env (eval test env)) (fun c s' => c = false ∧ Q .next s') E s) : wpAny (model pw w) A (exec (.If test body [] pos) env) Q E s :=
  wpAny_If (wpAny_mono h (fun c s' hc => by obtain ⟨rfl, hc⟩ := hc; exact wpAny_execs_nil hc) fun _ _ z => z)
theorem cmp_f {op : CmpOp} {a b : Expr} {pos : Pos} {whole : Sem Value} {Q : Bool → Shared → Prop}
    (h : wpAny (model pw w) A (eval a env) (fun u s₁ => wpAny (model pw w) A (eval b env) (fun v s₂ => wpAny (model pw w) A (compareOp op u v) (fun c s₃ => c = .bool false ∧ Q false s₃) E s₂) E s₁) E s)
    (hm : behindInMarks op b = false := by with_unfolding_all rfl) : wpAny (model pw w) A (isTrue (.Compare a [op] [b] pos) env whole) Q E s :=
  wpAny_isTrue_Compare1 (wpAny_mono h (fun u s₁ h₁ => wpAny_mono h₁ (fun v s₂ h₂ => wpAny_mono h₂ (fun c s₃ h₃ => by obtain ⟨rfl, h₃⟩ := h₃; exact wpAny_truthy_bool h₃) fun _ _ z => z) fun _ _ z => z) fun _ _ z => z) hm

/-- a tuple, flat -/
def FlatT (s : Shared) (F : Nat → Value → Prop) (is : List Nat) (v : Value) (s' : Shared) : Prop := ∃ t zs n, v = .ref t ∧ s.heap.get? t = none ∧ s'.heap.get? t = some (tupObj zs n) ∧ Paired F is zs ∧ Keep s s'
theorem FlatT.of {F : Nat → Value → Prop} (g : Gives s (TupG F is) v s') : FlatT s F is v s' := by
  obtain ⟨l, ⟨t, zs, n, rfl, rfl, hp⟩, H, N, K⟩ := g
  exact ⟨t, zs, n, rfl, N _ List.mem_cons_self, H.head, hp, K⟩
theorem FlatT.keep {F : Nat → Value → Prop} (h : FlatT s F is v s') : Keep s s' := let ⟨_, _, _, _, _, _, _, k⟩ := h; k
/-- tuple(a flat list) -/
theorem tuple_fl {F : Nat → Value → Prop} {s₁ : Shared} {Q : Value → Shared → Prop} (T : TopS w s) (hl : is.length ≤ 1000) (g : FlatL s F is v s₁) (hQ : ∀ r s', FlatT s F is r s' → Q r s') : wpAny (model pw w) A (call (.type "tuple") [v]) Q E s₁ := by
  obtain ⟨D, ys, n, rfl, hN, hD, hp, K⟩ := g
  have hz := hp.length
  refine call_tuple_list (items := ys.toArray) ⟨_, hD, rfl, _, rfl⟩ (fun h' hk => ?_) (by rw [List.size_toArray, sizeLine_eq]; omega)
  have k' : Keep s₁ { s₁ with heap := h' } := .heapTok (tk := s₁.toks) hk
  exact hQ _ _ ⟨_, ys, 0, rfl, none_back' T (K.trans k') (none_of_size (Nat.le_refl _)), Heap.get?_push_size _ rfl, hp, (K.trans k').trans (push_keep (tk := s₁.toks))⟩
theorem ne_flat {a b : Value} {sa sb : Shared} {F : Nat → Value → Prop} {Q : Value → Shared → Prop} (hF : ∀ i x y, F i x → F i y → x = y) (hA : AOk k A) (ga : FlatT sa F is a sb) (gb : FlatT sb F is b s) (h : Q (.bool false) s) : wpAny (model pw w) A (compareOp .NotEq a b) Q E s := by
  obtain ⟨t, zs, n, rfl, _, ht, hp, _⟩ := ga
  obtain ⟨t', zs', n', rfl, _, ht', hp', K⟩ := gb
  exact ne_tups hA (K.old _ _ (solid_cls rfl) ht) ht' (paired_fn hF hp hp') h
theorem some_fn {ys : List Value} : ∀ (i : Nat) (x y : Value), ys[i]? = some x → ys[i]? = some y → x = y := fun i x y a b => by rw [a] at b; cases b; rfl
theorem ne_li {X : List Addr} {a b : Value} {sa : Shared} {Q : Value → Shared → Prop} (hA : AOk k A) (ga : Gives sa (ListG IntG is) a s) (gb : LI X s b is) (h : Q (.bool false) s) : wpAny (model pw w) A (compareOp .NotEq a b) Q E s := by
  obtain ⟨l, ⟨D, ys, n, ls, rfl, rfl, hE⟩, hH, hN, K⟩ := ga
  obtain ⟨D', ys', n', rfl, _, hD', hp'⟩ := gb
  exact ne_ints hA hH.head hD' (ell_ints hE) hp' h
/-- x in a list of ints -/
theorem in_ints {D : Addr} {ys : List Value} {n i : Nat} {t : Tok} {Q : Value → Shared → Prop} (hD : s.heap.get? D = some (listObj ys n)) (hp : Paired IntF is ys) (h : Q (.bool (is.any (· == i))) s) :
    wpAny (model pw w) A (compareOp .In (.int (i : Int) t) (.ref D)) Q E s := by
  refine in_listAt (items := ys.toArray) (fun y => match y with | .int a _ => a == ((i : Nat) : Int) | _ => false) ⟨_, hD, rfl, _, rfl⟩ (fun y hy => ?_) ?_
  · obtain ⟨j, hj, e⟩ := List.mem_iff_getElem.mp (by simpa using hy : y ∈ ys)
    obtain ⟨x, _, t', rfl⟩ := paired_at hp (j := j) (y := y) (by simp [hj, e])
    exact EqAt.int_int _ _ _ _
  · have e : ∀ {is : List Nat} {ys : List Value}, Paired IntF is ys → ys.toArray.any (fun y => match y with | .int a _ => a == ((i : Nat) : Int) | _ => false) = is.any (· == i) := by
      intro is ys hp
      rw [List.any_toArray]
      induction hp with
      | nil => rfl
      | cons a _ ih =>
        obtain ⟨t, rfl⟩ := a
        rw [List.any_cons, List.any_cons, ih]
        congr 1
        rw [Bool.eq_iff_iff]
        simp
        omega
    rw [e hp]
    exact h
end

section
variable {w : World} {A : Around} {s s' s₀ : Shared} {E : Value → Shared → Prop} {k : Nat} {L V GA MA TA r : Addr} {h o : HP} {f : FP} {ix : Int} {g : Nat → Nat → Bool} {K N nu : Nat} {tk tn tu : Tok} {l lc : List (Str × Value)} {Q : Flow → Shared → Prop} {pv sv cv tv av bv : Value}
abbrev pN (o : HP) (nu : Nat) : Nat := maskAnd nu o.rows o.n
abbrev dN (h o : HP) (nu : Nat) : Nat := maskAnd (pN o nu) h.rows h.n
abbrev cC (cv sv pv : Value) (GA MA TA : Addr) (nu : Nat) (tu : Tok) : List (Str × Value) := (Str.ofString "closed", cv) :: (Str.ofString "shared", sv) :: (Str.ofString "places", pv) :: cB GA MA TA nu tu
theorem side_thing {st : Stmt} (hst : st = lst w.params 3) (hA : AOk (k + 1) A) (T : TopS w s₀) (D : SideIn w s₀ h o f r ix g K N GA MA TA) (F : Fk s₀ (sE w.params L) (sO w.params L) (lB h.V K N tk tn) (cC cv sv pv GA MA TA nu tu) s)
    (hQ : ∀ v s', Fk s₀ (sE w.params L) (sO w.params L) ((Str.ofString "thing", v) :: lB h.V K N tk tn) (cC cv sv pv GA MA TA nu tu) s' → MBx (sX w.params L) s' v h.B nu → Sol (sX w.params L) s s' → Q .next s') :
    wpAny (model pw w) A (exec st (sE w.params L)) Q E s := by
  subst hst
  have D₁ := D.keep F.keep
  have T₁ := F.top T
  refine wpAny_Assign_Name ?_
  refine meth_1 (Attribute_any_ (F.name (get_own_ T₁ D₁.H.v.ins D₁.H.v.dc D₁.H.vb rfl (by kernel_rfl) ?_)))
  have T₂ := T₁.keep (toks_keep (tk := s.toks + 1))
  have F₂ := F.step (toks_keep (tk := s.toks + 1))
  refine method_cls (f := 116) T₂ D₁.H.b.ins D₁.H.b.dc D₁.P.b0 (by kernel_rfl) ?_
  refine args_c (F₂.cname (args_0 ⟨kp_top T₂ (by kernel_rfl) (.inl rfl), ?_⟩))
  obtain ⟨ob, b1, b2⟩ := D₁.H.b.ins.obj
  refine wk hA (fromint_int T₂.kin b1 fun v s' gv => ?_)
  refine (F₂.step gv.keep).store T fun s₅ F₅ S₅ => hQ v s₅ F₅ ((F₂.mb gv).sol S₅) ((toks_keep.trans gv.keep).solX.trans S₅)
theorem side_two {st : Stmt} (hst : st = lst w.params 4) (hA : AOk (k + 5) A) (T : TopS w s₀) (D : SideIn w s₀ h o f r ix g K N GA MA TA) (F : Fk s₀ (sE w.params L) (sO w.params L) ((Str.ofString "thing", tv) :: lB h.V K N tk tn) (cC cv sv pv GA MA TA nu tu) s)
    (hn : nu < 2 ^ K) (ht : MBx (sX w.params L) s tv h.B nu)
    (hQ : ∀ a b s', Fk s₀ (sE w.params L) (sO w.params L) ((Str.ofString "there", a) :: (Str.ofString "back", b) :: (Str.ofString "thing", tv) :: lB h.V K N tk tn) (cC cv sv pv GA MA TA nu tu) s' →
      MBx (sX w.params L) s' a o.B (pN o nu) → MBx (sX w.params L) s' b h.B (dN h o nu) → Sol (sX w.params L) s s' → Q .next s') :
    wpAny (model pw w) A (exec st (sE w.params L)) Q E s := by
  subst hst
  have D₁ := D.keep F.keep
  have T₁ := F.top T
  have fit := grid_fit D.G D.k0 D.n0
  have hn' : nu < 2 ^ o.rs.length := by rw [D.G.ok]; exact hn
  refine store2 (x := Str.ofString "there") (y := Str.ofString "back") hA ?_ rfl rfl
  obtain ⟨p, rfl, hp⟩ := ht.mb
  obtain ⟨d, hb, t, kt, n, hp1, hp2⟩ := id hp
  refine wpAny_Tuple (wpAny_items_cons ?_)
  refine meth_0 (F.name (method_mb (f := 54) T₁ hp1 hp2 (by kernel_rfl) (by kernel_rfl) (by decide +kernel) ⟨kp_top T₁ (by kernel_rfl) (.inl rfl), ?_⟩))
  refine mb_prime (k := k + 1) hA T₁ D₁.H D₁.O D₁.P fit hp hn' fun a s₂ ga => ?_
  refine wpAny_items_cons ?_
  have F₂ := F.step ga.keep
  have T₂ := F₂.top T
  have D₂ := D.keep F₂.keep
  have hp₂ := hp.keep ga.keep
  have hm₂ := F.mb ga
  obtain ⟨d, hb, t, kt, n, hp1, hp2⟩ := id hp₂
  refine meth_0 (F₂.name (method_mb (f := 61) T₂ hp1 hp2 (by kernel_rfl) (by kernel_rfl) (by decide +kernel) ⟨kp_top T₂ (by kernel_rfl) (.inl rfl), ?_⟩))
  refine mb_double (k := k + 1) hA T₂ D₂.H D₂.O D₂.P fit hp₂ hn' fun b s₃ gb => ?_
  have F₃ := F₂.step gb.keep
  have hb₃ := F₂.mb gb
  have ha₃ := hm₂.keep gb.keep
  refine wpAny_items_nil ⟨by rw [sizeLine_eq]; simp, ?_⟩
  refine ⟨_, a, b, 0, rfl, Heap.get?_push_size _ rfl, fun s₄ K₄ => ?_⟩
  have K₄' := (push_keep (s := s₃) (tk := s₃.toks)).trans K₄
  refine (F₃.step K₄').store T fun s₅ F₅ S₅ => F₅.store T fun s₆ F₆ S₆ => ?_
  exact hQ a b s₆ F₆ (((ha₃.keep K₄').sol S₅).sol S₆) (((hb₃.keep K₄').sol S₅).sol S₆) (((ga.keep.trans (gb.keep.trans K₄')).solX.trans S₅).trans S₆)
end
end Mine
end
section
open PySem PySem.W PySem.W.X PyProof.Rows PySem.Calls PySem.Spec PySem.SeqAt
/-! Side5 -/
namespace Mine
set_option maxRecDepth 100000
set_option maxHeartbeats 0

section
variable {w : World} {A : Around} {s s' s₀ : Shared} {E : Value → Shared → Prop} {k : Nat} {L V GA MA TA r : Addr} {h o : HP} {f : FP} {ix : Int} {g : Nat → Nat → Bool} {K N nu : Nat} {tk tn tu : Tok} {l lc : List (Str × Value)} {Q : Flow → Shared → Prop} {pv sv cv tv av bv : Value}
theorem idx_le (k v : Nat) : (idx k v).length ≤ k := by have := List.length_filter_le (has v) (List.range k); rw [List.length_range] at this; exact this
theorem sharedL_le (g : Nat → Nat → Bool) (K N nu : Nat) : (sharedL g K N nu).length ≤ N := by have := List.length_filter_le (fun j => (idx K nu).all fun i => g i j) (List.range N); rw [List.length_range] at this; exact this
theorem closedL_le (g : Nat → Nat → Bool) (K N nu : Nat) : (closedL g K N nu).length ≤ K := by have := List.length_filter_le (fun i => (sharedL g K N nu).all fun j => g i j) (List.range K); rw [List.length_range] at this; exact this
abbrev lT (av bv tv : Value) (V : Addr) (K N : Nat) (tk tn : Tok) : List (Str × Value) := (Str.ofString "there", av) :: (Str.ofString "back", bv) :: (Str.ofString "thing", tv) :: lB V K N tk tn
/-- the lists and the sets of a turn -/
structure Turn (w : World) (s : Shared) (L : Addr) (h o : HP) (g : Nat → Nat → Bool) (K N nu : Nat) (pv sv cv tv av bv : Value) : Prop where
  pl : LI (sX w.params L) s pv (idx K nu)
  sh : LI (sX w.params L) s sv (sharedL g K N nu)
  cl : LI (sX w.params L) s cv (closedL g K N nu)
  tg : MBx (sX w.params L) s tv h.B nu
  th : MBx (sX w.params L) s av o.B (pN o nu)
  bk : MBx (sX w.params L) s bv h.B (dN h o nu)
theorem Turn.sol (t : Turn w s L h o g K N nu pv sv cv tv av bv) (S : Sol (sX w.params L) s s') : Turn w s' L h o g K N nu pv sv cv tv av bv := ⟨t.pl.sol S, t.sh.sol S, t.cl.sol S, t.tg.sol S, t.th.sol S, t.bk.sol S⟩
theorem Turn.keep (t : Turn w s L h o g K N nu pv sv cv tv av bv) (S : Keep s s') : Turn w s' L h o g K N nu pv sv cv tv av bv := t.sol S.solX

theorem side_if1 {st : Stmt} (hst : st = lst w.params 5) (hA : AOk (k + 5) A) (T : TopS w s₀) (D : SideIn w s₀ h o f r ix g K N GA MA TA) (F : Fk s₀ (sE w.params L) (sO w.params L) (lT av bv tv h.V K N tk tn) (cC cv sv pv GA MA TA nu tu) s)
    (X : Turn w s L h o g K N nu pv sv cv tv av bv) (hQ : ∀ s', Keep s s' → Q .next s') :
    wpAny (model pw w) A (exec st (sE w.params L)) Q E s := by
  subst hst
  have D₁ := D.keep F.keep
  have T₁ := F.top T
  have h4 := D.k4
  have n4 := D.n4
  have eN : o.ys.length = N := D.G.on
  have eK : h.ys.length = K := D.G.hk
  refine if_f (or_f (cmp_f (ev_iter (k := k + 4) hA (F.name ?_))))
  obtain ⟨p, e, hp⟩ := X.th.mb
  refine ⟨T₁, p, _, _, _, _, _, _, e, hp, D₁.O.b, by omega, fun r₁ s₁ g₁ => ?_⟩
  have F₁ := F.step g₁.keep
  have X₁ := X.keep g₁.keep
  rw [eN, shared_is D.G] at g₁
  refine F₁.cname (ne_li hA g₁ X₁.sh ⟨rfl, rfl, ?_⟩)
  refine or_f (cmp_f (ev_iter (k := k + 4) hA (F₁.name ?_)))
  have D₁' := D.keep F₁.keep
  obtain ⟨p, e, hp⟩ := X₁.bk.mb
  refine ⟨F₁.top T, p, _, _, _, _, _, _, e, hp, D₁'.H.b, by omega, fun r₂ s₂ g₂ => ?_⟩
  have F₂ := F₁.step g₂.keep
  have X₂ := X₁.keep g₂.keep
  have T₂ := F₂.top T
  rw [eK, closed_is D.G] at g₂
  refine F₂.cname (ne_li hA g₂ X₂.cl ⟨rfl, rfl, ?_⟩)
  refine or_f (isTrue_not (wpAny_isTrue_value (call_1 (nm_top T₂ (v := .builtin "all") (args_c ?_)))))
  obtain ⟨PD, ys, pn, e1, _, hPD, hpp⟩ := X₂.pl
  obtain ⟨CD, zs, cn, e2, _, hCD, hcp⟩ := X₂.cl
  refine compI (BoolT fun i => (closedL g K N nu).any (· == i)) hA T₂ hPD hpp (by have := idx_le K nu; omega) rfl (by decide) rfl (by decide) rfl (F₂.cname ⟨e1, rfl⟩) ?_ ?_
  · intro C' i t' s₄ m₄ hi hC' hn₄ hm₄ k₄
    refine wpAny_Compare1 (nm_local hn₄ (nm_cell rfl ((F₂.step k₄).cell (x := Str.ofString "closed") rfl rfl) ?_) hm₄)
    rw [e2]
    exact in_ints (k₄.old _ _ (solid_cls rfl) hCD) hcp ⟨rfl, Keep.refl _⟩
  · intro v s₄ hv
    obtain ⟨D', us, n', rfl, hnew, hD', hz, k₄⟩ := hv
    refine args_0 ⟨kp_builtin, all_flat hA (T₂.keep k₄) hD' hz fun s₅ k₅ => wpAny_truthy_bool ⟨?_, isTrue_or_nil ⟨rfl, hQ s₅ ?_⟩⟩⟩
    · rw [places_in]; rfl
    · exact g₁.keep.trans (g₂.keep.trans (k₄.trans k₅))
end
end Mine
end
section
open PySem PySem.W PySem.W.X PyProof.Rows PySem.Calls PySem.Spec PySem.SeqAt
/-! Side6 -/
namespace Mine
set_option maxRecDepth 100000
set_option maxHeartbeats 0

section
variable {w : World} {A : Around} {s s' s₀ : Shared} {E : Value → Shared → Prop} {k : Nat} {L V GA MA TA r : Addr} {h o : HP} {f : FP} {ix : Int} {g : Nat → Nat → Bool} {K N nu : Nat} {tk tn tu : Tok} {l lc : List (Str × Value)} {Q : Flow → Shared → Prop} {pv sv cv tv av bv v : Value}
theorem side_if2 {st : Stmt} (hst : st = lst w.params 6) (hA : AOk (k + 5) A) (T : TopS w s₀) (D : SideIn w s₀ h o f r ix g K N GA MA TA) (F : Fk s₀ (sE w.params L) (sO w.params L) (lT av bv tv h.V K N tk tn) (cC cv sv pv GA MA TA nu tu) s)
    (X : Turn w s L h o g K N nu pv sv cv tv av bv) (hQ : ∀ s', Keep s s' → Q .next s') :
    wpAny (model pw w) A (exec st (sE w.params L)) Q E s := by
  subst hst
  have D₁ := D.keep F.keep
  have T₁ := F.top T
  have h4 := D.k4
  have n4 := D.n4
  have eN : o.ys.length = N := D.G.on
  have eK : h.ys.length = K := D.G.hk
  refine if_f (or_f (cmp_f (ev_members (k := k + 2) hA (F.name ?_))))
  obtain ⟨p, e, hp⟩ := X.th.mb
  refine ⟨T₁, p, _, _, _, _, _, _, e, hp, D₁.O.b, by omega, fun r₁ s₁ g₁ => ?_⟩
  have F₁ := F.step g₁.keep
  have X₁ := X.keep g₁.keep
  have T₁' := F₁.top T
  have D₁' := D.keep F₁.keep
  rw [eN, shared_is D.G] at g₁
  have G₁ := FlatT.of g₁
  obtain ⟨SD, ys, pn, e1, _, hPD, hpp⟩ := X₁.sh
  obtain ⟨tn', hTA⟩ := D₁'.th
  refine call_1 (nm_top T₁' (v := .type "tuple") (args_c ?_))
  refine compI (fun j y => o.ys[j]? = some y) hA T₁' hPD hpp (by have := sharedL_le g K N nu; omega) rfl (by decide) rfl (by decide) rfl (F₁.cname ⟨e1, rfl⟩) ?_ fun v s₂ g₂ => ?_
  · intro C' j t' s₄ m₄ hj hC' hn₄ hm₄ k₄
    have hj' : j < N := List.mem_range.mp (List.mem_filter.mp hj).1
    have hj2 : o.ys[j]? = some (o.ys[j]'(by omega)) := by simp
    refine Subscript_ (nm_cell rfl ((F₁.step k₄).cell (x := Str.ofString "theirs") rfl rfl) (nm_local hn₄ (subR_list (k₄.old _ _ (solid_cls rfl) hTA) (by omega) hj2 ⟨hj2, Keep.refl _⟩) hm₄))
  refine args_0 ⟨kp_type, tuple_fl T₁' (by have := sharedL_le g K N nu; omega) g₂ fun r₂ s₃ g₃ => ?_⟩
  have F₃ := F₁.step g₃.keep
  have X₃ := X₁.keep g₃.keep
  have T₃ := F₃.top T
  have D₃ := D.keep F₃.keep
  refine ne_flat some_fn hA G₁ g₃ ⟨rfl, rfl, ?_⟩
  refine or_f (cmp_f (ev_members (k := k + 2) hA (F₃.name ?_)))
  obtain ⟨p, e, hp⟩ := X₃.bk.mb
  refine ⟨T₃, p, _, _, _, _, _, _, e, hp, D₃.H.b, by omega, fun r₄ s₄ g₄ => ?_⟩
  have F₄ := F₃.step g₄.keep
  have X₄ := X₃.keep g₄.keep
  have T₄ := F₄.top T
  have D₄ := D.keep F₄.keep
  rw [eK, closed_is D.G] at g₄
  have G₄ := FlatT.of g₄
  obtain ⟨CD, zs, cn, e2, _, hCD, hcp⟩ := X₄.cl
  obtain ⟨mn, hMA⟩ := D₄.mi
  refine call_1 (nm_top T₄ (v := .type "tuple") (args_c ?_))
  refine compI (fun j y => h.ys[j]? = some y) hA T₄ hCD hcp (by have := closedL_le g K N nu; omega) rfl (by decide) rfl (by decide) rfl (F₄.cname ⟨e2, rfl⟩) ?_ fun v s₅ g₅ => ?_
  · intro C' j t' s₆ m₆ hj hC' hn₆ hm₆ k₆
    have hj' : j < K := List.mem_range.mp (List.mem_filter.mp hj).1
    have hj2 : h.ys[j]? = some (h.ys[j]'(by omega)) := by simp
    refine Subscript_ (nm_cell rfl ((F₄.step k₆).cell (x := Str.ofString "mine") rfl rfl) (nm_local hn₆ (subR_list (k₆.old _ _ (solid_cls rfl) hMA) (by omega) hj2 ⟨hj2, Keep.refl _⟩) hm₆))
  refine args_0 ⟨kp_type, tuple_fl T₄ (by have := closedL_le g K N nu; omega) g₅ fun r₅ s₇ g₇ => ?_⟩
  refine ne_flat some_fn hA G₄ g₇ ⟨rfl, rfl, isTrue_or_nil ⟨rfl, hQ _ ?_⟩⟩
  exact g₁.keep.trans (g₃.keep.trans (g₄.keep.trans g₇.keep))

abbrev nBoth : Str := Str.ofString "both"
theorem side_both {st : Stmt} (hst : st = lst w.params 7) (hA : AOk (k + 5) A) (T : TopS w s₀) (D : SideIn w s₀ h o f r ix g K N GA MA TA) (F : Fk s₀ (sE w.params L) (sO w.params L) (lT av bv tv h.V K N tk tn) (cC cv sv pv GA MA TA nu tu) s)
    (hn : nu < 2 ^ K) (X : Turn w s L h o g K N nu pv sv cv tv av bv)
    (hQ : ∀ v s', Fk s₀ (sE w.params L) (sO w.params L) ((Str.ofString "both", v) :: lT av bv tv h.V K N tk tn) (cC cv sv pv GA MA TA nu tu) s' → PRx (sX w.params L) s' v h.B (dN h o nu) o.B (pN o nu) → Sol (sX w.params L) s s' → Q .next s') :
    wpAny (model pw w) A (exec st (sE w.params L)) Q E s := by
  subst hst
  have D₁ := D.keep F.keep
  have T₁ := F.top T
  have fit := grid_fit D.G D.k0 D.n0
  have hn' : nu < 2 ^ o.rs.length := by rw [D.G.ok]; exact hn
  refine wpAny_Assign_Name ?_
  obtain ⟨p, e, hp⟩ := X.tg.mb
  obtain ⟨d, hb, t, kt, n, hp1, hp2⟩ := id hp
  subst e
  refine meth_0 (F.name (method_mb (f := 68) T₁ hp1 hp2 (by kernel_rfl) (by kernel_rfl) (by decide +kernel) ⟨kp_top T₁ (by kernel_rfl) (.inl rfl), ?_⟩))
  refine mb_doubleprime (k := k + 1) hA T₁ D₁.H D₁.O D₁.P fit hp hn' fun a s₂ ga => ?_
  refine (F.step ga.keep).store T fun s₅ F₅ S₅ => hQ a s₅ F₅ ((F.pr ga).sol S₅) (ga.keep.solX.trans S₅)

theorem side_if3 {st : Stmt} (hst : st = lst w.params 8) (hA : AOk (k + 5) A) (T : TopS w s₀) (D : SideIn w s₀ h o f r ix g K N GA MA TA) (F : Fk s₀ (sE w.params L) (sO w.params L) ((Str.ofString "both", v) :: lT av bv tv h.V K N tk tn) (cC cv sv pv GA MA TA nu tu) s)
    (X : Turn w s L h o g K N nu pv sv cv tv av bv) (B : PRx (sX w.params L) s v h.B (dN h o nu) o.B (pN o nu)) (hQ : ∀ s', Keep s s' → Q .next s') :
    wpAny (model pw w) A (exec st (sE w.params L)) Q E s := by
  subst hst
  have D₁ := D.keep F.keep
  have T₁ := F.top T
  have h4 := D.k4
  have n4 := D.n4
  have eN : o.ys.length = N := D.G.on
  have eK : h.ys.length = K := D.G.hk
  obtain ⟨t, a, b, q, rfl, htX, ht, ha, hb⟩ := B
  refine if_f (or_f (cmp_f (call_1 (nm_top T₁ (v := .builtin "len") (args_c (F.name (args_0 ⟨kp_builtin, ?_⟩)))))))
  refine len_tuple (items := #[a, b]) ⟨_, ht, rfl, _, rfl⟩ (by simp) (wpAny_Constant_int (P.ne_int ⟨rfl, rfl, ?_⟩))
  have K₁ : Keep s { s with toks := s.toks + 1 + 1 + 1 } := toks_keep
  have F₁ := F.step K₁
  have X₁ := X.keep K₁
  -- both[0].members() != back.members()
  refine or_f (cmp_f (ev_members (k := k + 2) hA (Subscript_ (F₁.name (wpAny_Constant_int (sub_tup (i := 0) (K₁.old _ _ (solid_cls rfl) ht) (by simp) rfl ?_))))))
  have K₂ : Keep s { s with toks := s.toks + 1 + 1 + 1 + 1 } := toks_keep
  have F₂ := F.step K₂
  have X₂ := X.keep K₂
  have D₂ := D.keep F₂.keep
  obtain ⟨p, e, hp⟩ := (ha.keep K₂).mb
  refine ⟨F₂.top T, p, _, _, _, _, _, _, e, hp, D₂.H.b, by omega, fun r₃ s₃ g₃ => ?_⟩
  have F₃ := F₂.step g₃.keep
  have X₃ := X₂.keep g₃.keep
  have D₃ := D.keep F₃.keep
  have G₃ := FlatT.of g₃
  refine ev_members (k := k + 2) hA (F₃.name ?_)
  obtain ⟨p, e, hp⟩ := X₃.bk.mb
  refine ⟨F₃.top T, p, _, _, _, _, _, _, e, hp, D₃.H.b, by omega, fun r₄ s₄ g₄ => ?_⟩
  have F₄ := F₃.step g₄.keep
  have X₄ := X₃.keep g₄.keep
  have K₄ := K₂.trans (g₃.keep.trans g₄.keep)
  refine ne_flat some_fn hA G₃ (FlatT.of g₄) ⟨rfl, rfl, ?_⟩
  -- both[1].members() != there.members()
  refine or_f (cmp_f (ev_members (k := k + 2) hA (Subscript_ (F₄.name (wpAny_Constant_int (sub_tup (i := 1) (K₄.old _ _ (solid_cls rfl) ht) (by simp) rfl ?_))))))
  have K₅ : Keep s { s₄ with toks := s₄.toks + 1 } := K₄.trans toks_keep
  have F₅ := F.step K₅
  have X₅ := X.keep K₅
  have D₅ := D.keep F₅.keep
  obtain ⟨p, e, hp⟩ := (hb.keep K₅).mb
  refine ⟨F₅.top T, p, _, _, _, _, _, _, e, hp, D₅.O.b, by omega, fun r₆ s₆ g₆ => ?_⟩
  have F₆ := F₅.step g₆.keep
  have X₆ := X₅.keep g₆.keep
  have D₆ := D.keep F₆.keep
  have G₆ := FlatT.of g₆
  refine ev_members (k := k + 2) hA (F₆.name ?_)
  obtain ⟨p, e, hp⟩ := X₆.th.mb
  refine ⟨F₆.top T, p, _, _, _, _, _, _, e, hp, D₆.O.b, by omega, fun r₇ s₇ g₇ => ?_⟩
  refine ne_flat some_fn hA G₆ (FlatT.of g₇) ⟨rfl, rfl, isTrue_or_nil ⟨rfl, hQ _ ?_⟩⟩
  exact K₅.trans (g₆.keep.trans g₇.keep)
end
end Mine
end
section
open PySem PySem.W PySem.W.X PyProof.Rows PySem.Calls PySem.Spec PySem.SeqAt
/-! Side7 -/
namespace Mine
set_option maxRecDepth 100000
set_option maxHeartbeats 0

section
variable {w : World} {A : Around} {s s' s₀ : Shared} {E : Value → Shared → Prop} {k : Nat} {L V GA MA TA r : Addr} {h o : HP} {f : FP} {ix : Int} {g : Nat → Nat → Bool} {K N nu : Nat} {tk tn tu : Tok} {l lc : List (Str × Value)} {Q : Flow → Shared → Prop} {pv sv cv tv av bv v u : Value}
abbrev lR (u v av bv tv : Value) (V : Addr) (K N : Nat) (tk tn : Tok) : List (Str × Value) := (Str.ofString "raw", u) :: (Str.ofString "both", v) :: lT av bv tv V K N tk tn
theorem side_raw {st : Stmt} (hst : st = lst w.params 9) (hA : AOk (k + 5) A) (T : TopS w s₀) (D : SideIn w s₀ h o f r ix g K N GA MA TA) (F : Fk s₀ (sE w.params L) (sO w.params L) ((Str.ofString "both", v) :: lT av bv tv h.V K N tk tn) (cC cv sv pv GA MA TA nu tu) s)
    (hn : nu < 2 ^ K) (X : Turn w s L h o g K N nu pv sv cv tv av bv)
    (hQ : ∀ u s', Fk s₀ (sE w.params L) (sO w.params L) (lR u v av bv tv h.V K N tk tn) (cC cv sv pv GA MA TA nu tu) s' → PRx (sX w.params L) s' u h.B (dN h o nu) o.B (pN o nu) → Sol (sX w.params L) s s' → Q .next s') :
    wpAny (model pw w) A (exec st (sE w.params L)) Q E s := by
  subst hst
  have D₁ := D.keep F.keep
  have T₁ := F.top T
  have fit := grid_fit D.G D.k0 D.n0
  have hn' : nu < 2 ^ o.rs.length := by rw [D.G.ok]; exact hn
  refine wpAny_Assign_Name ?_
  refine meth_1 (F.name (method_own T₁ D₁.H.v.ins D₁.H.v.dc D₁.P.v3 rfl (by kernel_rfl) ?_))
  have F₂ := F.step (toks_keep (tk := s.toks + 1))
  have D₂ := D.keep F₂.keep
  have T₂ := F₂.top T
  refine args_c (F₂.cname (args_0 ⟨kp_clos D₂.P.o3, ?_⟩))
  refine fn_doubleprime (k := k + 2) hA T₂ D₂.H D₂.O D₂.P fit (.inl ⟨tu, rfl⟩) hn' fun a s₃ ga => ?_
  refine (F₂.step ga.keep).store T fun s₅ F₅ S₅ => hQ a s₅ F₅ ((F₂.pr ga).sol S₅) ((toks_keep.trans ga.keep).solX.trans S₅)

theorem side_if4 {st : Stmt} (hst : st = lst w.params 10) (hA : AOk (k + 5) A) (T : TopS w s₀) (D : SideIn w s₀ h o f r ix g K N GA MA TA) (F : Fk s₀ (sE w.params L) (sO w.params L) (lR u v av bv tv h.V K N tk tn) (cC cv sv pv GA MA TA nu tu) s)
    (hn : nu < 2 ^ K) (X : Turn w s L h o g K N nu pv sv cv tv av bv) (hQ : ∀ s', Keep s s' → Q .next s') :
    wpAny (model pw w) A (exec st (sE w.params L)) Q E s := by
  subst hst
  have D₁ := D.keep F.keep
  have T₁ := F.top T
  have h4 := D.k4
  have n4 := D.n4
  have eN : o.ys.length = N := D.G.on
  have eK : h.ys.length = K := D.G.hk
  have fit := grid_fit D.G D.k0 D.n0
  have hn' : nu < 2 ^ o.rs.length := by rw [D.G.ok]; exact hn
  -- side.prime(number).members() != there.members()
  refine if_f (or_f (cmp_f (ev_members (k := k + 2) hA (meth_1 (F.name (method_own T₁ D₁.H.v.ins D₁.H.v.dc D₁.P.v1 rfl (by kernel_rfl) ?_))))))
  have F₂ := F.step (toks_keep (tk := s.toks + 1))
  have D₂ := D.keep F₂.keep
  have T₂ := F₂.top T
  refine args_c (F₂.cname (args_0 ⟨kp_clos D₂.P.o1, ?_⟩))
  refine fn_prime (k := k + 2) hA T₂ D₂.H D₂.O D₂.P fit (.inl ⟨tu, rfl⟩) hn' fun a s₃ ga => ?_
  have F₃ := F₂.step ga.keep
  have K₃ : Keep s s₃ := toks_keep.trans ga.keep
  have X₃ := X.keep K₃
  have D₃ := D.keep F₃.keep
  obtain ⟨p, e, hp⟩ := (F₂.mb ga).mb
  refine ⟨F₃.top T, p, _, _, _, _, _, _, e, hp, D₃.O.b, by omega, fun r₄ s₄ g₄ => ?_⟩
  have F₄ := F₃.step g₄.keep
  have X₄ := X₃.keep g₄.keep
  have D₄ := D.keep F₄.keep
  refine ev_members (k := k + 2) hA (F₄.name ?_)
  obtain ⟨p, e, hp⟩ := X₄.th.mb
  refine ⟨F₄.top T, p, _, _, _, _, _, _, e, hp, D₄.O.b, by omega, fun r₅ s₅ g₅ => ?_⟩
  have F₅ := F₄.step g₅.keep
  have X₅ := X₄.keep g₅.keep
  have T₅ := F₅.top T
  have D₅ := D.keep F₅.keep
  refine ne_flat some_fn hA (FlatT.of g₄) (FlatT.of g₅) ⟨rfl, rfl, ?_⟩
  -- side.double(number).members() != back.members()
  refine or_f (cmp_f (ev_members (k := k + 2) hA (meth_1 (F₅.name (method_own T₅ D₅.H.v.ins D₅.H.v.dc D₅.P.v2 rfl (by kernel_rfl) ?_)))))
  have F₆ := F₅.step (toks_keep (tk := s₅.toks + 1))
  have D₆ := D.keep F₆.keep
  have T₆ := F₆.top T
  refine args_c (F₆.cname (args_0 ⟨kp_clos D₆.P.o2, ?_⟩))
  refine fn_double (k := k + 2) hA T₆ D₆.H D₆.O D₆.P fit (.inl ⟨tu, rfl⟩) hn' fun b s₇ gb => ?_
  have F₇ := F₆.step gb.keep
  have K₇ : Keep s₅ s₇ := toks_keep.trans gb.keep
  have X₇ := X₅.keep K₇
  have D₇ := D.keep F₇.keep
  obtain ⟨p, e, hp⟩ := (F₆.mb gb).mb
  refine ⟨F₇.top T, p, _, _, _, _, _, _, e, hp, D₇.H.b, by omega, fun r₈ s₈ g₈ => ?_⟩
  have F₈ := F₇.step g₈.keep
  have X₈ := X₇.keep g₈.keep
  have D₈ := D.keep F₈.keep
  refine ev_members (k := k + 2) hA (F₈.name ?_)
  obtain ⟨p, e, hp⟩ := X₈.bk.mb
  refine ⟨F₈.top T, p, _, _, _, _, _, _, e, hp, D₈.H.b, by omega, fun r₉ s₉ g₉ => ?_⟩
  refine ne_flat some_fn hA (FlatT.of g₈) (FlatT.of g₉) ⟨rfl, rfl, isTrue_or_nil ⟨rfl, hQ _ ?_⟩⟩
  exact (K₃.trans (g₄.keep.trans g₅.keep)).trans (K₇.trans (g₈.keep.trans g₉.keep))

theorem side_if5 {st : Stmt} (hst : st = lst w.params 11) (hA : AOk (k + 5) A) (T : TopS w s₀) (D : SideIn w s₀ h o f r ix g K N GA MA TA) (F : Fk s₀ (sE w.params L) (sO w.params L) (lR u v av bv tv h.V K N tk tn) (cC cv sv pv GA MA TA nu tu) s)
    (X : Turn w s L h o g K N nu pv sv cv tv av bv) (B : PRx (sX w.params L) s u h.B (dN h o nu) o.B (pN o nu)) (hQ : ∀ s', Keep s s' → Q .next s') :
    wpAny (model pw w) A (exec st (sE w.params L)) Q E s := by
  subst hst
  have D₁ := D.keep F.keep
  have T₁ := F.top T
  have h4 := D.k4
  have n4 := D.n4
  have eN : o.ys.length = N := D.G.on
  have eK : h.ys.length = K := D.G.hk
  obtain ⟨t, a, b, q, rfl, htX, ht, ha, hb⟩ := B
  -- raw[0].iter_set() != closed
  refine if_f (or_f (cmp_f (ev_iter (k := k + 4) hA (Subscript_ (F.name (wpAny_Constant_int (sub_tup (i := 0) ht (by simp) rfl ?_)))))))
  have K₂ : Keep s { s with toks := s.toks + 1 } := toks_keep
  have F₂ := F.step K₂
  have X₂ := X.keep K₂
  have D₂ := D.keep F₂.keep
  obtain ⟨p, e, hp⟩ := (ha.keep K₂).mb
  refine ⟨F₂.top T, p, _, _, _, _, _, _, e, hp, D₂.H.b, by omega, fun r₃ s₃ g₃ => ?_⟩
  have F₃ := F₂.step g₃.keep
  have X₃ := X₂.keep g₃.keep
  rw [eK, closed_is D.G] at g₃
  refine F₃.cname (ne_li hA g₃ X₃.cl ⟨rfl, rfl, ?_⟩)
  have K₃ := K₂.trans g₃.keep
  -- raw[1].iter_set() != shared
  refine or_f (cmp_f (ev_iter (k := k + 4) hA (Subscript_ (F₃.name (wpAny_Constant_int (sub_tup (i := 1) (K₃.old _ _ (solid_cls rfl) ht) (by simp) rfl ?_))))))
  have K₅ : Keep s { s₃ with toks := s₃.toks + 1 } := K₃.trans toks_keep
  have F₅ := F.step K₅
  have X₅ := X.keep K₅
  have D₅ := D.keep F₅.keep
  obtain ⟨p, e, hp⟩ := (hb.keep K₅).mb
  refine ⟨F₅.top T, p, _, _, _, _, _, _, e, hp, D₅.O.b, by omega, fun r₆ s₆ g₆ => ?_⟩
  have F₆ := F₅.step g₆.keep
  have X₆ := X₅.keep g₆.keep
  rw [eN, shared_is D.G] at g₆
  refine F₆.cname (ne_li hA g₆ X₆.sh ⟨rfl, rfl, isTrue_or_nil ⟨rfl, hQ _ ?_⟩⟩)
  exact K₅.trans g₆.keep
end
end Mine
end
section
open PySem PySem.W PySem.W.X PyProof.Rows PySem.Calls PySem.Spec PySem.SeqAt
/-! Side8 -/
namespace Mine
set_option maxRecDepth 100000
set_option maxHeartbeats 0

section
variable {w : World} {A : Around} {s s' s₀ : Shared} {E : Value → Shared → Prop} {k : Nat} {L V GA MA TA r : Addr} {h o : HP} {f : FP} {ix : Int} {g : Nat → Nat → Bool} {K N nu : Nat} {tk tn tu : Tok} {l lc : List (Str × Value)} {Q : Flow → Shared → Prop} {pv sv cv tv av bv v u : Value}
theorem lookup_skip {l' pre : List (Str × Value)} (ks kp : List Str) (h1 : l'.map (·.1) = ks) (h2 : pre.map (·.1) = kp) (h0 : ks.all (fun p => !kp.contains p) = true) : ∀ x v, l'.lookup x = some v → (pre ++ l').lookup x = some v := fun x v e => by
  have h : l'.all (fun p => !(pre.map (·.1)).contains p.1) = true := by
    rw [← h1, ← h2, List.all_map] at h0
    exact h0
  have hx : ∀ {q : List (Str × Value)}, (q.map (·.1)).contains x = false → (q ++ l').lookup x = l'.lookup x := by
    intro q
    induction q with
    | nil => intro _; rfl
    | cons p q ih =>
      intro hc
      rw [List.map_cons, List.contains_cons, Bool.or_eq_false_iff] at hc
      rw [List.cons_append, List.lookup_cons, hc.1]
      exact ih hc.2
  have hm : (x, v) ∈ l' := by
    obtain ⟨p, hp⟩ : ∃ p, p = (x, v) := ⟨_, rfl⟩
    clear h hx hp h1 h0
    induction l' with
    | nil => cases e
    | cons q r ih =>
      rw [List.lookup_cons] at e
      cases hq : x == q.1 with
      | true => rw [hq] at e; cases e; rw [beq_iff_eq.mp hq]; exact List.mem_cons_self
      | false => rw [hq] at e; exact List.mem_cons_of_mem _ (ih e)
  have := List.all_eq_true.mp h _ hm
  rw [hx (by simpa using this)]
  exact e
abbrev gB (GA MA TA : Addr) : List (Str × Value) := [(Str.ofString "grid", .ref GA), (Str.ofString "mine", .ref MA), (Str.ofString "theirs", .ref TA)]
theorem lR_less : ∀ x z, (lB V K N tk tn).lookup x = some z → (lR u v av bv tv V K N tk tn).lookup x = some z := fun x z e => by
  have := lookup_skip (pre := [(Str.ofString "raw", u), (Str.ofString "both", v), (Str.ofString "there", av), (Str.ofString "back", bv), (Str.ofString "thing", tv)]) [Str.ofString "k", Str.ofString "n", Str.ofString "side"] [Str.ofString "raw", Str.ofString "both", Str.ofString "there", Str.ofString "back", Str.ofString "thing"] rfl rfl (by decide +kernel) x z e
  simpa only [List.cons_append, List.nil_append] using this
theorem cC_less : ∀ x z, (gB GA MA TA).lookup x = some z → (cC cv sv pv GA MA TA nu tu).lookup x = some z := fun x z e => by
  have := lookup_skip (pre := [(Str.ofString "closed", cv), (Str.ofString "shared", sv), (Str.ofString "places", pv), (Str.ofString "number", .int (nu : Int) tu)]) [Str.ofString "grid", Str.ofString "mine", Str.ofString "theirs"] [Str.ofString "closed", Str.ofString "shared", Str.ofString "places", Str.ofString "number"] rfl rfl (by decide +kernel) x z e
  simpa only [List.cons_append, List.nil_append] using this
theorem side_turn {tt : Tok} (hA : AOk (k + 5) A) (T : TopS w s₀) (D : SideIn w s₀ h o f r ix g K N GA MA TA) (hn : nu < 2 ^ K) (F : Fk s₀ (sE w.params L) (sO w.params L) (lB h.V K N tk tn) (gB GA MA TA) s) :
    wpAny (model pw w) A (storeName (sE w.params L) (Str.ofString "number") (.int (nu : Int) tt)) (fun _ s₁ => wpAny (model pw w) A (execs [lst w.params 0, lst w.params 1, lst w.params 2, lst w.params 3, lst w.params 4, lst w.params 5, lst w.params 6, lst w.params 7, lst w.params 8, lst w.params 9, lst w.params 10, lst w.params 11] (sE w.params L))
      (fun f s' => f = .next ∧ Fk s₀ (sE w.params L) (sO w.params L) (lB h.V K N tk tn) (gB GA MA TA) s' ∧ Sol (sX w.params L) s s') (fun _ _ => False) s₁) (fun _ _ => False) s := by
  generalize g0 : lst w.params 0 = t0
  generalize g1 : lst w.params 1 = t1
  generalize g2 : lst w.params 2 = t2
  generalize g3 : lst w.params 3 = t3
  generalize g4 : lst w.params 4 = t4
  generalize g5 : lst w.params 5 = t5
  generalize g6 : lst w.params 6 = t6
  generalize g7 : lst w.params 7 = t7
  generalize g8 : lst w.params 8 = t8
  generalize g9 : lst w.params 9 = t9
  generalize g10 : lst w.params 10 = t10
  generalize g11 : lst w.params 11 = t11
  refine F.storeC T fun s₁ F₁ S₁ => ?_
  have F₁' : Fk s₀ (sE w.params L) (sO w.params L) (lB h.V K N tk tn) (cB GA MA TA nu tt) s₁ := F₁
  refine wpAny_execs_cons (side_places g0.symm (k := k + 4) hA T (by have := D.k4; omega) F₁' fun pv s₂ F₂ p₂ S₂ => ?_)
  refine wpAny_execs_cons (side_shared g1.symm (k := k + 4) hA T D F₂ p₂ fun sv s₃ F₃ h₃ S₃ => ?_)
  refine wpAny_execs_cons (side_closed g2.symm (k := k + 4) hA T D F₃ h₃ fun cv s₄ F₄ c₄ S₄ => ?_)
  refine wpAny_execs_cons (side_thing g3.symm (k := k + 4) hA T D F₄ fun tv s₅ F₅ t₅ S₅ => ?_)
  refine wpAny_execs_cons (side_two g4.symm hA T D F₅ hn t₅ fun a b s₆ F₆ a₆ b₆ S₆ => ?_)
  have X₆ : Turn w s₆ L h o g K N nu pv sv cv tv a b := ⟨(((p₂.sol S₃).sol S₄).sol S₅).sol S₆, ((h₃.sol S₄).sol S₅).sol S₆, (c₄.sol S₅).sol S₆, t₅.sol S₆, a₆, b₆⟩
  refine wpAny_execs_cons (side_if1 g5.symm hA T D F₆ X₆ fun s₇ K₇ => ?_)
  refine wpAny_execs_cons (side_if2 g6.symm hA T D (F₆.step K₇) (X₆.keep K₇) fun s₈ K₈ => ?_)
  have X₈ := (X₆.keep K₇).keep K₈
  refine wpAny_execs_cons (side_both g7.symm hA T D ((F₆.step K₇).step K₈) hn X₈ fun v s₉ F₉ B₉ S₉ => ?_)
  refine wpAny_execs_cons (side_if3 g8.symm hA T D F₉ (X₈.sol S₉) B₉ fun sA KA => ?_)
  have XA := (X₈.sol S₉).keep KA
  refine wpAny_execs_cons (side_raw g9.symm hA T D (F₉.step KA) hn XA fun u sB FB BB SB => ?_)
  refine wpAny_execs_cons (side_if4 g10.symm hA T D FB hn (XA.sol SB) fun sC KC => ?_)
  refine wpAny_execs_cons (side_if5 g11.symm hA T D (FB.step KC) ((XA.sol SB).keep KC) (BB.sol KC.solX) fun sD KD => ?_)
  refine wpAny_execs_nil ⟨rfl, ((FB.step KC).step KD).less lR_less cC_less, ?_⟩
  exact S₁.trans (S₂.trans (S₃.trans (S₄.trans (S₅.trans (S₆.trans (K₇.solX.trans (K₈.solX.trans (S₉.trans (KA.solX.trans (SB.trans (KC.solX.trans KD.solX)))))))))))

theorem side_c {Q : Value → Shared → Prop} (hA : AOk (k + 6) A) (T : TopS w s) (D : SideIn w s h o f r ix g K N GA MA TA) (hQ : ∀ s', Keep s s' → Q (.bool true) s') :
    wpAny (model pw w) A (call (.ref 256) [.ref h.V, .ref GA, .ref MA, .ref TA]) Q E s := by
  refine enter_cells (binds := [(Str.ofString "side", .ref h.V), (Str.ofString "grid", .ref GA), (Str.ofString "mine", .ref MA), (Str.ofString "theirs", .ref TA)]) hA T (T.kin 256 _ rfl) rfl rfl
    ⟨_, _, _, _, rfl, T.kin _ _ rfl, rfl, rfl⟩ rfl rfl (fun n x hx => ?_) (fun n => by simp [cellsFrom]; decide) ?_
  · simp only [List.mem_cons, List.not_mem_nil, or_false] at hx
    rcases hx with rfl | rfl | rfl | rfl
    · exact .inl rfl
    · exact .inr ⟨rfl, rfl⟩
    · exact .inr ⟨rfl, rfl⟩
    · exact .inr ⟨rfl, rfl⟩
  intro L s₁ hA₁ T₁ F₁ _
  show wpAny _ (A.deeper (sE w.params L)) (execs [stAt w.params 216 0, stAt w.params 216 1, stAt w.params 216 2] (sE w.params L)) _ _ _
  change AOk _ (A.deeper (sE w.params L)) at hA₁
  have D₁ := D.keep F₁.keep
  have Fa : Fk s (sE w.params L) (sO w.params L) [(Str.ofString "side", .ref h.V)] (gB GA MA TA) s₁ := by
    refine ⟨_, _, F₁, fun x v e => ?_, fun x v e => ?_⟩
    · simp only [List.lookup_cons, List.lookup_nil] at e
      split at e
      · cases e; rename_i hx; rw [beq_iff_eq.mp hx]; rfl
      · cases e
    · simp only [List.lookup_cons, List.lookup_nil] at e
      split at e
      · cases e; rename_i hx; rw [beq_iff_eq.mp hx]; rfl
      · split at e
        · cases e; rename_i hx; rw [beq_iff_eq.mp hx]; rfl
        · split at e
          · cases e; rename_i hx; rw [beq_iff_eq.mp hx]; rfl
          · cases e
  refine wpAny_execs_cons (store2 (x := Str.ofString "k") (y := Str.ofString "n") hA₁ ?_ rfl rfl)
  obtain ⟨vs, n, t, bs, m, ha, hl, hv, ht, hb⟩ := grid_row D₁.gr D₁.k0
  obtain ⟨hx, hl'⟩ := row_item hb D₁.n0
  have k4 := D.k4
  have n4 := D.n4
  refine wpAny_Tuple (wpAny_items_cons ?_)
  refine call_1 (nm_top T₁ (v := .builtin "len") (args_c (Fa.cname (args_0 ⟨kp_builtin, ?_⟩))))
  refine call_len_list (items := vs.toArray) ⟨_, ha, rfl, _, rfl⟩ (by rw [List.size_toArray]; omega) ?_
  rw [List.size_toArray, hl]
  have K₂ : Keep s₁ { s₁ with toks := s₁.toks + 1 + 1 } := toks_keep
  have F₂ := Fa.step K₂
  refine wpAny_items_cons ?_
  refine call_1 (nm_top (T₁.keep K₂) (v := .builtin "len") (args_c (Subscript_ (F₂.cname (wpAny_Constant_int (sub_list (i := 0) (K₂.old _ _ (solid_cls rfl) ha) (by omega) hv (args_0 ⟨kp_builtin, ?_⟩)))))))
  refine call_len_list (items := bs.toArray) ⟨_, ht, rfl, _, rfl⟩ (by rw [List.size_toArray]; omega) ?_
  rw [List.size_toArray, hl']
  refine wpAny_items_nil ⟨by rw [sizeLine_eq]; simp, ?_⟩
  refine ⟨_, _, _, 0, rfl, Heap.get?_push_size _ rfl, fun s₄ K₄ => ?_⟩
  have K₄' : Keep s₁ s₄ := (toks_keep.trans (push_keep (tk := s₁.toks + 1 + 1 + 1 + 1 + 1))).trans K₄
  refine (Fa.step K₄').store T fun s₅ F₅ S₅ => F₅.store T fun s₆ F₆ S₆ => ?_
  refine wpAny_execs_cons (for_range (n := 2 ^ K) (body := [lst w.params 0, lst w.params 1, lst w.params 2, lst w.params 3, lst w.params 4, lst w.params 5, lst w.params 6, lst w.params 7, lst w.params 8, lst w.params 9, lst w.params 10, lst w.params 11]) T F₆ ?_ (fun i t s₇ hi F₇ => side_turn (k := k) hA₁ T D hi F₇) fun s₇ F₇ => ?_)
  · refine call_1 (nm_top (F₆.top T) (v := .type "range") (args_c (wpAny_BinOp (wpAny_Constant_int ((F₆.step toks_keep).name (v := .int (K : Int) _) ?_)))))
    refine lshift_int_small (by omega) (by omega) (by decide) (args_0 ⟨kp_type, ?_⟩)
    have e : (1 : Int) * 2 ^ ((K : Nat) : Int).toNat = ((2 ^ K : Nat) : Int) := by rw [Int.one_mul, Int.toNat_natCast]; norm_cast
    rw [e]
    have h2 : 2 ^ K ≤ 2 ^ 4 := Nat.pow_le_pow_right (by decide) k4
    have K₈ : Keep s₆ { s₆ with toks := s₆.toks + 1 + 1 } := toks_keep
    exact wpAny_mono (srcx_range hA₁ ((F₆.top T).keep K₈) (by omega)) (fun xv s₈ h₈ => wpAny_mono h₈ (fun it s₉ h₉ => by
      obtain ⟨I, St, e, W, st, hI, K⟩ := h₉
      exact ⟨I, St, e, W, st, hI, K₈.trans K⟩) fun _ _ z => z) fun _ _ z => z
  · exact wpAny_execs_cons (wpAny_Return_some (wpAny_Constant_bool (hQ s₇ F₇.keep)))
end
end Mine
end
section
open PySem PySem.W PySem.W.X PyProof.Rows PySem.Calls PySem.Spec PySem.SeqAt
/-! Whole1 -/
namespace Mine
set_option maxRecDepth 100000
set_option maxHeartbeats 0

section
variable {w : World} {S : Shared} {r d : Addr} {x y : Value} {n : Nat} {t : Tok} {E Q : Value → Shared → Prop}
set_option hygiene false in
local macro_rules | `(tactic| x_close) => `(tactic| first | exact hQ _ _ (Keep.refl _) | exact hQ _ _ toks_keep | exact hQ _ _ (mem_keep (by assumption)))
theorem rellen (KX : Frag.In (KF w.params) S.heap) (h1 : S.heap.get? r = some (relObj d x y n)) (hQ : ∀ (t : Tok) (s' : Shared), Keep S s' → Q (.int 2 t) s') :
   wpAny (model pw w) Amax (call (.builtin "len") [.ref r] []) Q E S := by
  unfold relObj at h1
  x_run
end
section
variable {w : World} {A : Around} {s : Shared} {E : Value → Shared → Prop} {k : Nat} {r d : Addr} {x y v : Value} {n i : Nat} {t : Tok}
theorem tg_kind : builtinKind "tuple.__getitem__" = some .slot := by decide +kernel
theorem tg_split : splitId "tuple.__getitem__" = some ("tuple", "__getitem__") := by decide +kernel
/-- pair[i] -/
theorem rel_get {Q : Value → Shared → Prop} (T : TopS w s) (hr : s.heap.get? r = some (relObj d x y n)) (hi : i < 2) (hx : [x, y][i]? = some v) (hQ : Q v s) :
    wpAny (model pw w) A (getItem (.ref r) (.int (i : Int) t)) Q E s := by
  have t1 : Looks (model pw w) s.heap (typeOf (.ref r)) (.ref 235) := (Looks.ld hr).andThen .now
  have t2 : Looks (model pw w) s.heap (seqItemTypes.anyM fun n => isSubtype (.ref 235) (.type n)) false := pk T (by kernel_rfl)
  have t3 : Looks (model pw w) s.heap (typeLookup (.ref 235) "__getitem__") (some (.builtin "tuple.__getitem__")) := pk T (by kernel_rfl)
  have t4 : Looks (model pw w) s.heap (isInstance (.ref r) (.type "tuple")) true := t1.andThen (pk T (by kernel_rfl))
  unfold getItem
  refine wpAny_holding (wpAny_bind ?_)
  unfold sequenceKey
  refine wpAny_bind (t1.here ?_)
  dsimp only
  refine wpAny_bind (t2.here ?_)
  rw [if_pos (by decide)]
  refine wpAny_pure ?_
  unfold callSpecial? specialOf
  refine wpAny_bind (wpAny_bind (wpAny_bind (t1.here (t3.here ?_))))
  dsimp only
  refine wpAny_holding ?_
  rw [show bindSpecial (.builtin "tuple.__getitem__") (.ref r) = pure (.builtin "tuple.__getitem__", [.ref r]) from slot_tuple_getitem.bind _]
  refine wpAny_bind (wpAny_pure (wpAny_bind (wpAny_call ?_)))
  refine codeAny_call_builtin slot_tuple_getitem.plain entry_tuple_getitem (@check_slot (model pw w) _ _ _ "tuple.__getitem__" "tuple" "__getitem__" (.ref r) [.int (i : Int) t] [] _ tg_kind tg_split t4 (args_tuple_getitem _ _) ?_)
  show wpAny _ _ (Builtin.Tuple.tupleItemsOf (.ref r) >>= _) _ _ s
  unfold Builtin.Tuple.tupleItemsOf
  refine wpAny_bind (wpAny_bind (wpAny_seqItems (items := #[x, y]) hr rfl (wpAny_pure ?_)))
  refine wpAny_bind (wpAny_typeOf (typeIs_int s (i : Int) t) ?_)
  rw [if_neg (by decide)]
  refine wpAny_bind (wpAny_specialOf (T := "int") (typeIs_int s (i : Int) t) int_index ?_)
  rw [if_neg (by simp)]
  refine wpAny_bind (wpAny_of_eq (a := (i : Int)) rfl ?_)
  rw [if_neg (by simp only [Bool.or_eq_true, decide_eq_true_eq]; omega)]
  have hj : seqIndex? (i : Int) (#[x, y] : Array Value).size = some i := by
    unfold seqIndex?
    simp
    omega
  have hx' : (#[x, y] : Array Value)[i]? = some v := by simpa using hx
  simp only [hj, Option.bind_some, hx']
  exact wpAny_pure (wpAny_pure (wpAny_pure hQ))
theorem rel_sub {a slice : Expr} {Q : Value → Shared → Prop} (T : TopS w s) (hr : s.heap.get? r = some (relObj d x y n)) (hi : i < 2) (hx : [x, y][i]? = some v) (hQ : Q v s)
    (hs : subscripted slice false (.ref r) (.int (i : Int) t) = operate [.ref r, .int (i : Int) t] (getItem (.ref r) (.int (i : Int) t)) := by with_unfolding_all rfl) :
    wpAny (model pw w) A (subscriptTail a slice (.ref r) (.int (i : Int) t)) Q E s := by
  have t1 : Looks (model pw w) s.heap (typeOf (.ref r)) (.ref 235) := (Looks.ld hr).andThen .now
  have t3 : Looks (model pw w) s.heap (typeLookup (.ref 235) "__getitem__") (some (.builtin "tuple.__getitem__")) := pk T (by kernel_rfl)
  unfold subscriptTail getitemInPython specialOf
  refine wpAny_bind (wpAny_bind (wpAny_bind (t1.here (t3.here ?_))))
  dsimp only
  refine wpAny_pure ?_
  refine wpAny_bind ?_
  rw [hs]
  exact wpAny_operating (rel_get (v := v) T hr hi hx (wpAny_bind (wpAny_letTemporaryGo (wpAny_pure hQ))))
end
end Mine
end
section
open PySem PySem.W PySem.W.X PyProof.Rows PySem.Calls PySem.Spec PySem.SeqAt
/-! Whole2 -/
namespace Mine
set_option maxRecDepth 100000
set_option maxHeartbeats 0

section
variable {w : World} {A : Around} {s s' sb : Shared} {E : Value → Shared → Prop} {env : Env} {k : Nat} {v : Value}
/-- a list of tuples -/
def TabP (s : Shared) (v : Value) (is : List Nat) (P : Nat → Addr → List Value → Prop) : Prop := ∃ D vs m, v = .ref D ∧ s.heap.get? D = some (listObj vs m) ∧ Paired (fun i v => ∃ t bs m', v = .ref t ∧ s.heap.get? t = some (tupObj bs m') ∧ P i t bs) is vs
theorem TabP.keep {is : List Nat} {P : Nat → Addr → List Value → Prop} (h : TabP s v is P) (K : Keep s s') : TabP s' v is P :=
  let ⟨D, vs, m, e, a, p⟩ := h; ⟨D, vs, m, e, K.old _ _ (solid_cls rfl) a, pimp (fun i v ⟨t, bs, m', e1, e2, e3⟩ => ⟨t, bs, m', e1, K.old _ _ (solid_cls rfl) e2, e3⟩) p⟩
theorem TabP.mono {is : List Nat} {P P' : Nat → Addr → List Value → Prop} (h : TabP s v is P) (hP : ∀ i t bs m, s.heap.get? t = some (tupObj bs m) → P i t bs → P' i t bs) : TabP s v is P' :=
  let ⟨D, vs, m, e, a, p⟩ := h; ⟨D, vs, m, e, a, pimp (fun i v ⟨t, bs, m', e1, e2, e3⟩ => ⟨t, bs, m', e1, e2, hP i t bs m' e2 e3⟩) p⟩
theorem ell_tabp {F : Nat → Nat → Value → Prop} {js : Nat → List Nat} : ∀ {is : List Nat} {ys : List Value} {ls : Objs}, Ell (fun i => TupG (F i) (js i)) is ys ls → Has ls s.heap → NewL sb ls →
    Paired (fun i v => ∃ t bs m', v = .ref t ∧ s.heap.get? t = some (tupObj bs m') ∧ (sb.heap.get? t = none ∧ Paired (F i) (js i) bs)) is ys
  | _, _, _, .nil, _, _ => .nil
  | _, _, _, .cons g t, H, N => by
    obtain ⟨a, bs, n, rfl, rfl, hp⟩ := g
    exact .cons ⟨a, bs, n, rfl, H.left.head, N _ (List.mem_append_left _ List.mem_cons_self), hp⟩ (ell_tabp t H.right fun p hp => N p (List.mem_append_right _ hp))
theorem TabP.of {F : Nat → Nat → Value → Prop} {js : Nat → List Nat} {is : List Nat} (g : Gives sb (ListG (fun i => TupG (F i) (js i)) is) v s) : TabP s v is fun i t bs => sb.heap.get? t = none ∧ Paired (F i) (js i) bs := by
  obtain ⟨l, ⟨D, ys, n, ls, rfl, rfl, hE⟩, H, N, K⟩ := g
  exact ⟨D, ys, n, rfl, H.head, ell_tabp hE H.tail fun p hp => N p (List.mem_cons_of_mem _ hp)⟩
theorem TabAt.tabp {D : Addr} {f : Nat → Nat → Bool} {kk n : Nat} (h : TabAt s D f kk n) : TabP s (.ref D) (List.range kk) fun i t bs => Paired (BoolT (f i)) (List.range n) bs := let ⟨vs, m, e, p⟩ := h; ⟨D, vs, m, rfl, e, p⟩
/-- two tables alike -/
theorem ne_tabs {a b : Value} {is : List Nat} {P P' : Nat → Addr → List Value → Prop} {Q : Value → Shared → Prop} (hA : AOk k A) (ha : TabP s a is P) (hb : TabP s b is P')
    (he : ∀ i t bs t' bs', i ∈ is → P i t bs → P' i t' bs' → t ≠ t' ∧ bs.length = bs'.length ∧ ∀ (j : Nat) (h1 : j < bs.length) (h2 : j < bs'.length), EqAt A.in1.in1 s bs[j] bs'[j] true) (h : Q (.bool false) s) :
    wpAny (model pw w) A (compareOp .NotEq a b) Q E s := by
  obtain ⟨D, vs, m, rfl, hD, p⟩ := ha
  obtain ⟨D', vs', m', rfl, hD', p'⟩ := hb
  have hu := hA.cline
  have e1 := p.length
  have e2 := p'.length
  refine EqBoolInt.of_rcne (RcNeAt.lists (e := fun _ => true) (items := vs.toArray) (items2 := vs'.toArray) ⟨_, hD, rfl, _, rfl⟩ ⟨_, hD', rfl, _, rfl⟩ (by simp; omega) (by omega) fun j h1 h2 => ?_) ?_
  · simp only [List.size_toArray] at h1 h2
    obtain ⟨i, hi, t, bs, n, q1, q2, q3⟩ := paired_at p (j := j) (y := vs[j]) (by simp [h1])
    obtain ⟨i', hi', t', bs', n', r1, r2, r3⟩ := paired_at p' (j := j) (y := vs'[j]) (by simp [h2])
    rw [hi] at hi'; cases hi'
    obtain ⟨hne, hl, hE⟩ := he i t bs t' bs' (List.mem_of_getElem? hi) q3 r3
    have e : EqAt A.in1 s (.ref t) (.ref t') ((List.range (min bs.toArray.size bs'.toArray.size)).all (fun _ => true) && bs.toArray.size == bs'.toArray.size) :=
      EqAt.of_refs hne (RcAt.tuples (e := fun _ => true) ⟨_, q2, rfl, _, rfl⟩ ⟨_, r2, rfl, _, rfl⟩ (by show A.units + 1 < cLine; omega) fun j h1 h2 => by simpa using hE j (by simpa using h1) (by simpa using h2))
    rw [show ((List.range (min bs.toArray.size bs'.toArray.size)).all (fun _ => true) && bs.toArray.size == bs'.toArray.size) = true by simp [hl]] at e
    simpa [q1, r1] using e
  · rw [show (List.range vs.toArray.size).all (fun _ => true) = true by simp]
    exact h
theorem eq_same {A : Around} {F : Nat → Value → Prop} (hF : ∀ i x y, F i x → F i y → x = y) {js : List Nat} {bs bs' : List Value} (p : Paired F js bs) (p' : Paired F js bs') : bs.length = bs'.length ∧ ∀ (j : Nat) (h1 : j < bs.length) (h2 : j < bs'.length), EqAt A s bs[j] bs'[j] true := by
  obtain rfl := paired_fn hF p p'
  exact ⟨rfl, fun j _ _ => EqAt.same _⟩
theorem eq_intsF {A : Around} {js : List Nat} {bs bs' : List Value} (p : Paired IntF js bs) (p' : Paired IntF js bs') : bs.length = bs'.length ∧ ∀ (j : Nat) (h1 : j < bs.length) (h2 : j < bs'.length), EqAt A s bs[j] bs'[j] true := by
  refine ⟨by rw [← p.length, ← p'.length], fun j h1 h2 => ?_⟩
  obtain ⟨x, hx, t, e1⟩ := paired_at p (j := j) (y := bs[j]) (by simp [h1])
  obtain ⟨x', hx', t', e2⟩ := paired_at p' (j := j) (y := bs'[j]) (by simp [h2])
  rw [hx] at hx'; cases hx'
  have e : EqAt A s (.int (x : Int) t) (.int (x : Int) t') (((x : Nat) : Int) == ((x : Nat) : Int)) := EqAt.int_int _ _ _ _
  rw [beq_self_eq_true] at e
  simpa [e1, e2] using e
theorem bool_fn {f : Nat → Bool} : ∀ (i : Nat) (x y : Value), BoolT f i x → BoolT f i y → x = y := fun i x y a b => by rw [a, b]

/-- v[i] of a tuple, whatever v's expression is -/
theorem subR_tup {value slice : Expr} {a : Addr} {ys : List Value} {n i : Nat} {t : Tok} {x : Value} {Q : Value → Shared → Prop} (h : s.heap.get? a = some (tupObj ys n)) (hl : ys.length ≤ 1000) (hx : ys[i]? = some x) (hQ : Q x s)
    (hs : subscripted slice false (.ref a) (.int (i : Int) t) = operate [.ref a, .int (i : Int) t] (getItem (.ref a) (.int (i : Int) t)) := by with_unfolding_all rfl) :
    wpAny (model pw w) A (subscriptTail value slice (.ref a) (.int (i : Int) t)) Q E s := by
  have hlt := (List.getElem?_eq_some_iff.mp hx).1
  have hj : seqIndex? (i : Int) ys.toArray.size = some i := by
    unfold seqIndex?
    simp
    omega
  exact subscriptTail_builtinR (x := x) (T := "tuple") ⟨_, h, rfl⟩ slot_tuple_getitem.lookup (getItem_tuple ⟨_, h, rfl, n, rfl⟩ (by omega) (by omega) hj (by simpa using hx) ⟨rfl, hQ⟩) hs
theorem tab_row {D : Addr} {f : Nat → Nat → Bool} {kk n i : Nat} (h : TabAt s D f kk n) (hi : i < kk) : ∃ vs m t bs m', s.heap.get? D = some (listObj vs m) ∧ vs.length = kk ∧ vs[i]? = some (.ref t) ∧ s.heap.get? t = some (tupObj bs m') ∧ Paired (BoolT (f i)) (List.range n) bs := by
  obtain ⟨vs, m, e, p⟩ := h
  obtain ⟨x, y, hx, hy, t, bs, m', rfl, e2, e3⟩ := paired_get p i (by rw [List.length_range]; exact hi)
  obtain rfl := range_at hx
  exact ⟨vs, m, t, bs, m', e, by have := p.length; rw [List.length_range] at this; exact this.symm, hy, e2, e3⟩
/-- t[i][j] -/
theorem tab_item {e1 e2 e3 : Expr} {p1 p2 : Pos} {a : Addr} {f : Nat → Nat → Bool} {kk n i j : Nat} {t1 t2 : Tok} {Q : Value → Shared → Prop} (hG : TabAt s a f kk n) (hi : i < kk) (hj : j < n) (hK : kk ≤ 10) (hN : n ≤ 10)
    (h1 : wpAny (model pw w) A (eval e1 env) (fun v s' => v = .ref a ∧ s' = s) (fun _ _ => False) s) (h2 : wpAny (model pw w) A (eval e2 env) (fun v s' => v = .int ((i : Nat) : Int) t1 ∧ s' = s) (fun _ _ => False) s)
    (h3 : wpAny (model pw w) A (eval e3 env) (fun v s' => v = .int ((j : Nat) : Int) t2 ∧ s' = s) (fun _ _ => False) s) (hQ : Q (.bool (f i j)) s)
    (hs1 : subscripted e2 false (.ref a) (.int (i : Int) t1) = operate [.ref a, .int (i : Int) t1] (getItem (.ref a) (.int (i : Int) t1)))
    (hs2 : ∀ t, subscripted e3 false (.ref t) (.int (j : Int) t2) = operate [.ref t, .int (j : Int) t2] (getItem (.ref t) (.int (j : Int) t2))) :
    wpAny (model pw w) A (eval (.Subscript (.Subscript e1 e2 p1) e3 p2) env) Q E s := by
  obtain ⟨vs, m, t, bs, m', ha, hl, hv, ht, hb⟩ := tab_row hG hi
  obtain ⟨hx, hl'⟩ := row_item hb hj
  refine Subscript_ (Subscript_ (wpAny_mono h1 (fun v s' h => ?_) fun _ _ z => z.elim))
  obtain ⟨rfl, rfl⟩ := h
  refine wpAny_mono h2 (fun v s' h => ?_) fun _ _ z => z.elim
  obtain ⟨rfl, rfl⟩ := h
  refine subR_list ha (by omega) hv ?_ hs1
  refine wpAny_mono h3 (fun v s' h => ?_) fun _ _ z => z.elim
  obtain ⟨rfl, rfl⟩ := h
  exact subR_tup ht (by omega) hx hQ (hs2 t)
end
end Mine
end
section
open PySem PySem.W PySem.W.X PyProof.Rows PySem.Calls PySem.Spec PySem.SeqAt
/-! CompU -/
namespace Mine
set_option maxRecDepth 100000
section
variable {w : World} {A : Around} {s : Shared} {E : Value → Shared → Prop} {env : Env}
theorem comp_gen {sb : Shared} {use : Option (Value → Sem Unit)} {pos' : Pos} {elt iter : Expr} {x : Str} {px : Pos} {ifs : List Expr} {scope : Scope} {cl : List (Str × Addr)} {pos : Pos} {Q : Value → Shared → Prop} (T : TopS w sb) (p : Nat → Bool) (G : Nat → Value → Objs → Prop)
    (hclos : closureFor scope env = pure cl) (hcell : ∀ y ∈ scope.names, y.2 ≠ .cell) (hkind : scope.kind = .function)
    (hnames : ∀ y ∈ scope.names, y.2 = .local → scope.names.lookup y.1 = some .local) (hx : scope.names.lookup x = some .local)
    (h : wpAny (model pw w) A (eval iter env) (fun xv s₁ => wpAny (model pw w) A (pyIter xv) (fun it s₂ => ∃ I fp wr n P St, it = .ref I ∧ Wkr w A I fp wr n P St ∧ n ≤ sizeLine ∧ St 0 s₂.heap ∧
      (∀ b ∈ fp, b < s₂.heap.objs.size ∧ tabAddrs.contains b = false) ∧ (∀ b ∈ wr, sb.heap.get? b = none) ∧ Keep sb s₂ ∧
      (∀ C i v l s₃ m₃, i < n → P i v l → Has l s₃.heap → tabAddrs.contains C = false → s₃.heap.Ns C m₃ → m₃ x = some v → Keep sb s₃ → Imm wr s₂ s₃ →
        wpAny (model pw w) A (forIn ifs true fun c r => if r = true then do let ok ← isTrue c (compEnvC scope cl C env) (eval c (compEnvC scope cl C env)); pure (ForInStep.yield ok) else pure (ForInStep.yield r))
          (fun ok s₄ => ok = p i ∧ Keep s₃ s₄ ∧ (p i = true → wpAny (model pw w) A (eval elt (compEnvC scope cl C env)) (Gives s₃ (G i)) (fun _ _ => False) s₄)) (fun _ _ => False) s₃) ∧
      (∀ C m' v s' l, ListG G ((List.range n).filter p) v l → Has l s'.heap → NewL sb l → (∀ q ∈ l, q.1 ≠ C) → Keep sb s' → sb.heap.get? C = none → tabAddrs.contains C = false → s'.heap.Ns C m' → compPost (model pw w) A E use Q v C (.ok .next) s')) E s₁) E s)
    (hs : ∀ x, foldedSetIterable iter env x = pure x := by intro _; rfl) :
    wpAny (model pw w) A (comprehension (.ListComp elt [⟨.Name x px, iter, ifs, 0⟩] scope pos) scope env pos' (newList []) false (eval iter env) use) Q E s := by
  refine wpAny_comprehension_free (use := use) rfl hs hclos hkind hnames (wpAny_mono h (fun xv s₁ h₁ => wpAny_mono h₁ (fun it s₂ h₂ => ?_) fun _ _ e => e) fun _ _ e => e)
  obtain ⟨I, fp, wr, n, P, St, rfl, W, hsz, hst, hfp, hwr, hk₀, hq, hQ⟩ := h₂
  have T₂ := T.keep hk₀
  have offN : ∀ a, s₂.heap.get? a = none → tabAddrs.contains a = false := fun a e => off_of_none T₂ e
  have fresh : ∀ a, s₂.heap.objs.size ≤ a → s₂.heap.get? a = none := fun a ha => none_of_size ha
  refine wpAny_newObj_type (wpAny_newFunctionEnv hcell (by intro y hy; simp at hy) (fun h₁ hns₁ hsb₁ => ?_) hkind)
  dsimp only at hns₁ hsb₁ ⊢
  generalize hH2 : s₂.heap.push { cls := .type "list", dict := none, data := .seq ([] : List Value).toArray } = H2 at hns₁ hsb₁ ⊢
  have hC : H2.objs.size = s₂.heap.objs.size + 1 := by rw [← hH2, Heap.size_push]
  have hDC : s₂.heap.objs.size ≠ H2.objs.size := by rw [hC]; exact Nat.ne_of_lt (Nat.lt_succ_self _)
  have below : ∀ b, b < s₂.heap.objs.size → b ≠ H2.objs.size ∧ b ≠ s₂.heap.objs.size := fun b hb => ⟨by rw [hC]; exact Nat.ne_of_lt (Nat.lt_succ_of_lt hb), Nat.ne_of_lt hb⟩
  have old : ∀ b o, s₂.heap.get? b = some o → h₁.get? b = some o := fun b o e => hsb₁.extBut b o (below b (Heap.lt_size e)).1 (Heap.get?_push_of_some _ (hH2 ▸ Heap.get?_push_of_some _ e))
  have hacc : h₁.PlainList s₂.heap.objs.size #[] := ⟨_, hsb₁.extBut _ _ hDC (Heap.get?_push_of_some _ (hH2 ▸ Heap.get?_push_size _ rfl))⟩
  have hnD := fresh s₂.heap.objs.size (Nat.le_refl _)
  have hnC := fresh H2.objs.size (by rw [hC]; exact Nat.le_succ _)
  generalize hDe : s₂.heap.objs.size = D at *
  generalize hCe : H2.objs.size = C at *
  have hfp' : ∀ b ∈ fp, b < D := fun b hb => (hfp b hb).1
  have hDf : D ∉ fp := fun hm => Nat.lt_irrefl _ (hfp' _ hm)
  have hCf : C ∉ fp := fun hm => by have h0 : C < D := hfp' _ hm; rw [hC] at h0; exact Nat.lt_irrefl _ (Nat.lt_of_succ_lt h0)
  have hst₁ : St 0 h₁ := W.frame _ _ _ hst fun b _ o e => old b o e
  have hCw : C ∉ wr := fun h => hCf (W.sub _ h)
  have hDw : D ∉ wr := fun h => hDf (W.sub _ h)
  -- what may change
  let X : List Addr := C :: D :: wr
  have hX : ∀ a ∈ X, sb.heap.get? a = none := by
    intro a ha
    rcases List.mem_cons.mp ha with rfl | ha
    · exact none_back' T hk₀ hnC
    rcases List.mem_cons.mp ha with rfl | ha
    · exact none_back' T hk₀ hnD
    · exact hwr a ha
  have hXt : ∀ a ∈ X, tabAddrs.contains a = false := by
    intro a ha
    rcases List.mem_cons.mp ha with rfl | ha
    · exact offN _ hnC
    rcases List.mem_cons.mp ha with rfl | ha
    · exact offN _ hnD
    · exact (hfp a (W.sub a ha)).2
  have upd : ∀ {s' : Shared} {h' : Heap} {tk : Nat}, Keep sb s' → (∀ b o, b ∉ X → s'.heap.get? b = some o → h'.get? b = some o) → Keep sb { s' with heap := h', toks := tk } := fun k hk => Keep.upd T k hX hXt hk
  have imm : ∀ {s' : Shared} {h' : Heap} {tk : Nat}, Imm wr s₂ s' → (∀ b o, b ∉ X → s'.heap.get? b = some o → h'.get? b = some o) → Imm wr s₂ { s' with heap := h', toks := tk } := fun {s' h' tk} k hk a o ha so e =>
    hk a o (fun hm => by
      rcases List.mem_cons.mp hm with rfl | hm
      · rw [hnC] at e; cases e
      rcases List.mem_cons.mp hm with rfl | hm
      · rw [hnD] at e; cases e
      · exact ha hm) (k a o ha so e)
  have subX : ∀ {b : Addr}, b ∉ X → b ≠ C ∧ b ≠ D ∧ b ∉ wr := fun {b} h => ⟨fun e => h (e ▸ List.mem_cons_self), fun e => h (e ▸ List.mem_cons_of_mem _ List.mem_cons_self), fun e => h (List.mem_cons_of_mem _ (List.mem_cons_of_mem _ e))⟩
  -- the loop
  have loop : ∀ s₃ : Shared, s₃ = { s₂ with heap := h₁, toks := s₂.toks + ([] : List (Str × Value)).length } →
      codeAny (model pw w) A (.compLoop (.ListComp elt [⟨.Name x px, iter, ifs, 0⟩] scope pos) 0 (.ref I) (.ref D) (compEnvC scope cl C env))
        (compPost (model pw w) A E use Q (.ref D) C) s₃ := by
    rintro s₃ rfl
    refine codeAny_compLoop_tests (fun k s' => ∃ i m' ys ls, Keep sb s' ∧ Imm wr s₂ s' ∧ St i s'.heap ∧ s'.heap.PlainList D ys.toArray ∧ s'.heap.Ns C m' ∧ Ell G ((List.range i).filter p) ys ls ∧ Has ls s'.heap ∧
        NewL sb ls ∧ (∀ q ∈ ls, q.1 ∉ X) ∧ i ≤ n ∧ k = n + 1 - i) ?_ (n + 1)
      ⟨0, _, [], [], upd (s' := s₂) hk₀ fun b o hb e => old b o e, imm (s' := s₂) (fun _ _ _ _ e => e) fun b o hb e => old b o e, hst₁, hacc, hns₁, .nil, .nil, (fun _ e => nomatch e), (fun _ e => nomatch e), Nat.zero_le _, rfl⟩
    rintro k s' ⟨i, m', ys, ls, hk, hi', hst', hac, hn', hE, hH, hN, hoff, hin, rfl⟩
    have hCs : s'.heap.get? C ≠ none := by obtain ⟨o, _, _, e, _⟩ := hn'; rw [e]; exact nofun
    have hDs : s'.heap.get? D ≠ none := by obtain ⟨_, e⟩ := hac; rw [e]; exact nofun
    have hXs : ∀ a ∈ X, s'.heap.get? a ≠ none := by
      intro a ha
      rcases List.mem_cons.mp ha with rfl | ha
      · exact hCs
      rcases List.mem_cons.mp ha with rfl | ha
      · exact hDs
      · intro e; have := W.pres i _ a hst' ha; rw [e] at this; cases this
    by_cases hlt : i < n
    · refine W.item i _ _ _ hlt hst' fun v l h₃ tk₃ hP hHl hNl hst₃ hk₃ => ?_
      have k₃ : ∀ b o, b ∉ X → s'.heap.get? b = some o → h₃.get? b = some o := fun b o hb e => hk₃ b o (subX hb).2.2 e
      refine wpAny_assign_Name (wpAny_storeName_local (lookup_relabel_local hx) (hn'.at' fun o e => hk₃ _ o hCw e) (fun h₄ hn₄ hs₄ => ?_) (by simp [compEnvC, relabel, hkind]))
      have hs₄ : Heap.SameBut C h₃ h₄ := hs₄
      have hn₄ : h₄.Ns C _ := hn₄
      have k₄ : ∀ b o, b ∉ X → s'.heap.get? b = some o → h₄.get? b = some o := fun b o hb e => hs₄.extBut b o (subX hb).1 (k₃ b o hb e)
      have hst₄ : St (i + 1) h₄ := W.frame _ _ _ hst₃ fun b hb o e => hs₄.extBut b o (fun h => hCf (h ▸ hb)) e
      have K₄ : Keep sb { s' with heap := h₄, toks := tk₃ + 1 } := upd hk k₄
      have I₄ : Imm wr s₂ { s' with heap := h₄, toks := tk₃ + 1 } := imm hi' k₄
      have hl₄ : Has l h₄ := fun q hq => ⟨hs₄.extBut _ _ (fun h => hCs (h ▸ hNl q hq)) (hHl q hq).1, (hHl q hq).2⟩
      have hls₄ : Has ls h₄ := fun q hq => ⟨k₄ _ _ (hoff q hq) (hH q hq).1, (hH q hq).2⟩
      have hac₄ : h₄.PlainList D ys.toArray := hac.at fun o e => hs₄.extBut D o hDC (hk₃ D o hDw e)
      have T₄ := T.keep K₄
      have pr₄ : ∀ a ∈ X, h₄.get? a ≠ none := by
        intro a ha
        rcases List.mem_cons.mp ha with rfl | ha
        · obtain ⟨o, _, _, e, _⟩ := hn₄; rw [e]; exact nofun
        rcases List.mem_cons.mp ha with rfl | ha
        · obtain ⟨_, e⟩ := hac₄; rw [e]; exact nofun
        · intro e; have := W.pres (i + 1) _ a hst₄ ha; rw [e] at this; cases this
      refine wpAny_mono (hq C i v l _ _ hlt hP hl₄ (hXt C List.mem_cons_self) hn₄ (by simp) K₄ I₄) (fun ok s₅ h₅ => ?_) fun _ _ z => z.elim
      obtain ⟨rfl, k₅, h₅⟩ := h₅
      have stk : ∀ {s₆ : Shared}, Keep { s' with heap := h₄, toks := tk₃ + 1 } s₆ → St (i + 1) s₆.heap := fun k => by
        exact W.frame _ _ _ hst₄ fun b hb o e => k.old b o (solid_off (hfp b hb).2) e
      cases hpi : p i with
      | false =>
        rw [if_neg Bool.false_ne_true]
        exact ⟨n + 1 - (i + 1), by omega, i + 1, _, ys, ls, K₄.trans k₅, I₄.trans k₅.imm, stk k₅, hac₄.at (fun o e => k₅.old D o (solid_off (hXt D (List.mem_cons_of_mem _ List.mem_cons_self))) e),
            Ns_keep hn₄ (hXt C List.mem_cons_self) k₅, by rw [range_filter_succ, hpi]; simpa using hE, Has.keep (s := { s' with heap := h₄, toks := tk₃ + 1 }) hls₄ k₅, hN, hoff, hlt, rfl⟩
      | true =>
        rw [if_pos rfl]
        refine wpAny_mono (h₅ hpi) (fun y s₆ h₆ => ?_) fun _ _ z => z.elim
        obtain ⟨ly, gy, hHy, hNy, k₆⟩ := h₆
        have hac₆ : s₆.heap.PlainList D ys.toArray := hac₄.at (fun o e => k₆.old D o (solid_off (hXt D (List.mem_cons_of_mem _ List.mem_cons_self))) e)
        have hys : ys.toArray.size ≤ sizeLine := by
          have e1 := hE.length
          have e2 : ((List.range i).filter p).length ≤ (List.range i).length := List.length_filter_le _ _
          rw [List.length_range] at e2
          rw [List.size_toArray]; omega
        obtain ⟨nn, hac₆'⟩ := id hac₆
        refine wpAny_list_append_plain (hsz := hys) hac₆ fun h₇ hl₇ hs₇ => ?_
        have k₇ : ∀ b o, b ∉ X → s₆.heap.get? b = some o → h₇.get? b = some o := fun b o hb e => hs₇.extBut b o (subX hb).2.1 e
        have yoff : ∀ q ∈ ly, q.1 ∉ X := fun q hq hm => pr₄ q.1 hm (hNy q hq)
        have hH₆ := Has.keep (s := { s' with heap := h₄, toks := tk₃ + 1 }) hls₄ k₆
        refine ⟨n + 1 - (i + 1), by omega, i + 1, _, ys ++ [y], ls ++ ly, upd (K₄.trans k₆) k₇, imm (I₄.trans k₆.imm) k₇, W.frame _ _ _ (stk k₆) (fun b hb o e => hs₇.extBut b o (fun h => hDf (h ▸ hb)) e), by simpa using hl₇,
            (Ns_keep hn₄ (hXt C List.mem_cons_self) k₆).sameBut hs₇ (Ne.symm hDC), by rw [range_filter_succ, hpi]; simpa using hE.snoc gy, ?_, NewL.app hN ?_, ?_, hlt, rfl⟩
        · intro q hq
          rcases List.mem_append.mp hq with h | h
          · exact ⟨k₇ _ _ (hoff q h) (hH₆ q h).1, (hH₆ q h).2⟩
          · exact ⟨k₇ _ _ (yoff q h) (hHy q h).1, (hHy q h).2⟩
        · exact fun q hq => none_back' T K₄ (hNy q hq)
        · exact fun q hq => (List.mem_append.mp hq).elim (hoff q) (yoff q)
    · have : i = n := by omega
      subst this
      refine W.done _ _ _ hst' fun h₃ tk₃ hk₃ => ?_
      have k₃ : ∀ b o, b ∉ X → s'.heap.get? b = some o → h₃.get? b = some o := fun b o hb e => hk₃ b o (subX hb).2.2 e
      obtain ⟨nn, hD⟩ := hac
      refine hQ C m' _ _ ((D, listObj ys nn) :: ls) ⟨D, ys, nn, ls, rfl, rfl, hE⟩ (Has.cons (hk₃ D _ hDw hD) (solid_cls rfl) (fun q hq => ⟨k₃ _ _ (hoff q hq) (hH q hq).1, (hH q hq).2⟩)) ?_ ?_ (show Keep sb { s' with heap := h₃, toks := tk₃ } from upd hk k₃) (hX C List.mem_cons_self) (hXt C List.mem_cons_self) (hn'.at' fun o e => hk₃ _ o hCw e)
      · intro q hq
        rcases List.mem_cons.mp hq with rfl | hq
        · exact hX D (List.mem_cons_of_mem _ List.mem_cons_self)
        · exact hN q hq
      · intro q hq
        rcases List.mem_cons.mp hq with rfl | hq
        · exact hDC
        · exact (subX (hoff q hq)).1
  exact codeAny_compStart_list (loop _ rfl) (W.self 0 _ _ _ hst₁ (loop _ rfl))
theorem comp_genC {use : Option (Value → Sem Unit)} {pos' : Pos} {elt iter : Expr} {x : Str} {px : Pos} {ifs : List Expr} {scope : Scope} {cl : List (Str × Addr)} {pos : Pos} {Q : Value → Shared → Prop} (T : TopS w s) (p : Nat → Bool) (G : Nat → Value → Objs → Prop)
    (hclos : closureFor scope env = pure cl) (hcells : ∀ n, cellsFrom n scope.names cl = (x, n) :: cl) (hpush : ∀ h, pushCells h scope.names = h.push { cls := .type "cell", data := .cell none }) (hkind : scope.kind = .function)
    (hnames : ∀ y ∈ scope.names, y.2 = .local → scope.names.lookup y.1 = some .local) (hx : scope.names.lookup x = some .cell)
    (h : wpAny (model pw w) A (eval iter env) (fun xv s₁ => wpAny (model pw w) A (pyIter xv) (fun it s₂ => ∃ I fp wr n P St, it = .ref I ∧ Wkr w A I fp wr n P St ∧ n ≤ sizeLine ∧ St 0 s₂.heap ∧
      (∀ b ∈ fp, b < s₂.heap.objs.size ∧ tabAddrs.contains b = false) ∧ (∀ b ∈ wr, s.heap.get? b = none) ∧ Keep s s₂ ∧
      (∀ C cc i v l s₃, i < n → P i v l → Has l s₃.heap → tabAddrs.contains cc = false → s₃.heap.IsCell cc (some v) → Keep s s₃ → Imm wr s₂ s₃ →
        wpAny (model pw w) A (forIn ifs true fun c r => if r = true then do let ok ← isTrue c (compEnvC scope ((x, cc) :: cl) C env) (eval c (compEnvC scope ((x, cc) :: cl) C env)); pure (ForInStep.yield ok) else pure (ForInStep.yield r))
          (fun ok s₄ => ok = p i ∧ Keep s₃ s₄ ∧ (p i = true → wpAny (model pw w) A (eval elt (compEnvC scope ((x, cc) :: cl) C env)) (Gives s₃ (G i)) (fun _ _ => False) s₄)) (fun _ _ => False) s₃) ∧
      (∀ C m' v s' l, ListG G ((List.range n).filter p) v l → Has l s'.heap → NewL s l → (∀ q ∈ l, q.1 ≠ C) → Keep s s' → s.heap.get? C = none → tabAddrs.contains C = false → s'.heap.Ns C m' → compPost (model pw w) A E use Q v C (.ok .next) s')) E s₁) E s)
    (hs : ∀ x, foldedSetIterable iter env x = pure x := by intro _; rfl) :
    wpAny (model pw w) A (comprehension (.ListComp elt [⟨.Name x px, iter, ifs, 0⟩] scope pos) scope env pos' (newList []) false (eval iter env) use) Q E s := by
  refine wpAny_comprehension_free (use := use) rfl hs hclos hkind hnames (wpAny_mono h (fun xv s₁ h₁ => wpAny_mono h₁ (fun it s₂ h₂ => ?_) fun _ _ e => e) fun _ _ e => e)
  obtain ⟨I, fp, wr, n, P, St, rfl, W, hsz, hst, hfp, hwr, hk₀, hq, hQ⟩ := h₂
  have T₂ := T.keep hk₀
  have offN : ∀ a, s₂.heap.get? a = none → tabAddrs.contains a = false := fun a e => off_of_none T₂ e
  have fresh : ∀ a, s₂.heap.objs.size ≤ a → s₂.heap.get? a = none := fun a ha => none_of_size ha
  refine wpAny_newObj_type (newEnv_cell hcells hpush ?_)
  dsimp only
  generalize hH2 : s₂.heap.push { cls := .type "list", dict := none, data := .seq ([] : List Value).toArray } = H2
  generalize hH3 : H2.push { cls := .type "dict", data := .dict #[] } = H3
  generalize hH4 : H3.push { cls := .type "cell", data := .cell none } = h₁
  have hC : H2.objs.size = s₂.heap.objs.size + 1 := by rw [← hH2, Heap.size_push]
  have hc' : H3.objs.size = s₂.heap.objs.size + 1 + 1 := by rw [← hH3, Heap.size_push, hC]
  have hnD := fresh s₂.heap.objs.size (Nat.le_refl _)
  have hnC := fresh H2.objs.size (by rw [hC]; exact Nat.le_succ _)
  have hnc := fresh H3.objs.size (by rw [hc']; exact Nat.le_succ_of_le (Nat.le_succ _))
  have old : ∀ b o, s₂.heap.get? b = some o → h₁.get? b = some o := fun b o e => hH4 ▸ Heap.get?_push_of_some _ (hH3 ▸ Heap.get?_push_of_some _ (hH2 ▸ Heap.get?_push_of_some _ e))
  have hacc : h₁.PlainList s₂.heap.objs.size #[] := ⟨_, hH4 ▸ Heap.get?_push_of_some _ (hH3 ▸ Heap.get?_push_of_some _ (hH2 ▸ Heap.get?_push_size _ rfl))⟩
  have hns₁ : h₁.Ns H2.objs.size fun _ => none := hH4 ▸ (hH3 ▸ Heap.Ns.new ..).push _
  have hcl₁ : h₁.IsCell H3.objs.size none := ⟨_, hH4 ▸ Heap.get?_push_size _ rfl, rfl⟩
  have hDC : s₂.heap.objs.size ≠ H2.objs.size := by rw [hC]; exact Nat.ne_of_lt (Nat.lt_succ_self _)
  have hDc : s₂.heap.objs.size ≠ H3.objs.size := by rw [hc']; exact Nat.ne_of_lt (Nat.lt_succ_of_lt (Nat.lt_succ_self _))
  have hCc : H2.objs.size ≠ H3.objs.size := by rw [hc', hC]; exact Nat.ne_of_lt (Nat.lt_succ_self _)
  have hCf : H2.objs.size ∉ fp := fun hm => by have h0 := (hfp _ hm).1; rw [hC] at h0; exact Nat.lt_irrefl _ (Nat.lt_of_succ_lt h0)
  have hcf : H3.objs.size ∉ fp := fun hm => by have h0 := (hfp _ hm).1; rw [hc'] at h0; exact Nat.lt_irrefl _ (Nat.lt_of_succ_lt (Nat.lt_of_succ_lt h0))
  have hDf : s₂.heap.objs.size ∉ fp := fun hm => Nat.lt_irrefl _ (hfp _ hm).1
  generalize s₂.heap.objs.size = D at *
  generalize H2.objs.size = C at *
  generalize H3.objs.size = c at *
  have hst₁ : St 0 h₁ := W.frame _ _ _ hst fun b _ o e => old b o e
  have hCw : C ∉ wr := fun h => hCf (W.sub _ h)
  have hcw : c ∉ wr := fun h => hcf (W.sub _ h)
  have hDw : D ∉ wr := fun h => hDf (W.sub _ h)
  -- what may change
  let X : List Addr := C :: c :: D :: wr
  have hX : ∀ a ∈ X, s.heap.get? a = none := by
    intro a ha
    rcases List.mem_cons.mp ha with rfl | ha
    · exact none_back' T hk₀ hnC
    rcases List.mem_cons.mp ha with rfl | ha
    · exact none_back' T hk₀ hnc
    rcases List.mem_cons.mp ha with rfl | ha
    · exact none_back' T hk₀ hnD
    · exact hwr a ha
  have hXt : ∀ a ∈ X, tabAddrs.contains a = false := by
    intro a ha
    rcases List.mem_cons.mp ha with rfl | ha
    · exact offN _ hnC
    rcases List.mem_cons.mp ha with rfl | ha
    · exact offN _ hnc
    rcases List.mem_cons.mp ha with rfl | ha
    · exact offN _ hnD
    · exact (hfp a (W.sub a ha)).2
  have upd : ∀ {s' : Shared} {h' : Heap} {tk : Nat}, Keep s s' → (∀ b o, b ∉ X → s'.heap.get? b = some o → h'.get? b = some o) → Keep s { s' with heap := h', toks := tk } := fun k hk => Keep.upd T k hX hXt hk
  have imm : ∀ {s' : Shared} {h' : Heap} {tk : Nat}, Imm wr s₂ s' → (∀ b o, b ∉ X → s'.heap.get? b = some o → h'.get? b = some o) → Imm wr s₂ { s' with heap := h', toks := tk } := fun {s' h' tk} k hk a o ha so e =>
    hk a o (fun hm => by
      rcases List.mem_cons.mp hm with rfl | hm
      · rw [hnC] at e; cases e
      rcases List.mem_cons.mp hm with rfl | hm
      · rw [hnc] at e; cases e
      rcases List.mem_cons.mp hm with rfl | hm
      · rw [hnD] at e; cases e
      · exact ha hm) (k a o ha so e)
  have subX : ∀ {b : Addr}, b ∉ X → b ≠ C ∧ b ≠ D ∧ b ∉ wr ∧ b ≠ c := fun {b} h => ⟨fun e => h (e ▸ List.mem_cons_self), fun e => h (e ▸ List.mem_cons_of_mem _ (List.mem_cons_of_mem _ List.mem_cons_self)),
    fun e => h (List.mem_cons_of_mem _ (List.mem_cons_of_mem _ (List.mem_cons_of_mem _ e))), fun e => h (e ▸ List.mem_cons_of_mem _ List.mem_cons_self)⟩
  have DX : D ∈ X := List.mem_cons_of_mem _ (List.mem_cons_of_mem _ List.mem_cons_self)
  have cX : c ∈ X := List.mem_cons_of_mem _ List.mem_cons_self
  -- the loop
  have loop : ∀ s₃ : Shared, s₃ = { s₂ with heap := h₁ } →
      codeAny (model pw w) A (.compLoop (.ListComp elt [⟨.Name x px, iter, ifs, 0⟩] scope pos) 0 (.ref I) (.ref D) (compEnvC scope ((x, c) :: cl) C env))
        (compPost (model pw w) A E use Q (.ref D) C) s₃ := by
    rintro s₃ rfl
    refine codeAny_compLoop_tests (fun k s' => ∃ i m' ys ls, Keep s s' ∧ Imm wr s₂ s' ∧ St i s'.heap ∧ s'.heap.PlainList D ys.toArray ∧ s'.heap.Ns C m' ∧ (∃ v', s'.heap.IsCell c v') ∧ Ell G ((List.range i).filter p) ys ls ∧ Has ls s'.heap ∧
        NewL s ls ∧ (∀ q ∈ ls, q.1 ∉ X) ∧ i ≤ n ∧ k = n + 1 - i) ?_ (n + 1)
      ⟨0, _, [], [], upd (s' := s₂) (tk := s₂.toks) hk₀ fun b o hb e => old b o e, imm (s' := s₂) (tk := s₂.toks) (fun _ _ _ _ e => e) fun b o hb e => old b o e, hst₁, hacc, hns₁, ⟨_, hcl₁⟩, .nil, .nil, (fun _ e => nomatch e), (fun _ e => nomatch e), Nat.zero_le _, rfl⟩
    rintro k s' ⟨i, m', ys, ls, hk, hi', hst', hac, hn', ⟨v', hcv⟩, hE, hH, hN, hoff, hin, rfl⟩
    have hCs : s'.heap.get? C ≠ none := by obtain ⟨o, _, _, e, _⟩ := hn'; rw [e]; exact nofun
    have hcs : s'.heap.get? c ≠ none := by obtain ⟨o, e, _⟩ := hcv; rw [e]; exact nofun
    have hDs : s'.heap.get? D ≠ none := by obtain ⟨_, e⟩ := hac; rw [e]; exact nofun
    have hXs : ∀ a ∈ X, s'.heap.get? a ≠ none := by
      intro a ha
      rcases List.mem_cons.mp ha with rfl | ha
      · exact hCs
      rcases List.mem_cons.mp ha with rfl | ha
      · exact hcs
      rcases List.mem_cons.mp ha with rfl | ha
      · exact hDs
      · intro e; have := W.pres i _ a hst' ha; rw [e] at this; cases this
    by_cases hlt : i < n
    · refine W.item i _ _ _ hlt hst' fun v l h₃ tk₃ hP hHl hNl hst₃ hk₃ => ?_
      have k₃ : ∀ b o, b ∉ X → s'.heap.get? b = some o → h₃.get? b = some o := fun b o hb e => hk₃ b o (subX hb).2.2.1 e
      refine wpAny_assign_Name (wpAny_storeName_cell (c := c) (v₀ := v') (by simp [compEnvC, relabel, hkind]) (lookup_relabel_cell hx) (by simp [compEnvC]) (let ⟨o, a, b⟩ := hcv; ⟨o, hk₃ _ _ hcw a, b⟩) (fun h₄ hcell₄ hs₄ => ?_))
      have hs₄ : Heap.SameBut c h₃ h₄ := hs₄
      have hn₄ : h₄.Ns C m' := (hn'.at' fun o e => hk₃ _ o hCw e).sameBut hs₄ hCc
      have k₄ : ∀ b o, b ∉ X → s'.heap.get? b = some o → h₄.get? b = some o := fun b o hb e => hs₄.extBut b o (subX hb).2.2.2 (k₃ b o hb e)
      have hst₄ : St (i + 1) h₄ := W.frame _ _ _ hst₃ fun b hb o e => hs₄.extBut b o (fun h => hcf (h ▸ hb)) e
      have K₄ : Keep s { s' with heap := h₄, toks := tk₃ } := upd hk k₄
      have I₄ : Imm wr s₂ { s' with heap := h₄, toks := tk₃ } := imm hi' k₄
      have hl₄ : Has l h₄ := fun q hq => ⟨hs₄.extBut _ _ (fun h => hcs (h ▸ hNl q hq)) (hHl q hq).1, (hHl q hq).2⟩
      have hls₄ : Has ls h₄ := fun q hq => ⟨k₄ _ _ (hoff q hq) (hH q hq).1, (hH q hq).2⟩
      have hac₄ : h₄.PlainList D ys.toArray := hac.at fun o e => hs₄.extBut D o hDc (hk₃ D o hDw e)
      have T₄ := T.keep K₄
      have pr₄ : ∀ a ∈ X, h₄.get? a ≠ none := by
        intro a ha
        rcases List.mem_cons.mp ha with rfl | ha
        · obtain ⟨o, _, _, e, _⟩ := hn₄; rw [e]; exact nofun
        rcases List.mem_cons.mp ha with rfl | ha
        · obtain ⟨o, e, _⟩ := hcell₄; rw [e]; exact nofun
        rcases List.mem_cons.mp ha with rfl | ha
        · obtain ⟨_, e⟩ := hac₄; rw [e]; exact nofun
        · intro e; have := W.pres (i + 1) _ a hst₄ ha; rw [e] at this; cases this
      refine wpAny_mono (hq C c i v l _ hlt hP hl₄ (hXt c cX) hcell₄ K₄ I₄) (fun ok s₅ h₅ => ?_) fun _ _ z => z.elim
      obtain ⟨rfl, k₅, h₅⟩ := h₅
      have stk : ∀ {s₆ : Shared}, Keep { s' with heap := h₄, toks := tk₃ } s₆ → St (i + 1) s₆.heap := fun k => by
        exact W.frame _ _ _ hst₄ fun b hb o e => k.old b o (solid_off (hfp b hb).2) e
      cases hpi : p i with
      | false =>
        rw [if_neg Bool.false_ne_true]
        exact ⟨n + 1 - (i + 1), by omega, i + 1, _, ys, ls, K₄.trans k₅, I₄.trans k₅.imm, stk k₅, hac₄.at (fun o e => k₅.old D o (solid_off (hXt D DX)) e),
            Ns_keep hn₄ (hXt C List.mem_cons_self) k₅, ⟨_, IsCell_keep (s := { s' with heap := h₄, toks := tk₃ }) hcell₄ (hXt c cX) k₅⟩, by rw [range_filter_succ, hpi]; simpa using hE, Has.keep (s := { s' with heap := h₄, toks := tk₃ }) hls₄ k₅, hN, hoff, hlt, rfl⟩
      | true =>
        rw [if_pos rfl]
        refine wpAny_mono (h₅ hpi) (fun y s₆ h₆ => ?_) fun _ _ z => z.elim
        obtain ⟨ly, gy, hHy, hNy, k₆⟩ := h₆
        have hac₆ : s₆.heap.PlainList D ys.toArray := hac₄.at (fun o e => k₆.old D o (solid_off (hXt D DX)) e)
        have hys : ys.toArray.size ≤ sizeLine := by
          have e1 := hE.length
          have e2 : ((List.range i).filter p).length ≤ (List.range i).length := List.length_filter_le _ _
          rw [List.length_range] at e2
          rw [List.size_toArray]; omega
        obtain ⟨nn, hac₆'⟩ := id hac₆
        refine wpAny_list_append_plain (hsz := hys) hac₆ fun h₇ hl₇ hs₇ => ?_
        have k₇ : ∀ b o, b ∉ X → s₆.heap.get? b = some o → h₇.get? b = some o := fun b o hb e => hs₇.extBut b o (subX hb).2.1 e
        have yoff : ∀ q ∈ ly, q.1 ∉ X := fun q hq hm => pr₄ q.1 hm (hNy q hq)
        have hH₆ := Has.keep (s := { s' with heap := h₄, toks := tk₃ }) hls₄ k₆
        refine ⟨n + 1 - (i + 1), by omega, i + 1, _, ys ++ [y], ls ++ ly, upd (K₄.trans k₆) k₇, imm (I₄.trans k₆.imm) k₇, W.frame _ _ _ (stk k₆) (fun b hb o e => hs₇.extBut b o (fun h => hDf (h ▸ hb)) e), by simpa using hl₇,
            (Ns_keep hn₄ (hXt C List.mem_cons_self) k₆).sameBut hs₇ (Ne.symm hDC), ⟨_, (IsCell_keep (s := { s' with heap := h₄, toks := tk₃ }) hcell₄ (hXt c cX) k₆).sameBut hs₇ (Ne.symm hDc)⟩, by rw [range_filter_succ, hpi]; simpa using hE.snoc gy, ?_, NewL.app hN ?_, ?_, hlt, rfl⟩
        · intro q hq
          rcases List.mem_append.mp hq with h | h
          · exact ⟨k₇ _ _ (hoff q h) (hH₆ q h).1, (hH₆ q h).2⟩
          · exact ⟨k₇ _ _ (yoff q h) (hHy q h).1, (hHy q h).2⟩
        · exact fun q hq => none_back' T K₄ (hNy q hq)
        · exact fun q hq => (List.mem_append.mp hq).elim (hoff q) (yoff q)
    · have : i = n := by omega
      subst this
      refine W.done _ _ _ hst' fun h₃ tk₃ hk₃ => ?_
      have k₃ : ∀ b o, b ∉ X → s'.heap.get? b = some o → h₃.get? b = some o := fun b o hb e => hk₃ b o (subX hb).2.2.1 e
      obtain ⟨nn, hD⟩ := hac
      refine hQ C m' _ _ ((D, listObj ys nn) :: ls) ⟨D, ys, nn, ls, rfl, rfl, hE⟩ (Has.cons (hk₃ D _ hDw hD) (solid_cls rfl) (fun q hq => ⟨k₃ _ _ (hoff q hq) (hH q hq).1, (hH q hq).2⟩)) ?_ ?_ (show Keep s { s' with heap := h₃, toks := tk₃ } from upd hk k₃) (hX C List.mem_cons_self) (hXt C List.mem_cons_self) (hn'.at' fun o e => hk₃ _ o hCw e)
      · intro q hq
        rcases List.mem_cons.mp hq with rfl | hq
        · exact hX D DX
        · exact hN q hq
      · intro q hq
        rcases List.mem_cons.mp hq with rfl | hq
        · exact hDC
        · exact (subX (hoff q hq)).1
  exact codeAny_compStart_list (loop _ rfl) (W.self 0 _ _ _ hst₁ (loop _ rfl))

theorem compU {sb : Shared} {use : Option (Value → Sem Unit)} {pos' : Pos} {elt iter : Expr} {x : Str} {px : Pos} {ifs : List Expr} {scope : Scope} {cl : List (Str × Addr)} {pos : Pos} {Q : Value → Shared → Prop} (T : TopS w sb) (n : Nat) (P : Nat → Value → Objs → Prop)
    (p : Nat → Bool) (G : Nat → Value → Objs → Prop)
    (hclos : closureFor scope env = pure cl) (hcell : ∀ y ∈ scope.names, y.2 ≠ .cell) (hkind : scope.kind = .function)
    (hnames : ∀ y ∈ scope.names, y.2 = .local → scope.names.lookup y.1 = some .local) (hx : scope.names.lookup x = some .local)
    (hsrc : wpAny (model pw w) A (eval iter env) (fun xv s₁ => wpAny (model pw w) A (pyIter xv) (Src w A sb n P) (fun _ _ => False) s₁) (fun _ _ => False) s)
    (helt : ∀ C i v l s₃ m₃, i < n → P i v l → Has l s₃.heap → tabAddrs.contains C = false → s₃.heap.Ns C m₃ → m₃ x = some v → Keep sb s₃ →
        wpAny (model pw w) A (forIn ifs true fun c r => if r = true then do let ok ← isTrue c (compEnvC scope cl C env) (eval c (compEnvC scope cl C env)); pure (ForInStep.yield ok) else pure (ForInStep.yield r))
          (fun ok s₄ => ok = p i ∧ Keep s₃ s₄ ∧ (p i = true → wpAny (model pw w) A (eval elt (compEnvC scope cl C env)) (Gives s₃ (G i)) (fun _ _ => False) s₄)) (fun _ _ => False) s₃)
    (hQ : ∀ C m' v s' l, ListG G ((List.range n).filter p) v l → Has l s'.heap → NewL sb l → (∀ q ∈ l, q.1 ≠ C) → Keep sb s' → sb.heap.get? C = none → tabAddrs.contains C = false → s'.heap.Ns C m' → compPost (model pw w) A E use Q v C (.ok .next) s')
    (hs : ∀ x, foldedSetIterable iter env x = pure x := by intro _; rfl) :
    wpAny (model pw w) A (comprehension (.ListComp elt [⟨.Name x px, iter, ifs, 0⟩] scope pos) scope env pos' (newList []) false (eval iter env) use) Q E s :=
  comp_gen T p G hclos hcell hkind hnames hx (wpAny_mono hsrc (fun xv s₁ h₁ => wpAny_mono h₁ (fun it s₂ h₂ => by
    obtain ⟨I, fp, wr, St, e, W, a, b, c, d, k⟩ := h₂
    exact ⟨I, fp, wr, n, P, St, e, W, a, b, c, d, k, fun C i v l s₃ m₃ h1 h2 h3 h4 h5 h6 h7 _ => helt C i v l s₃ m₃ h1 h2 h3 h4 h5 h6 h7, hQ⟩) fun _ _ z => z.elim) fun _ _ z => z.elim) hs
theorem compUC {use : Option (Value → Sem Unit)} {pos' : Pos} {elt iter : Expr} {x : Str} {px : Pos} {ifs : List Expr} {scope : Scope} {cl : List (Str × Addr)} {pos : Pos} {Q : Value → Shared → Prop} (T : TopS w s) (n : Nat) (P : Nat → Value → Objs → Prop)
    (p : Nat → Bool) (G : Nat → Value → Objs → Prop)
    (hclos : closureFor scope env = pure cl) (hcells : ∀ n, cellsFrom n scope.names cl = (x, n) :: cl) (hpush : ∀ h, pushCells h scope.names = h.push { cls := .type "cell", data := .cell none }) (hkind : scope.kind = .function)
    (hnames : ∀ y ∈ scope.names, y.2 = .local → scope.names.lookup y.1 = some .local) (hx : scope.names.lookup x = some .cell)
    (hsrc : wpAny (model pw w) A (eval iter env) (fun xv s₁ => wpAny (model pw w) A (pyIter xv) (Src w A s n P) (fun _ _ => False) s₁) (fun _ _ => False) s)
    (helt : ∀ C cc i v l s₃, i < n → P i v l → Has l s₃.heap → tabAddrs.contains cc = false → s₃.heap.IsCell cc (some v) → Keep s s₃ →
        wpAny (model pw w) A (forIn ifs true fun c r => if r = true then do let ok ← isTrue c (compEnvC scope ((x, cc) :: cl) C env) (eval c (compEnvC scope ((x, cc) :: cl) C env)); pure (ForInStep.yield ok) else pure (ForInStep.yield r))
          (fun ok s₄ => ok = p i ∧ Keep s₃ s₄ ∧ (p i = true → wpAny (model pw w) A (eval elt (compEnvC scope ((x, cc) :: cl) C env)) (Gives s₃ (G i)) (fun _ _ => False) s₄)) (fun _ _ => False) s₃)
    (hQ : ∀ C m' v s' l, ListG G ((List.range n).filter p) v l → Has l s'.heap → NewL s l → (∀ q ∈ l, q.1 ≠ C) → Keep s s' → s.heap.get? C = none → tabAddrs.contains C = false → s'.heap.Ns C m' → compPost (model pw w) A E use Q v C (.ok .next) s')
    (hs : ∀ x, foldedSetIterable iter env x = pure x := by intro _; rfl) :
    wpAny (model pw w) A (comprehension (.ListComp elt [⟨.Name x px, iter, ifs, 0⟩] scope pos) scope env pos' (newList []) false (eval iter env) use) Q E s :=
  comp_genC T p G hclos hcells hpush hkind hnames hx (wpAny_mono hsrc (fun xv s₁ h₁ => wpAny_mono h₁ (fun it s₂ h₂ => by
    obtain ⟨I, fp, wr, St, e, W, a, b, c, d, k⟩ := h₂
    exact ⟨I, fp, wr, n, P, St, e, W, a, b, c, d, k, fun C cc i v l s₃ h1 h2 h3 h4 h5 h6 _ => helt C cc i v l s₃ h1 h2 h3 h4 h5 h6, hQ⟩) fun _ _ z => z.elim) fun _ _ z => z.elim) hs
theorem assign_used {elt iter : Expr} {x y : Str} {px py : Pos} {ifs : List Expr} {scope : Scope} {pos spos : Pos} {Q : Flow → Shared → Prop}
    (h : wpAny (model pw w) A (comprehension (.ListComp elt [⟨.Name x px, iter, ifs, 0⟩] scope pos) scope env (firstIterPos [⟨.Name x px, iter, ifs, 0⟩] pos) (newList []) false (eval iter env) (some (assign (.Name y py) env))) (fun _ s' => Q .next s') E s)
    (hsw : swapsWith (.ListComp elt [⟨.Name x px, iter, ifs, 0⟩] scope pos) (some (.Name y py)) spos.line env = pure true := by rfl) :
    wpAny (model pw w) A (exec (.Assign [.Name y py] (.ListComp elt [⟨.Name x px, iter, ifs, 0⟩] scope pos) spos) env) Q E s := by
  rw [exec_Assign_Name_used _ _ _ _ hsw]
  refine wpAny_bind (wpAny_standAt (wpAny_bind ?_))
  show wpAny _ A (do let _ ← comprehension (.ListComp elt [⟨.Name x px, iter, ifs, 0⟩] scope pos) scope env _ (newList []) false (eval iter env) (some (assign (.Name y py) env))) _ _ s
  exact wpAny_bind (wpAny_mono h (fun _ s' hq => wpAny_pure (wpAny_pure hq)) fun _ _ e => e)
variable {s₀ s' : Shared} {own : List (Str × Addr)} {l lc : List (Str × Value)} {v : Value}
theorem Fk.used {y : Str} {py : Pos} {C : Addr} {m' : Str → Option Value} {Q : Value → Shared → Prop} (T : TopS w s₀) (F : Fk s₀ env own l lc s') (h0 : s₀.heap.get? C = none) (ho : tabAddrs.contains C = false) (hC : C ∉ mutX env own) (hn : s'.heap.Ns C m')
    (hQ : ∀ s'', Fk s₀ env own ((y, v) :: l) lc s'' → Sol (C :: mutX env own) s' s'' → Q .none s'') (hf : env.scope.kind = .function := by rfl) (hx : env.kindOf y = some .local := by rfl) (hd : (y == ("__debug__" : Str)) = false := by decide +kernel) :
    compPost (model pw w) A E (some (assign (.Name y py) env)) Q v C (.ok .next) s' := by
  show wpAny _ _ (assign (.Name y py) env v) _ _ _
  obtain ⟨m, cm, a, b, c⟩ := F.ex
  have hne : C ≠ env.locals := fun e => hC (e ▸ List.mem_cons_self)
  refine wpAny_assign_Name (wpAny_storeName_local hx a.ns (fun h' hn' hs => ?_) (by simp [hf]))
  have F' := Fm.set (tk := s'.toks + 1) T a hn' hs
  refine ⟨m', hn.sameBut hs hne, fun h'' hs'' => hQ _ ⟨_, _, F'.setD (tk := s'.toks + 1) T h0 ho hC hs'', b.set v, c⟩ fun p o hp _ e => ?_⟩
  have h1 : p ≠ C := fun h => hp (h ▸ List.mem_cons_self)
  have h2 : p ≠ env.locals := fun h => hp (h ▸ List.mem_cons_of_mem _ List.mem_cons_self)
  exact hs''.extBut p o h1 (hs.extBut p o h2 e)
end
end Mine
end
section
open PySem PySem.W PySem.W.X PyProof.Rows PySem.Calls PySem.Spec PySem.SeqAt
/-! Whole3 -/
namespace Mine
set_option maxRecDepth 100000
set_option maxHeartbeats 0

theorem RelAt.keep {w : World} {s s' : Shared} {r : Addr} {hX hY : HP} {fX fY : FP} {xs ys : List Value} {f : Nat → Nat → Bool} (R : RelAt w s r hX hY fX fY xs ys f) (K : Keep s s') : RelAt w s' r hX hY fX fY xs ys f :=
  ⟨let ⟨d, n, e⟩ := R.obj; ⟨d, n, K.old _ _ (solid_cls rfl) e⟩, R.hx.keep K, R.hy.keep K, R.px.keep K, R.py.keep K, R.xx, R.yy, R.rx, R.ry, R.nx, R.ny⟩
/-- what _law_whole is called with -/
structure WholeIn (w : World) (s : Shared) (r : Addr) (hX hY : HP) (fX fY : FP) (xs ys : List Value) (f : Nat → Nat → Bool) (D MX MY : Addr) : Prop where
  R : RelAt w s r hX hY fX fY xs ys f
  tb : TabAt s D f ys.length xs.length
  mx : ∃ n, s.heap.get? MX = some (listObj xs n)
  my : ∃ n, s.heap.get? MY = some (listObj ys n)
  x0 : 0 < xs.length
  y0 : 0 < ys.length
  x4 : xs.length ≤ 4
  y4 : ys.length ≤ 4
section
variable {w : World} {A : Around} {s s' s₀ : Shared} {E : Value → Shared → Prop} {env : Env} {k : Nat} {r : Addr} {hX hY : HP} {fX fY : FP} {xs ys : List Value} {f : Nat → Nat → Bool} {D MX MY L : Addr} {v : Value}
theorem WholeIn.keep (x : WholeIn w s r hX hY fX fY xs ys f D MX MY) (K : Keep s s') : WholeIn w s' r hX hY fX fY xs ys f D MX MY :=
  ⟨x.R.keep K, x.tb.keep K, let ⟨n, e⟩ := x.mx; ⟨n, K.old _ _ (solid_cls rfl) e⟩, let ⟨n, e⟩ := x.my; ⟨n, K.old _ _ (solid_cls rfl) e⟩, x.x0, x.y0, x.x4, x.y4⟩
theorem RelAt.row (R : RelAt w s r hX hY fX fY xs ys f) {i : Nat} (hi : i < ys.length) : rowAt hX.rows i = rowNum (f i) xs.length := by
  rw [R.rx]; simp [rowAt, List.getD, hi]
theorem RelAt.hasX (R : RelAt w s r hX hY fX fY xs ys f) {i j : Nat} (hi : i < ys.length) (hj : j < xs.length) : has (rowAt hX.rows i) j = f i j := by
  rw [R.row hi, has_rowNum, decide_eq_true hj, Bool.true_and]
theorem RelAt.hasY (R : RelAt w s r hX hY fX fY xs ys f) {i j : Nat} (hi : i < ys.length) (hj : j < xs.length) : has (rowAt hY.rows j) i = f i j := by
  have e : rowAt hY.rows j = rowNum (fun i => has (rowAt hX.rows i) j) ys.length := by
    rw [R.ry]; simp [rowAt, List.getD, hj]
  rw [e, has_rowNum, decide_eq_true hi, Bool.true_and, R.hasX hi hj]
theorem RelAt.gridX (R : RelAt w s r hX hY fX fY xs ys f) : Grid hX hY (fun j i => f i j) xs.length ys.length := by
  have a : hX.rows.length = ys.length := by rw [R.rx]; simp
  have b : hY.rows.length = xs.length := by rw [R.ry]; simp
  exact ⟨by rw [R.xx], by rw [R.hy.rows.length, b], b, by rw [R.hx.rows.length, a], a, by rw [R.yy], R.nx, R.ny, fun i j hi hj => R.hasY hj hi, fun i j hi hj => R.hasX hj hi⟩
theorem RelAt.gridY (R : RelAt w s r hX hY fX fY xs ys f) : Grid hY hX f ys.length xs.length := by
  have a : hX.rows.length = ys.length := by rw [R.rx]; simp
  have b : hY.rows.length = xs.length := by rw [R.ry]; simp
  exact ⟨by rw [R.yy], by rw [R.hx.rows.length, a], a, by rw [R.hy.rows.length, b], b, by rw [R.xx], R.ny, R.nx, fun i j hi hj => R.hasX hi hj, fun i j hi hj => R.hasY hi hj⟩

noncomputable abbrev wE (P : Params) (L : Addr) : Env := callEnvC (fnAt P 221) L 261
noncomputable abbrev wO (P : Params) (L : Addr) : List (Str × Addr) := (callEnvC (fnAt P 221) L 261).cells
abbrev wC (D MX MY : Addr) : List (Str × Value) := [(Str.ofString "table", .ref D), (Str.ofString "rows", .ref MY), (Str.ofString "columns", .ref MX)]
/-- range(len(a list)) -/
theorem src_len {x : Str} {p1 p2 p3 p4 p5 : Pos} {a : Addr} {zs : List Value} {n : Nat} (hA : AOk k A) (T : TopS w s) (ha : s.heap.get? a = some (listObj zs n)) (hl : zs.length ≤ 1000)
    (hr : peek (KF w.params) ⟨pw, w.params⟩ (loadName env (Str.ofString "range")) = some (.type "range")) (hn : peek (KF w.params) ⟨pw, w.params⟩ (loadName env (Str.ofString "len")) = some (.builtin "len"))
    (h : wpAny (model pw w) A (eval (.Name x p1) env) (fun v s' => v = .ref a ∧ s' = s) (fun _ _ => False) s) :
    wpAny (model pw w) A (eval (.Call (.Name (Str.ofString "range") p2) [.Call (.Name (Str.ofString "len") p3) [.Name x p1] [] p4] [] p5) env) (fun xv s₁ => wpAny (model pw w) A (pyIter xv) (Src w A s zs.length IntP) (fun _ _ => False) s₁) (fun _ _ => False) s := by
  refine call_1 (nm_top T (v := .type "range") (args_c (call_1 (nm_top T (v := .builtin "len") (args_c (wpAny_mono h (fun v s' h => ?_) fun _ _ z => z)) hn))) hr)
  obtain ⟨rfl, rfl⟩ := h
  refine args_0 ⟨kp_builtin, call_len_list (items := zs.toArray) ⟨_, ha, rfl, _, rfl⟩ (by rw [List.size_toArray]; omega) (args_0 ⟨kp_type, ?_⟩)⟩
  rw [List.size_toArray]
  have K₂ : Keep s' { s' with toks := s'.toks + 1 + 1 } := toks_keep
  exact wpAny_mono (src_range1 hA (T.keep K₂) hl) (fun xv s₁ h₁ => wpAny_mono h₁ (fun it s₂ h₂ => h₂.back T K₂) fun _ _ z => z) fun _ _ z => z
theorem tabp_of {F : Nat → Nat → Value → Prop} {js : Nat → List Nat} {is : List Nat} {Y : List Addr} {l : Objs} {s'' : Shared} (g : ListG (fun i => TupG (F i) (js i)) is v l) (H : Has l s'.heap) (N : NewL s l) (hY : ∀ q ∈ l, q.1 ∉ Y) (S : Sol Y s' s'') :
    TabP s'' v is fun i t bs => Paired (F i) (js i) bs := by
  obtain ⟨D, ys, n, ls, rfl, rfl, hE⟩ := g
  have H' : Has ((D, listObj ys n) :: ls) s''.heap := fun p hp => ⟨S _ _ (hY p hp) (H p hp).2 (H p hp).1, (H p hp).2⟩
  exact TabP.mono ⟨D, ys, n, rfl, H'.head, ell_tabp hE H'.tail fun p hp => N p (List.mem_cons_of_mem _ hp)⟩ fun i t bs m _ h => h.2
theorem whole_turned {Q : Flow → Shared → Prop} {st : Stmt} (hst : st = stAt w.params 221 0) (hA : AOk (k + 1) A) (T : TopS w s₀) (W : WholeIn w s₀ r hX hY fX fY xs ys f D MX MY) (F : Fk s₀ (wE w.params L) (wO w.params L) [(Str.ofString "pair", .ref r)] (wC D MX MY) s)
    (hQ : ∀ v s', Fk s₀ (wE w.params L) (wO w.params L) [(Str.ofString "turned", v), (Str.ofString "pair", .ref r)] (wC D MX MY) s' →
      TabP s' v (List.range xs.length) (fun j t bs => Paired (BoolT fun i => f i j) (List.range ys.length) bs) → Q .next s') :
    wpAny (model pw w) A (exec st (wE w.params L)) Q E s := by
  subst hst
  have W₁ := W.keep F.keep
  have T₁ := F.top T
  have x4 := W.x4
  have y4 := W.y4
  obtain ⟨nx, hMX⟩ := W₁.mx
  refine assign_used (compUC T₁ xs.length IntP (fun _ => true) (fun j => TupG (BoolT fun i => f i j) (List.range ys.length)) rfl (fun n => by rfl) (fun h => by rfl) rfl (by decide) rfl ?_ ?_ fun C m' v s' l g H N hC K h0 ho hn => ?_)
  · exact src_len hA T₁ hMX (by omega) (by kernel_rfl) (by kernel_rfl) (F.cname ⟨rfl, rfl⟩)
  · intro C cc j v lv s₃ hj hP hl₃ hcc hcell k₃
    obtain ⟨⟨t, rfl⟩, rfl⟩ := hP
    have F₃ := F.step k₃
    have T₃ := F₃.top T
    have W₃ := W.keep F₃.keep
    obtain ⟨ny, hMY⟩ := W₃.my
    refine wpAny_tests_nil ⟨rfl, Keep.refl _, fun _ => ?_⟩
    refine call_1 (nm_top T₃ (v := .type "tuple") (args_c ?_))
    refine comp T₃ ys.length IntP (fun _ => true) (fun i y l => BoolT (fun i => f i j) i y ∧ l = []) rfl (by decide) rfl (by decide) rfl ?_ ?_ fun v s' g => ?_
    · exact src_len hA T₃ hMY (by omega) (by kernel_rfl) (by kernel_rfl) (nm_cell rfl (F₃.cell (x := Str.ofString "rows") rfl rfl) ⟨rfl, rfl⟩)
    · intro C' i v lv s₄ m₄ hi hP hl₄ hC' hn₄ hm₄ k₄
      obtain ⟨⟨t', rfl⟩, rfl⟩ := hP
      have F₄ := F₃.step k₄
      refine wpAny_tests_nil ⟨rfl, Keep.refl _, fun _ => ?_⟩
      exact tab_item (t1 := t') (t2 := t) ((W.keep F₄.keep).tb) hi hj (by omega) (by omega) (nm_cell rfl (F₄.cell (x := Str.ofString "table") rfl rfl) ⟨rfl, rfl⟩) (nm_local hn₄ ⟨rfl, rfl⟩ hm₄) (nm_cell rfl (IsCell_keep hcell hcc k₄) ⟨rfl, rfl⟩) (gives_plain ⟨rfl, rfl⟩ (Keep.refl _)) (by with_unfolding_all rfl) (by intro _; with_unfolding_all rfl)
    · rw [all_range] at g
      exact args_0 ⟨kp_type, tuple_flat (fun i y l h => h.1) T₃ (by simp; omega) g fun r s' g => g⟩
  · rw [all_range] at g
    have hm : ∀ {a : Addr}, s.heap.get? a = none → a ∉ mutX (wE w.params L) (wO w.params L) := fun h => by obtain ⟨_, _, a, _⟩ := F.ex; exact a.other h
    exact (F.step K).used T (none_back' T F.keep h0) ho (hm h0) hn fun s₅ F₅ S₅ => hQ v s₅ F₅ (tabp_of g H N (fun q hq hx => (List.mem_cons.mp hx).elim (hC q hq) (hm (N q hq))) S₅)
end
end Mine
end
section
open PySem PySem.W PySem.W.X PyProof.Rows PySem.Calls PySem.Spec PySem.SeqAt
/-! Whole4 -/
namespace Mine
set_option maxRecDepth 100000
set_option maxHeartbeats 0

theorem pimp_mem {α β : Type} {F G : α → β → Prop} : ∀ {l : List α} {l' : List β}, Paired F l l' → (∀ a ∈ l, ∀ b, F a b → G a b) → Paired G l l'
  | _, _, .nil, _ => .nil
  | _, _, .cons a t, h => .cons (h _ List.mem_cons_self _ a) (pimp_mem t fun a ha => h a (List.mem_cons_of_mem _ ha))
section
variable {w : World} {A : Around} {s s' s₀ : Shared} {E : Value → Shared → Prop} {env : Env} {k : Nat} {r : Addr} {hX hY : HP} {fX fY : FP} {xs ys : List Value} {f : Nat → Nat → Bool} {D MX MY L : Addr} {v tv : Value}
abbrev wl (tv : Value) (r : Addr) : List (Str × Value) := [(Str.ofString "turned", tv), (Str.ofString "pair", .ref r)]
theorem whole_if1 {Q : Flow → Shared → Prop} {st : Stmt} (hst : st = stAt w.params 221 1) (hA : AOk (k + 1) A) (T : TopS w s₀) (W : WholeIn w s₀ r hX hY fX fY xs ys f D MX MY) (F : Fk s₀ (wE w.params L) (wO w.params L) (wl tv r) (wC D MX MY) s) (hQ : ∀ s', Keep s s' → Q .next s') :
    wpAny (model pw w) A (exec st (wE w.params L)) Q E s := by
  subst hst
  have W₁ := W.keep F.keep
  have T₁ := F.top T
  obtain ⟨d, n, hr⟩ := W₁.R.obj
  refine if_f (or_f (cmp_f (call_1 (nm_top T₁ (v := .builtin "len") (args_c (F.name (args_0 ⟨kp_builtin, wk hA (rellen T₁.kin hr fun t s₁ K₁ => ?_)⟩)))))))
  refine wpAny_Constant_int (P.ne_int ⟨rfl, rfl, ?_⟩)
  have K₂ : Keep s { s₁ with toks := s₁.toks + 1 } := K₁.trans toks_keep
  have F₂ := F.step K₂
  have K₃ : Keep s { s₁ with toks := s₁.toks + 1 + 1 } := K₁.trans toks_keep
  have F₃ := F.step K₃
  have R₃ := (W.keep F₃.keep).R
  obtain ⟨d, n, hr₃⟩ := R₃.obj
  refine or_f (cmp_f (Attribute_any_ (Subscript_ (F₂.name (wpAny_Constant_int (rel_sub (i := 0) (F₃.top T) hr₃ (by decide) rfl (get_own_ (F₃.top T) R₃.hx.v.ins R₃.hx.v.dc R₃.px.rel rfl (by kernel_rfl) ?_)))))))
  have K₄ : Keep s { s₁ with toks := s₁.toks + 1 + 1 + 1 } := K₁.trans toks_keep
  have F₄ := F.step K₄
  refine F₄.name (wpAny_isNot_ref_self ⟨rfl, rfl, ?_⟩)
  have K₅ : Keep s { s₁ with toks := s₁.toks + 1 + 1 + 1 + 1 } := K₁.trans toks_keep
  have F₅ := F.step K₅
  have R₅ := (W.keep F₅.keep).R
  obtain ⟨d, n, hr₅⟩ := R₅.obj
  refine or_f (cmp_f (Attribute_any_ (Subscript_ (F₄.name (wpAny_Constant_int (rel_sub (i := 1) (F₅.top T) hr₅ (by decide) rfl (get_own_ (F₅.top T) R₅.hy.v.ins R₅.hy.v.dc R₅.py.rel rfl (by kernel_rfl) ?_)))))))
  have K₆ : Keep s { s₁ with toks := s₁.toks + 1 + 1 + 1 + 1 + 1 } := K₁.trans toks_keep
  have F₆ := F.step K₆
  exact F₆.name (wpAny_isNot_ref_self ⟨rfl, rfl, isTrue_or_nil ⟨rfl, hQ _ K₆⟩⟩)
theorem whole_if2 {Q : Flow → Shared → Prop} {st : Stmt} (hst : st = stAt w.params 221 2) (hA : AOk (k + 1) A) (T : TopS w s₀) (W : WholeIn w s₀ r hX hY fX fY xs ys f D MX MY) (F : Fk s₀ (wE w.params L) (wO w.params L) (wl tv r) (wC D MX MY) s) (hQ : ∀ s', Keep s s' → Q .next s') :
    wpAny (model pw w) A (exec st (wE w.params L)) Q E s := by
  subst hst
  have K₃ : Keep s { s with toks := s.toks + 1 } := toks_keep
  have F₃ := F.step K₃
  have R₃ := (W.keep F₃.keep).R
  obtain ⟨d, n, hr₃⟩ := R₃.obj
  obtain ⟨ti, hti⟩ := R₃.px.idx
  refine if_f (or_f (cmp_f (Attribute_any_ (Subscript_ (F.name (wpAny_Constant_int (rel_sub (i := 0) (F₃.top T) hr₃ (by decide) rfl (get_own_ (F₃.top T) R₃.hx.v.ins R₃.hx.v.dc hti rfl (by kernel_rfl) ?_))))))))
  refine wpAny_Constant_int (P.ne_int ⟨rfl, rfl, ?_⟩)
  have K₄ : Keep s { s with toks := s.toks + 1 + 1 + 1 } := toks_keep
  have F₄ := F.step K₄
  have K₅ : Keep s { s with toks := s.toks + 1 + 1 + 1 + 1 } := toks_keep
  have F₅ := F.step K₅
  have R₅ := (W.keep F₅.keep).R
  obtain ⟨d, n, hr₅⟩ := R₅.obj
  obtain ⟨tj, htj⟩ := R₅.py.idx
  refine or_f (cmp_f (Attribute_any_ (Subscript_ (F₄.name (wpAny_Constant_int (rel_sub (i := 1) (F₅.top T) hr₅ (by decide) rfl (get_own_ (F₅.top T) R₅.hy.v.ins R₅.hy.v.dc htj rfl (by kernel_rfl) ?_)))))))
  exact wpAny_Constant_int (P.ne_int ⟨rfl, rfl, isTrue_or_nil ⟨rfl, hQ _ toks_keep⟩⟩)
theorem whole_if3 {Q : Flow → Shared → Prop} {st : Stmt} (hst : st = stAt w.params 221 3) (hA : AOk (k + 5) A) (T : TopS w s₀) (W : WholeIn w s₀ r hX hY fX fY xs ys f D MX MY) (F : Fk s₀ (wE w.params L) (wO w.params L) (wl tv r) (wC D MX MY) s)
    (ht : TabP s tv (List.range xs.length) fun j t bs => Paired (BoolT fun i => f i j) (List.range ys.length) bs) (hQ : ∀ s', Keep s s' → Q .next s') :
    wpAny (model pw w) A (exec st (wE w.params L)) Q E s := by
  subst hst
  have x4 := W.x4
  have y4 := W.y4
  have K₃ : Keep s { s with toks := s.toks + 1 } := toks_keep
  have F₃ := F.step K₃
  have T₃ := F₃.top T
  have W₃ := W.keep F₃.keep
  have R₃ := W₃.R
  have gX := R₃.gridX
  have gY := R₃.gridY
  obtain ⟨d, n, hr₃⟩ := R₃.obj
  refine if_f (or_f (cmp_f (meth_0 (Subscript_ (F.name (wpAny_Constant_int (rel_sub (i := 0) T₃ hr₃ (by decide) rfl (method_cls (f := 177) T₃ R₃.hx.v.ins R₃.hx.v.dc R₃.px.nb (by kernel_rfl) ⟨kp_top T₃ (by kernel_rfl) (.inl rfl), ?_⟩))))))))
  refine vec_bools (k := k) hA T₃ R₃.hx (by rw [gX.hk]; omega) (by rw [gX.hn]; omega) fun b₁ s₄ g₄ => ?_
  have F₄ := F₃.step g₄.keep
  rw [gX.hn, gX.hk] at g₄
  have tb₄ := (W₃.tb.tabp.mono (P' := fun i t bs => { s with toks := s.toks + 1 }.heap.get? t ≠ none ∧ Paired (BoolT (f i)) (List.range xs.length) bs) (fun i t bs m e h => ⟨by rw [e]; exact nofun, h⟩)).keep g₄.keep
  refine F₄.cname (ne_tabs hA (TabP.of g₄) tb₄ (fun i t bs t' bs' hi h h' => ⟨fun e => h'.1 (e ▸ h.1), eq_same bool_fn (pimp_mem h.2 fun j hj y e => ?_) h'.2⟩) ⟨rfl, rfl, ?_⟩)
  · rw [e, R₃.hasX (List.mem_range.mp hi) (List.mem_range.mp hj)]
  have K₄ := K₃.trans g₄.keep
  have K₅ : Keep s { s₄ with toks := s₄.toks + 1 } := K₄.trans toks_keep
  have F₅ := F.step K₅
  have T₅ := F₅.top T
  have W₅ := W.keep F₅.keep
  have R₅ := W₅.R
  obtain ⟨d, n, hr₅⟩ := R₅.obj
  refine or_f (cmp_f (meth_0 (Subscript_ (F₄.name (wpAny_Constant_int (rel_sub (i := 1) T₅ hr₅ (by decide) rfl (method_cls (f := 177) T₅ R₅.hy.v.ins R₅.hy.v.dc R₅.py.nb (by kernel_rfl) ⟨kp_top T₅ (by kernel_rfl) (.inl rfl), ?_⟩)))))))
  refine vec_bools (k := k) hA T₅ R₅.hy (by rw [gY.hk]; omega) (by rw [gY.hn]; omega) fun b₂ s₆ g₆ => ?_
  have F₆ := F₅.step g₆.keep
  rw [gY.hn, gY.hk] at g₆
  have tt₆ := ((ht.keep K₅).mono (P' := fun j t bs => { s₄ with toks := s₄.toks + 1 }.heap.get? t ≠ none ∧ Paired (BoolT fun i => f i j) (List.range ys.length) bs) (fun i t bs m e h => ⟨by rw [e]; exact nofun, h⟩)).keep g₆.keep
  refine F₆.name (ne_tabs hA (TabP.of g₆) tt₆ (fun j t bs t' bs' hj h h' => ⟨fun e => h'.1 (e ▸ h.1), eq_same bool_fn (pimp_mem h.2 fun i hi y e => ?_) h'.2⟩) ⟨rfl, rfl, isTrue_or_nil ⟨rfl, hQ _ (K₅.trans g₆.keep)⟩⟩)
  rw [e, R₅.hasY (List.mem_range.mp hi) (List.mem_range.mp hj)]
theorem whole_if4 {Q : Flow → Shared → Prop} {st : Stmt} (hst : st = stAt w.params 221 4) (hA : AOk (k + 5) A) (T : TopS w s₀) (W : WholeIn w s₀ r hX hY fX fY xs ys f D MX MY) (F : Fk s₀ (wE w.params L) (wO w.params L) (wl tv r) (wC D MX MY) s) (hQ : ∀ s', Keep s s' → Q .next s') :
    wpAny (model pw w) A (exec st (wE w.params L)) Q E s := by
  subst hst
  have x4 := W.x4
  have y4 := W.y4
  have K₃ : Keep s { s with toks := s.toks + 1 } := toks_keep
  have F₃ := F.step K₃
  have T₃ := F₃.top T
  have W₃ := W.keep F₃.keep
  have R₃ := W₃.R
  have gX := R₃.gridX
  obtain ⟨d, n, hr₃⟩ := R₃.obj
  refine if_f (cmp_f (meth_0 (Subscript_ (F.name (wpAny_Constant_int (rel_sub (i := 0) T₃ hr₃ (by decide) rfl (method_cls (f := 182) T₃ R₃.hx.v.ins R₃.hx.v.dc R₃.px.ns (by kernel_rfl) ⟨kp_top T₃ (by kernel_rfl) (.inl rfl), ?_⟩)))))))
  refine vec_sets (k := k) hA T₃ R₃.hx (by rw [gX.hk]; omega) (by rw [gX.hn]; omega) fun b₁ s₄ g₄ => ?_
  have F₄ := F₃.step g₄.keep
  have T₄ := F₄.top T
  have W₄ := W.keep F₄.keep
  rw [gX.hn, gX.hk] at g₄
  have l₄ := (TabP.of g₄).mono (P' := fun i t bs => s₄.heap.get? t ≠ none ∧ Paired IntF (idx xs.length (rowAt hX.rows i)) bs) (fun i t bs m e h => ⟨by rw [e]; exact nofun, h.2⟩)
  obtain ⟨vs, m, hD, hp⟩ := W₄.tb
  have hz := hp.length
  rw [List.length_range] at hz
  obtain ⟨nx, hMX⟩ := W₄.mx
  refine compC T₄ vs.length (fun i v l => vs[i]? = some v ∧ l = []) (fun _ => true) (fun i => TupG IntF ((List.range xs.length).filter (f i))) rfl (fun n => by rfl) (fun h => by rfl) rfl (by decide) rfl ?_ ?_ fun v s' g => ?_
  · exact F₄.cname (src_list hA T₄ hD (by omega))
  · intro C cc i v lv s₅ hi hP hl₅ hcc hcell k₅
    obtain ⟨hv, rfl⟩ := hP
    obtain ⟨x, hx, t, bs, m', rfl, e2, e3⟩ := paired_at hp hv
    obtain rfl := range_at hx
    have F₅ := F₄.step k₅
    have T₅ := F₅.top T
    refine wpAny_tests_nil ⟨rfl, Keep.refl _, fun _ => ?_⟩
    refine call_1 (nm_top T₅ (v := .type "tuple") (args_c ?_))
    refine comp T₅ xs.length IntP (f x) IntG rfl (by decide) rfl (by decide) rfl ?_ ?_ fun v s' g => ?_
    · exact src_len hA T₅ (k₅.old _ _ (solid_cls rfl) hMX) (by omega) (by kernel_rfl) (by kernel_rfl) (nm_cell rfl (F₅.cell (x := Str.ofString "columns") rfl rfl) ⟨rfl, rfl⟩)
    · intro C' j v lv s₆ m₆ hj hP hl₆ hC' hn₆ hm₆ k₆
      obtain ⟨⟨t', rfl⟩, rfl⟩ := hP
      obtain ⟨hb, hbl⟩ := row_item e3 hj
      refine wpAny_tests_one (wpAny_isTrue_value (Subscript_ (nm_cell rfl (IsCell_keep hcell hcc k₆) (nm_local hn₆ (subR_tup ((k₅.trans k₆).old _ _ (solid_cls rfl) e2) (by omega) hb (wpAny_truthy_bool ⟨rfl, Keep.refl _, fun _ => ?_⟩)) hm₆))))
      exact nm_local hn₆ (gives_plain ⟨⟨t', rfl⟩, rfl⟩ (Keep.refl _)) hm₆
    · exact args_0 ⟨kp_type, tuple_ints T₅ (by have := List.length_filter_le (f x) (List.range xs.length); rw [List.length_range] at this; omega) g fun _ _ g => g⟩
  · rw [all_range, ← hz] at g
    refine ne_tabs hA (l₄.keep g.keep) (TabP.of g) (fun i t bs t' bs' hi h h' => ⟨fun e => h.1 (e ▸ h'.1), eq_intsF ?_ h'.2⟩) ⟨rfl, rfl, hQ _ (K₃.trans (g₄.keep.trans g.keep))⟩
    have e : idx xs.length (rowAt hX.rows i) = (List.range xs.length).filter (f i) := by
      unfold idx
      exact List.filter_congr fun j hj => R₃.hasX (List.mem_range.mp hi) (List.mem_range.mp hj)
    rw [← e]
    exact h.2
end
end Mine
end
section
open PySem PySem.W PySem.W.X PyProof.Rows PySem.Calls PySem.Spec PySem.SeqAt
/-! Whole5 -/
namespace Mine
set_option maxRecDepth 100000
set_option maxHeartbeats 0

/-- a row of a grid, new -/
def RowG (g : Nat → Nat → Bool) (N : Nat) (j : Nat) (v : Value) (l : Objs) : Prop := ∃ D bs n ls, v = .ref D ∧ l = (D, listObj bs n) :: ls ∧ Paired (BoolT (g j)) (List.range N) bs
theorem ell_rowg {g : Nat → Nat → Bool} {N : Nat} {s : Shared} : ∀ {is : List Nat} {ys : List Value} {ls : Objs}, Ell (RowG g N) is ys ls → Has ls s.heap →
    Paired (fun i v => ∃ t bs m, v = .ref t ∧ s.heap.get? t = some (listObj bs m) ∧ Paired (BoolT (g i)) (List.range N) bs) is ys
  | _, _, _, .nil, _ => .nil
  | _, _, _, .cons h t, H => by
    obtain ⟨D, bs, n, ls, rfl, rfl, hp⟩ := h
    exact .cons ⟨D, bs, n, rfl, H.left.head, hp⟩ (ell_rowg t H.right)
theorem grid_of {g : Nat → Nat → Bool} {N K : Nat} {s s' : Shared} {v : Value} (h : Gives s (ListG (RowG g N) (List.range K)) v s') : ∃ a, v = .ref a ∧ GridAt s' a g K N := by
  obtain ⟨l, ⟨D, ys, n, ls, rfl, rfl, hE⟩, H, N, Kp⟩ := h
  exact ⟨D, rfl, ys, n, H.head, ell_rowg hE H.tail⟩
section
variable {w : World} {A : Around} {s s' s₀ : Shared} {E : Value → Shared → Prop} {env : Env} {k : Nat} {r : Addr} {hX hY : HP} {fX fY : FP} {xs ys : List Value} {f : Nat → Nat → Bool} {D MX MY L : Addr} {v tv : Value}
/-- list(a tuple) -/
theorem list_tup {a : Addr} {bs : List Value} {n : Nat} {Q : Value → Shared → Prop} (ha : s.heap.get? a = some (tupObj bs n)) (hl : bs.length ≤ 1000) (hQ : ∀ v s', Keep s s' → (∃ D m, v = .ref D ∧ s.heap.get? D = none ∧ s'.heap.get? D = some (listObj bs m)) → Q v s') :
    wpAny (model pw w) A (call (.type "list") [.ref a]) Q E s :=
  call_list_seq a (.inr rfl) ha rfl rfl (fun h' c' hk hD => hQ _ _ (.heapTok (tk := s.toks) hk) ⟨_, c', rfl, push_new, hD⟩) (by rw [List.size_toArray, sizeLine_eq]; omega)
theorem whole_ret {Q : Flow → Shared → Prop} {st : Stmt} (hst : st = stAt w.params 221 5) (hA : AOk (k + 6) A) (T : TopS w s₀) (W : WholeIn w s₀ r hX hY fX fY xs ys f D MX MY) (F : Fk s₀ (wE w.params L) (wO w.params L) (wl tv r) (wC D MX MY) s) (hQ : ∀ s', Keep s s' → Q (.ret (.bool true)) s') :
    wpAny (model pw w) A (exec st (wE w.params L)) Q E s := by
  subst hst
  have x4 := W.x4
  have y4 := W.y4
  have T₁ := F.top T
  have K₃ : Keep s { s with toks := s.toks + 1 } := toks_keep
  have F₃ := F.step K₃
  have T₃ := F₃.top T
  have W₃ := W.keep F₃.keep
  have R₃ := W₃.R
  obtain ⟨d, n, hr₃⟩ := R₃.obj
  refine wpAny_Return_some (BoolOp_and ?_)
  refine call_1 (nm_top T₁ (v := .ref 256) (args_c (Subscript_ (F.name (wpAny_Constant_int (rel_sub (i := 0) T₃ hr₃ (by decide) rfl (args_c ?_)))))))
  obtain ⟨nx, hMX⟩ := W₃.mx
  refine compC T₃ xs.length IntP (fun _ => true) (RowG (fun j i => f i j) ys.length) rfl (fun n => by rfl) (fun h => by rfl) rfl (by decide) rfl ?_ ?_ fun v s₄ g₄ => ?_
  · exact src_len hA T₃ hMX (by omega) (by kernel_rfl) (by kernel_rfl) (F₃.cname ⟨rfl, rfl⟩)
  · intro C cc j v lv s₅ hj hP hl₅ hcc hcell k₅
    obtain ⟨⟨t, rfl⟩, rfl⟩ := hP
    have F₅ := F₃.step k₅
    have T₅ := F₅.top T
    have W₅ := W.keep F₅.keep
    obtain ⟨ny, hMY⟩ := W₅.my
    refine wpAny_tests_nil ⟨rfl, Keep.refl _, fun _ => ?_⟩
    refine comp T₅ ys.length IntP (fun _ => true) (fun i y l => BoolT (fun i => f i j) i y ∧ l = []) rfl (by decide) rfl (by decide) rfl ?_ ?_ fun v s' g => ?_
    · exact src_len hA T₅ hMY (by omega) (by kernel_rfl) (by kernel_rfl) (nm_cell rfl (F₅.cell (x := Str.ofString "rows") rfl rfl) ⟨rfl, rfl⟩)
    · intro C' i v lv s₆ m₆ hi hP hl₆ hC' hn₆ hm₆ k₆
      obtain ⟨⟨t', rfl⟩, rfl⟩ := hP
      have F₆ := F₅.step k₆
      refine wpAny_tests_nil ⟨rfl, Keep.refl _, fun _ => ?_⟩
      exact tab_item (t1 := t') (t2 := t) ((W.keep F₆.keep).tb) hi hj (by omega) (by omega) (nm_cell rfl (F₆.cell (x := Str.ofString "table") rfl rfl) ⟨rfl, rfl⟩) (nm_local hn₆ ⟨rfl, rfl⟩ hm₆) (nm_cell rfl (IsCell_keep hcell hcc k₆) ⟨rfl, rfl⟩) (gives_plain ⟨rfl, rfl⟩ (Keep.refl _)) (by with_unfolding_all rfl) (by intro _; with_unfolding_all rfl)
    · rw [all_range] at g
      refine g.mono fun l hl => ?_
      obtain ⟨D', bs, n, ls, e1, e2, hE⟩ := hl
      exact ⟨D', bs, n, ls, e1, e2, ell_flat (fun i y l h => h.1) hE⟩
  rw [all_range] at g₄
  obtain ⟨GA, rfl, hG⟩ := grid_of g₄
  have F₄ := F₃.step g₄.keep
  have T₄ := F₄.top T
  have W₄ := W.keep F₄.keep
  have R₄ := W₄.R
  refine args_c (F₄.cname (args_c (F₄.cname (args_0 ⟨kp_top T₄ (by kernel_rfl) (.inl rfl), ?_⟩))))
  refine side_c (k := k) hA T₄ ⟨R₄.hx, R₄.hy, R₄.px, R₄.gridX, hG, by rw [R₄.xx]; exact W₄.mx, by rw [R₄.yy]; exact W₄.my, W.x0, W.y0, x4, y4⟩ fun s₅ K₅ => ?_
  refine wpAny_truthy_bool ?_
  rw [if_pos rfl]
  -- the other side
  refine BoolOp_one ?_
  have F₅ := F₄.step K₅
  have T₅ := F₅.top T
  have F₆ := F₅.step (toks_keep (tk := s₅.toks + 1))
  have T₆ := F₆.top T
  have W₆ := W.keep F₆.keep
  obtain ⟨d, n, hr₆⟩ := W₆.R.obj
  refine call_1 (nm_top T₅ (v := .ref 256) (args_c (Subscript_ (F₅.name (wpAny_Constant_int (rel_sub (i := 1) T₆ hr₆ (by decide) rfl (args_c ?_)))))))
  obtain ⟨vs, m, hD, hp⟩ := W₆.tb
  have hz := hp.length
  rw [List.length_range] at hz
  refine comp T₆ vs.length (fun i v l => vs[i]? = some v ∧ l = []) (fun _ => true) (RowG f xs.length) rfl (by decide) rfl (by decide) rfl ?_ ?_ fun v s₇ g₇ => ?_
  · exact F₆.cname (src_list hA T₆ hD (by omega))
  · intro C i v lv s₇ m₇ hi hP hl₇ hC hn₇ hm₇ k₇
    obtain ⟨hv, rfl⟩ := hP
    obtain ⟨x, hx, t, bs, m', rfl, e2, e3⟩ := paired_at hp hv
    obtain rfl := range_at hx
    have T₇ := (F₆.step k₇).top T
    have hbl := e3.length
    rw [List.length_range] at hbl
    refine wpAny_tests_nil ⟨rfl, Keep.refl _, fun _ => ?_⟩
    refine call_1 (nm_top T₇ (v := .type "list") (args_c (nm_local hn₇ (args_0 ⟨kp_type, list_tup (k₇.old _ _ (solid_cls rfl) e2) (by omega) fun v s' K' hv => ?_⟩) hm₇)))
    obtain ⟨D', q, rfl, hn', hD'⟩ := hv
    exact ⟨_, ⟨D', bs, q, [], rfl, rfl, e3⟩, Has.cons hD' (solid_cls rfl) .nil, fun p hp => by rw [List.mem_singleton.mp hp]; exact hn', K'⟩
  rw [all_range, ← hz] at g₇
  obtain ⟨GA', rfl, hG'⟩ := grid_of g₇
  have F₇ := F₆.step g₇.keep
  have T₇ := F₇.top T
  have W₇ := W.keep F₇.keep
  have R₇ := W₇.R
  refine args_c (F₇.cname (args_c (F₇.cname (args_0 ⟨kp_top T₇ (by kernel_rfl) (.inl rfl), ?_⟩))))
  refine side_c (k := k) hA T₇ ⟨R₇.hy, R₇.hx, R₇.py, R₇.gridY, hG', by rw [R₇.yy]; exact W₇.my, by rw [R₇.xx]; exact W₇.mx, W.y0, W.x0, y4, x4⟩ fun s₈ K₈ => ?_
  exact hQ s₈ (((K₃.trans g₄.keep).trans K₅).trans ((toks_keep.trans g₇.keep).trans K₈))
theorem whole_c {Q : Value → Shared → Prop} (hA : AOk (k + 7) A) (T : TopS w s) (W : WholeIn w s r hX hY fX fY xs ys f D MX MY) (hQ : ∀ s', Keep s s' → Q (.bool true) s') :
    wpAny (model pw w) A (call (.ref 261) [.ref r, .ref D, .ref MY, .ref MX]) Q E s := by
  refine enter_cells (binds := [(Str.ofString "pair", .ref r), (Str.ofString "table", .ref D), (Str.ofString "rows", .ref MY), (Str.ofString "columns", .ref MX)]) hA T (T.kin 261 _ rfl) rfl rfl
    ⟨_, _, _, _, rfl, T.kin _ _ rfl, rfl, rfl⟩ rfl rfl (fun n x hx => ?_) (fun n => by simp [cellsFrom]; decide) ?_
  · simp only [List.mem_cons, List.not_mem_nil, or_false] at hx
    rcases hx with rfl | rfl | rfl | rfl
    · exact .inl rfl
    · exact .inr ⟨rfl, rfl⟩
    · exact .inr ⟨rfl, rfl⟩
    · exact .inr ⟨rfl, rfl⟩
  intro L s₁ hA₁ T₁ F₁ _
  show wpAny _ (A.deeper (wE w.params L)) (execs [stAt w.params 221 0, stAt w.params 221 1, stAt w.params 221 2, stAt w.params 221 3, stAt w.params 221 4, stAt w.params 221 5] (wE w.params L)) _ _ _
  change AOk _ (A.deeper (wE w.params L)) at hA₁
  have Fa : Fk s (wE w.params L) (wO w.params L) [(Str.ofString "pair", .ref r)] (wC D MX MY) s₁ := by
    refine ⟨_, _, F₁, fun x v e => ?_, fun x v e => ?_⟩
    · simp only [List.lookup_cons, List.lookup_nil] at e
      split at e
      · cases e; rename_i hx; rw [beq_iff_eq.mp hx]; rfl
      · cases e
    · simp only [List.lookup_cons, List.lookup_nil] at e
      split at e
      · cases e; rename_i hx; rw [beq_iff_eq.mp hx]; rfl
      · split at e
        · cases e; rename_i hx; rw [beq_iff_eq.mp hx]; rfl
        · split at e
          · cases e; rename_i hx; rw [beq_iff_eq.mp hx]; rfl
          · cases e
  generalize g0 : stAt w.params 221 0 = t0
  generalize g1 : stAt w.params 221 1 = t1
  generalize g2 : stAt w.params 221 2 = t2
  generalize g3 : stAt w.params 221 3 = t3
  generalize g4 : stAt w.params 221 4 = t4
  generalize g5 : stAt w.params 221 5 = t5
  refine wpAny_execs_cons (whole_turned g0.symm (k := k + 5) hA₁ T W Fa fun tv s₂ F₂ t₂ => ?_)
  refine wpAny_execs_cons (whole_if1 g1.symm (k := k + 5) hA₁ T W F₂ fun s₃ K₃ => ?_)
  have F₃ := F₂.step K₃
  refine wpAny_execs_cons (whole_if2 g2.symm (k := k + 5) hA₁ T W F₃ fun s₄ K₄ => ?_)
  have F₄ := F₃.step K₄
  refine wpAny_execs_cons (whole_if3 g3.symm (k := k + 1) hA₁ T W F₄ ((t₂.keep K₃).keep K₄) fun s₅ K₅ => ?_)
  have F₅ := F₄.step K₅
  refine wpAny_execs_cons (whole_if4 g4.symm (k := k + 1) hA₁ T W F₅ fun s₆ K₆ => ?_)
  have F₆ := F₅.step K₆
  exact wpAny_execs_cons (whole_ret g5.symm (k := k) hA₁ T W F₆ fun s₇ K₇ => hQ s₇ (F₆.step K₇).keep)
end
end Mine
end
section
open PySem PySem.W PySem.W.X PyProof.Rows PySem.Calls PySem.Spec PySem.SeqAt
/-! LawA -/
namespace Mine
set_option maxRecDepth 100000
set_option maxHeartbeats 0

section
variable {w : World} {A : Around} {s s' s₀ : Shared} {E : Value → Shared → Prop} {env : Env} {own : List (Str × Addr)} {m cm : Str → Option Value} {k : Nat} {l lc : List (Str × Value)} {v : Value} {L : Addr}
/-- what lies where no names lie -/
theorem off_ns {a : Addr} {o : Obj} (n : s.heap.Ns L m) (h : s.heap.get? a = some o) (hd : ∀ es q, o.data ≠ .dict es q) : a ≠ L := fun e => by
  obtain ⟨o', es, ep, h', d, _⟩ := n
  rw [e, h'] at h; cases h
  exact hd _ _ d
theorem ns_mb {a B : Addr} {hb : Int} {kt : Tok} {n : Nat} {x : Str} (ns : s.heap.Ns L m) (hx : m x = some v) (hne : (sBitSet == x) = false) (h : s.heap.get? a = some (mbDict hb kt B n)) : a ≠ L := fun e => by
  obtain ⟨o', es, ep, h', d, _, f⟩ := ns
  rw [e, h'] at h; cases h
  cases d
  have := f x
  rw [hx] at this
  simp [nsFind, findBy, Value.isStr, hne] at this

/-- the frame of law: its names, and what was made since -/
structure Fx (w : World) (s₀ : Shared) (env : Env) (own : List (Str × Addr)) (l lc : List (Str × Value)) (s : Shared) : Prop where
  ex : ∃ m cm, FmX w [] s₀ env own m cm s ∧ Kn m l ∧ Kn cm lc
  pt : PT s
theorem Fx.top (F : Fx w s₀ env own l lc s) (T : TopS w s₀) : TopS w s := let ⟨_, _, a, _⟩ := F.ex; a.ch.top T
theorem Fx.step (T : TopS w s₀) (F : Fx w s₀ env own l lc s) (K : Keep s s') : Fx w s₀ env own l lc s' := let ⟨_, _, a, b, c⟩ := F.ex; ⟨⟨_, _, a.step T (Ch.of K), b, c⟩, F.pt.keep K⟩
theorem Fx.ch (T : TopS w s₀) (F : Fx w s₀ env own l lc s) (C : Ch w [] s s') (P : PT s') : Fx w s₀ env own l lc s' := let ⟨_, _, a, b, c⟩ := F.ex; ⟨⟨_, _, a.step T C, b, c⟩, P⟩
theorem Fx.ns (F : Fx w s₀ env own l lc s) : ∃ m, s.heap.Ns env.locals m ∧ Kn m l := let ⟨m, _, a, b, _⟩ := F.ex; ⟨m, a.ns, b⟩
theorem Fx.new (T : TopS w s₀) (F : Fx w s₀ env own l lc s) {a : Addr} (h : s.heap.get? a = none) : a ≠ env.locals := fun e => by
  obtain ⟨m, ⟨o, _, _, x, _⟩, _⟩ := F.ns
  rw [← e, h] at x; cases x
theorem Fx.name {x : Str} {pos : Pos} {Q : Value → Shared → Prop} (F : Fx w s₀ env own l lc s) (h : Q v s) (hv : l.lookup x = some v := by rfl) (hf : env.scope.kind = .function := by rfl) (hx : env.kindOf x = some .local := by rfl) (hd : (x == ("__debug__" : Str)) = false := by decide +kernel) :
    wpAny (model pw w) A (eval (.Name x pos) env) Q E s := let ⟨_, _, a, b, c⟩ := F.ex; a.name hf ⟨hx, hd⟩ (b _ _ hv) h
theorem Fx.cell {x : Str} {c : Addr} (F : Fx w s₀ env own l lc s) (hl : own.lookup x = some c) (hv : lc.lookup x = some v) : s.heap.IsCell c (some v) := let ⟨_, _, a, _, d⟩ := F.ex; a.c x hl (d _ _ hv)
theorem Fx.cname {x : Str} {c : Addr} {pos : Pos} {Q : Value → Shared → Prop} (F : Fx w s₀ env own l lc s) (h : Q v s) (hl : own.lookup x = some c := by rfl) (he : env.cells.lookup x = some c := by rfl) (hv : lc.lookup x = some v := by rfl) (hf : env.scope.kind = .function := by rfl) (hx : env.kindOf x = some .cell := by rfl) (hd : (x == ("__debug__" : Str)) = false := by decide +kernel) :
    wpAny (model pw w) A (eval (.Name x pos) env) Q E s := nm_cell he (F.cell hl hv) h hf hx hd
theorem Fx.store {x : Str} {Q : Unit → Shared → Prop} (T : TopS w s₀) (F : Fx w s₀ env own l lc s) (h : ∀ s', Fx w s₀ env own ((x, v) :: l) lc s' → Heap.SameBut env.locals s.heap s'.heap → Q () s') (hf : env.scope.kind = .function := by rfl) (hx : env.kindOf x = some .local := by rfl) (hd : (x == ("__debug__" : Str)) = false := by decide +kernel) :
    wpAny (model pw w) A (storeName env x v) Q E s := by
  obtain ⟨m, cm, a, b, c⟩ := F.ex
  exact a.store T hf ⟨hx, hd⟩ fun s' F' _ hk => h s' ⟨⟨_, _, F', b.set v, c⟩, F.pt.same hk (Ns_noF a.ns)⟩ hk
/-- another dict, new, changed -/
theorem Fx.setD {dx : Addr} {h' : Heap} {tk : Nat} (T : TopS w s₀) (F : Fx w s₀ env own l lc s) (h0 : s₀.heap.get? dx = none) (hx : dx ∉ mutX env own) (hn : s.heap.Ns dx m) (hs : Heap.SameBut dx s.heap h') : Fx w s₀ env own l lc { s with heap := h', toks := tk } := by
  obtain ⟨m', cm, a, b, c⟩ := F.ex
  have C : Ch w [dx] s { s with heap := h', toks := tk } := Ch.set (free_of T h0) hs
  exact ⟨⟨m', cm, a.stepN T C (fun z hz => by rw [List.mem_singleton.mp hz]; exact h0) (fun z hz => by rw [List.mem_singleton.mp hz]; exact hx), b, c⟩, F.pt.same hs (Ns_noF hn)⟩
theorem Fx.used {y : Str} {py : Pos} {C : Addr} {m' : Str → Option Value} {Q : Value → Shared → Prop} (T : TopS w s₀) (F : Fx w s₀ env own l lc s) (h0 : s₀.heap.get? C = none) (hC : C ∉ mutX env own) (hn : s.heap.Ns C m')
    (hQ : ∀ s'', Fx w s₀ env own ((y, v) :: l) lc s'' → (∀ b o, b ≠ C → b ≠ env.locals → s.heap.get? b = some o → s''.heap.get? b = some o) → Q .none s'') (hf : env.scope.kind = .function := by rfl) (hx : env.kindOf y = some .local := by rfl) (hd : (y == ("__debug__" : Str)) = false := by decide +kernel) :
    compPost (model pw w) A E (some (assign (.Name y py) env)) Q v C (.ok .next) s := by
  show wpAny _ _ (assign (.Name y py) env v) _ _ _
  have hne : C ≠ env.locals := fun e => hC (e ▸ List.mem_cons_self)
  refine wpAny_assign_Name (F.store T (fun s' F' hs => ?_) hf hx hd)
  refine ⟨m', hn.sameBut hs hne, fun h'' hs'' => hQ _ (F'.setD (tk := s'.toks) T h0 hC (hn.sameBut hs hne) hs'') fun b o h1 h2 e => hs''.extBut b o h1 (hs.extBut b o h2 e)⟩
end
end Mine
end
section
open PySem PySem.W PySem.W.X PyProof.Rows PySem.Calls PySem.Spec PySem.SeqAt
/-! LawB -/
namespace Mine
set_option maxRecDepth 100000
set_option maxHeartbeats 0

section
variable {w : World} {A : Around} {s s' s₀ : Shared} {E : Value → Shared → Prop} {env : Env} {own : List (Str × Addr)} {m cm : Str → Option Value} {k : Nat} {l lc : List (Str × Value)} {v : Value} {L a : Addr} {xs : List Int}
theorem Ch.solX (c : Ch w [] s s') (X : List Addr) : Sol X s s' := fun b o _ so e => c.old b o (by simp) so e
theorem Fx.other (F : Fx w s₀ env own l lc s) {a : Addr} (h : s.heap.get? a = none) : a ∉ mutX env own := by
  obtain ⟨m, cm, Fm, _, _⟩ := F.ex
  intro hm
  rcases List.mem_cons.mp hm with e | hm
  · obtain ⟨o, _, _, e', _⟩ := Fm.ns
    rw [← e, h] at e'; cases e'
  · obtain ⟨x, hx, e⟩ := List.mem_map.mp hm
    obtain ⟨n, c⟩ := x
    subst e
    obtain ⟨o, e', _⟩ := Fm.cell n c (lookup_of_mem Fm.nd hx)
    exact nomatch (h.symm.trans e')
theorem Fx.none (T : TopS w s₀) (F : Fx w s₀ env own l lc s) {a : Addr} (h : s.heap.get? a = none) : s₀.heap.get? a = none := let ⟨_, _, Fm, _, _⟩ := F.ex; Fm.ch.none T h
theorem IsScript.sol (h : IsScript s a xs) (C : Ch w [] s s') : IsScript s' a xs := ⟨let ⟨o, ys, n, e, c, d, p⟩ := h.list; ⟨o, ys, n, C.old _ _ (by simp) (solid_cls (by unfold hasCls; rw [c])) e, c, d, p⟩, h.len⟩
theorem Fx.script (F : Fx w s₀ env own l lc s) (h : IsScript s₀ a xs) : IsScript s a xs := let ⟨_, _, Fm, _, _⟩ := F.ex; h.sol Fm.ch
/-- facts of lists and tuples pass a store -/
theorem sol_at {o : Obj} {b : Addr} (n : s.heap.Ns L m) (S : Sol [L] s s') (h : s.heap.get? b = some o) (so : solid b o = true) (hd : ∀ es q, o.data ≠ .dict es q) : s'.heap.get? b = some o :=
  S b o (fun hm => off_ns n h hd (List.mem_singleton.mp hm)) so h
theorem TabAt.sol {D : Addr} {f : Nat → Nat → Bool} {kk n : Nat} (h : TabAt s D f kk n) (ns : s.heap.Ns L m) (S : Sol [L] s s') : TabAt s' D f kk n :=
  let ⟨vs, q, e, p⟩ := h; ⟨vs, q, sol_at ns S e (solid_cls rfl) (fun _ _ h => by cases h), pimp (fun i v ⟨t, bs, m', e1, e2, e3⟩ => ⟨t, bs, m', e1, sol_at ns S e2 (solid_cls rfl) (fun _ _ h => by cases h), e3⟩) p⟩
theorem list_sol {D : Addr} {ys : List Value} (h : ∃ n, s.heap.get? D = some (listObj ys n)) (ns : s.heap.Ns L m) (S : Sol [L] s s') : ∃ n, s'.heap.get? D = some (listObj ys n) :=
  let ⟨n, e⟩ := h; ⟨n, sol_at ns S e (solid_cls rfl) (fun _ _ h => by cases h)⟩
theorem Half.sol {h : HP} (H : Half s h) (ns : s.heap.Ns L m) {x : Str} (hx : m x = some v) (hne : (sBitSet == x) = false) (S : Sol [L] s s') (n1 : h.dV ≠ L) (n2 : h.dB ≠ L) (n3 : h.V ≠ L) (n4 : h.B ≠ L) : Half s' h where
  v := ⟨let ⟨o, p, q⟩ := H.v.ins; ⟨o, p, S _ _ (fun hm => n3 (List.mem_singleton.mp hm)) (solid_cls (by unfold hasCls; rw [p.1])) q⟩, let ⟨o, p, q⟩ := H.v.dc; ⟨o, p, S _ _ (fun hm => n1 (List.mem_singleton.mp hm)) p.solid q⟩, H.v.vec, list_sol H.v.list ns S⟩
  vb := H.vb
  b := ⟨let ⟨o, p, q⟩ := H.b.ins; ⟨o, p, S _ _ (fun hm => n4 (List.mem_singleton.mp hm)) (solid_cls (by unfold hasCls; rw [p.1])) q⟩, let ⟨o, p, q⟩ := H.b.dc; ⟨o, p, S _ _ (fun hm => n2 (List.mem_singleton.mp hm)) p.solid q⟩, H.b.mem, list_sol H.b.list ns S⟩
  sup := sol_at ns S H.sup (solid_cls rfl) (fun _ _ h => by cases h)
  supl := H.supl
  rows := pimp (fun v n ⟨p, e, d, hb, t, kt, q, y, z⟩ => ⟨p, e, d, hb, t, kt, q, sol_at ns S y (solid_cls rfl) (fun _ _ h => by cases h), S _ _ (fun hm => ns_mb ns hx hne z (List.mem_singleton.mp hm)) (solid_cls rfl) z⟩) H.rows
theorem CodeS.sol {cd : Value} {q : Str} (x : CodeS s.heap cd q) (ns : s.heap.Ns L m) (S : Sol [L] s s') : CodeS s'.heap cd q := by
  obtain ⟨cc, o, vs, t', a, b, so, dd, e⟩ := x
  exact ⟨cc, o, vs, t', a, sol_at ns S b so (fun _ _ h => by rw [dd] at h; cases h), so, dd, e⟩
theorem ClosAt.sol {f : Addr} {j : Nat} {cl : List (Str × Addr)} (x : ClosAt w.params s.heap f j cl) (ns : s.heap.Ns L m) (S : Sol [L] s s') : ClosAt w.params s'.heap f j cl := by
  obtain ⟨qual, ct, cd, pm, a, b⟩ := x
  exact ⟨qual, ct, cd, pm, sol_at ns S a (solid_cls rfl) (fun _ _ h => by cases h), b.sol ns S⟩
theorem CellO.sol {f : Addr} (x : CellO s.heap f v) (ns : s.heap.Ns L m) (S : Sol [L] s s') : CellO s'.heap f v := by
  obtain ⟨o, a, so, b⟩ := x
  exact ⟨o, sol_at ns S a so (fun _ _ h => by rw [b] at h; cases h), so, b⟩
theorem Paird.sol {h o : HP} {f : FP} {r : Addr} {ix : Int} (x : Paird w s h o f r ix) (ns : s.heap.Ns L m) (S : Sol [L] s s') : Paird w s' h o f r ix :=
  ⟨x.rel, x.idx, x.v1, x.v2, x.v3, x.b0, x.b1, x.b2, x.b3, x.nb, x.ns, x.o1.sol ns S, x.o2.sol ns S, x.o3.sol ns S, x.e1.sol ns S, x.e2.sol ns S, x.e3.sol ns S, x.e4.sol ns S, x.e5.sol ns S, x.e6.sol ns S, sol_at ns S x.m1 (solid_cls rfl) (fun _ _ h => by cases h), sol_at ns S x.m2 (solid_cls rfl) (fun _ _ h => by cases h)⟩
/-- a relation whose things are none of L -/
def OffR (L : Addr) (hX hY : HP) : Prop := ∀ a ∈ [hX.dV, hX.dB, hX.V, hX.B, hY.dV, hY.dB, hY.V, hY.B], a ≠ L
theorem RelAt.sol {r : Addr} {hX hY : HP} {fX fY : FP} {us ys : List Value} {f : Nat → Nat → Bool} (R : RelAt w s r hX hY fX fY us ys f) (ns : s.heap.Ns L m) {x : Str} (hx : m x = some v) (hne : (sBitSet == x) = false) (O : OffR L hX hY) (S : Sol [L] s s') : RelAt w s' r hX hY fX fY us ys f :=
  ⟨let ⟨d, n, e⟩ := R.obj; ⟨d, n, sol_at ns S e (solid_cls rfl) (fun _ _ h => by cases h)⟩, R.hx.sol ns hx hne S (O _ (by simp)) (O _ (by simp)) (O _ (by simp)) (O _ (by simp)), R.hy.sol ns hx hne S (O _ (by simp)) (O _ (by simp)) (O _ (by simp)) (O _ (by simp)),
    R.px.sol ns S, R.py.sol ns S, R.xx, R.yy, R.rx, R.ry, R.nx, R.ny⟩
theorem tabAt_of {f : Nat → Nat → Bool} {kk n : Nat} (g : Gives s (ListG (fun i => TupG (BoolT (f i)) (List.range n)) (List.range kk)) v s') : ∃ D, v = .ref D ∧ s.heap.get? D = none ∧ TabAt s' D f kk n := by
  obtain ⟨l, ⟨D, ys, q, ls, rfl, rfl, hE⟩, H, N, K⟩ := g
  exact ⟨D, rfl, N _ List.mem_cons_self, ys, q, H.head, pimp (fun i v ⟨t, bs, m', e1, e2, e3⟩ => ⟨t, bs, m', e1, e2, e3.2⟩) (ell_tabp (sb := s) hE H.tail fun p hp => N p (List.mem_cons_of_mem _ hp))⟩
/-- the size drawn -/
theorem fmod_in (z : Int) (b : Nat) (hb : 0 < b) : 0 ≤ z.fmod (b : Int) ∧ z.fmod (b : Int) < (b : Int) := by
  have e : z.fmod (b : Int) = z % (b : Int) := Int.fmod_eq_emod_of_nonneg _ (by omega)
  rw [e]
  exact ⟨Int.emod_nonneg _ (by omega), Int.emod_lt_of_pos _ (by omega)⟩
theorem size_of (z : Int) (b : Nat) (hb : 0 < b) : ∃ K : Nat, 1 ≤ K ∧ K ≤ b ∧ 1 + z.fmod (b : Int) = ((K : Nat) : Int) := by
  obtain ⟨h1, h2⟩ := fmod_in z b hb
  exact ⟨(1 + z.fmod (b : Int)).toNat, by omega, by omega, by omega⟩
/-- what a comprehension has stored -/
theorem used_list {n : Nat} {C : Addr} {m' : Str → Option Value} {y : Str} {py : Pos} {lo : Objs} {Q : Value → Shared → Prop} (T : TopS w s₀) (F : Fx w s₀ env own l lc s) (hG : ListG (fun _ _ l => l = []) (List.range n) v lo) (H : Has lo s'.heap) (N : NewL s lo) (hC : ∀ q ∈ lo, q.1 ≠ C) (K : Keep s s') (h0 : s.heap.get? C = none)
    (hn : s'.heap.Ns C m')
    (hQ : ∀ M zs s'', zs.length = n → s.heap.get? M = none → (∃ q, s''.heap.get? M = some (listObj zs q)) → Fx w s₀ env own ((y, .ref M) :: l) lc s'' → Sol [env.locals] s s'' → Q .none s'') (hf : env.scope.kind = .function := by rfl) (hx : env.kindOf y = some .local := by rfl) (hd : (y == ("__debug__" : Str)) = false := by decide +kernel) :
    compPost (model pw w) A E (some (assign (.Name y py) env)) Q v C (.ok .next) s' := by
  obtain ⟨M, zs, q, ls, rfl, rfl, hE⟩ := hG
  have hM : s.heap.get? M = none := N _ List.mem_cons_self
  refine (F.step T K).used T (F.none T h0) (F.other h0) hn (fun s'' F'' hk => hQ M zs s'' (by have := hE.length; rw [List.length_range] at this; exact this) hM ⟨q, hk _ _ (hC _ List.mem_cons_self) (F.new T hM) H.head⟩ F'' fun b o hb so e => ?_) hf hx hd
  exact hk b o (fun h => by rw [h, h0] at e; cases e) (fun h => hb (by rw [h]; exact List.mem_cons_self)) (K.old b o so e)
end
end Mine
end
section
open PySem PySem.W PySem.W.X PyProof.Rows PySem.Calls PySem.Spec PySem.SeqAt
/-! LawC -/
namespace Mine
set_option maxRecDepth 100000
set_option maxHeartbeats 0

theorem digits (z : Int) (h0 : 0 ≤ z) (h1 : z < 100) : (Str.ofString (toString z)).length ≤ 10 := by
  have key : (List.range 100).all (fun n => decide ((Str.ofString (toString (n : Int))).length ≤ 10)) = true := by decide +kernel
  have := List.all_eq_true.mp key z.toNat (List.mem_range.mpr (by omega))
  rw [show ((z.toNat : Nat) : Int) = z by omega] at this
  exact of_decide_eq_true this
theorem log_small (z : Int) (h0 : 0 ≤ z) (h1 : z < 100) : z.natAbs.log2 < 1920 := by
  by_cases h : z.natAbs = 0
  · rw [h]; decide
  · have : z.natAbs.log2 < 7 := (Nat.log2_lt h).mpr (by omega)
    omega
section
variable {w : World} {A : Around} {s s' s₀ : Shared} {E : Value → Shared → Prop} {k K N : Nat} {l : List (Str × Value)} {v : Value} {L a : Addr} {xs : List Int} {tk tn : Tok}
noncomputable abbrev xE (P : Params) (L : Addr) : Env := callEnvC (fnAt P 226) L 266
noncomputable abbrev xO (P : Params) (L : Addr) : List (Str × Addr) := (callEnvC (fnAt P 226) L 266).cells
abbrev cS (a : Addr) : List (Str × Value) := [(Str.ofString "script", .ref a)]
theorem law_s0 {Q : Flow → Shared → Prop} {st : Stmt} (hst : st = stAt w.params 226 0) (hA : AOk (k + 1) A) (T : TopS w s₀) (hS : IsScript s₀ a xs) (F : Fx w s₀ (xE w.params L) (xO w.params L) l (cS a) s)
    (hQ : ∀ K N tk tn s', 1 ≤ K → K ≤ 4 → 1 ≤ N → N ≤ 4 → Fx w s₀ (xE w.params L) (xO w.params L) ((Str.ofString "k", .int ((K : Nat) : Int) tk) :: (Str.ofString "n", .int ((N : Nat) : Int) tn) :: l) (cS a) s' → Sol [L] s s' → Q .next s') :
    wpAny (model pw w) A (exec st (xE w.params L)) Q E s := by
  subst hst
  refine store2 (x := Str.ofString "k") (y := Str.ofString "n") hA ?_ rfl rfl
  refine wpAny_Tuple (wpAny_items_cons ?_)
  have F₁ := F.step T (toks_keep (tk := s.toks + 1))
  have F₂ := F.step T (toks_keep (tk := s.toks + 1 + 1))
  refine wpAny_BinOp (wpAny_Constant_int (wpAny_BinOp (wpAny_BinOp (call_1 (nm_top (F₁.top T) (v := .ref 246) (args_c (F₁.cname (args_c (wpAny_Constant_int (args_0 ⟨kp_top (F₂.top T) (by kernel_rfl) (.inl rfl), ?_⟩))))))))))
  refine law_at_c (k := k) (i := 0) hA (F₂.top T) (F₂.script hS) fun t s₃ K₃ => ?_
  refine wpAny_Constant_int (add_int (wpAny_Constant_int (mod_int (by decide) (add_int ?_))))
  obtain ⟨K, k1, k4, e⟩ := size_of (item xs 0 + 3) 4 (by decide)
  have e' : 1 + (item xs 0 + 3).fmod 4 = ((K : Nat) : Int) := e
  rw [e']
  have K₄ : Keep s { s₃ with toks := s₃.toks + 1 + 1 + 1 + 1 + 1 } := ((toks_keep (s := s)).trans K₃).trans toks_keep
  have F₄ := F.step T K₄
  refine wpAny_items_cons ?_
  have F₅ := F₄.step T (toks_keep (tk := s₃.toks + 1 + 1 + 1 + 1 + 1 + 1))
  have F₆ := F₄.step T (toks_keep (tk := s₃.toks + 1 + 1 + 1 + 1 + 1 + 1 + 1))
  refine wpAny_BinOp (wpAny_Constant_int (wpAny_BinOp (wpAny_BinOp (call_1 (nm_top (F₅.top T) (v := .ref 246) (args_c (F₅.cname (args_c (wpAny_Constant_int (args_0 ⟨kp_top (F₆.top T) (by kernel_rfl) (.inl rfl), ?_⟩))))))))))
  refine law_at_c (k := k) (i := 1) hA (F₆.top T) (F₆.script hS) fun t' s₇ K₇ => ?_
  refine wpAny_Constant_int (add_int (wpAny_Constant_int (mod_int (by decide) (add_int ?_))))
  obtain ⟨N, n1, n4, e⟩ := size_of (item xs 1 + 3) 4 (by decide)
  have e' : 1 + (item xs 1 + 3).fmod 4 = ((N : Nat) : Int) := e
  rw [e']
  refine wpAny_items_nil ⟨by rw [sizeLine_eq]; simp, ?_⟩
  refine ⟨_, _, _, 0, rfl, Heap.get?_push_size _ rfl, fun s₈ K₈ => ?_⟩
  have K' : Keep s s₈ := (((K₄.trans ((toks_keep (s := { s₃ with toks := s₃.toks + 1 + 1 + 1 + 1 + 1 })).trans K₇)).trans (toks_keep (tk := s₇.toks + 1 + 1 + 1 + 1 + 1))).trans (push_keep (tk := s₇.toks + 1 + 1 + 1 + 1 + 1))).trans K₈
  refine (F.step T K').store T fun s₅ F₅ S₅ => F₅.store T fun s₆ F₆ S₆ => ?_
  exact hQ K N _ _ s₆ k1 k4 n1 n4 F₆ (K'.solX.trans ((Sol.of S₅).trans (Sol.of S₆)))
theorem law_s1 {Q : Flow → Shared → Prop} {st : Stmt} (hst : st = stAt w.params 226 1) (hA : AOk (k + 1) A) (T : TopS w s₀) (hS : IsScript s₀ a xs) (F : Fx w s₀ (xE w.params L) (xO w.params L) l (cS a) s)
    (hQ : ∀ K N tk tn s', 1 ≤ K → K ≤ 3 → 1 ≤ N → N ≤ 3 → Fx w s₀ (xE w.params L) (xO w.params L) ((Str.ofString "small", .int ((K : Nat) : Int) tk) :: (Str.ofString "few", .int ((N : Nat) : Int) tn) :: l) (cS a) s' → Sol [L] s s' → Q .next s') :
    wpAny (model pw w) A (exec st (xE w.params L)) Q E s := by
  subst hst
  refine store2 (x := Str.ofString "small") (y := Str.ofString "few") hA ?_ rfl rfl
  refine wpAny_Tuple (wpAny_items_cons ?_)
  have F₁ := F.step T (toks_keep (tk := s.toks + 1))
  have F₂ := F.step T (toks_keep (tk := s.toks + 1 + 1))
  refine wpAny_BinOp (wpAny_Constant_int (wpAny_BinOp (call_1 (nm_top (F₁.top T) (v := .ref 246) (args_c (F₁.cname (args_c (wpAny_Constant_int (args_0 ⟨kp_top (F₂.top T) (by kernel_rfl) (.inl rfl), ?_⟩)))))))))
  refine law_at_c (k := k) (i := 6) hA (F₂.top T) (F₂.script hS) fun t s₃ K₃ => ?_
  refine wpAny_Constant_int (mod_int (by decide) (add_int ?_))
  obtain ⟨K, k1, k4, e⟩ := size_of (item xs 6) 3 (by decide)
  have e' : 1 + (item xs 6).fmod 3 = ((K : Nat) : Int) := e
  rw [e']
  have K₄ : Keep s { s₃ with toks := s₃.toks + 1 + 1 + 1 } := ((toks_keep (s := s)).trans K₃).trans toks_keep
  have F₄ := F.step T K₄
  refine wpAny_items_cons ?_
  have F₅ := F₄.step T (toks_keep (tk := s₃.toks + 1 + 1 + 1 + 1))
  have F₆ := F₄.step T (toks_keep (tk := s₃.toks + 1 + 1 + 1 + 1 + 1))
  refine wpAny_BinOp (wpAny_Constant_int (wpAny_BinOp (wpAny_BinOp (call_1 (nm_top (F₅.top T) (v := .ref 246) (args_c (F₅.cname (args_c (wpAny_Constant_int (args_0 ⟨kp_top (F₆.top T) (by kernel_rfl) (.inl rfl), ?_⟩))))))))))
  refine law_at_c (k := k) (i := 7) hA (F₆.top T) (F₆.script hS) fun t' s₇ K₇ => ?_
  refine wpAny_Constant_int (add_int (wpAny_Constant_int (mod_int (by decide) (add_int ?_))))
  obtain ⟨N, n1, n4, e⟩ := size_of (item xs 7 + 1) 3 (by decide)
  have e' : 1 + (item xs 7 + 1).fmod 3 = ((N : Nat) : Int) := e
  rw [e']
  refine wpAny_items_nil ⟨by rw [sizeLine_eq]; simp, ?_⟩
  refine ⟨_, _, _, 0, rfl, Heap.get?_push_size _ rfl, fun s₈ K₈ => ?_⟩
  have K' : Keep s s₈ := (((K₄.trans ((toks_keep (s := { s₃ with toks := s₃.toks + 1 + 1 + 1 })).trans K₇)).trans (toks_keep (tk := s₇.toks + 1 + 1 + 1 + 1 + 1))).trans (push_keep (tk := s₇.toks + 1 + 1 + 1 + 1 + 1))).trans K₈
  refine (F.step T K').store T fun s₅ F₅ S₅ => F₅.store T fun s₆ F₆ S₆ => ?_
  exact hQ K N _ _ s₆ k1 k4 n1 n4 F₆ (K'.solX.trans ((Sol.of S₅).trans (Sol.of S₆)))

/-- a written text at an index -/
theorem str_sub {value slice : Expr} {x : Str} {t u : Tok} {i c : Nat} {Q : Value → Shared → Prop} (hi : i < 100) (hc : (seqIndex? (i : Int) x.length).bind (x.cps[·]?) = some c) (h : Q (.str ⟨#[c]⟩ s.toks) { s with toks := s.toks + 1 })
    (hs : subscripted slice false (.str x t) (.int (i : Int) u) = operate [.str x t, .int (i : Int) u] (getItem (.str x t) (.int (i : Int) u)) := by with_unfolding_all rfl) (ht : ∀ r, letTemporaryGo value (.str x t) r = pure () := by intro _; with_unfolding_all rfl) :
    wpAny (model pw w) A (subscriptTail value slice (.str x t) (.int (i : Int) u)) Q E s :=
  subscriptTail_builtin (T := "str") (typeIs_str s x t) F.slot_str_getitem.lookup (P.getItem_str (by rw [Bool.or_eq_false_iff]; exact ⟨decide_eq_false (by omega), decide_eq_false (by omega)⟩) hc h) hs ht
theorem law_rows {Q : Flow → Shared → Prop} {st : Stmt} (hst : st = stAt w.params 226 2) (hA : AOk (k + 1) A) (T : TopS w s₀) (hS : IsScript s₀ a xs) (F : Fx w s₀ (xE w.params L) (xO w.params L) l (cS a) s) (hk : l.lookup (Str.ofString "k") = some (.int (K : Int) tk)) (hK : K ≤ 4)
    (hQ : ∀ M zs s', zs.length = K → s.heap.get? M = none → (∃ q, s'.heap.get? M = some (listObj zs q)) → Fx w s₀ (xE w.params L) (xO w.params L) ((Str.ofString "rows", .ref M) :: l) (cS a) s' → Sol [L] s s' → Q .next s') :
    wpAny (model pw w) A (exec st (xE w.params L)) Q E s := by
  subst hst
  refine assign_used (compU (sb := s) (F.top T) K IntP (fun _ => true) (fun _ _ l => l = []) rfl (by decide) rfl (by decide) rfl ?_ ?_ fun C m' v s' lo g H N hC K' h0 ho hn => ?_)
  · exact call_1 (nm_top (F.top T) (v := .type "range") (args_c (F.name (args_0 ⟨kp_type, src_range1 hA (F.top T) (by omega)⟩) hk)))
  · intro C i v lv s₃ m₃ hi hP hl₃ hC hn₃ hm₃ k₃
    obtain ⟨⟨t, rfl⟩, rfl⟩ := hP
    have F₃ := F.step T k₃
    have F₄ := F₃.step T (toks_keep (tk := s₃.toks + 1))
    refine wpAny_tests_nil ⟨rfl, Keep.refl _, fun _ => ?_⟩
    refine wpAny_BinOp (call_1 (nm_top (F₃.top T) (v := .type "str") (args_c (wpAny_BinOp (call_1 (nm_top (F₃.top T) (v := .ref 246) (args_c (nm_cell rfl (F₃.cell (x := Str.ofString "script") rfl rfl) (args_c (wpAny_Constant_int (args_0 ⟨kp_top (F₄.top T) (by kernel_rfl) (.inl rfl), ?_⟩)))))))))))
    refine law_at_c (k := k) (i := 12) hA (F₄.top T) (F₄.script hS) fun t' s₅ k₅ => ?_
    obtain ⟨z0, z1⟩ : 0 ≤ (item xs 12).fmod 100 ∧ (item xs 12).fmod 100 < 100 := fmod_in (item xs 12) 100 (by decide)
    refine wpAny_Constant_int (mod_int (by decide) (args_0 ⟨kp_type, P.str_of_int (log_small _ z0 z1) ?_⟩))
    have K₅ : Keep s₃ { s₅ with toks := s₅.toks + 1 + 1 + 1 + 1 } := (toks_keep.trans k₅).trans toks_keep
    obtain ⟨c, hc⟩ : ∃ c, (seqIndex? (i : Int) (Str.ofString "abcd").length).bind ((Str.ofString "abcd").cps[·]?) = some c := by
      have : i = 0 ∨ i = 1 ∨ i = 2 ∨ i = 3 := by omega
      rcases this with rfl | rfl | rfl | rfl
      · exact ⟨97, by decide +kernel⟩
      · exact ⟨98, by decide +kernel⟩
      · exact ⟨99, by decide +kernel⟩
      · exact ⟨100, by decide +kernel⟩
    refine Subscript_ (wpAny_Constant_str (nm_local (Ns_keep hn₃ hC K₅) (str_sub (by omega) hc ?_) hm₃))
    refine add_str (fun t' tk => gives_plain rfl ((toks_keep.trans k₅).trans toks_keep)) ?_
    have := digits _ z0 z1
    rw [sizeLine_eq]
    show _ + 1 ≤ _
    omega
  · rw [all_range] at g
    exact used_list T F g H N hC K' h0 hn hQ
end
end Mine
end
section
open PySem PySem.W PySem.W.X PyProof.Rows PySem.Calls PySem.Spec PySem.SeqAt
/-! LawD -/
namespace Mine
set_option maxRecDepth 100000
set_option maxHeartbeats 0

section
variable {w : World} {A : Around} {s s' s₀ : Shared} {E : Value → Shared → Prop} {k K N : Nat} {l : List (Str × Value)} {v : Value} {L a : Addr} {xs : List Int} {tk tn : Tok}
theorem law_columns {Q : Flow → Shared → Prop} {st : Stmt} (hst : st = stAt w.params 226 3) (hA : AOk (k + 1) A) (T : TopS w s₀) (hS : IsScript s₀ a xs) (F : Fx w s₀ (xE w.params L) (xO w.params L) l (cS a) s) (hk : l.lookup (Str.ofString "n") = some (.int (K : Int) tk)) (hK : K ≤ 4)
    (hQ : ∀ M zs s', zs.length = K → s.heap.get? M = none → (∃ q, s'.heap.get? M = some (listObj zs q)) → Fx w s₀ (xE w.params L) (xO w.params L) ((Str.ofString "columns", .ref M) :: l) (cS a) s' → Sol [L] s s' → Q .next s') :
    wpAny (model pw w) A (exec st (xE w.params L)) Q E s := by
  subst hst
  refine assign_used (compU (sb := s) (F.top T) K IntP (fun _ => true) (fun _ _ l => l = []) rfl (by decide) rfl (by decide) rfl ?_ ?_ fun C m' v s' lo g H N hC K' h0 ho hn => ?_)
  · exact call_1 (nm_top (F.top T) (v := .type "range") (args_c (F.name (args_0 ⟨kp_type, src_range1 hA (F.top T) (by omega)⟩) hk)))
  · intro C i v lv s₃ m₃ hi hP hl₃ hC hn₃ hm₃ k₃
    obtain ⟨⟨t, rfl⟩, rfl⟩ := hP
    have F₃ := F.step T k₃
    have F₄ := F₃.step T (toks_keep (tk := s₃.toks + 1))
    refine wpAny_tests_nil ⟨rfl, Keep.refl _, fun _ => ?_⟩
    refine wpAny_BinOp (call_1 (nm_top (F₃.top T) (v := .type "str") (args_c (wpAny_BinOp (call_1 (nm_top (F₃.top T) (v := .ref 246) (args_c (nm_cell rfl (F₃.cell (x := Str.ofString "script") rfl rfl) (args_c (wpAny_Constant_int (args_0 ⟨kp_top (F₄.top T) (by kernel_rfl) (.inl rfl), ?_⟩)))))))))))
    refine law_at_c (k := k) (i := 13) hA (F₄.top T) (F₄.script hS) fun t' s₅ k₅ => ?_
    obtain ⟨z0, z1⟩ : 0 ≤ (item xs 13).fmod 100 ∧ (item xs 13).fmod 100 < 100 := fmod_in (item xs 13) 100 (by decide)
    refine wpAny_Constant_int (mod_int (by decide) (args_0 ⟨kp_type, P.str_of_int (log_small _ z0 z1) ?_⟩))
    have K₅ : Keep s₃ { s₅ with toks := s₅.toks + 1 + 1 + 1 + 1 } := (toks_keep.trans k₅).trans toks_keep
    obtain ⟨c, hc⟩ : ∃ c, (seqIndex? (i : Int) (Str.ofString "pqrs").length).bind ((Str.ofString "pqrs").cps[·]?) = some c := by
      have : i = 0 ∨ i = 1 ∨ i = 2 ∨ i = 3 := by omega
      rcases this with rfl | rfl | rfl | rfl
      · exact ⟨112, by decide +kernel⟩
      · exact ⟨113, by decide +kernel⟩
      · exact ⟨114, by decide +kernel⟩
      · exact ⟨115, by decide +kernel⟩
    refine Subscript_ (wpAny_Constant_str (nm_local (Ns_keep hn₃ hC K₅) (str_sub (by omega) hc ?_) hm₃))
    refine add_str (fun t' tk => gives_plain rfl ((toks_keep.trans k₅).trans toks_keep)) ?_
    have := digits _ z0 z1
    rw [sizeLine_eq]
    show _ + 1 ≤ _
    omega
  · rw [all_range] at g
    exact used_list T F g H N hC K' h0 hn hQ
theorem law_others {Q : Flow → Shared → Prop} {st : Stmt} (hst : st = stAt w.params 226 6) (hA : AOk (k + 1) A) (T : TopS w s₀) (F : Fx w s₀ (xE w.params L) (xO w.params L) l (cS a) s) (hk : l.lookup (Str.ofString "small") = some (.int (K : Int) tk)) (hK : K ≤ 4)
    (hQ : ∀ M zs s', zs.length = K → s.heap.get? M = none → (∃ q, s'.heap.get? M = some (listObj zs q)) → Fx w s₀ (xE w.params L) (xO w.params L) ((Str.ofString "others", .ref M) :: l) (cS a) s' → Sol [L] s s' → Q .next s') :
    wpAny (model pw w) A (exec st (xE w.params L)) Q E s := by
  subst hst
  refine assign_used (compU (sb := s) (F.top T) K IntP (fun _ => true) (fun _ _ l => l = []) rfl (by decide) rfl (by decide) rfl ?_ ?_ fun C m' v s' lo g H N hC K' h0 ho hn => ?_)
  · exact call_1 (nm_top (F.top T) (v := .type "range") (args_c (F.name (args_0 ⟨kp_type, src_range1 hA (F.top T) (by omega)⟩) hk)))
  · intro C i v lv s₃ m₃ hi hP hl₃ hC hn₃ hm₃ k₃
    obtain ⟨⟨t, rfl⟩, rfl⟩ := hP
    have F₃ := F.step T k₃
    have F₄ := F₃.step T (toks_keep (tk := s₃.toks + 1))
    refine wpAny_tests_nil ⟨rfl, Keep.refl _, fun _ => ?_⟩
    have K₄ : Keep s₃ { s₃ with toks := s₃.toks + 1 } := toks_keep
    refine wpAny_BinOp (wpAny_Constant_str (call_1 (nm_top (F₄.top T) (v := .type "str") (args_c (nm_local (Ns_keep hn₃ hC K₄) (args_0 ⟨kp_type, P.str_of_int (log_small _ (by omega) (by omega)) ?_⟩) hm₃)))))
    refine add_str (fun t' tk => gives_plain rfl toks_keep) ?_
    have := digits (i : Int) (by omega) (by omega)
    rw [sizeLine_eq]
    show 1 + _ ≤ _
    omega
  · rw [all_range] at g
    exact used_list T F g H N hC K' h0 hn hQ
theorem law_signs {Q : Flow → Shared → Prop} {st : Stmt} (hst : st = stAt w.params 226 7) (hA : AOk (k + 1) A) (T : TopS w s₀) (F : Fx w s₀ (xE w.params L) (xO w.params L) l (cS a) s) (hk : l.lookup (Str.ofString "few") = some (.int (K : Int) tk)) (hK : K ≤ 4)
    (hQ : ∀ M zs s', zs.length = K → s.heap.get? M = none → (∃ q, s'.heap.get? M = some (listObj zs q)) → Fx w s₀ (xE w.params L) (xO w.params L) ((Str.ofString "signs", .ref M) :: l) (cS a) s' → Sol [L] s s' → Q .next s') :
    wpAny (model pw w) A (exec st (xE w.params L)) Q E s := by
  subst hst
  refine assign_used (compU (sb := s) (F.top T) K IntP (fun _ => true) (fun _ _ l => l = []) rfl (by decide) rfl (by decide) rfl ?_ ?_ fun C m' v s' lo g H N hC K' h0 ho hn => ?_)
  · exact call_1 (nm_top (F.top T) (v := .type "range") (args_c (F.name (args_0 ⟨kp_type, src_range1 hA (F.top T) (by omega)⟩) hk)))
  · intro C i v lv s₃ m₃ hi hP hl₃ hC hn₃ hm₃ k₃
    obtain ⟨⟨t, rfl⟩, rfl⟩ := hP
    have F₃ := F.step T k₃
    have F₄ := F₃.step T (toks_keep (tk := s₃.toks + 1))
    refine wpAny_tests_nil ⟨rfl, Keep.refl _, fun _ => ?_⟩
    have K₄ : Keep s₃ { s₃ with toks := s₃.toks + 1 } := toks_keep
    refine wpAny_BinOp (wpAny_Constant_str (call_1 (nm_top (F₄.top T) (v := .type "str") (args_c (nm_local (Ns_keep hn₃ hC K₄) (args_0 ⟨kp_type, P.str_of_int (log_small _ (by omega) (by omega)) ?_⟩) hm₃)))))
    refine add_str (fun t' tk => gives_plain rfl toks_keep) ?_
    have := digits (i : Int) (by omega) (by omega)
    rw [sizeLine_eq]
    show 1 + _ ≤ _
    omega
  · rw [all_range] at g
    exact used_list T F g H N hC K' h0 hn hQ
end
end Mine
end
section
open PySem PySem.W PySem.W.X PyProof.Rows PySem.Calls PySem.Spec PySem.SeqAt
/-! LawE -/
namespace Mine
set_option maxRecDepth 100000
set_option maxHeartbeats 0

section
variable {w : World} {A : Around} {s s' s₀ : Shared} {E : Value → Shared → Prop} {k K N : Nat} {l : List (Str × Value)} {v : Value} {L a : Addr} {xs : List Int} {tk tn : Tok} {M MX MY D r r2 D2 MX2 MY2 : Addr} {us ys us2 ys2 : List Value} {f f2 : Nat → Nat → Bool} {hX hY hX2 hY2 : HP} {fX fY fX2 fY2 : FP}
theorem law_table1 {Q : Flow → Shared → Prop} {st : Stmt} (hst : st = stAt w.params 226 4) (hA : AOk (k + 3) A) (T : TopS w s₀) (hS : IsScript s₀ a xs) (F : Fx w s₀ (xE w.params L) (xO w.params L) l (cS a) s) (hk : l.lookup (Str.ofString "k") = some (.int (K : Int) tk)) (hn : l.lookup (Str.ofString "n") = some (.int (N : Int) tn)) (hK : K ≤ 4) (hN : N ≤ 4)
    (hQ : ∀ D s', TabAt s' D (tcell xs 2) K N → Fx w s₀ (xE w.params L) (xO w.params L) ((Str.ofString "table", .ref D) :: l) (cS a) s' → Sol [L] s s' → Q .next s') :
    wpAny (model pw w) A (exec st (xE w.params L)) Q E s := by
  subst hst
  have F₁ := F.step T (toks_keep (tk := s.toks + 1))
  refine wpAny_Assign_Name (call_1 (nm_top (F.top T) (v := .ref 251) (args_c (F.cname (args_c (wpAny_Constant_int (args_c (F₁.name (args_c (F₁.name (args_0 ⟨kp_top (F₁.top T) (by kernel_rfl) (.inl rfl), ?_⟩) hn)) hk))))))))
  refine law_table_c (k := k) (at_ := 2) hA (F₁.top T) (F₁.script hS) (by omega) (by omega) fun v s₂ g => ?_
  obtain ⟨D, rfl, hD, hT⟩ := tabAt_of g
  have F₂ := F₁.step T g.keep
  obtain ⟨m, ns, kn⟩ := F₂.ns
  refine F₂.store T fun s₃ F₃ S₃ => hQ D s₃ (hT.sol ns (Sol.of S₃)) F₃ (((toks_keep (s := s)).trans g.keep).solX.trans (Sol.of S₃))
theorem law_table2 {Q : Flow → Shared → Prop} {st : Stmt} (hst : st = stAt w.params 226 8) (hA : AOk (k + 3) A) (T : TopS w s₀) (hS : IsScript s₀ a xs) (F : Fx w s₀ (xE w.params L) (xO w.params L) l (cS a) s) (hk : l.lookup (Str.ofString "small") = some (.int (K : Int) tk)) (hn : l.lookup (Str.ofString "few") = some (.int (N : Int) tn)) (hK : K ≤ 4) (hN : N ≤ 4)
    (hQ : ∀ D s', TabAt s' D (tcell xs 8) K N → Fx w s₀ (xE w.params L) (xO w.params L) ((Str.ofString "second", .ref D) :: l) (cS a) s' → Sol [L] s s' → Q .next s') :
    wpAny (model pw w) A (exec st (xE w.params L)) Q E s := by
  subst hst
  have F₁ := F.step T (toks_keep (tk := s.toks + 1))
  refine wpAny_Assign_Name (call_1 (nm_top (F.top T) (v := .ref 251) (args_c (F.cname (args_c (wpAny_Constant_int (args_c (F₁.name (args_c (F₁.name (args_0 ⟨kp_top (F₁.top T) (by kernel_rfl) (.inl rfl), ?_⟩) hn)) hk))))))))
  refine law_table_c (k := k) (at_ := 8) hA (F₁.top T) (F₁.script hS) (by omega) (by omega) fun v s₂ g => ?_
  obtain ⟨D, rfl, hD, hT⟩ := tabAt_of g
  have F₂ := F₁.step T g.keep
  obtain ⟨m, ns, kn⟩ := F₂.ns
  refine F₂.store T fun s₃ F₃ S₃ => hQ D s₃ (hT.sol ns (Sol.of S₃)) F₃ (((toks_keep (s := s)).trans g.keep).solX.trans (Sol.of S₃))
/-- list(a list) -/
theorem list_list {a : Addr} {bs : List Value} {n : Nat} {Q : Value → Shared → Prop} (ha : s.heap.get? a = some (listObj bs n)) (hl : bs.length ≤ 1000) (hQ : ∀ v s', Keep s s' → (∃ D m, v = .ref D ∧ s'.heap.get? D = some (listObj bs m)) → Q v s') :
    wpAny (model pw w) A (call (.type "list") [.ref a]) Q E s :=
  call_list_seq a (.inl rfl) ha rfl rfl (fun h' c' hk hD => hQ _ _ (.heapTok (tk := s.toks) hk) ⟨_, c', rfl, hD⟩) (by rw [List.size_toArray, sizeLine_eq]; omega)
theorem list_tab {D : Addr} {kk n : Nat} {Q : Value → Shared → Prop} (h : TabAt s D f kk n) (hk : kk ≤ 10) (hQ : ∀ D' s', Keep s s' → TabAt s' D' f kk n → Q (.ref D') s') : wpAny (model pw w) A (call (.type "list") [.ref D]) Q E s := by
  obtain ⟨vs, m, e, p⟩ := id h
  have hz := p.length
  rw [List.length_range] at hz
  refine list_list e (by omega) fun v s' K ⟨D', m', e', hD'⟩ => ?_
  subst e'
  exact hQ D' s' K ⟨vs, m', hD', pimp (fun i v ⟨t, bs, m', e1, e2, e3⟩ => ⟨t, bs, m', e1, K.old _ _ (solid_cls rfl) e2, e3⟩) p⟩
theorem law_first {u : Value} {Q : Flow → Shared → Prop} {st : Stmt} (hst : st = stAt w.params 226 5) (hA : AOk (k + 12) A) (T : TopS w s₀) (F : Fx w s₀ (xE w.params L) (xO w.params L) l (cS a) s) (hu : l.lookup (Str.ofString "k") = some u)
    (hc : l.lookup (Str.ofString "columns") = some (.ref MX)) (hr : l.lookup (Str.ofString "rows") = some (.ref MY)) (ht : l.lookup (Str.ofString "table") = some (.ref D))
    (lX : ∃ n, s.heap.get? MX = some (listObj us n)) (lY : ∃ n, s.heap.get? MY = some (listObj ys n)) (hx : 0 < us.length) (hx4 : us.length ≤ 4) (hy : 0 < ys.length) (hy4 : ys.length ≤ 4) (hT : TabAt s D f ys.length us.length)
    (hQ : ∀ r hX hY fX fY s', RelAt w s' r hX hY fX fY us ys f → OffR L hX hY → Fx w s₀ (xE w.params L) (xO w.params L) ((Str.ofString "first", .ref r) :: l) (cS a) s' → Sol [L] s s' → Q .next s') :
    wpAny (model pw w) A (exec st (xE w.params L)) Q E s := by
  subst hst
  have F₂ := F.step T (toks_keep (tk := s.toks + 1 + 1))
  have K₂ : Keep s { s with toks := s.toks + 1 + 1 } := toks_keep
  refine wpAny_Assign_Name (call_1 (nm_top (F.top T) (v := .ref 235) (args_c (wpAny_Constant_str (args_c (wpAny_Constant_str (args_c (F₂.name (args_c (F₂.name (args_c (call_1 (nm_top (F₂.top T) (v := .type "list") (args_c (F₂.name (args_0 ⟨kp_type, ?_⟩) ht))))) hr)) hc))))))))
  refine list_tab (hT.keep K₂) (by omega) fun D' s₃ K₃ hT₃ => ?_
  have F₃ := F₂.step T K₃
  have K₃' := K₂.trans K₃
  obtain ⟨nx, lX⟩ := lX
  obtain ⟨ny, lY⟩ := lY
  refine args_0 ⟨kp_top (F₃.top T) (by kernel_rfl) (.inr rfl), ?_⟩
  refine rel_c (k := k) hA (F₃.top T) F₃.pt (K₃'.old _ _ (solid_cls rfl) lX) (K₃'.old _ _ (solid_cls rfl) lY) hx hx4 hy hy4 hT₃ fun r hX hY fX fY s₄ C P nr N8 R => ?_
  have F₄ := F₃.ch T C P
  have O : OffR L hX hY := fun b hb => F₃.new T (N8 b hb)
  obtain ⟨m, ns, kn⟩ := F₄.ns
  refine F₄.store T fun s₅ F₅ S₅ => hQ r hX hY fX fY s₅ (R.sol ns (kn _ _ hu) (by decide +kernel) O (Sol.of S₅)) O F₅ ((K₃'.solX.trans (C.solX _)).trans (Sol.of S₅))
theorem law_other {u : Value} {Q : Flow → Shared → Prop} {st : Stmt} (hst : st = stAt w.params 226 9) (hA : AOk (k + 12) A) (T : TopS w s₀) (F : Fx w s₀ (xE w.params L) (xO w.params L) l (cS a) s) (hu : l.lookup (Str.ofString "k") = some u)
    (hc : l.lookup (Str.ofString "signs") = some (.ref MX)) (hr : l.lookup (Str.ofString "others") = some (.ref MY)) (ht : l.lookup (Str.ofString "second") = some (.ref D))
    (lX : ∃ n, s.heap.get? MX = some (listObj us n)) (lY : ∃ n, s.heap.get? MY = some (listObj ys n)) (hx : 0 < us.length) (hx4 : us.length ≤ 4) (hy : 0 < ys.length) (hy4 : ys.length ≤ 4) (hT : TabAt s D f ys.length us.length)
    (hQ : ∀ r hX hY fX fY s', RelAt w s' r hX hY fX fY us ys f → OffR L hX hY → Fx w s₀ (xE w.params L) (xO w.params L) ((Str.ofString "other", .ref r) :: l) (cS a) s' → Sol [L] s s' → Q .next s') :
    wpAny (model pw w) A (exec st (xE w.params L)) Q E s := by
  subst hst
  have F₂ := F.step T (toks_keep (tk := s.toks + 1 + 1))
  have K₂ : Keep s { s with toks := s.toks + 1 + 1 } := toks_keep
  refine wpAny_Assign_Name (call_1 (nm_top (F.top T) (v := .ref 235) (args_c (wpAny_Constant_str (args_c (wpAny_Constant_str (args_c (F₂.name (args_c (F₂.name (args_c (call_1 (nm_top (F₂.top T) (v := .type "list") (args_c (F₂.name (args_0 ⟨kp_type, ?_⟩) ht))))) hr)) hc))))))))
  refine list_tab (hT.keep K₂) (by omega) fun D' s₃ K₃ hT₃ => ?_
  have F₃ := F₂.step T K₃
  have K₃' := K₂.trans K₃
  obtain ⟨nx, lX⟩ := lX
  obtain ⟨ny, lY⟩ := lY
  refine args_0 ⟨kp_top (F₃.top T) (by kernel_rfl) (.inr rfl), ?_⟩
  refine rel_c (k := k) hA (F₃.top T) F₃.pt (K₃'.old _ _ (solid_cls rfl) lX) (K₃'.old _ _ (solid_cls rfl) lY) hx hx4 hy hy4 hT₃ fun r hX hY fX fY s₄ C P nr N8 R => ?_
  have F₄ := F₃.ch T C P
  have O : OffR L hX hY := fun b hb => F₃.new T (N8 b hb)
  obtain ⟨m, ns, kn⟩ := F₄.ns
  refine F₄.store T fun s₅ F₅ S₅ => hQ r hX hY fX fY s₅ (R.sol ns (kn _ _ hu) (by decide +kernel) O (Sol.of S₅)) O F₅ ((K₃'.solX.trans (C.solX _)).trans (Sol.of S₅))
theorem law_ret {Q : Flow → Shared → Prop} {st : Stmt} (hst : st = stAt w.params 226 10) (hA : AOk (k + 7) A) (T : TopS w s₀) (F : Fx w s₀ (xE w.params L) (xO w.params L) l (cS a) s)
    (e1 : l.lookup (Str.ofString "first") = some (.ref r)) (e2 : l.lookup (Str.ofString "table") = some (.ref D)) (e3 : l.lookup (Str.ofString "rows") = some (.ref MY)) (e4 : l.lookup (Str.ofString "columns") = some (.ref MX))
    (e5 : l.lookup (Str.ofString "other") = some (.ref r2)) (e6 : l.lookup (Str.ofString "second") = some (.ref D2)) (e7 : l.lookup (Str.ofString "others") = some (.ref MY2)) (e8 : l.lookup (Str.ofString "signs") = some (.ref MX2))
    (W : WholeIn w s r hX hY fX fY us ys f D MX MY) (W2 : WholeIn w s r2 hX2 hY2 fX2 fY2 us2 ys2 f2 D2 MX2 MY2) (hQ : ∀ s', Ch w [] s₀ s' → Q (.ret (.bool true)) s') :
    wpAny (model pw w) A (exec st (xE w.params L)) Q E s := by
  subst hst
  refine wpAny_Return_some (BoolOp_and ?_)
  refine call_1 (nm_top (F.top T) (v := .ref 261) (args_c (F.name (args_c (F.name (args_c (F.name (args_c (F.name (args_0 ⟨kp_top (F.top T) (by kernel_rfl) (.inl rfl), ?_⟩) e4)) e3)) e2)) e1)))
  refine whole_c (k := k) hA (F.top T) W fun s₂ K₂ => wpAny_truthy_bool ?_
  rw [if_pos rfl]
  have F₂ := F.step T K₂
  refine BoolOp_one ?_
  refine call_1 (nm_top (F₂.top T) (v := .ref 261) (args_c (F₂.name (args_c (F₂.name (args_c (F₂.name (args_c (F₂.name (args_0 ⟨kp_top (F₂.top T) (by kernel_rfl) (.inl rfl), ?_⟩) e8)) e7)) e6)) e5)))
  exact whole_c (k := k) hA (F₂.top T) (W2.keep K₂) fun s₃ K₃ => hQ s₃ (let ⟨_, _, Fm, _, _⟩ := (F₂.step T K₃).ex; Fm.ch)
end
end Mine
end
section
open PySem PySem.W PySem.W.X PyProof.Rows PySem.Calls PySem.Spec PySem.SeqAt
/-! LawF -/
namespace Mine
set_option maxRecDepth 100000
set_option maxHeartbeats 0

section
variable {w : World} {A : Around} {s s' s₀ : Shared} {E : Value → Shared → Prop} {k : Nat} {a : Addr} {xs : List Int}
theorem law_c {Q : Value → Shared → Prop} (hA : AOk (k + 13) A) (T : TopS w s) (hP : PT s) (hS : IsScript s a xs) (hQ : ∀ s', Ch w [] s s' → Q (.bool true) s') : wpAny (model pw w) A (call (.ref 266) [.ref a]) Q E s := by
  refine enter_cells (binds := [(Str.ofString "script", .ref a)]) hA T (T.kin 266 _ rfl) rfl rfl
    ⟨_, _, _, _, rfl, T.kin _ _ rfl, rfl, rfl⟩ rfl rfl (fun n x hx => ?_) (fun n => by simp [cellsFrom]) ?_
  · obtain rfl := List.mem_singleton.mp hx
    exact .inr ⟨rfl, rfl⟩
  intro L s₁ hA₁ T₁ F₁ _
  show wpAny _ (A.deeper (xE w.params L)) (execs [stAt w.params 226 0, stAt w.params 226 1, stAt w.params 226 2, stAt w.params 226 3, stAt w.params 226 4, stAt w.params 226 5, stAt w.params 226 6, stAt w.params 226 7, stAt w.params 226 8, stAt w.params 226 9, stAt w.params 226 10] (xE w.params L)) _ _ _
  change AOk _ (A.deeper (xE w.params L)) at hA₁
  have Fa : Fx w s (xE w.params L) (xO w.params L) [] (cS a) s₁ := by
    refine ⟨⟨_, _, FmX.of (X := []) F₁ (fun _ h => nomatch h), fun x v e => (nomatch e), fun x v e => ?_⟩, hP.keep F₁.keep⟩
    simp only [List.lookup_cons, List.lookup_nil] at e
    split at e
    · cases e; rename_i hx; rw [beq_iff_eq.mp hx]; rfl
    · cases e
  generalize g0 : stAt w.params 226 0 = t0
  generalize g1 : stAt w.params 226 1 = t1
  generalize g2 : stAt w.params 226 2 = t2
  generalize g3 : stAt w.params 226 3 = t3
  generalize g4 : stAt w.params 226 4 = t4
  generalize g5 : stAt w.params 226 5 = t5
  generalize g6 : stAt w.params 226 6 = t6
  generalize g7 : stAt w.params 226 7 = t7
  generalize g8 : stAt w.params 226 8 = t8
  generalize g9 : stAt w.params 226 9 = t9
  generalize g10 : stAt w.params 226 10 = t10
  refine wpAny_execs_cons (law_s0 g0.symm (k := k + 11) (hA₁.le (by omega)) T hS Fa fun K N tk tn s₂ k1 k4 n1 n4 F₂ _ => ?_)
  refine wpAny_execs_cons (law_s1 g1.symm (k := k + 11) (hA₁.le (by omega)) T hS F₂ fun K' N' tk' tn' s₃ k1' k4' n1' n4' F₃ _ => ?_)
  refine wpAny_execs_cons (law_rows g2.symm (k := k + 11) (hA₁.le (by omega)) T hS F₃ rfl k4 fun MY ys s₄ eY _ lY F₄ _ => ?_)
  refine wpAny_execs_cons (law_columns g3.symm (k := k + 11) (hA₁.le (by omega)) T hS F₄ rfl n4 fun MX us s₅ eX _ lX F₅ S₅ => ?_)
  obtain ⟨m, ns, kn⟩ := F₄.ns
  have lY := list_sol lY ns S₅
  refine wpAny_execs_cons (law_table1 g4.symm (k := k + 9) (hA₁.le (by omega)) T hS F₅ rfl rfl k4 n4 fun D s₆ tD F₆ S₆ => ?_)
  obtain ⟨m, ns, kn⟩ := F₅.ns
  have lY := list_sol lY ns S₆
  have lX := list_sol lX ns S₆
  subst eY
  subst eX
  refine wpAny_execs_cons (law_first g5.symm (k := k) (hA₁.le (by omega)) T F₆ rfl rfl rfl rfl lX lY n1 n4 k1 k4 tD fun r hX hY fX fY s₇ R O F₇ S₇ => ?_)
  obtain ⟨m, ns, kn⟩ := F₆.ns
  have lY := list_sol lY ns S₇
  have lX := list_sol lX ns S₇
  have tD := tD.sol ns S₇
  have n7 := F₇.ns
  refine wpAny_execs_cons (law_others g6.symm (k := k + 11) (hA₁.le (by omega)) T F₇ rfl (by omega) fun MY2 ys2 s₈ eY2 _ lY2 F₈ S₈ => ?_)
  obtain ⟨m, ns, kn⟩ := F₇.ns
  have lY := list_sol lY ns S₈
  have lX := list_sol lX ns S₈
  have tD := tD.sol ns S₈
  have R := R.sol ns (kn (Str.ofString "k") _ rfl) (by decide +kernel) O S₈
  refine wpAny_execs_cons (law_signs g7.symm (k := k + 11) (hA₁.le (by omega)) T F₈ rfl (by omega) fun MX2 us2 s₉ eX2 _ lX2 F₉ S₉ => ?_)
  obtain ⟨m, ns, kn⟩ := F₈.ns
  have lY := list_sol lY ns S₉
  have lX := list_sol lX ns S₉
  have tD := tD.sol ns S₉
  have R := R.sol ns (kn (Str.ofString "k") _ rfl) (by decide +kernel) O S₉
  have lY2 := list_sol lY2 ns S₉
  refine wpAny_execs_cons (law_table2 g8.symm (k := k + 9) (hA₁.le (by omega)) T hS F₉ rfl rfl (by omega) (by omega) fun D2 sA tD2 FA SA => ?_)
  obtain ⟨m, ns, kn⟩ := F₉.ns
  have lY := list_sol lY ns SA
  have lX := list_sol lX ns SA
  have tD := tD.sol ns SA
  have R := R.sol ns (kn (Str.ofString "k") _ rfl) (by decide +kernel) O SA
  have lY2 := list_sol lY2 ns SA
  have lX2 := list_sol lX2 ns SA
  subst eY2
  subst eX2
  refine wpAny_execs_cons (law_other g9.symm (k := k) (hA₁.le (by omega)) T FA rfl rfl rfl rfl lX2 lY2 n1' (by omega) k1' (by omega) tD2 fun r2 hX2 hY2 fX2 fY2 sB R2 O2 FB SB => ?_)
  obtain ⟨m, ns, kn⟩ := FA.ns
  have lY := list_sol lY ns SB
  have lX := list_sol lX ns SB
  have tD := tD.sol ns SB
  have R := R.sol ns (kn (Str.ofString "k") _ rfl) (by decide +kernel) O SB
  have lY2 := list_sol lY2 ns SB
  have lX2 := list_sol lX2 ns SB
  have tD2 := tD2.sol ns SB
  exact wpAny_execs_cons (law_ret g10.symm (k := k + 5) (hA₁.le (by omega)) T FB rfl rfl rfl rfl rfl rfl rfl rfl ⟨R, tD, lX, lY, n1, k1, n4, k4⟩ ⟨R2, tD2, lX2, lY2, n1', k1', by omega, by omega⟩ fun s' C => hQ s' C)
end
end Mine
end
section
open PySem PySem.W PySem.W.X PyProof.Rows PySem.Calls PySem.Spec PySem.SeqAt
/-! Fin -/
namespace Mine
set_option maxRecDepth 100000
set_option maxHeartbeats 0
section
variable {w : World} {s s' : Shared}
theorem Ch.oldK (C : Ch w [] s s') (T : TopS w s) : OldK s.heap s'.heap := by
  have key : ∀ b o, s.heap.get? b = some o → solid b o = false → ∃ q ∈ tabs, q.2 = b := fun b o e so => by
    unfold solid at so
    rw [Bool.or_eq_false_iff, Bool.not_eq_false'] at so
    have := so.2
    simp only [List.contains_cons, List.contains_nil, Bool.or_false, Bool.or_eq_true, beq_iff_eq] at this
    rcases this with rfl | rfl | rfl | rfl
    · exact ⟨(34, 30), by decide, rfl⟩
    · exact ⟨(41, 37), by decide, rfl⟩
    · exact ⟨(164, 162), by decide, rfl⟩
    · exact ⟨(209, 205), by decide, rfl⟩
  refine ⟨fun b o e => ?_, fun b o e => ?_⟩
  · cases so : solid b o with
    | true => exact .inl (C.old b o (by simp) so e)
    | false =>
      obtain ⟨q, hq, rfl⟩ := key b o e so
      obtain ⟨ps, _, t⟩ := T.tab q hq
      obtain ⟨more, t'⟩ := C.tab q hq ps t
      obtain rfl : o = { cls := .none, data := .fields ps } := Option.some.inj (e.symm.trans t.2)
      exact .inr (.inl ⟨t.isCodeTable, rfl, ps, more, rfl, t'.2⟩)
  · cases so : solid b o with
    | true => exact ⟨o, C.old b o (by simp) so e⟩
    | false =>
      obtain ⟨q, hq, rfl⟩ := key b o e so
      obtain ⟨ps, _, t⟩ := T.tab q hq
      obtain ⟨more, t'⟩ := C.tab q hq ps t
      exact ⟨_, t'.2⟩
theorem start_ok (KX : (hd.heap_39 w.params).In s.heap) : TopS w s ∧ PT s := by
  have kf : ∀ {l : Frag} {p : Addr × Obj → Bool} {a : Addr} {o : Obj}, (∀ q q' : Addr × Obj, q.1 = q'.1 → p q = p q') → (l.filter p).lookup a = some o → l.lookup a = some o := by
    intro l p a o hp
    induction l with
    | nil => intro e; cases e
    | cons q r ih =>
      intro e
      rw [List.lookup_cons]
      cases hq : a == q.1 with
      | true =>
        cases hpq : p q with
        | true => rw [List.filter_cons_of_pos hpq, List.lookup_cons, hq] at e; exact e
        | false =>
          rw [List.filter_cons_of_neg (by simp [hpq])] at e
          have hm := List.mem_filter.mp (lookup_mem e)
          have := hp q (a, o) (beq_iff_eq.mp hq).symm
          rw [hpq] at this
          rw [← this] at hm
          exact absurd hm.2 (by simp)
      | false =>
        refine ih ?_
        cases hpq : p q with
        | true => rw [List.filter_cons_of_pos hpq, List.lookup_cons, hq] at e; exact e
        | false => rw [List.filter_cons_of_neg (by simp [hpq])] at e; exact e
  refine ⟨⟨fun a o e => KX a o (kf (fun q q' h => by rw [h]) e), fun q hq => ?_⟩, #[], ⟨⟨_, _, KX 209 _ rfl, rfl, rfl, rfl⟩, KX 205 _ rfl⟩, fun pos c' e => by cases e⟩
  simp only [tabs, List.mem_cons, List.not_mem_nil, or_false] at hq
  rcases hq with rfl | rfl | rfl | rfl
  · exact ⟨#[], ⟨_, _, _, _, _, _, _, _, _, _, KX 34 _ rfl, rfl, rfl, rfl, rfl, rfl, rfl, KX 30 _ rfl, rfl, trivial, by decide⟩, ⟨_, _, KX 34 _ rfl, rfl, rfl, rfl⟩, KX 30 _ rfl⟩
  · exact ⟨#[], ⟨_, _, _, _, _, _, _, _, _, _, KX 41 _ rfl, rfl, rfl, rfl, rfl, rfl, rfl, KX 37 _ rfl, rfl, trivial, by decide⟩, ⟨_, _, KX 41 _ rfl, rfl, rfl, rfl⟩, KX 37 _ rfl⟩
  · exact ⟨#[], ⟨_, _, _, _, _, _, _, _, _, _, KX 164 _ rfl, rfl, rfl, rfl, rfl, rfl, rfl, KX 162 _ rfl, rfl, trivial, by decide⟩, ⟨_, _, KX 164 _ rfl, rfl, rfl, rfl⟩, KX 162 _ rfl⟩
  · exact ⟨#[], ⟨_, _, _, _, _, _, _, _, _, _, KX 209 _ rfl, rfl, rfl, rfl, rfl, rfl, rfl, KX 205 _ rfl, rfl, trivial, by decide⟩, ⟨_, _, KX 209 _ rfl, rfl, rfl, rfl⟩, KX 205 _ rfl⟩
theorem ints_paired {vs : List Value} {ns : List Int} (h : IntsAre vs ns) : Paired (fun x y => ∃ t, y = Value.int x t) ns vs := by
  induction h with
  | nil => exact .nil
  | cons n t _ ih => exact .cons ⟨t, rfl⟩ ih
theorem glaw (P : Params) : ∃ o es ep, (hd.heap_39 P).lookup mainGlobals = some o ∧ o.data = .dict es ep ∧ nsFind es (Str.ofString "law") = some (.ref 266) := ⟨_, _, _, rfl, rfl, rfl⟩
theorem law_at {fa : Addr} {mg : Str → Option Value} (KX : (hd.heap_39 w.params).In s.heap) (n : s.heap.Ns mainGlobals mg) (h : mg (Str.ofString "law") = some (.ref fa)) : fa = 266 := by
  obtain ⟨o, es, ep, a, d, e⟩ := glaw w.params
  obtain ⟨o', es', ep', a', d', _, f⟩ := n
  rw [KX _ _ a] at a'
  cases a'
  rw [d] at d'
  cases d'
  have := f (Str.ofString "law")
  rw [e, h] at this
  cases this
  rfl
end
theorem post_ok {args : List WData} : PySem.Challenge.rw_fj5004_01.row.claim.post args (WData.bool true) args = true := by
  refine postW_of (X := W.same (WData.bool true) (WData.bool true)) (by rfl) (w_eq (d := .bool true) (d' := .bool true) (w_res rfl) w_lit) ?_
  first | rfl | kernel_rfl | decide | simp [W.same]
theorem caller_ok : AOk (0 + 13) callerA := ⟨rfl, by decide, by decide⟩
theorem fin : PySem.Challenge.rw_fj5004_01.Holds := by
  refine hd ?_
  intro w s₀ s₁ mg mb G Y fa o pm cd doc dV kV ho hd' hcd hD hmg hg args vals as hpre hlay hrd hwl hlo
  have KX := kIn_of Y
  have X := (Ground.X G).1
  have V := (Ground.X G).2
  refine Ground.open G ?_
  intro T B D TE TW
  obtain ⟨_, _, M⟩ := bmod_of_top T
  wrow_args hpre hlay hrd hwl hlo
  rename_i xs hs0 hy0 hl1 hr1 hl2 as4 as3 la vs as0 hLs hra hw1 hr0 hIs hrr hc1 hc2
  obtain rfl : fa = 266 := law_at KX M.ns hmg
  obtain ⟨T', P'⟩ := start_ok KX
  show wpAny (model pw w) callerA (call (.ref 266) [.ref la]) _ _ s₁
  obtain ⟨ol, q1, q2, q3, q4⟩ := hLs
  refine law_c (k := 0) (xs := xs) caller_ok T' P' ⟨⟨ol, vs, q3, q1, q2, q4, ints_paired hIs⟩, by omega⟩ fun s' C => ?_
  refine ⟨.inl ⟨.bool true, .bool true, [], rfl, fun cls => rfl, .bool true, ?_, fun _ => ⟨.nil, fun _ h => nomatch h⟩⟩, C.oldK T', C.os, C.bare (.of_eq hg)⟩
  exact post_ok
end Mine
end
set_option maxRecDepth 100000 in
set_option maxHeartbeats 8000000 in
theorem PySem.Challenge.cw_fj5004_01_holds : PySem.Challenge.rw_fj5004_01.Holds := by
  exact Mine.fin
