import PyProof.Rows.All
import Wide.All
import OpenK.AllK
import Wide.FinOn
import PySem.Challenge.RW_pe0231_01
set_option linter.unusedVariables false
open PySem PySem.W PyProof.Rows PySem.Calls
set_option Elab.async false
set_option maxRecDepth 100000
set_option maxHeartbeats 4000000
set_option compiler.extract_closed false
namespace Mine

/-- the text as the head sees it: the statements that stand behind the top's run -/
def pick10 : List Stmt → List Stmt
  | a :: _ :: _ :: _ :: _ :: _ :: b :: _ :: c :: _ :: r => a :: b :: c :: r
  | _ => []
noncomputable def Vw : Program :=
  { PySem.Challenge.rw_pe0231_01.row.prog with
    main := { PySem.Challenge.rw_pe0231_01.row.prog.main with
      body := pick10 PySem.Challenge.rw_pe0231_01.row.prog.main.body } }
-- k_head writes out the part of the heap that the law reaches (writ.heap_1); the head itself is proved below, in two whole runs:
-- the kit's own line lays the run in pieces, 13 MB more of compiled file
local macro_rules | `(tactic| o_head $_) => `(tactic| assumption)
theorem writ : OpenRow.Holds PySem.Challenge.rw_pe0231_01.row → OpenRow.Holds PySem.Challenge.rw_pe0231_01.row := by
  intro h
  k_head
noncomputable abbrev hk : Hook := kmHook writ.heap_1
  [2, 3, 15, 17, 18, 20, 21, 22, 23, 24, 26, 27, 29, 30, 31, 32, 33, 35, 36, 38, 39, 40, 41, 42, 44, 45, 47, 48, 56, 58, 59, 61, 62, 63, 65, 66, 68, 69, 70, 71, 72, 73, 74, 87, 89, 90, 92, 93, 94, 96, 97,
    99, 100, 101, 103, 104, 106, 107, 108, 110, 111, 113, 114, 115, 117, 118, 120, 121, 122, 124, 125, 127, 128, 129, 131, 132, 134, 135, 136, 137, 138, 139, 140, 143, 145, 146, 148, 149, 150, 152, 153,
    155, 156, 157, 159, 160, 162, 163, 164, 167, 168, 169, 172, 173, 174, 177, 178, 179, 182, 183] (fun _ => by kernel_rfl) [151, 144, 180]
abbrev four : List Str := ["insort_right", "bisect_right", "bisect_left", "Whitespace"]
noncomputable abbrev xt (s : Shared) : Bool := xlAt Vw [] s && recOk (RowW.records (OpenRow.toRowW PySem.Challenge.rw_pe0231_01.row)) s
/-- the modules that a text loads, as `LeftO` names them -/
def modsOf (p : Program) : { ms : List Str // LeftO p p [] (fun _ => true) (fun _ => ()) (fun _ => ()) 0 = ∀ w, (openEnds treeTable p w 0).map (fun s => (openSeen p [] ms (fun _ => true) true s, ())) = some (openGood p [], ()) } := ⟨_, rfl⟩
abbrev mods (p : Program) : List Str := (modsOf p).1
/-- the top's run, started from the boot's state, and what is seen behind it -/
noncomputable abbrev Ran (w : World) : Prop :=
  (fun os => (topFrom treeTable PySem.Challenge.rw_pe0231_01.row.prog w 2424 ⟨boot_heap w.params, #[], boot_drawn, boot_toks, os⟩).map
      fun s => (openSeen Vw four (mods PySem.Challenge.rw_pe0231_01.row.prog) xt true s, hk.obs s)) = fun _ => some (openGood Vw four, hk.val w)
-- the library's quick twins of topRun, treeTable and openSeen
theorem ran0 (w : World) : Ran (w.withFollow "special-get-raises" false) := by
  unfold Ran topFrom
  rw [Fast.te14082659384304107361, Fast.te14364793385576792824, Fast.te4187177175401517315]
  kernel_rfl
theorem ran1 (w : World) : Ran (w.withFollow "special-get-raises" true) := by
  unfold Ran topFrom
  rw [Fast.te14082659384304107361, Fast.te14364793385576792824, Fast.te4187177175401517315]
  kernel_rfl
theorem left_ran : LeftO PySem.Challenge.rw_pe0231_01.row.prog Vw four xt hk.obs hk.val 2424 := fun w => by
  obtain ⟨⟨h, gs, d, k, os⟩, e1, e2⟩ := Option.map_eq_some_iff.mp (boot_open (p := PySem.Challenge.rw_pe0231_01.row.prog) (N := 2424) (by kernel_rfl) (by decide) (fun s => by kernel_rfl) w)
  simp only [Prod.mk.injEq] at e2
  obtain ⟨rfl, rfl, rfl, rfl⟩ := e2
  unfold openEnds
  rw [e1, Option.bind_some]
  exact congrFun (byRow2 "special-get-raises" (P := Ran) ran0 ran1 w) os
theorem hd (h : ∀ d kwd, defOf Vw (OpenRow.toRowW PySem.Challenge.rw_pe0231_01.row).name = some (d, kwd) → WalkO Vw four (XL Vw []) hk.says (OpenRow.toRowW PySem.Challenge.rw_pe0231_01.row) d kwd fun f vs => PySem.call f vs) : PySem.Challenge.rw_pe0231_01.Holds := by
  w_on
  o_law
  exact holds_open (r := PySem.Challenge.rw_pe0231_01.row) (q := Vw) (loose := four) (Xt := xt) (XP := XL Vw []) (Yf := hk.obs) (Ya := hk.val) (YP := hk.says) (N := 2424)
    left_ran hk.of hk.keeps (fun s e => xl_of s (Bool.and_eq_true_iff.mp e).1) XL.keeps (by rfl) (by rfl) (by rfl)
    (fun s e => recFacts_of (Bool.and_eq_true_iff.mp e).2) (by rfl) (by first | assumption | decide +kernel) (by decide +kernel) ⟨rfl, rfl, rfl, rfl, rfl, by decide +kernel⟩ (by w_witness2) (h _ _ (by rfl))

noncomputable abbrev Kp (P : Params) : Frag := writ.heap_1 P
noncomputable abbrev Md (w : World) : Model := model PySem.Challenge.rw_pe0231_01.row.prog w

/-- what every frame needs of the top -/
structure Glb (w : World) (h : Heap) : Prop where
  k : (Kp w.params).In h
  g : ∃ mg, h.Ns mainGlobals mg ∧ ∃ bm ob, mg "__builtins__" = some (.ref bm) ∧ bm ≠ builtinsNs ∧ h.get? bm = some ob ∧ ob.cls = .type "module" ∧ ob.dict = some builtinsNs ∧ ob.data = .plain
  b : ∃ mb, h.Ns builtinsNs mb ∧ ∀ x, x ≠ ("__name__" : Str) → mb x = bootBuiltins x
  lim : h.NoLimit

theorem Glb.keeps {w : World} {h h' : Heap} (G : Glb w h) (k : ∀ b o, h.get? b = some o → h'.get? b = some o) : Glb w h' :=
  ⟨G.k.keeps k, let ⟨mg, x, bm, ob, a1, a2, a3, a4⟩ := G.g; ⟨mg, x.keeps k, bm, ob, a1, a2, k _ _ a3, a4⟩, let ⟨mb, x, y⟩ := G.b; ⟨mb, x.keeps k, y⟩, G.lim.keeps k⟩

/-- room for calls -/
def Room (A : Around) (d : Nat) : Prop := A.depth + d < recursionLimit ∧ A.units + 100 + 20 * d < cLine ∧ A.handled = none
theorem Room.lt {A : Around} {d : Nat} (r : Room A d) : A.depth < recursionLimit := Nat.lt_of_le_of_lt (Nat.le_add_right _ _) r.1
theorem Room.un {A : Around} {d : Nat} (r : Room A d) : A.units < cLine := by have := r.2.1; lia
theorem Room.un64 {A : Around} {d : Nat} (r : Room A d) : A.units + 64 < cLine := by have := r.2.1; lia
theorem Room.hn {A : Around} {d : Nat} (r : Room A d) : A.handled = none := r.2.2
theorem Room.deeper {A : Around} {d : Nat} {env : Env} (r : Room A (d + 1)) : Room (A.deeper env) d :=
  ⟨by have := r.1; show A.depth + 1 + d < _; lia, by have := r.2.1; show A.units + 3 + 100 + 20 * d < _; lia, r.2.2⟩
theorem Room.in1 {A : Around} {d : Nat} (r : Room A (d + 1)) : Room A.in1 d :=
  ⟨by have := r.1; show A.depth + d < _; lia, by have := r.2.1; show A.units + 1 + 100 + 20 * d < _; lia, r.2.2⟩
theorem Room.le {A : Around} {d d' : Nat} (r : Room A d) (h : d' ≤ d) : Room A d' :=
  ⟨by have := r.1; lia, by have := r.2.1; lia, r.2.2⟩

/-- everything that stood stands -/
structure Ext (s s' : Shared) : Prop where
  same : ∃ h tk, s' = { s with heap := h, toks := tk }
  get : ∀ b o, s.heap.get? b = some o → s'.heap.get? b = some o
theorem Ext.refl (s : Shared) : Ext s s := ⟨⟨s.heap, s.toks, rfl⟩, fun _ _ e => e⟩
theorem Ext.trans {s₁ s₂ s₃ : Shared} (x : Ext s₁ s₂) (y : Ext s₂ s₃) : Ext s₁ s₃ :=
  ⟨by obtain ⟨h, tk, rfl⟩ := x.same; obtain ⟨h', tk', rfl⟩ := y.same; exact ⟨h', tk', rfl⟩, fun b o e => y.get b o (x.get b o e)⟩
theorem Ext.heap (s : Shared) {h : Heap} {tk : Nat} (k : ∀ b o, s.heap.get? b = some o → h.get? b = some o) : Ext s { s with heap := h, toks := tk } := ⟨⟨h, tk, rfl⟩, k⟩
theorem Ext.tok (s : Shared) (tk : Nat) : Ext s { s with toks := tk } := ⟨⟨s.heap, tk, rfl⟩, fun _ _ e => e⟩

inductive Mv where
  | lst (xs : List Value)
  | obj (o : Obj)
  | prd (p : Obj → Prop)
def Mv.At (h : Heap) (a : Addr) : Mv → Prop
  | .lst xs => h.PlainList a xs.toArray
  | .obj o => h.get? a = some o
  | .prd p => ∃ o, h.get? a = some o ∧ p o
theorem mv_some {h : Heap} {a : Addr} : ∀ {v : Mv}, v.At h a → ∃ o, h.get? a = some o
  | .lst _, ⟨_, e⟩ => ⟨_, e⟩
  | .obj o, e => ⟨o, e⟩
  | .prd _, ⟨o, e, _⟩ => ⟨o, e⟩
theorem mv_of {h h' : Heap} {a : Addr} (k : ∀ o, h.get? a = some o → h'.get? a = some o) : ∀ {v : Mv}, v.At h a → v.At h' a
  | .lst _, ⟨n, e⟩ => ⟨n, k _ e⟩
  | .obj o, e => k o e
  | .prd _, ⟨o, e, r⟩ => ⟨o, k o e, r⟩

def upd (m : Str → Option Value) (x : Str) (v : Value) : Str → Option Value := fun y => if y = x then some v else m y
def mup (mu : Addr → Option Mv) (a : Addr) (v : Mv) : Addr → Option Mv := fun b => if b = a then some v else mu b
def mdel (mu : Addr → Option Mv) (a : Addr) : Addr → Option Mv := fun b => if b = a then none else mu b
def mu0 : Addr → Option Mv := fun _ => none
theorem mup_same {mu : Addr → Option Mv} {a : Addr} {v : Mv} : mup mu a v a = some v := if_pos rfl
theorem mup_ne {mu : Addr → Option Mv} {a b : Addr} {v : Mv} (h : b ≠ a) : mup mu a v b = mu b := if_neg h
theorem mdel_same {mu : Addr → Option Mv} {a : Addr} : mdel mu a a = none := if_pos rfl
theorem mdel_ne {mu : Addr → Option Mv} {a b : Addr} (h : b ≠ a) : mdel mu a b = mu b := if_neg h
theorem mdel_mup {mu : Addr → Option Mv} {a : Addr} {v : Mv} (h : mu a = none) : mdel (mup mu a v) a = mu := by
  funext b
  by_cases q : b = a
  · subst q; rw [mdel_same, h]
  · rw [mdel_ne q, mup_ne q]
theorem mup_mup {mu : Addr → Option Mv} {a : Addr} {v v' : Mv} : mup (mup mu a v) a v' = mup mu a v' := by
  funext b
  by_cases q : b = a
  · subst q; rw [mup_same, mup_same]
  · rw [mup_ne q, mup_ne q, mup_ne q]
theorem upd_same {m : Str → Option Value} {x : Str} {v : Value} : upd m x v x = some v := if_pos rfl
theorem upd_ne {m : Str → Option Value} {x y : Str} {v : Value} (h : y ≠ x) : upd m x v y = m y := if_neg h

/-- the frame at hand: B what stands and is not changed, m the names, mu what is changed -/
structure Frm (B : Shared) (env : Env) (cs : List (Str × Addr)) (m : Str → Option Value) (mu : Addr → Option Mv) (s : Shared) : Prop where
  same : ∃ h tk, s = { B with heap := h, toks := tk }
  keep : ∀ b o, B.heap.get? b = some o → s.heap.get? b = some o
  ns : ∃ ml, s.heap.Ns env.locals ml ∧ ∀ x, env.kindOf x = some .local → ml x = m x
  newL : B.heap.get? env.locals = none
  muL : mu env.locals = none
  cell : ∀ x c, cs.lookup x = some c → s.heap.IsCell c (m x) ∧ B.heap.get? c = none ∧ c ≠ env.locals ∧ mu c = none ∧ env.kindOf x = some .cell
  apart : cs.Pairwise fun x y => x.2 ≠ y.2
  mus : ∀ a v, mu a = some v → v.At s.heap a ∧ B.heap.get? a = none

section
variable {B s s' : Shared} {env : Env} {cs : List (Str × Addr)} {m : Str → Option Value} {mu : Addr → Option Mv}


theorem Frm.done (F : Frm B env cs m mu s) : Ext B s := ⟨F.same, F.keep⟩
theorem Frm.kept (F : Frm B env cs m mu s) (k : Ext s s') : Frm B env cs m mu s' where
  same := by obtain ⟨h, tk, rfl⟩ := F.same; obtain ⟨h', tk', rfl⟩ := k.same; exact ⟨h', tk', rfl⟩
  keep := fun b o e => k.get b o (F.keep b o e)
  ns := let ⟨ml, x, y⟩ := F.ns; ⟨ml, x.keeps k.get, y⟩
  newL := F.newL
  muL := F.muL
  cell := fun x c hc => let ⟨a, r⟩ := F.cell x c hc; ⟨a.keeps k.get, r⟩
  apart := F.apart
  mus := fun a v h => let ⟨p, q⟩ := F.mus a v h; ⟨mv_of (fun o => k.get a o) p, q⟩
theorem Frm.tok (F : Frm B env cs m mu s) (tk : Nat) : Frm B env cs m mu { s with toks := tk } := F.kept (Ext.tok s tk)
theorem Frm.hp (F : Frm B env cs m mu s) {h : Heap} {tk : Nat} (k : ∀ b o, s.heap.get? b = some o → h.get? b = some o) : Frm B env cs m mu { s with heap := h, toks := tk } := F.kept (Ext.heap s k)
theorem Frm.push (F : Frm B env cs m mu s) (o : Obj) {tk : Nat} : Frm B env cs m mu { s with heap := s.heap.push o, toks := tk } := F.hp fun _ _ e => Heap.get?_push_of_some _ e

/-- one address that is neither the base's nor a variable's nor a changing thing's is changed at will -/
theorem Frm.other (F : Frm B env cs m mu s) {a : Addr} {h : Heap} {tk : Nat} (k : ∀ b o, b ≠ a → s.heap.get? b = some o → h.get? b = some o)
    (h1 : B.heap.get? a = none) (h2 : a ≠ env.locals) (h3 : ∀ x c, cs.lookup x = some c → c ≠ a) (h4 : mu a = none) : Frm B env cs m mu { s with heap := h, toks := tk } where
  same := by obtain ⟨h', tk', rfl⟩ := F.same; exact ⟨h, tk, rfl⟩
  keep := fun b o e => k b o (fun q => by rw [q, h1] at e; cases e) (F.keep b o e)
  ns := let ⟨ml, x, y⟩ := F.ns; ⟨ml, (let ⟨o, es, ep, ho, r⟩ := x; ⟨o, es, ep, k _ o (Ne.symm h2) ho, r⟩), y⟩
  newL := F.newL
  muL := F.muL
  cell := fun x c hc => let ⟨⟨o, ho, hd⟩, r⟩ := F.cell x c hc; ⟨⟨o, k c o (h3 x c hc) ho, hd⟩, r⟩
  apart := F.apart
  mus := fun b v h => let ⟨p, q⟩ := F.mus b v h; ⟨mv_of (fun o e => k b o (fun z => by rw [z, h4] at h; cases h) e) p, q⟩

/-- a changing thing is changed -/
theorem Frm.chg (F : Frm B env cs m mu s) {a : Addr} {v₀ v : Mv} {h : Heap} {tk : Nat} (ha : mu a = some v₀) (k : ∀ b o, b ≠ a → s.heap.get? b = some o → h.get? b = some o)
    (hv : v.At h a) : Frm B env cs m (mup mu a v) { s with heap := h, toks := tk } where
  same := by obtain ⟨h', tk', rfl⟩ := F.same; exact ⟨h, tk, rfl⟩
  keep := fun b o e => k b o (fun q => by rw [q, (F.mus a v₀ ha).2] at e; cases e) (F.keep b o e)
  ns := let ⟨ml, x, y⟩ := F.ns; ⟨ml, (let ⟨o, es, ep, ho, r⟩ := x; ⟨o, es, ep, k _ o (fun z => by have := F.muL; rw [z, ha] at this; cases this) ho, r⟩), y⟩
  newL := F.newL
  muL := by
    by_cases q : env.locals = a
    · have := F.muL; rw [q, ha] at this; cases this
    · rw [mup_ne q]; exact F.muL
  cell := fun x c hc => by
    obtain ⟨⟨o, ho, hd⟩, r1, r2, r3, r4⟩ := F.cell x c hc
    have q : c ≠ a := fun z => by rw [z, ha] at r3; cases r3
    exact ⟨⟨o, k c o q ho, hd⟩, r1, r2, by rw [mup_ne q]; exact r3, r4⟩
  apart := F.apart
  mus := fun b v' h' => by
    by_cases q : b = a
    · subst q; rw [mup_same] at h'; cases h'; exact ⟨hv, (F.mus b v₀ ha).2⟩
    · rw [mup_ne q] at h'; exact let ⟨p, z⟩ := F.mus b v' h'; ⟨mv_of (fun o e => k b o q e) p, z⟩

/-- a changing thing is forgotten, and may be anything from here on -/
theorem Frm.drop (F : Frm B env cs m mu s) {a : Addr} {v₀ : Mv} {h : Heap} {tk : Nat} (ha : mu a = some v₀) (k : ∀ b o, b ≠ a → s.heap.get? b = some o → h.get? b = some o) : Frm B env cs m (mdel mu a) { s with heap := h, toks := tk } where
  same := by obtain ⟨h', tk', rfl⟩ := F.same; exact ⟨h, tk, rfl⟩
  keep := fun b o e => k b o (fun q => by rw [q, (F.mus a v₀ ha).2] at e; cases e) (F.keep b o e)
  ns := let ⟨ml, x, y⟩ := F.ns; ⟨ml, (let ⟨o, es, ep, ho, r⟩ := x; ⟨o, es, ep, k _ o (fun z => by have := F.muL; rw [z, ha] at this; cases this) ho, r⟩), y⟩
  newL := F.newL
  muL := by
    by_cases q : env.locals = a
    · rw [q, mdel_same]
    · rw [mdel_ne q]; exact F.muL
  cell := fun x c hc => by
    obtain ⟨⟨o, ho, hd⟩, r1, r2, r3, r4⟩ := F.cell x c hc
    have q : c ≠ a := fun z => by rw [z, ha] at r3; cases r3
    exact ⟨⟨o, k c o q ho, hd⟩, r1, r2, by rw [mdel_ne q]; exact r3, r4⟩
  apart := F.apart
  mus := fun b v' h' => by
    by_cases q : b = a
    · subst q; rw [mdel_same] at h'; cases h'
    · rw [mdel_ne q] at h'; exact let ⟨p, z⟩ := F.mus b v' h'; ⟨mv_of (fun o e => k b o q e) p, z⟩

/-- a new thing is to change -/
theorem Frm.mnew (F : Frm B env cs m mu s) {a : Addr} {v : Mv} (hs : v.At s.heap a) (hB : B.heap.get? a = none) (hL : a ≠ env.locals) (hc : ∀ x c, cs.lookup x = some c → c ≠ a) : Frm B env cs m (mup mu a v) s where
  same := F.same
  keep := F.keep
  ns := F.ns
  newL := F.newL
  muL := by rw [mup_ne (Ne.symm hL)]; exact F.muL
  cell := fun x c h => let ⟨r0, r1, r2, r3, r4⟩ := F.cell x c h; ⟨r0, r1, r2, by rw [mup_ne (hc x c h)]; exact r3, r4⟩
  apart := F.apart
  mus := fun b v' h' => by
    by_cases q : b = a
    · subst q; rw [mup_same] at h'; cases h'; exact ⟨hs, hB⟩
    · rw [mup_ne q] at h'; exact F.mus b v' h'
theorem Frm.fresh (F : Frm B env cs m mu s) {a : Addr} (h : s.heap.get? a = none) : B.heap.get? a = none ∧ a ≠ env.locals ∧ (∀ x c, cs.lookup x = some c → c ≠ a) ∧ mu a = none := by
  refine ⟨?_, ?_, ?_, ?_⟩
  · cases e : B.heap.get? a with
    | none => rfl
    | some o => rw [F.keep a o e] at h; cases h
  · intro q; obtain ⟨_, ⟨o, _, _, ho, _⟩, _⟩ := F.ns; rw [← q, h] at ho; cases ho
  · intro x c hc q; obtain ⟨⟨o, ho, _⟩, _⟩ := F.cell x c hc; rw [q, h] at ho; cases ho
  · cases e : mu a with
    | none => rfl
    | some v => obtain ⟨o, ho⟩ := mv_some (F.mus a v e).1; rw [h] at ho; cases ho
theorem none_of_size {h : Heap} {a : Addr} (k : h.objs.size ≤ a) : h.get? a = none := by
  cases e : h.get? a with
  | none => rfl
  | some o => exact absurd (Heap.lt_size e) (Nat.not_lt.mpr k)
/-- a made thing that is to change -/
theorem Frm.make (F : Frm B env cs m mu s) {o : Obj} {v : Mv} {tk : Nat} (hv : v.At (s.heap.push o) s.heap.objs.size) : Frm B env cs m (mup mu s.heap.objs.size v) { s with heap := s.heap.push o, toks := tk } :=
  let ⟨a, b, c, _⟩ := F.fresh (none_of_size (Nat.le_refl _))
  (F.push o).mnew hv a b c
end

section
variable {M : Model} {A : Around} {E : Value → Shared → Prop} {B s : Shared} {env : Env} {cs : List (Str × Addr)} {m : Str → Option Value} {mu : Addr → Option Mv}

theorem nm_l {x : Str} {pos : Pos} {v : Value} {Q : Value → Shared → Prop} (F : Frm B env cs m mu s) (hv : m x = some v) (h : Q v s)
    (hk : env.scope.kind = .function := by rfl) (hl : env.kindOf x = some .local := by rfl) (hd : (x == ("__debug__" : Str)) = false := by decide) : wpAny M A (eval (.Name x pos) env) Q E s := by
  obtain ⟨ml, hn, he⟩ := F.ns
  exact wpAny_Name (wpAny_loadName_local hk hl hn ((he x hl).trans hv) h) hd

theorem nm_c {x : Str} {pos : Pos} {c : Addr} {v : Value} {Q : Value → Shared → Prop} (F : Frm B env cs m mu s) (hc : cs.lookup x = some c) (hv : m x = some v) (h : Q v s)
    (hk : env.scope.kind = .function := by rfl) (hl : env.kindOf x = some .cell := by rfl) (hce : env.cells.lookup x = some c := by rfl) (hd : (x == ("__debug__" : Str)) = false := by decide) :
    wpAny M A (eval (.Name x pos) env) Q E s :=
  wpAny_Name (wpAny_loadName_cell hk hl hce (hv ▸ (F.cell x c hc).1) h) hd

/-- a cell of a frame around -/
theorem nm_o {x : Str} {pos : Pos} {c : Addr} {v : Value} {Q : Value → Shared → Prop} (F : Frm B env cs m mu s) (hB : B.heap.IsCell c (some v)) (h : Q v s)
    (hce : env.cells.lookup x = some c) (hk : env.scope.kind = .function := by rfl) (hl : env.kindOf x = some .cell ∨ env.kindOf x = some .free) (hd : (x == ("__debug__" : Str)) = false := by decide)
    (hn : (x == ("__classdict__" : Str)) = false := by decide) :
    wpAny M A (eval (.Name x pos) env) Q E s := by
  have hv := hB.keeps F.keep
  rcases hl with hl | hl
  · exact wpAny_Name (wpAny_loadName_cell hk hl hce hv h) hd
  · exact wpAny_Name (wpAny_loadName_free hk hl hce hv h hn) hd

theorem st_l {x : Str} {v : Value} {Q : Unit → Shared → Prop} (F : Frm B env cs m mu s) (h : ∀ s', Frm B env cs (upd m x v) mu s' → Q () s')
    (hk : env.scope.kind = .function := by rfl) (hl : env.kindOf x = some .local := by rfl) : wpAny M A (storeName env x v) Q E s := by
  obtain ⟨ml, hn, he⟩ := F.ns
  refine wpAny_storeName_local hl hn (fun h' hn' hs' => h _ ?_) (by rw [hk]; rfl)
  have k : ∀ b o, b ≠ env.locals → s.heap.get? b = some o → h'.get? b = some o := fun b o q e => hs'.extBut b o q e
  refine ⟨by obtain ⟨h₁, tk, rfl⟩ := F.same; exact ⟨h', _, rfl⟩, fun b o e => k b o (fun q => by rw [q, F.newL] at e; cases e) (F.keep b o e), ⟨_, hn', fun y hy => ?_⟩, F.newL, F.muL, fun y c hc => ?_, F.apart, fun a w hw => ?_⟩
  · show (if y = x then some v else ml y) = if y = x then some v else m y
    split
    · rfl
    · exact he y hy
  · obtain ⟨⟨o, ho, hd⟩, r1, r2, r3, r4⟩ := F.cell y c hc
    have q : y ≠ x := fun z => by rw [z, hl] at r4; cases r4
    rw [upd_ne q]
    exact ⟨⟨o, k c o r2 ho, hd⟩, r1, r2, r3, r4⟩
  · have ⟨p, z⟩ := F.mus a w hw
    exact ⟨mv_of (fun o e => k a o (fun q => by rw [q, F.muL] at hw; cases hw) e) p, z⟩

theorem st_c {x : Str} {c : Addr} {v : Value} {Q : Unit → Shared → Prop} (F : Frm B env cs m mu s) (hc : cs.lookup x = some c) (h : ∀ s', Frm B env cs (upd m x v) mu s' → Q () s')
    (hk : env.scope.kind = .function := by rfl) (hl : env.kindOf x = some .cell := by rfl) (hce : env.cells.lookup x = some c := by rfl) : wpAny M A (storeName env x v) Q E s := by
  obtain ⟨C0, C1, C2, C3, C4⟩ := F.cell x c hc
  refine wpAny_storeName_cell hk hl hce C0 (fun h' hc' hs' => h _ ?_)
  have k : ∀ b o, b ≠ c → s.heap.get? b = some o → h'.get? b = some o := fun b o q e => hs'.extBut b o q e
  refine ⟨by obtain ⟨h₁, tk, rfl⟩ := F.same; exact ⟨h', _, rfl⟩, fun b o e => k b o (fun q => by rw [q, C1] at e; cases e) (F.keep b o e), ?_, F.newL, F.muL, fun y c' hy => ?_, F.apart, fun a w hw => ?_⟩
  · obtain ⟨ml, hn, he⟩ := F.ns
    refine ⟨ml, (let ⟨o, es, ep, ho, r⟩ := hn; ⟨o, es, ep, k _ o (Ne.symm C2) ho, r⟩), fun y hy => ?_⟩
    have q : y ≠ x := fun z => by rw [z, hl] at hy; cases hy
    rw [upd_ne q]; exact he y hy
  · obtain ⟨⟨o, ho, hd⟩, r1, r2, r3, r4⟩ := F.cell y c' hy
    by_cases q : c' = c
    · subst q
      have : y = x := name_of_addr F.apart (mem_of_lookup hy) (mem_of_lookup hc)
      subst this
      rw [upd_same]
      exact ⟨hc', r1, r2, r3, r4⟩
    · have q' : y ≠ x := fun z => by
        rw [z, hc] at hy
        exact q (Option.some.inj hy).symm
      rw [upd_ne q']
      exact ⟨⟨o, k c' o q ho, hd⟩, r1, r2, r3, r4⟩
  · have ⟨p, z⟩ := F.mus a w hw
    exact ⟨mv_of (fun o e => k a o (fun q => by rw [q, C3] at hw; cases hw) e) p, z⟩
end
/-- walk with the post closed up: its text is not said again at each step -/
structure Hid {α : Type} (Q Q' : α → Shared → Prop) : Prop where
  go : ∀ v s, Q v s → Q' v s
theorem wp_hid {M : Model} {A : Around} {α : Type} {c : Sem α} {Q : α → Shared → Prop} {E : Value → Shared → Prop} {s : Shared} (h : ∀ Q' : α → Shared → Prop, Hid Q Q' → wpAny M A c Q' E s) : wpAny M A c Q E s :=
  h Q ⟨fun _ _ x => x⟩
theorem un_hid {α : Type} {Q Q' : α → Shared → Prop} {v : α} {s : Shared} (V : Hid Q Q') (h : Q v s) : Q' v s := V.go v s h
section
variable {M : Model} {A : Around} {E : Value → Shared → Prop} {s : Shared} {env : Env} {rest : List Stmt} {Q : Flow → Shared → Prop}
theorem execs_last {st : Stmt} (h : wpAny M A (exec st env) Q E s) : wpAny M A (execs [st] env) Q E s :=
  wpAny_execs_cons (wpAny_mono h (fun f s' q => by cases f <;> first | exact wpAny_execs_nil q | exact q) fun _ _ x => x)
theorem execs_hid {st : Stmt} (h : ∀ Q' : Flow → Shared → Prop, Hid (fun f s' => match f with | .next => wpAny M A (execs rest env) Q E s' | f => Q f s') Q' → wpAny M A (exec st env) Q' E s) : wpAny M A (execs (st :: rest) env) Q E s :=
  wpAny_execs_cons (wpAny_mono (h _ ⟨fun _ _ x => x⟩) (fun f s' q => by cases f <;> exact q) fun _ _ x => x)
end

def P0 : Params := { strHash := fun _ => 0, shareClass := fun _ => 0, mergeTok := fun t => t, idOf := fun _ => 0, idOfShared := fun _ _ => 0, followText := fun _ => false, idOfImm := fun _ => 0 }

section
variable {w : World} {A : Around} {E : Value → Shared → Prop} {B s : Shared} {env : Env} {cs : List (Str × Addr)} {m : Str → Option Value} {mu : Addr → Option Mv}

theorem nm_g {x : Str} {pos : Pos} {v : Value} {Q : Value → Shared → Prop} (F : Frm B env cs m mu s) (G : Glb w B.heap) (e : nsIn (Kp w.params) mainGlobals x = some (some v)) (h : Q v s)
    (hg : env.globals = mainGlobals := by rfl) (hk : env.scope.kind = .function := by rfl) (hx : env.kindOf x = some .globalImplicit := by rfl) (hd : (x == ("__debug__" : Str)) = false := by decide) :
    wpAny (Md w) A (eval (.Name x pos) env) Q E s := by
  obtain ⟨mg, Gg, _⟩ := G.g
  exact Name_function_global hk hx (loadGlobal_global (env := env) (by rw [hg]; exact Gg.keeps F.keep) (mg_of G.k Gg e) h) hd
theorem nm_b {x : Str} {pos : Pos} {v : Value} {Q : Value → Shared → Prop} (F : Frm B env cs m mu s) (G : Glb w B.heap) (e : nsIn (Kp w.params) mainGlobals x = some none) (hv : bootBuiltins x = some v) (h : Q v s)
    (hg : env.globals = mainGlobals := by rfl) (hb : env.builtins = builtinsNs := by rfl) (hn : x ≠ "__name__" := by decide) (hk : env.scope.kind = .function := by rfl) (hx : env.kindOf x = some .globalImplicit := by rfl) (hd : (x == ("__debug__" : Str)) = false := by decide) :
    wpAny (Md w) A (eval (.Name x pos) env) Q E s := by
  obtain ⟨mg, Gg, _⟩ := G.g
  obtain ⟨mb, Gb, hbu⟩ := G.b
  exact Name_function_global hk hx (loadGlobal_builtin (env := env) (by rw [hg]; exact Gg.keeps F.keep) (mg_none_of G.k Gg e) (by rw [hb]; exact Gb.keeps F.keep) ((hbu x hn).trans hv) h) hd

theorem kin_of (F : Frm B env cs m mu s) (G : Glb w B.heap) : (Kp w.params).In s.heap := G.k.keeps F.keep

-- ints
theorem c_int {i : Int} {k : Nat} {pos : Pos} {Q : Value → Shared → Prop} (F : Frm B env cs m mu s) (h : ∀ s' t, Frm B env cs m mu s' → Q (.int i t) s') : wpAny (Md w) A (eval (.Constant (.int i) k pos) env) Q E s :=
  wpAny_Constant_int (h _ _ (F.tok _))
theorem i_add {a b : Int} {t u : Tok} {Q : Value → Shared → Prop} (F : Frm B env cs m mu s) (h : ∀ s' t, Frm B env cs m mu s' → Q (.int (a + b) t) s') : wpAny (Md w) A (binaryOp .Add (.int a t) (.int b u)) Q E s :=
  PyProof.Rows.add_int (h _ _ (F.tok _))
theorem i_sub {a b : Int} {t u : Tok} {Q : Value → Shared → Prop} (F : Frm B env cs m mu s) (h : ∀ s' t, Frm B env cs m mu s' → Q (.int (a - b) t) s') : wpAny (Md w) A (binaryOp .Sub (.int a t) (.int b u)) Q E s :=
  PyProof.Rows.sub_int (h _ _ (F.tok _))
theorem i_mul {a b : Int} {t u : Tok} {Q : Value → Shared → Prop} (F : Frm B env cs m mu s) (hm : IntMulOk a b) (h : ∀ s' t, Frm B env cs m mu s' → Q (.int (a * b) t) s') : wpAny (Md w) A (binaryOp .Mult (.int a t) (.int b u)) Q E s :=
  PyProof.Rows.mul_int (h _ _ (F.tok _)) hm
theorem i_mod {a b : Int} {t u : Tok} {Q : Value → Shared → Prop} (F : Frm B env cs m mu s) (hb : b ≠ 0) (h : ∀ s' t, Frm B env cs m mu s' → Q (.int (a.fmod b) t) s') : wpAny (Md w) A (binaryOp .Mod (.int a t) (.int b u)) Q E s :=
  mod_int' hb (h _ _ (F.tok _))
theorem i_div {a b : Int} {t u : Tok} {Q : Value → Shared → Prop} (F : Frm B env cs m mu s) (hb : b ≠ 0) (hp : Builtin.divisionGoesByPylong a b = false) (h : ∀ s' t, Frm B env cs m mu s' → Q (.int (a.fdiv b) t) s') : wpAny (Md w) A (binaryOp .FloorDiv (.int a t) (.int b u)) Q E s :=
  floordiv_int hb (h _ _ (F.tok _)) (.inl hp)
theorem i_neg {a : Int} {t : Tok} {Q : Value → Shared → Prop} (F : Frm B env cs m mu s) (h : ∀ s' t, Frm B env cs m mu s' → Q (.int (-a) t) s') : wpAny (Md w) A (unaryOp .USub (.int a t)) Q E s :=
  PyProof.Rows.neg_int (h _ _ (F.tok _))

-- new things
theorem n_tup {vs : List Value} {Q : Value → Shared → Prop} (F : Frm B env cs m mu s) (h : ∀ s' a, Frm B env cs m mu s' → s.heap.get? a = none → IsTup s'.heap a vs.toArray → Ext s s' → Q (.ref a) s') (hsz : vs.length ≤ sizeLine) :
    wpAny (Md w) A (newTuple vs) Q E s :=
  wpAny_newObj_type (h _ _ (F.push _) (none_of_size (Nat.le_refl _)) ⟨_, Heap.get?_push_size _ rfl, rfl, 0, rfl⟩ (.heap s fun _ _ e => Heap.get?_push_of_some _ e)) (by show vs.toArray.size ≤ sizeLine; rw [List.size_toArray]; exact hsz)
theorem n_lst {vs : List Value} {Q : Value → Shared → Prop} (F : Frm B env cs m mu s) (h : ∀ s' a, Frm B env cs m mu s' → s.heap.get? a = none → s'.heap.PlainList a vs.toArray → Ext s s' → Q (.ref a) s') (hsz : vs.length ≤ sizeLine) :
    wpAny (Md w) A (newList vs) Q E s :=
  wpAny_newObj_type (h _ _ (F.push _) (none_of_size (Nat.le_refl _)) ⟨0, Heap.get?_push_size _ rfl⟩ (.heap s fun _ _ e => Heap.get?_push_of_some _ e)) (by show vs.toArray.size ≤ sizeLine; rw [List.size_toArray]; exact hsz)
/-- a list that is to change -/
theorem n_lstM {vs : List Value} {Q : Value → Shared → Prop} (F : Frm B env cs m mu s) (h : ∀ s' a, s.heap.get? a = none → Frm B env cs m (mup mu a (.lst vs)) s' → Q (.ref a) s') (hsz : vs.length ≤ sizeLine) :
    wpAny (Md w) A (newList vs) Q E s :=
  wpAny_newObj_type (h _ _ (none_of_size (Nat.le_refl _)) (F.make (v := .lst vs) ⟨0, Heap.get?_push_size _ rfl⟩)) (by show vs.toArray.size ≤ sizeLine; rw [List.size_toArray]; exact hsz)

-- items
theorem s_lst {value slice : Expr} {l : Addr} {xs : List Value} {k : Int} {u : Tok} {x : Value} {Q : Value → Shared → Prop} (hl : s.heap.PlainList l xs.toArray) (h0 : 0 ≤ k) (hhi : k < 2 ^ 63) (hx : xs[k.toNat]? = some x) (h : Q x s)
    (hs : subscripted slice false (.ref l) (.int k u) = operate [.ref l, .int k u] (getItem (.ref l) (.int k u)) := by with_unfolding_all rfl) :
    wpAny (Md w) A (subscriptTail value slice (.ref l) (.int k u)) Q E s :=
  tail_any hl.isList.typeIs slot_list_getitem.lookup (wpAny_getItem_list hl.isList h0 hhi (by simpa using hx) h) hs
theorem s_tup {value slice : Expr} {l : Addr} {xs : List Value} {k : Int} {u : Tok} {x : Value} {Q : Value → Shared → Prop} (hl : IsTup s.heap l xs.toArray) (h0 : 0 ≤ k) (hhi : k < 2 ^ 63) (hx : xs[k.toNat]? = some x) (h : Q x s)
    (hs : subscripted slice false (.ref l) (.int k u) = operate [.ref l, .int k u] (getItem (.ref l) (.int k u)) := by with_unfolding_all rfl) :
    wpAny (Md w) A (subscriptTail value slice (.ref l) (.int k u)) Q E s := by
  have hk : k.toNat < xs.length := by
    rcases Nat.lt_or_ge k.toNat xs.length with q | q
    · exact q
    · rw [List.getElem?_eq_none q] at hx; cases hx
  exact tail_any hl.typeIs slot_tuple_getitem.lookup (getItem_tuple hl (by lia) hhi (seqIndex_of h0 (by rw [List.size_toArray]; lia)) (by simpa using hx) h) hs

theorem l_len {l : Addr} {xs : List Value} {Q : Value → Shared → Prop} (F : Frm B env cs m mu s) (hl : s.heap.PlainList l xs.toArray) (hz : xs.length ≤ 1000) (h : ∀ s' t, Frm B env cs m mu s' → Q (.int xs.length t) s') :
    wpAny (Md w) A (call (.builtin "len") [.ref l]) Q E s := by
  refine len_list hl.isList (by rw [List.size_toArray]; lia) ?_
  rw [List.size_toArray]
  exact h _ _ (F.tok _)
theorem t_len {l : Addr} {xs : List Value} {Q : Value → Shared → Prop} (F : Frm B env cs m mu s) (hl : IsTup s.heap l xs.toArray) (hz : xs.length ≤ 1000) (h : ∀ s' t, Frm B env cs m mu s' → Q (.int xs.length t) s') :
    wpAny (Md w) A (call (.builtin "len") [.ref l]) Q E s := by
  refine PyProof.Rows.len_tuple hl (by rw [List.size_toArray]; lia) ?_
  rw [List.size_toArray]
  exact h _ _ (F.tok _)

-- calls of the text's defs
theorem cw_fn {h₀ : Heap} {f : Value} {pos : Pos} {first : List Value} {e : Expr} {rest : List Expr} {Q : Value → Shared → Prop} (G : Glb w h₀) (hk : keepIn (Kp w.params) f = true)
    (h : wpAny (Md w) A (spliced (backTo pos (starEach (e :: rest) env))) (fun vs s₁ => (Kp w.params).In s₁.heap ∧ wpAny (Md w) A (call f (first ++ vs)) Q E s₁) E s)
    (he : starEach (e :: rest) env = (false, eval e env) :: starEach rest env := by rfl) (hp : (backTo pos (starEach rest env)).any (·.1) = false := by rfl) :
    wpAny (Md w) A (callWith pos f first (backTo pos (starEach (e :: rest) env)) []) Q E s := callWith_K G.k hk h he hp

theorem call_fn {d : Nat} {f : Addr} {oc : Value} {od : Option Addr} {osl : Array (Option Value)} {fd : FuncData} {body : List Stmt} {pos : List Value} {kw : List (Str × Value)} {binds : List (Str × Value)} {Q : Value → Shared → Prop}
    (G : Glb w s.heap) (r : Room A (d + 1)) (ho : (Kp w.params).lookup f = some ⟨oc, od, .func fd, osl⟩) (hcd : codeIn (Kp w.params) fd.code fd.qualname = true) (hb : fd.body = .stmts body)
    (hbind : BindsTo s fd ⟨pos, kw⟩ binds)
    (h : ∀ s₁, Frm s (callEnv fd s.heap.objs.size f) [] (fun x => binds.reverse.lookup x) mu0 s₁ → Room (A.deeper (callEnv fd s.heap.objs.size f)) d →
      wpAny (Md w) (A.deeper (callEnv fd s.heap.objs.size f)) (execs body (callEnv fd s.heap.objs.size f)) (fun fl s' => Q (match fl with | .ret v => v | _ => .none) s') (fun _ _ => False) s₁)
    (hcell : ∀ x ∈ fd.scope.names, x.2 ≠ .cell) (hloc : ∀ x ∈ binds, fd.scope.names.lookup x.1 = some .local)
    (hco : fd.scope.isCoroutine = false := by rfl) (hgen : fd.scope.isGenerator = false := by rfl) (hk : fd.scope.kind = .function := by rfl) :
    wpAny (Md w) A (call (.ref f) pos kw) Q E s := by
  refine wpAny_call (codeAny_call_def r.lt (G.k _ _ ho) rfl G.lim (codeRec_of G.k hcd) hb hbind hcell hloc (fun h₀ hns hk₀ => ?_) hco hgen hk)
  refine wpAny_mono (h _ ⟨⟨_, _, rfl⟩, hk₀, ⟨_, hns, fun _ _ => rfl⟩, none_of_size (Nat.le_refl _), rfl, fun x c hc => (by cases hc), .nil, fun a v hv => (by cases hv)⟩ r.deeper) (fun fl s' q => q) fun _ _ x => x.elim
end

noncomputable def fdLess : FuncData := (⟨_, rfl⟩ : Σ' fd : FuncData, List.lookup 128 (Kp P0) = some ⟨.type "function", none, .func fd, #[]⟩).1
theorem kLess (P : Params) : List.lookup 128 (Kp P) = some ⟨.type "function", none, .func fdLess, #[]⟩ := rfl
theorem gBR (P : Params) : nsIn (Kp P) mainGlobals "bisect_right" = some (some (.ref 39)) := rfl
theorem gLen (P : Params) : nsIn (Kp P) mainGlobals "len" = some none := rfl
theorem bLen : bootBuiltins "len" = some (.builtin "len") := by boot_by_name
theorem cLess (P : Params) : codeIn (Kp P) fdLess.code fdLess.qualname = true := rfl

/-- a straight lead: t tabs, b blanks -/
def LeadAt (h : Heap) (x : Addr) (t b : Nat) : Prop :=
  ∃ dx es ep nm ct t1 t2 t3, PySem.W.InstAt h x (instObj 138 dx) 138 (some (dictOf es ep)) ∧ getL "n" es = some (some (.int (t + b : Nat) t1)) ∧ getL "nt" es = some (some (.int t t2)) ∧
    getL "norm" es = some (some (.ref nm)) ∧ getL "is_simple" es = some (some (.bool true)) ∧ getL "less" es = some none ∧ getL "equal" es = some none ∧ getL "indent_level" es = some none ∧
    IsTup h nm [.ref ct, .int b t3].toArray ∧ ∃ t4, IsTup h ct (if t = 0 then [] else [.int t t4]).toArray
theorem instAt_keeps {h h' : Heap} {x C dx : Addr} {od : Obj} (I : PySem.W.InstAt h x (instObj C dx) C (some od)) (k : ∀ b o, h.get? b = some o → h'.get? b = some o) : PySem.W.InstAt h' x (instObj C dx) C (some od) :=
  ⟨k _ _ I.at_, I.cls, I.no, k _ _ I.dict⟩
theorem LeadAt.keeps {h h' : Heap} {x : Addr} {t b : Nat} (L : LeadAt h x t b) (k : ∀ b o, h.get? b = some o → h'.get? b = some o) : LeadAt h' x t b := by
  obtain ⟨dx, es, ep, nm, ct, t1, t2, t3, I, r1, r2, r3, r4, r5, r6, r7, T1, t4, T2⟩ := L
  exact ⟨dx, es, ep, nm, ct, t1, t2, t3, instAt_keeps I k, r1, r2, r3, r4, r5, r6, r7, T1.keeps k, t4, T2.keeps k⟩

theorem dict138 (P : Params) : hasDictIn (Kp P) 138 = true := by kernel_rfl
theorem get138 (P : Params) : findIn (Kp P) (.ref 138) "__getattribute__" = some (some (.builtin "object.__getattribute__")) := by kernel_rfl
theorem geta138 (P : Params) : findIn (Kp P) (.ref 138) "__getattr__" = some none := by kernel_rfl
theorem find138_n (P : Params) : findIn (Kp P) (.ref 138) "n" = some none := by kernel_rfl
theorem find138_nt (P : Params) : findIn (Kp P) (.ref 138) "nt" = some none := by kernel_rfl
theorem find138_norm (P : Params) : findIn (Kp P) (.ref 138) "norm" = some none := by kernel_rfl
theorem find138_is (P : Params) : findIn (Kp P) (.ref 138) "is_simple" = some none := by kernel_rfl
theorem find138_less (P : Params) : findIn (Kp P) (.ref 138) "less" = some (some (.ref 128)) := by kernel_rfl
theorem find138_equal (P : Params) : findIn (Kp P) (.ref 138) "equal" = some (some (.ref 114)) := by kernel_rfl
theorem find138_indent (P : Params) : findIn (Kp P) (.ref 138) "indent_level" = some (some (.ref 107)) := by kernel_rfl
theorem type128 (P : Params) : typeIn (Kp P) (.ref 128) = some (.type "function") := by kernel_rfl
theorem type114 (P : Params) : typeIn (Kp P) (.ref 114) = some (.type "function") := by kernel_rfl
theorem type107 (P : Params) : typeIn (Kp P) (.ref 107) = some (.type "function") := by kernel_rfl
theorem keep128 (P : Params) : keepIn (Kp P) (.ref 128) = true := by kernel_rfl
theorem keep114 (P : Params) : keepIn (Kp P) (.ref 114) = true := by kernel_rfl
theorem keep107 (P : Params) : keepIn (Kp P) (.ref 107) = true := by kernel_rfl

section
variable {w : World} {A : Around} {E : Value → Shared → Prop} {B s : Shared} {env : Env} {cs : List (Str × Addr)} {m : Str → Option Value} {mu : Addr → Option Mv} {x : Addr} {t b : Nat} {Q : Value → Shared → Prop}

theorem inst_attr {C dx : Addr} {es : List DictEntry} {ep : Nat} {name : Str} {v : Value} {ex : Bool} (F : Frm B env cs m mu s) (G : Glb w B.heap) (I : PySem.W.InstAt s.heap x (instObj C dx) C (some (dictOf es ep)))
    (h1 : hasDictIn (Kp w.params) C = true) (h2 : findIn (Kp w.params) (.ref C) "__getattribute__" = some (some (.builtin "object.__getattribute__"))) (h3 : findIn (Kp w.params) (.ref C) name = some none)
    (hl : getL name es = some (some v)) (hv : handedIn v = true) (h : ∀ s', Frm B env cs m mu s' → Q v s') : wpAny (Md w) A (getAttr (.ref x) name ex) Q E s :=
  get_value (G.k.keeps F.keep) I h2 (findObj_own h1 h3 rfl hl) hv (h _ (F.tok _))
theorem inst_meth {C dx f : Addr} {es : List DictEntry} {ep : Nat} {name : Str} {pl : Sem Bool} {Q : Value × List Value → Shared → Prop} (F : Frm B env cs m mu s) (G : Glb w B.heap) (I : PySem.W.InstAt s.heap x (instObj C dx) C (some (dictOf es ep)))
    (h2 : findIn (Kp w.params) (.ref C) "__getattribute__" = some (some (.builtin "object.__getattribute__"))) (h3 : findIn (Kp w.params) (.ref C) "__getattr__" = some none) (h4 : findIn (Kp w.params) (.ref C) name = some (some (.ref f)))
    (h5 : typeIn (Kp w.params) (.ref f) = some (.type "function")) (hl : getL name es = some none) (h : Q (.ref f, [.ref x]) s) : wpAny (Md w) A (getMethod (.ref x) name pl) Q E s :=
  method_fn (G.k.keeps F.keep) I h2 h3 h4 h5 (by show (lookIn name (dictOf es ep)).map _ = _; rw [lookIn_dict, hl]; rfl) h

theorem ld_n {ex : Bool} (F : Frm B env cs m mu s) (G : Glb w B.heap) (L : LeadAt s.heap x t b) (h : ∀ s' tk, Frm B env cs m mu s' → Q (.int (t + b : Nat) tk) s') : wpAny (Md w) A (getAttr (.ref x) "n" ex) Q E s := by
  obtain ⟨dx, es, ep, nm, ct, t1, t2, t3, I, r1, r2, r3, r4, r5, r6, r7, T1, t4, T2⟩ := L
  exact inst_attr F G I (dict138 _) (get138 _) (find138_n _) r1 rfl fun s' F' => h _ _ F'
theorem ld_nt {ex : Bool} (F : Frm B env cs m mu s) (G : Glb w B.heap) (L : LeadAt s.heap x t b) (h : ∀ s' tk, Frm B env cs m mu s' → Q (.int t tk) s') : wpAny (Md w) A (getAttr (.ref x) "nt" ex) Q E s := by
  obtain ⟨dx, es, ep, nm, ct, t1, t2, t3, I, r1, r2, r3, r4, r5, r6, r7, T1, t4, T2⟩ := L
  exact inst_attr F G I (dict138 _) (get138 _) (find138_nt _) r2 rfl fun s' F' => h _ _ F'
theorem ld_is {ex : Bool} (F : Frm B env cs m mu s) (G : Glb w B.heap) (L : LeadAt s.heap x t b) (h : ∀ s', Frm B env cs m mu s' → Q (.bool true) s') : wpAny (Md w) A (getAttr (.ref x) "is_simple" ex) Q E s := by
  obtain ⟨dx, es, ep, nm, ct, t1, t2, t3, I, r1, r2, r3, r4, r5, r6, r7, T1, t4, T2⟩ := L
  exact inst_attr F G I (dict138 _) (get138 _) (find138_is _) r4 rfl fun s' F' => h _ F'
theorem ld_norm {ex : Bool} (F : Frm B env cs m mu s) (G : Glb w B.heap) (L : LeadAt B.heap x t b)
    (h : ∀ s' nm ct t3 t4, Frm B env cs m mu s' → IsTup B.heap nm [.ref ct, .int b t3].toArray → IsTup B.heap ct (if t = 0 then [] else [.int t t4]).toArray → Q (.ref nm) s') : wpAny (Md w) A (getAttr (.ref x) "norm" ex) Q E s := by
  obtain ⟨dx, es, ep, nm, ct, t1, t2, t3, I, r1, r2, r3, r4, r5, r6, r7, T1, t4, T2⟩ := L
  exact inst_attr F G (instAt_keeps I F.keep) (dict138 _) (get138 _) (find138_norm _) r3 rfl fun s' F' => h _ _ _ _ _ F' T1 T2
theorem me_less {pl : Sem Bool} {Q : Value × List Value → Shared → Prop} (F : Frm B env cs m mu s) (G : Glb w B.heap) (L : LeadAt s.heap x t b) (h : Q (.ref 128, [.ref x]) s) : wpAny (Md w) A (getMethod (.ref x) "less" pl) Q E s := by
  obtain ⟨dx, es, ep, nm, ct, t1, t2, t3, I, r1, r2, r3, r4, r5, r6, r7, T1, t4, T2⟩ := L
  exact inst_meth F G I (get138 _) (geta138 _) (find138_less _) (type128 _) r5 h
theorem me_equal {pl : Sem Bool} {Q : Value × List Value → Shared → Prop} (F : Frm B env cs m mu s) (G : Glb w B.heap) (L : LeadAt s.heap x t b) (h : Q (.ref 114, [.ref x]) s) : wpAny (Md w) A (getMethod (.ref x) "equal" pl) Q E s := by
  obtain ⟨dx, es, ep, nm, ct, t1, t2, t3, I, r1, r2, r3, r4, r5, r6, r7, T1, t4, T2⟩ := L
  exact inst_meth F G I (get138 _) (geta138 _) (find138_equal _) (type114 _) r6 h
theorem me_indent {pl : Sem Bool} {Q : Value × List Value → Shared → Prop} (F : Frm B env cs m mu s) (G : Glb w B.heap) (L : LeadAt s.heap x t b) (h : Q (.ref 107, [.ref x]) s) : wpAny (Md w) A (getMethod (.ref x) "indent_level" pl) Q E s := by
  obtain ⟨dx, es, ep, nm, ct, t1, t2, t3, I, r1, r2, r3, r4, r5, r6, r7, T1, t4, T2⟩ := L
  exact inst_meth F G I (get138 _) (geta138 _) (find138_indent _) (type107 _) r7 h
end

theorem ifT {p q : Prop} (h : p) : if true = true then p else q := h
theorem ifF {p q : Prop} (h : q) : if false = true then p else q := h
theorem ifP {b : Bool} {p q : Prop} (e : b = true) (h : p) : if b = true then p else q := by rw [if_pos e]; exact h
theorem ifN {b : Bool} {p q : Prop} (e : b = false) (h : q) : if b = true then p else q := by rw [e]; exact h
--MAC+
local macro_rules | `(tactic| walk_at "lk") => `(tactic| first | exact upd_same | assumption | (refine (upd_ne (by decide)).trans ?_; walk_at "lk") | rfl)
local macro_rules | `(tactic| walk_at "lead") => `(tactic| first | assumption | exact LeadAt.keeps (by assumption) (Frm.keep (by assumption)))
local macro_rules | `(tactic| walk_at "go1") => `(tactic| first
  | with_reducible refine execs_last ?_
  | with_reducible refine execs_hid (st := Stmt.If _ _ _ _) (fun Q' V => ?_)
  | with_reducible refine wpAny_execs_cons ?_
  | with_reducible refine wpAny_execs_nil ?_
  | with_reducible refine wpAny_If ?_
  | with_reducible refine wpAny_isTrue_Compare1 ?_
  | with_reducible refine wpAny_isTrue_BoolOp ?_
  | with_reducible refine wpAny_isTrue_Not ?_
  | with_reducible refine wpAny_allTrue_And_cons ?_
  | with_reducible refine wpAny_allTrue_And_nil ?_
  | with_reducible refine wpAny_allTrue_Or_cons ?_
  | with_reducible refine wpAny_allTrue_Or_nil ?_
  | ((with_reducible show wpAny _ _ (PySem.isTrue _ _ _) _ _ _); refine wpAny_isTrue_value ?_)
  | with_reducible refine ifT ?_
  | with_reducible refine ifF ?_
  | with_reducible refine wpAny_Return_some ?_
  | ((with_reducible show wpAny _ _ (exec (Stmt.Assign [Expr.Name _ _] _ _) _) _ _ _); refine wpAny_Assign_Name ?_)
  | with_reducible refine wpAny_Compare1 ?_
  | with_reducible refine wpAny_BinOp ?_
  | with_reducible refine wpAny_Constant_bool ?_
  | with_reducible refine wpAny_truthy_bool ?_
  | with_reducible refine Attribute_any_ ?_
  | with_reducible refine PyProof.Rows.lt_int ?_
  | with_reducible refine PyProof.Rows.le_int ?_
  | with_reducible refine PyProof.Rows.gt_int ?_
  | with_reducible refine PyProof.Rows.ge_int ?_
  | ((with_reducible show wpAny _ _ (eval (Expr.Name _ _) _) _ _ _); refine nm_l (by assumption) (by walk_at "lk") ?_)
  | ((with_reducible show wpAny _ _ (getAttr _ _ _) _ _ _); first
    | (with_reducible refine ld_n (by assumption) (by assumption) (by walk_at "lead") ?_; intro _ _ _)
    | (with_reducible refine ld_nt (by assumption) (by assumption) (by walk_at "lead") ?_; intro _ _ _)
    | (with_reducible refine ld_is (by assumption) (by assumption) (by walk_at "lead") ?_; intro _ _))
  | with_reducible refine un_hid (by assumption) ?_
  )
local macro_rules | `(tactic| walk_at "go") => `(tactic| repeat (walk_at "go1"; try dsimp only [List.nil_append, List.cons_append]))
--MAC-

def lessB (t b t' b' : Nat) : Bool := decide (t + b < t' + b') && decide (t ≤ t')

theorem less_spec {w : World} {A : Around} {E : Value → Shared → Prop} {s : Shared} {x y : Addr} {t b t' b' : Nat} {Q : Value → Shared → Prop} (G : Glb w s.heap) (r : Room A 1) (Lx : LeadAt s.heap x t b) (Ly : LeadAt s.heap y t' b')
    (h : ∀ s', Ext s s' → Q (.bool (lessB t b t' b')) s') : wpAny (Md w) A (call (.ref 128) [.ref x, .ref y]) Q E s := by
  refine call_fn G r (kLess _) (cLess _) rfl (binds := [("self", .ref x), ("other", .ref y)]) (BindsTo.of_eq rfl) (fun s₁ F r' => ?_) (by decide) (locs rfl)
  walk_at "go"
  split
  · rename_i hc
    walk_at "go"
    have e : lessB t b t' b' = false := by simp only [decide_eq_true_eq] at hc; simp only [lessB, Bool.and_eq_false_imp, decide_eq_true_eq, decide_eq_false_iff_not]; lia
    exact e ▸ h _ (Frm.done (by assumption))
  · rename_i hc
    walk_at "go"
    have e : lessB t b t' b' = decide ((t : Int) ≤ (t' : Int)) := by
      simp only [decide_eq_true_eq] at hc
      have : t + b < t' + b' := by lia
      simp only [lessB, this, decide_true, Bool.true_and]
      exact decide_eq_decide.mpr (by lia)
    exact e ▸ h _ (Frm.done (by assumption))


def liP (l : Addr) (i : Nat) : Mv := .prd fun o => o.cls = .type "list_iterator" ∧ o.data = .fields #[.ref l, .int i 0]
def tiP (l : Addr) (i : Nat) : Mv := .prd fun o => o.cls = .type "tuple_iterator" ∧ o.data = .fields #[.ref l, .int i 0]
def riP (x left : Int) : Mv := .obj { cls := .type "range_iterator", dict := none, data := .fields #[rawInt x, rawInt left, rawInt 1], slots := #[] }

section
variable {w : World} {A : Around} {E : Value → Shared → Prop} {B s : Shared} {env : Env} {cs : List (Str × Addr)} {m : Str → Option Value} {mu : Addr → Option Mv}

theorem it_lst {l : Addr} {xs : List Value} {Q : Value → Shared → Prop} (F : Frm B env cs m mu s) (hl : s.heap.PlainList l xs.toArray) (h : ∀ s' I, mu I = none → Frm B env cs m (mup mu I (liP l 0)) s' → Q (.ref I) s') :
    wpAny (Md w) A (pyIter (.ref l)) Q E s :=
  wpAny_pyIter_list hl.isList (h _ _ (F.fresh (none_of_size (Nat.le_refl _))).2.2.2 (F.make (v := liP l 0) ⟨_, Heap.get?_push_size _ rfl, rfl, rfl⟩))
theorem nx_lst {I l : Addr} {xs : List Value} {i : Nat} {v : Value} {Q : Option Value → Shared → Prop} (F : Frm B env cs m mu s) (hI : mu I = some (liP l i)) (hl : s.heap.PlainList l xs.toArray) (hx : xs[i]? = some v)
    (h : ∀ s', Frm B env cs m (mup mu I (liP l (i + 1))) s' → Q (some v) s') : wpAny (Md w) A (pyNext (.ref I)) Q E s :=
  wpAny_pyNext_list_item (F.mus I _ hI).1 hl.isList (by simpa using hx) fun h' hi hs => h _ (F.chg (v := liP l (i + 1)) hI (fun b o q e => hs.extBut b o q e) hi)
theorem nx_lstE {I l : Addr} {xs : List Value} {i : Nat} {Q : Option Value → Shared → Prop} (hh : A.handled = none) (F : Frm B env cs m mu s) (hI : mu I = some (liP l i)) (hl : s.heap.PlainList l xs.toArray) (hx : xs[i]? = none)
    (h : ∀ s', Frm B env cs m (mdel mu I) s' → Q none s') : wpAny (Md w) A (pyNext (.ref I)) Q E s :=
  wpAny_pyNext_list_end hh (F.mus I _ hI).1 hl.isList (by simpa using hx) fun h' he => h _ (F.drop hI he)
theorem it_tup {l : Addr} {xs : List Value} {Q : Value → Shared → Prop} (F : Frm B env cs m mu s) (hl : IsTup s.heap l xs.toArray) (h : ∀ s' I, mu I = none → Frm B env cs m (mup mu I (tiP l 0)) s' → Q (.ref I) s') :
    wpAny (Md w) A (pyIter (.ref l)) Q E s :=
  iter_tuple hl (h _ _ (F.fresh (none_of_size (Nat.le_refl _))).2.2.2 (F.make (v := tiP l 0) ⟨_, Heap.get?_push_size _ rfl, rfl, rfl⟩))
theorem nx_tup {I l : Addr} {xs : List Value} {i : Nat} {v : Value} {Q : Option Value → Shared → Prop} (F : Frm B env cs m mu s) (hI : mu I = some (tiP l i)) (hl : IsTup s.heap l xs.toArray) (hx : xs[i]? = some v)
    (h : ∀ s', Frm B env cs m (mup mu I (tiP l (i + 1))) s' → Q (some v) s') : wpAny (Md w) A (pyNext (.ref I)) Q E s :=
  next_tuple_item (F.mus I _ hI).1 hl (by simpa using hx) fun h' hi hs => h _ (F.chg (v := tiP l (i + 1)) hI (fun b o q e => hs.extBut b o q e) hi)
theorem nx_tupE {I l : Addr} {xs : List Value} {i : Nat} {Q : Option Value → Shared → Prop} (hh : A.handled = none) (F : Frm B env cs m mu s) (hI : mu I = some (tiP l i)) (hl : IsTup s.heap l xs.toArray) (hx : xs[i]? = none)
    (h : ∀ s', Frm B env cs m (mdel mu I) s' → Q none s') : wpAny (Md w) A (pyNext (.ref I)) Q E s :=
  next_tuple_end hh (F.mus I _ hI).1 hl (by simpa using hx) fun h' he => h _ (F.drop hI he)

abbrev RgAt (h : Heap) (r : Addr) (a b : Int) : Prop := ∃ t u v, IsRange h r a b 1 t u v
theorem n_rg1 {n : Int} {t : Tok} {Q : Value → Shared → Prop} (F : Frm B env cs m mu s) (h : ∀ s' r, Frm B env cs m mu s' → s.heap.get? r = none → RgAt s'.heap r 0 n → Ext s s' → Q (.ref r) s') : wpAny (Md w) A (call (.type "range") [.int n t]) Q E s :=
  call_range_1 (h _ _ (F.push _) (none_of_size (Nat.le_refl _)) ⟨_, _, _, IsRange.new _ _ _ _ _ _ _⟩ (.heap s fun _ _ e => Heap.get?_push_of_some _ e))
theorem n_rg2 {a b : Int} {t u : Tok} {Q : Value → Shared → Prop} (F : Frm B env cs m mu s) (h : ∀ s' r, Frm B env cs m mu s' → s.heap.get? r = none → RgAt s'.heap r a b → Ext s s' → Q (.ref r) s') : wpAny (Md w) A (call (.type "range") [.int a t, .int b u]) Q E s :=
  call_range_2 (h _ _ (F.push _) (none_of_size (Nat.le_refl _)) ⟨_, _, _, IsRange.new _ _ _ _ _ _ _⟩ (.heap s fun _ _ e => Heap.get?_push_of_some _ e))
theorem it_rg {r : Addr} {a b : Int} {Q : Value → Shared → Prop} (F : Frm B env cs m mu s) (hr : RgAt s.heap r a b) (ha : 0 ≤ a) (ha' : a < 1000) (hb : 0 ≤ b) (hb' : b < 1000)
    (h : ∀ s' I, mu I = none → Frm B env cs m (mup mu I (riP a (if a < b then b - a else 0))) s' → Q (.ref I) s') : wpAny (Md w) A (pyIter (.ref r)) Q E s := by
  obtain ⟨t, u, v, hr⟩ := hr
  refine wpAny_pyIter_range hr (small_one (by lia) (by lia) (by lia) (by lia)) ?_
  rw [rangeSize_one]
  exact h _ _ (F.fresh (none_of_size (Nat.le_refl _))).2.2.2 (F.make (v := riP a (if a < b then b - a else 0)) (Heap.get?_push_size _ rfl))
theorem nx_rg {I : Addr} {x left : Int} {Q : Option Value → Shared → Prop} (F : Frm B env cs m mu s) (hI : mu I = some (riP x left)) (hl : 0 < left)
    (h : ∀ s' t, Frm B env cs m (mup mu I (riP (x + 1) (left - 1))) s' → Q (some (.int x t)) s') : wpAny (Md w) A (pyNext (.ref I)) Q E s :=
  wpAny_pyNext_range_item (F.mus I _ hI).1 hl fun h' hi hs => h _ _ (F.chg (v := riP (x + 1) (left - 1)) hI (fun b o q e => hs.extBut b o q e) hi)
theorem nx_rgE {I : Addr} {x left : Int} {Q : Option Value → Shared → Prop} (hh : A.handled = none) (F : Frm B env cs m mu s) (hI : mu I = some (riP x left)) (hl : left ≤ 0)
    (h : ∀ s', Frm B env cs m (mdel mu I) s' → Q none s') : wpAny (Md w) A (pyNext (.ref I)) Q E s :=
  wpAny_pyNext_range_end hh (F.mus I _ hI).1 hl fun h' he => h _ (F.drop hI he)

theorem lot_ {target : Expr} {I : Addr} {o : Obj} {n : String} {v : Value} {Q : Unit → Shared → Prop} (ho : s.heap.get? I = some o) (hc : o.cls = .type n) (hn : n = "list_iterator" ∨ n = "tuple_iterator") (hQ : Q () s) :
    wpAny (Md w) A (letOwnedTupleGo target (.ref I) v) Q E s := by
  have step : ∀ a : Addr, wpAny (Md w) A (load I >>= fun o => match o.cls, o.data with
      | .type n, .fields vs => if (["enumerate", "zip", "dict_itemiterator", "dict_reverseitemiterator", "odict_iterator", "itertools.zip_longest", "itertools.pairwise"].contains n && vs[0]? == some (rawInt a)) = true then (rule "for.unpacks-the-owned-tuple" >>= fun _ => updateField I 0 .none) else pure ()
      | _, _ => pure ()) Q E s := fun a => by
    refine wpAny_bind (wpAny_load ho ?_)
    rw [hc]
    cases o.data with
    | fields vs =>
      dsimp only
      rw [if_neg (by rcases hn with rfl | rfl <;> simp)]
      exact wpAny_pure hQ
    | _ => exact wpAny_pure hQ
  cases target <;> first | exact wpAny_pure hQ | (cases v <;> first | exact wpAny_pure hQ | exact step _)

theorem codeAny_for {R : Result → Shared → Prop} {target : Expr} {it : Value} {body : List Stmt} (I : Nat → Shared → Prop)
    (turn : ∀ n s, I n s → wpAny (Md w) A (pyNext it) (fun r s₁ => match r with
      | none => R (.ok .next) s₁
      | some v => wpAny (Md w) A (letOwnedTupleGo target it v) (fun _ s₁ => wpAny (Md w) A (assign target env v) (fun _ s₂ => wpAny (Md w) A (execs body env) (fun f s₃ => match f with
          | .next | .cont => ∃ m, m < n ∧ I m s₃
          | .brk => R (.ok .next) s₃
          | .ret v => R (.ok (.ret v)) s₃) (fun _ _ => False) s₂) (fun _ _ => False) s₁) (fun _ _ => False) s₁) (fun _ _ => False) s)
    (n : Nat) (h : I n s) : codeAny (Md w) A (.forLoop target it body [] env) R s := by
  refine codeAny_loop' rfl I (fun n s hI => ?_) n h
  show wpAny _ _ ((forTurn target it body [] env).onRaise (fun x => do noteFrame x env; theTreesLotGoes x)) _ _ s
  refine wpAny_noted ?_
  simp only [forTurn]
  refine wpAny_bind (wpAny_standAt (wpAny_bind (wpAny_onRaise (wpAny_mono (turn n s hI) (fun r s₁ h₁ => ?_) fun _ _ h' => h'.elim))))
  cases r with
  | none => exact wpAny_pure (.inr ⟨rfl, codeAny_block (wpAny_execs_nil h₁)⟩)
  | some v =>
    refine wpAny_bind (wpAny_mono h₁ (fun _ s₁ h₁ => wpAny_bind (wpAny_mono h₁ (fun _ s₂ h₂ => wpAny_bind (wpAny_mono h₂ (fun f s₃ h₃ => ?_) fun _ _ h' => h'.elim)) fun _ _ h' => h'.elim)) fun _ _ h' => h'.elim)
    cases f with
    | next => exact wpAny_pure (.inl ⟨rfl, h₃⟩)
    | cont => exact wpAny_pure (.inl ⟨rfl, h₃⟩)
    | brk => exact wpAny_pure h₃
    | ret v => exact wpAny_pure h₃

/-- a for: J i holds ahead of turn i, n turns at most -/
theorem for_go {target : Expr} {it : Value} {body : List Stmt} {Q : Flow → Shared → Prop} (n : Nat) (J : Nat → Shared → Prop) (h0 : J 0 s)
    (turn : ∀ i s, i ≤ n → J i s → ∀ Qx QB : Flow → Shared → Prop, Hid Q Qx → Hid (fun f s₃ => match f with
          | .next | .cont => J (i + 1) s₃
          | .brk => Qx .next s₃
          | .ret v => Qx (.ret v) s₃) QB → wpAny (Md w) A (pyNext it) (fun r s₁ => match r with
      | none => Qx .next s₁
      | some v => i < n ∧ wpAny (Md w) A (letOwnedTupleGo target it v) (fun _ s₁ => wpAny (Md w) A (assign target env v) (fun _ s₂ => wpAny (Md w) A (execs body env) QB
          (fun _ _ => False) s₂) (fun _ _ => False) s₁) (fun _ _ => False) s₁) (fun _ _ => False) s) :
    codeAny (Md w) A (.forLoop target it body [] env) (fun r s' => match r with | .ok f => Q f s' | .error e => cameBackBy (Md w) A env E e s') s := by
  refine codeAny_for (fun k s => ∃ i, i ≤ n ∧ k = n - i ∧ J i s) (fun k s hI => ?_) n ⟨0, Nat.zero_le _, rfl, h0⟩
  obtain ⟨i, hi, rfl, hJ⟩ := hI
  refine wpAny_mono (turn i s hi hJ _ _ ⟨fun _ _ x => x⟩ ⟨fun _ _ x => x⟩) (fun r s₁ h₁ => ?_) fun _ _ x => x
  cases r with
  | none => exact h₁
  | some v =>
    obtain ⟨hlt, h₁⟩ := h₁
    refine wpAny_mono h₁ (fun _ s₂ h₂ => wpAny_mono h₂ (fun _ s₃ h₃ => wpAny_mono h₃ (fun f s₄ h₄ => ?_) fun _ _ x => x) fun _ _ x => x) fun _ _ x => x
    cases f with
    | next => exact ⟨n - (i + 1), by lia, i + 1, hlt, rfl, h₄⟩
    | cont => exact ⟨n - (i + 1), by lia, i + 1, hlt, rfl, h₄⟩
    | brk => exact h₄
    | ret v => exact h₄

/-- a while: k falls -/
theorem while_go {test : Expr} {body : List Stmt} {Q : Flow → Shared → Prop} (J : Nat → Shared → Prop) (n : Nat) (h0 : J n s)
    (turn : ∀ n s, J n s → ∀ Qx QB : Flow → Shared → Prop, Hid Q Qx → Hid (fun f s₃ => match f with
            | .next | .cont => ∃ m, m < n ∧ J m s₃
            | .brk => Qx .next s₃
            | .ret v => Qx (.ret v) s₃) QB → wpAny (Md w) A (PySem.isTrue test env (eval test env)) (fun b s₂ =>
        if b then wpAny (Md w) A (execs body env) QB (fun _ _ => False) s₂
        else Qx .next s₂) (fun _ _ => False) s) :
    codeAny (Md w) A (.whileLoop test body [] env) (fun r s' => match r with | .ok f => Q f s' | .error e => cameBackBy (Md w) A env E e s') s := by
  refine codeAny_whileLoop J (fun n s hJ => ?_) n h0
  refine wpAny_mono (turn n s hJ _ _ ⟨fun _ _ x => x⟩ ⟨fun _ _ x => x⟩) (fun b s₂ h₂ => ?_) fun _ _ x => x.elim
  cases b with
  | true => exact wpAny_mono (h₂ : wpAny _ _ _ _ _ _) (fun f s₃ h₃ => by cases f <;> exact h₃) fun _ _ x => x.elim
  | false => exact wpAny_execs_nil (h₂ : Q .next s₂)

/-- two names from a tuple of two -/
theorem as_tup2 {t₁ t₂ : Expr} {k : Nat} {pos : Pos} {T : Addr} {v₁ v₂ : Value} {Q : Unit → Shared → Prop} (hh : A.handled = none) (F : Frm B env cs m mu s) (hT : IsTup s.heap T [v₁, v₂].toArray)
    (h : ∀ s', Frm B env cs m mu s' → wpAny (Md w) A (assign t₁ env v₁) (fun _ s₁ => wpAny (Md w) A (assign t₂ env v₂) Q E s₁) E s')
    (ha : assignEach [t₁, t₂] env = [(false, assign t₁ env), (false, assign t₂ env)] := by rfl) : wpAny (Md w) A (assign (.Tuple [t₁, t₂] k pos) env (.ref T)) Q E s := by
  refine assign_Tuple_tuple hh hT (by rw [ha]; rfl) (by rw [ha]; rfl) fun h' he => ?_
  rw [ha]
  have F' : Frm B env cs m mu { s with heap := h' } := F.hp fun b o e => he b o (Nat.ne_of_lt (Heap.lt_size e)) e
  show wpAny _ _ (holding [v₂] (assign t₁ env v₁) >>= fun _ => (holding [] (assign t₂ env v₂) >>= fun _ => pure ())) _ _ _
  exact wpAny_bind (wpAny_holding (wpAny_mono (h _ F') (fun _ s₁ h₁ => wpAny_bind (wpAny_holding (wpAny_mono h₁ (fun _ _ q => wpAny_pure q) fun _ _ x => x))) fun _ _ x => x))
end

noncomputable def fdInsR : FuncData := (⟨_, rfl⟩ : Σ' fd : FuncData, List.lookup 30 (Kp P0) = some ⟨.type "function", none, .func fd, #[]⟩).1
theorem kInsR (P : Params) : List.lookup 30 (Kp P) = some ⟨.type "function", none, .func fdInsR, #[]⟩ := rfl
theorem cInsR (P : Params) : codeIn (Kp P) fdInsR.code fdInsR.qualname = true := by kernel_rfl
noncomputable def fdBisR : FuncData := (⟨_, rfl⟩ : Σ' fd : FuncData, List.lookup 39 (Kp P0) = some ⟨.type "function", none, .func fd, #[]⟩).1
theorem kBisR (P : Params) : List.lookup 39 (Kp P) = some ⟨.type "function", none, .func fdBisR, #[]⟩ := rfl
theorem cBisR (P : Params) : codeIn (Kp P) fdBisR.code fdBisR.qualname = true := by kernel_rfl
noncomputable def fdBisL : FuncData := (⟨_, rfl⟩ : Σ' fd : FuncData, List.lookup 48 (Kp P0) = some ⟨.type "function", none, .func fd, #[]⟩).1
theorem kBisL (P : Params) : List.lookup 48 (Kp P) = some ⟨.type "function", none, .func fdBisL, #[]⟩ := rfl
theorem cBisL (P : Params) : codeIn (Kp P) fdBisL.code fdBisL.qualname = true := by kernel_rfl
noncomputable def fdTcInit : FuncData := (⟨_, rfl⟩ : Σ' fd : FuncData, List.lookup 62 (Kp P0) = some ⟨.type "function", none, .func fd, #[]⟩).1
theorem kTcInit (P : Params) : List.lookup 62 (Kp P) = some ⟨.type "function", none, .func fdTcInit, #[]⟩ := rfl
theorem cTcInit (P : Params) : codeIn (Kp P) fdTcInit.code fdTcInit.qualname = true := by kernel_rfl
noncomputable def fdCmp : FuncData := (⟨_, rfl⟩ : Σ' fd : FuncData, List.lookup 69 (Kp P0) = some ⟨.type "function", none, .func fd, #[]⟩).1
theorem kCmp (P : Params) : List.lookup 69 (Kp P) = some ⟨.type "function", none, .func fdCmp, #[]⟩ := rfl
theorem cCmp (P : Params) : codeIn (Kp P) fdCmp.code fdCmp.qualname = true := by kernel_rfl
noncomputable def fdWsInit : FuncData := (⟨_, rfl⟩ : Σ' fd : FuncData, List.lookup 93 (Kp P0) = some ⟨.type "function", none, .func fd, #[]⟩).1
theorem kWsInit (P : Params) : List.lookup 93 (Kp P) = some ⟨.type "function", none, .func fdWsInit, #[]⟩ := rfl
theorem cWsInit (P : Params) : codeIn (Kp P) fdWsInit.code fdWsInit.qualname = true := by kernel_rfl
noncomputable def fdInd : FuncData := (⟨_, rfl⟩ : Σ' fd : FuncData, List.lookup 107 (Kp P0) = some ⟨.type "function", none, .func fd, #[]⟩).1
theorem kInd (P : Params) : List.lookup 107 (Kp P) = some ⟨.type "function", none, .func fdInd, #[]⟩ := rfl
theorem cInd (P : Params) : codeIn (Kp P) fdInd.code fdInd.qualname = true := by kernel_rfl
noncomputable def fdEqu : FuncData := (⟨_, rfl⟩ : Σ' fd : FuncData, List.lookup 114 (Kp P0) = some ⟨.type "function", none, .func fd, #[]⟩).1
theorem kEqu (P : Params) : List.lookup 114 (Kp P) = some ⟨.type "function", none, .func fdEqu, #[]⟩ := rfl
theorem cEqu (P : Params) : codeIn (Kp P) fdEqu.code fdEqu.qualname = true := by kernel_rfl
noncomputable def fdRows : FuncData := (⟨_, rfl⟩ : Σ' fd : FuncData, List.lookup 149 (Kp P0) = some ⟨.type "function", none, .func fd, #[]⟩).1
theorem kRows (P : Params) : List.lookup 149 (Kp P) = some ⟨.type "function", none, .func fdRows, #[]⟩ := rfl
theorem cRows (P : Params) : codeIn (Kp P) fdRows.code fdRows.qualname = true := by kernel_rfl
noncomputable def fdSpan : FuncData := (⟨_, rfl⟩ : Σ' fd : FuncData, List.lookup 156 (Kp P0) = some ⟨.type "function", none, .func fd, #[]⟩).1
theorem kSpan (P : Params) : List.lookup 156 (Kp P) = some ⟨.type "function", none, .func fdSpan, #[]⟩ := rfl
theorem cSpan (P : Params) : codeIn (Kp P) fdSpan.code fdSpan.qualname = true := by kernel_rfl
noncomputable def fdPiles : FuncData := (⟨_, rfl⟩ : Σ' fd : FuncData, List.lookup 163 (Kp P0) = some ⟨.type "function", none, .func fd, #[]⟩).1
theorem kPiles (P : Params) : List.lookup 163 (Kp P) = some ⟨.type "function", none, .func fdPiles, #[]⟩ := rfl
theorem cPiles (P : Params) : codeIn (Kp P) fdPiles.code fdPiles.qualname = true := by kernel_rfl
noncomputable def fdMost : FuncData := (⟨_, rfl⟩ : Σ' fd : FuncData, List.lookup 168 (Kp P0) = some ⟨.type "function", none, .func fd, #[]⟩).1
theorem kMost (P : Params) : List.lookup 168 (Kp P) = some ⟨.type "function", none, .func fdMost, #[]⟩ := rfl
theorem cMost (P : Params) : codeIn (Kp P) fdMost.code fdMost.qualname = true := by kernel_rfl
noncomputable def fdLad : FuncData := (⟨_, rfl⟩ : Σ' fd : FuncData, List.lookup 173 (Kp P0) = some ⟨.type "function", none, .func fd, #[]⟩).1
theorem kLad (P : Params) : List.lookup 173 (Kp P) = some ⟨.type "function", none, .func fdLad, #[]⟩ := rfl
theorem cLad (P : Params) : codeIn (Kp P) fdLad.code fdLad.qualname = true := by kernel_rfl
noncomputable def fdStr : FuncData := (⟨_, rfl⟩ : Σ' fd : FuncData, List.lookup 178 (Kp P0) = some ⟨.type "function", none, .func fd, #[]⟩).1
theorem kStr (P : Params) : List.lookup 178 (Kp P) = some ⟨.type "function", none, .func fdStr, #[]⟩ := rfl
theorem cStr (P : Params) : codeIn (Kp P) fdStr.code fdStr.qualname = true := by kernel_rfl
noncomputable def fdLaw : FuncData := (⟨_, rfl⟩ : Σ' fd : FuncData, List.lookup 183 (Kp P0) = some ⟨.type "function", none, .func fd, #[]⟩).1
theorem kLaw (P : Params) : List.lookup 183 (Kp P) = some ⟨.type "function", none, .func fdLaw, #[]⟩ := rfl
theorem cLaw (P : Params) : codeIn (Kp P) fdLaw.code fdLaw.qualname = true := by kernel_rfl
theorem ginsortright (P : Params) : nsIn (Kp P) mainGlobals "insort_right" = some (some (.ref 30)) := by kernel_rfl
theorem keep30 (P : Params) : keepIn (Kp P) (.ref 30) = true := by kernel_rfl
theorem gbisectright (P : Params) : nsIn (Kp P) mainGlobals "bisect_right" = some (some (.ref 39)) := by kernel_rfl
theorem keep39 (P : Params) : keepIn (Kp P) (.ref 39) = true := by kernel_rfl
theorem gbisectleft (P : Params) : nsIn (Kp P) mainGlobals "bisect_left" = some (some (.ref 48)) := by kernel_rfl
theorem keep48 (P : Params) : keepIn (Kp P) (.ref 48) = true := by kernel_rfl
theorem gTupleComp (P : Params) : nsIn (Kp P) mainGlobals "TupleComp" = some (some (.ref 72)) := by kernel_rfl
theorem keep72 (P : Params) : keepIn (Kp P) (.ref 72) = true := by kernel_rfl
theorem gWhitespace (P : Params) : nsIn (Kp P) mainGlobals "Whitespace" = some (some (.ref 138)) := by kernel_rfl
theorem keep138 (P : Params) : keepIn (Kp P) (.ref 138) = true := by kernel_rfl
theorem glawrows (P : Params) : nsIn (Kp P) mainGlobals "_law_rows" = some (some (.ref 149)) := by kernel_rfl
theorem keep149 (P : Params) : keepIn (Kp P) (.ref 149) = true := by kernel_rfl
theorem glawspan (P : Params) : nsIn (Kp P) mainGlobals "_law_span" = some (some (.ref 156)) := by kernel_rfl
theorem keep156 (P : Params) : keepIn (Kp P) (.ref 156) = true := by kernel_rfl
theorem glawpiles (P : Params) : nsIn (Kp P) mainGlobals "_law_piles" = some (some (.ref 163)) := by kernel_rfl
theorem keep163 (P : Params) : keepIn (Kp P) (.ref 163) = true := by kernel_rfl
theorem glawmost (P : Params) : nsIn (Kp P) mainGlobals "_law_most" = some (some (.ref 168)) := by kernel_rfl
theorem keep168 (P : Params) : keepIn (Kp P) (.ref 168) = true := by kernel_rfl
theorem glawladder (P : Params) : nsIn (Kp P) mainGlobals "_law_ladder" = some (some (.ref 173)) := by kernel_rfl
theorem keep173 (P : Params) : keepIn (Kp P) (.ref 173) = true := by kernel_rfl
theorem glawstrangers (P : Params) : nsIn (Kp P) mainGlobals "_law_strangers" = some (some (.ref 178)) := by kernel_rfl
theorem keep178 (P : Params) : keepIn (Kp P) (.ref 178) = true := by kernel_rfl
theorem keep69 (P : Params) : keepIn (Kp P) (.ref 69) = true := by kernel_rfl
theorem gn_len (P : Params) : nsIn (Kp P) mainGlobals "len" = some none := by kernel_rfl
theorem bb_len : bootBuiltins "len" = some (.builtin "len") := by boot_by_name
theorem gn_range (P : Params) : nsIn (Kp P) mainGlobals "range" = some none := by kernel_rfl
theorem bb_range : bootBuiltins "range" = some (.type "range") := by boot_by_name
theorem gn_max (P : Params) : nsIn (Kp P) mainGlobals "max" = some none := by kernel_rfl
theorem bb_max : bootBuiltins "max" = some (.builtin "max") := by boot_by_name
theorem gn_sum (P : Params) : nsIn (Kp P) mainGlobals "sum" = some none := by kernel_rfl
theorem bb_sum : bootBuiltins "sum" = some (.builtin "sum") := by boot_by_name
theorem gn_sorted (P : Params) : nsIn (Kp P) mainGlobals "sorted" = some none := by kernel_rfl
theorem bb_sorted : bootBuiltins "sorted" = some (.builtin "sorted") := by boot_by_name
theorem gn_tuple (P : Params) : nsIn (Kp P) mainGlobals "tuple" = some none := by kernel_rfl
theorem bb_tuple : bootBuiltins "tuple" = some (.type "tuple") := by boot_by_name

--MAC+
local macro_rules | `(tactic| walk_at "glob") => `(tactic| first | with_reducible exact ginsortright _ | with_reducible exact gbisectright _ | with_reducible exact gbisectleft _ | with_reducible exact gTupleComp _ | with_reducible exact gWhitespace _ | with_reducible exact glawrows _ | with_reducible exact glawspan _ | with_reducible exact glawpiles _ | with_reducible exact glawmost _ | with_reducible exact glawladder _ | with_reducible exact glawstrangers _)
local macro_rules | `(tactic| walk_at "bnone") => `(tactic| first | with_reducible exact gn_len _ | with_reducible exact gn_range _ | with_reducible exact gn_max _ | with_reducible exact gn_sum _ | with_reducible exact gn_sorted _ | with_reducible exact gn_tuple _)
local macro_rules | `(tactic| walk_at "bval") => `(tactic| first | with_reducible exact bb_len | with_reducible exact bb_range | with_reducible exact bb_max | with_reducible exact bb_sum | with_reducible exact bb_sorted | with_reducible exact bb_tuple)
local macro_rules | `(tactic| walk_at "keepK") => `(tactic| first | with_reducible exact keep69 _ | with_reducible exact keep30 _ | with_reducible exact keep39 _ | with_reducible exact keep48 _ | with_reducible exact keep128 _ | with_reducible exact keep114 _ | with_reducible exact keep107 _ | with_reducible exact keep72 _ | with_reducible exact keep138 _ | with_reducible exact keep149 _ | with_reducible exact keep156 _ | with_reducible exact keep163 _ | with_reducible exact keep168 _ | with_reducible exact keep173 _ | with_reducible exact keep178 _)
local macro_rules | `(tactic| walk_at "kin") => `(tactic| exact kin_of (by assumption) (by assumption))
local macro_rules | `(tactic| walk_at "go1") => `(tactic| first
  | ((with_reducible show wpAny _ _ (exec (Stmt.Assign [Expr.Tuple _ _ _] _ _) _) _ _ _); refine Assign_Tuple ?_)
  | ((with_reducible show wpAny _ _ (exec (Stmt.For _ _ _ _ _) _) _ _ _); refine wpAny_For ?_)
  | with_reducible refine wpAny_While ?_
  | with_reducible refine wpAny_IfExp ?_
  | with_reducible refine wpAny_UnaryOp ?_
  | ((with_reducible show wpAny _ _ (exec (Stmt.Expr _ _) _) _ _ _); refine wpAny_Expr ?_)
  | with_reducible refine wpAny_Constant_none ?_
  | with_reducible refine PySem.wpAny_assign_Name ?_
  | with_reducible refine Subscript_ ?_
  | with_reducible refine args_nil ?_
  | ((with_reducible show wpAny _ _ (spliced (backTo _ (starEach (_ :: _) _))) _ _ _); refine args_cons ?_)
  | with_reducible refine Tuple_ ?_
  | with_reducible refine List_ ?_
  | ((with_reducible show wpAny _ _ (eval (Expr.Call (Expr.Attribute _ _ _) _ [] _) _) _ _ _); refine MethodCall_ ?_)
  | ((with_reducible show wpAny _ _ (eval (Expr.Call _ _ [] _) _) _ _ _); refine Call_ ?_)
  | ((with_reducible show wpAny _ _ (storeName _ _ _) _ _ _); first | (refine st_l (by assumption) ?_; intro _ _) | (refine st_c (by assumption) (by rfl) ?_; intro _ _))
  | ((with_reducible show wpAny _ _ (eval (Expr.Constant (Const.int _) _ _) _) _ _ _); refine c_int (by assumption) ?_; intro _ _ _)
  | ((with_reducible show wpAny _ _ (binaryOp Operator.Add (Value.int _ _) (Value.int _ _)) _ _ _); refine i_add (by assumption) ?_; intro _ _ _)
  | ((with_reducible show wpAny _ _ (binaryOp Operator.Sub (Value.int _ _) (Value.int _ _)) _ _ _); refine i_sub (by assumption) ?_; intro _ _ _)
  | ((with_reducible show wpAny _ _ (unaryOp UnaryOp.USub (Value.int _ _)) _ _ _); refine i_neg (by assumption) ?_; intro _ _ _)
  | ((with_reducible show wpAny _ _ (eval (Expr.Name _ _) _) _ _ _); refine nm_c (by assumption) (by rfl) (by walk_at "lk") ?_)
  | ((with_reducible show wpAny _ _ (eval (Expr.Name _ _) _) _ _ _); refine nm_g (by assumption) (by assumption) (by walk_at "glob") ?_)
  | ((with_reducible show wpAny _ _ (eval (Expr.Name _ _) _) _ _ _); refine nm_b (by assumption) (by assumption) (by walk_at "bnone") (by walk_at "bval") ?_)
  | ((with_reducible show wpAny _ _ (callWith _ (Value.builtin _) [] _ _) _ _ _); refine callWith_builtin1 ?_)
  | ((with_reducible show wpAny _ _ (callWith _ (Value.builtin _) _ _ _) _ _ _); refine callWith_method1 ?_)
  | ((with_reducible show wpAny _ _ (callWith _ (Value.type _) [] _ _) _ _ _); refine PyProof.Rows.callWith_type1 ?_)
  | ((with_reducible show wpAny _ _ (callWith _ (Value.ref _) _ _ _) _ _ _); refine cw_fn (by assumption) (by walk_at "keepK") ?_)
  | ((with_reducible show Frag.In _ _ ∧ _); refine ⟨by walk_at "kin", ?_⟩)
  | with_reducible refine ne_int ?_
  | with_reducible refine PyProof.Rows.eq_int ?_
  )
--MAC-

def Rd (h : Heap) (v : Value) (d : PyData) : Prop := ∃ as, Reads h v d as
theorem Rd.keeps {h h' : Heap} {v : Value} {d : PyData} (r : Rd h v d) (k : ∀ b o, h.get? b = some o → h'.get? b = some o) : Rd h' v d := let ⟨as, x⟩ := r; ⟨as, Reads.keeps k x⟩

theorem rd_tup {h : Heap} {a : Addr} {vs : List Value} {ds : List PyData} {as : List Addr} (ht : IsTup h a vs.toArray) (hr : ReadsAll h vs ds as) : Rd h (.ref a) (.tuple ds) :=
  let ⟨o, ho, hc, n, hd⟩ := ht; ⟨_, Reads.tuple ho hc hd (by simpa using hr)⟩
theorem rd_lst {h : Heap} {a : Addr} {vs : List Value} {ds : List PyData} {as : List Addr} (ht : h.PlainList a vs.toArray) (hr : ReadsAll h vs ds as) : Rd h (.ref a) (.list ds) :=
  let ⟨n, ho⟩ := ht; ⟨_, Reads.list ho rfl rfl (by simpa using hr)⟩

def normD (t b : Nat) : PyData := .tuple [.tuple (if t = 0 then [] else [.int t]), .int b]
theorem rd_norm {h : Heap} {nm ct : Addr} {t b : Nat} {t3 t4 : Tok} (h1 : IsTup h nm [.ref ct, .int b t3].toArray) (h2 : IsTup h ct (if t = 0 then [] else [.int t t4]).toArray) : Rd h (.ref nm) (normD t b) := by
  have h3 : Rd h (.ref ct) (.tuple (if t = 0 then [] else [.int t])) := by
    by_cases q : t = 0
    · rw [if_pos q] at h2 ⊢; exact rd_tup h2 .nil
    · rw [if_neg q] at h2 ⊢; exact rd_tup h2 (.cons (.int _ _) .nil)
  obtain ⟨as, h3⟩ := h3
  exact rd_tup h1 (.cons h3 (.cons (.int _ _) .nil))
theorem shaped_norm (t b : Nat) : SeqAt.shaped (normD t b) = true := by
  unfold normD; by_cases q : t = 0
  · rw [if_pos q]; rfl
  · rw [if_neg q]; rfl
theorem eqv_norm (t b t' b' : Nat) : PyData.eqv (normD t b) (normD t' b') = (decide (t = t') && decide (b = b')) := by
  have e : ∀ x y : Nat, ((x : Int) == (y : Int)) = decide (x = y) := fun x y => by
    by_cases q : x = y
    · subst q; simp
    · simp [q]; lia
  unfold normD
  by_cases q : t = 0 <;> by_cases q' : t' = 0
  · rw [if_pos q, if_pos q']; simp [PyData.eqv, PyData.eqvAll, q, q', e]
  · rw [if_pos q, if_neg q']; simp [PyData.eqv, PyData.eqvAll, q, Ne.symm q', e]
  · rw [if_neg q, if_pos q']; simp [PyData.eqv, PyData.eqvAll, q, q', e]
  · rw [if_neg q, if_neg q']; simp [PyData.eqv, PyData.eqvAll, e]

theorem eq_rd {w : World} {A : Around} {E : Value → Shared → Prop} {s : Shared} {d : Nat} {v v' : Value} {x y : PyData} {Q : Value → Shared → Prop} (r : Room A d) (h1 : Rd s.heap v x) (h2 : Rd s.heap v' y) (s1 : SeqAt.shaped x = true) (s2 : SeqAt.shaped y = true)
    (h : Q (.bool (PyData.eqv x y)) s) : wpAny (Md w) A (compareOp .Eq v v') Q E s :=
  let ⟨_, h1⟩ := h1; let ⟨_, h2⟩ := h2; SeqAt.compareEq_shaped h1 h2 s1 s2 r.un64 h
theorem ne_rd {w : World} {A : Around} {E : Value → Shared → Prop} {s : Shared} {d : Nat} {v v' : Value} {x y : PyData} {Q : Value → Shared → Prop} (r : Room A d) (h1 : Rd s.heap v x) (h2 : Rd s.heap v' y) (s1 : SeqAt.shaped x = true) (s2 : SeqAt.shaped y = true)
    (h : Q (.bool (!PyData.eqv x y)) s) : wpAny (Md w) A (compareOp .NotEq v v') Q E s :=
  let ⟨_, h1⟩ := h1; let ⟨_, h2⟩ := h2; SeqAt.compareNe_shaped h1 h2 s1 s2 r.un64 h

theorem equal_spec {w : World} {A : Around} {E : Value → Shared → Prop} {s : Shared} {x y : Addr} {t b t' b' : Nat} {Q : Value → Shared → Prop} (G : Glb w s.heap) (r : Room A 1) (Lx : LeadAt s.heap x t b) (Ly : LeadAt s.heap y t' b')
    (h : ∀ s', Ext s s' → Q (.bool (decide (t = t') && decide (b = b'))) s') : wpAny (Md w) A (call (.ref 114) [.ref x, .ref y]) Q E s := by
  refine call_fn G r (kEqu _) (cEqu _) rfl (binds := [("self", .ref x), ("other", .ref y)]) (BindsTo.of_eq rfl) (fun s₁ F r' => ?_) (by decide) (locs rfl)
  walk_at "go"
  refine ld_norm (by assumption) G Lx fun s₂ nm ct t3 t4 F₂ T1 T2 => ?_
  walk_at "go"
  refine ld_norm (by assumption) G Ly fun s₃ nm' ct' t3' t4' F₃ T1' T2' => ?_
  refine eq_rd r' ((rd_norm T1 T2).keeps F₃.keep) ((rd_norm T1' T2').keeps F₃.keep) (shaped_norm _ _) (shaped_norm _ _) ?_
  rw [eqv_norm]
  walk_at "go"
  exact h _ F₃.done

theorem indent_spec {w : World} {A : Around} {E : Value → Shared → Prop} {s : Shared} {x : Addr} {t b z : Nat} {tz : Tok} {Q : Value → Shared → Prop} (G : Glb w s.heap) (r : Room A 1) (Lx : LeadAt s.heap x t b) (hz : 1 ≤ z) (hz' : z ≤ 4) (ht : t < 1000)
    (h : ∀ s' tk, Ext s s' → Q (.int (b + z * t : Nat) tk) s') : wpAny (Md w) A (call (.ref 107) [.ref x, .int z tz]) Q E s := by
  refine call_fn G r (kInd _) (cInd _) rfl (binds := [("self", .ref x), ("tabsize", .int z tz)]) (BindsTo.of_eq rfl) (fun s₁ F r' => ?_) (by decide) (locs rfl)
  walk_at "go"
  refine ld_norm (by assumption) G Lx fun s₂ nm ct t3 t4 F₂ T1 T2 => ?_
  refine as_tup2 r'.hn F₂ (T1.keeps F₂.keep) fun s₃ F₃ => ?_
  walk_at "go"
  have hl : (if t = 0 then [] else [Value.int t t4]).length ≤ 1 := by split <;> simp
  refine t_len (by assumption) (T2.keeps (Frm.keep (by assumption))) (by lia) fun s₄ tk F₄ => ?_
  walk_at "go"
  refine n_rg2 F₄ fun s₅ rg F₅ _ hr _ => ?_
  refine it_rg F₅ hr (by lia) (by lia) (by lia) (by lia) fun s₆ I hI F₆ => ?_
  rw [if_neg (by lia)] at F₆
  refine for_go 0 (fun i s' => s' = s₆) rfl fun i s₇ hi e Qx QB Vx VB => ?_
  subst e
  refine nx_rgE r'.hn F₆ mup_same (Int.le_refl _) fun s₈ F₈ => ?_
  rw [mdel_mup hI] at F₈
  walk_at "go"
  refine i_mul (by assumption) (IntMulOk.of_left ?_) fun s₉ tk₉ F₉ => ?_
  · have : z = 1 ∨ z = 2 ∨ z = 3 ∨ z = 4 := by lia
    rcases this with rfl | rfl | rfl | rfl <;> decide
  walk_at "go"
  rename_i F₁₀
  have e : (b : Int) + z * (0 + t) = (b + z * t : Nat) := by rw [Int.zero_add]; rfl
  rw [e]
  exact h _ _ F₁₀.done


/-- the TupleComp by n upwards, nt downwards -/
def OrdAt (h : Heap) (o : Addr) : Prop :=
  ∃ dx es ep T T0 T1 t1 t2 t3 t4, PySem.W.InstAt h o (instObj 72 dx) 72 (some (dictOf es ep)) ∧ getL "comp_select_list" es = some (some (.ref T)) ∧ getL "compare" es = some none ∧
    IsTup h T [.ref T0, .ref T1].toArray ∧ IsTup h T0 [.int 0 t1, .int 1 t2].toArray ∧ IsTup h T1 [.int 1 t3, .int (-1) t4].toArray
theorem OrdAt.keeps {h h' : Heap} {o : Addr} (L : OrdAt h o) (k : ∀ b o, h.get? b = some o → h'.get? b = some o) : OrdAt h' o := by
  obtain ⟨dx, es, ep, T, T0, T1, t1, t2, t3, t4, I, r1, r2, a, b, c⟩ := L
  exact ⟨dx, es, ep, T, T0, T1, t1, t2, t3, t4, instAt_keeps I k, r1, r2, a.keeps k, b.keeps k, c.keeps k⟩
/-- a row: n, nt, the place -/
def RowAt (h : Heap) (v : Value) (r : Int × Int × Int) : Prop := ∃ a t1 t2 t3, v = .ref a ∧ IsTup h a [.int r.1 t1, .int r.2.1 t2, .int r.2.2 t3].toArray
theorem RowAt.keeps {h h' : Heap} {v : Value} {r : Int × Int × Int} (L : RowAt h v r) (k : ∀ b o, h.get? b = some o → h'.get? b = some o) : RowAt h' v r :=
  let ⟨a, t1, t2, t3, e, x⟩ := L; ⟨a, t1, t2, t3, e, x.keeps k⟩

def cmpZ (l r : Int × Int × Int) : Int := if l.1 < r.1 then -1 else if r.1 < l.1 then 1 else if l.2.1 < r.2.1 then 1 else if r.2.1 < l.2.1 then -1 else 0

theorem dict72 (P : Params) : hasDictIn (Kp P) 72 = true := by kernel_rfl
theorem get72 (P : Params) : findIn (Kp P) (.ref 72) "__getattribute__" = some (some (.builtin "object.__getattribute__")) := by kernel_rfl
theorem geta72 (P : Params) : findIn (Kp P) (.ref 72) "__getattr__" = some none := by kernel_rfl
theorem find72_l (P : Params) : findIn (Kp P) (.ref 72) "comp_select_list" = some none := by kernel_rfl
theorem find72_c (P : Params) : findIn (Kp P) (.ref 72) "compare" = some (some (.ref 69)) := by kernel_rfl
theorem type69 (P : Params) : typeIn (Kp P) (.ref 69) = some (.type "function") := by kernel_rfl

section
variable {w : World} {A : Around} {E : Value → Shared → Prop} {B s : Shared} {env : Env} {cs : List (Str × Addr)} {m : Str → Option Value} {mu : Addr → Option Mv} {o : Addr}
theorem od_list {ex : Bool} {Q : Value → Shared → Prop} (F : Frm B env cs m mu s) (G : Glb w B.heap) (L : OrdAt B.heap o)
    (h : ∀ s' T T0 T1 t1 t2 t3 t4, Frm B env cs m mu s' → IsTup B.heap T [.ref T0, .ref T1].toArray → IsTup B.heap T0 [.int 0 t1, .int 1 t2].toArray → IsTup B.heap T1 [.int 1 t3, .int (-1) t4].toArray → Q (.ref T) s') : wpAny (Md w) A (getAttr (.ref o) "comp_select_list" ex) Q E s := by
  obtain ⟨dx, es, ep, T, T0, T1, t1, t2, t3, t4, I, r1, r2, a, b, c⟩ := L
  exact inst_attr F G (instAt_keeps I F.keep) (dict72 _) (get72 _) (find72_l _) r1 rfl fun s' F' => h _ _ _ _ _ _ _ _ F' a b c
theorem me_cmp {pl : Sem Bool} {Q : Value × List Value → Shared → Prop} (F : Frm B env cs m mu s) (G : Glb w B.heap) (L : OrdAt s.heap o) (h : Q (.ref 69, [.ref o]) s) : wpAny (Md w) A (getMethod (.ref o) "compare" pl) Q E s := by
  obtain ⟨dx, es, ep, T, T0, T1, t1, t2, t3, t4, I, r1, r2, a, b, c⟩ := L
  exact inst_meth F G I (get72 _) (geta72 _) (find72_c _) (type69 _) r2 h
end

theorem cmp_spec {w : World} {A : Around} {E : Value → Shared → Prop} {s : Shared} {o : Addr} {u v : Value} {l r : Int × Int × Int} {Q : Value → Shared → Prop} (G : Glb w s.heap) (rm : Room A 1) (O : OrdAt s.heap o) (hl : RowAt s.heap u l) (hr : RowAt s.heap v r)
    (h : ∀ s' t, Ext s s' → Q (.int (cmpZ l r) t) s') : wpAny (Md w) A (call (.ref 69) [.ref o, u, v]) Q E s := by
  obtain ⟨a, a1, a2, a3, rfl, La⟩ := hl
  obtain ⟨b, b1, b2, b3, rfl, Lb⟩ := hr
  refine call_fn G rm (kCmp _) (cCmp _) rfl (binds := [("self", .ref o), ("left", .ref a), ("right", .ref b)]) (BindsTo.of_eq rfl) (fun s₁ F r' => ?_) (by decide) (locs rfl)
  walk_at "go"
  refine od_list (by assumption) G O fun s₂ T T0 T1 t1 t2 t3 t4 F₂ X0 X1 X2 => ?_
  refine it_tup F₂ (X0.keeps F₂.keep) fun s₃ I hI F₃ => ?_
  refine for_go 2 (fun i s' => ∃ m, Frm s (callEnv fdCmp s.heap.objs.size 69) [] m (mup mu0 I (tiP T i)) s' ∧ m "left" = some (.ref a) ∧ m "right" = some (.ref b) ∧ (1 ≤ i → l.1 = r.1) ∧ (2 ≤ i → l.2.1 = r.2.1)) ⟨_, F₃, rfl, rfl, by lia, by lia⟩ fun i s₄ hi hJ Qx QB Vx VB => ?_
  obtain ⟨m, F₄, hm1, hm2, hj1, hj2⟩ := hJ
  have : i = 0 ∨ i = 1 ∨ i = 2 := by lia
  rcases this with rfl | rfl | rfl
  · refine nx_tup F₄ mup_same (X0.keeps F₄.keep) rfl fun s₅ F₅ => ?_
    rw [mup_mup] at F₅
    refine ⟨by lia, ?_⟩
    obtain ⟨o', ho', hc', _⟩ := (F₅.mus I _ mup_same).1
    refine lot_ ho' hc' (.inr rfl) ?_
    refine as_tup2 r'.hn F₅ (X1.keeps F₅.keep) fun s₆ F₆ => ?_
    walk_at "go"
    refine s_tup (La.keeps (Frm.keep (by assumption))) (by decide) (by decide) rfl ?_
    walk_at "go"
    refine s_tup (Lb.keeps (Frm.keep (by assumption))) (by decide) (by decide) rfl ?_
    walk_at "go"
    split
    · rename_i hc
      simp only [decide_eq_true_eq] at hc
      walk_at "go"
      rename_i F₇
      have e : (-1 : Int) = cmpZ l r := by unfold cmpZ; rw [if_pos hc]
      exact e ▸ h _ _ F₇.done
    rename_i hc
    simp only [decide_eq_true_eq] at hc
    walk_at "go"
    split
    · rename_i hc'
      simp only [decide_eq_true_eq] at hc'
      walk_at "go"
      rename_i F₇
      have e : (1 : Int) = cmpZ l r := by unfold cmpZ; rw [if_neg hc, if_pos hc']
      exact e ▸ h _ _ (Frm.done (by assumption))
    rename_i hc'
    simp only [decide_eq_true_eq] at hc'
    walk_at "go"
    exact ⟨_, by assumption, by walk_at "lk", by walk_at "lk", by lia, by lia⟩
  · refine nx_tup F₄ mup_same (X0.keeps F₄.keep) rfl fun s₅ F₅ => ?_
    rw [mup_mup] at F₅
    refine ⟨by lia, ?_⟩
    obtain ⟨o', ho', hc', _⟩ := (F₅.mus I _ mup_same).1
    refine lot_ ho' hc' (.inr rfl) ?_
    refine as_tup2 r'.hn F₅ (X2.keeps F₅.keep) fun s₆ F₆ => ?_
    walk_at "go"
    refine s_tup (La.keeps (Frm.keep (by assumption))) (by decide) (by decide) rfl ?_
    walk_at "go"
    refine s_tup (Lb.keeps (Frm.keep (by assumption))) (by decide) (by decide) rfl ?_
    walk_at "go"
    split
    · rename_i hc
      simp only [decide_eq_true_eq] at hc
      walk_at "go"
      rename_i F₇
      have e : (- -1 : Int) = cmpZ l r := by unfold cmpZ; have := hj1 (Nat.le_refl _); rw [if_neg (by lia), if_neg (by lia), if_pos hc]; rfl
      exact e ▸ h _ _ F₇.done
    rename_i hc
    simp only [decide_eq_true_eq] at hc
    walk_at "go"
    split
    · rename_i hc'
      simp only [decide_eq_true_eq] at hc'
      walk_at "go"
      rename_i F₇
      have e : (-1 : Int) = cmpZ l r := by unfold cmpZ; have := hj1 (Nat.le_refl _); rw [if_neg (by lia), if_neg (by lia), if_neg hc, if_pos hc']
      exact e ▸ h _ _ (Frm.done (by assumption))
    rename_i hc'
    simp only [decide_eq_true_eq] at hc'
    walk_at "go"
    exact ⟨_, by assumption, by walk_at "lk", by walk_at "lk", by lia, by lia⟩
  · refine nx_tupE r'.hn F₄ mup_same (X0.keeps F₄.keep) rfl fun s₅ F₅ => ?_
    walk_at "go"
    have e : (0 : Int) = cmpZ l r := by
      have := hj1 (by decide); have := hj2 (by decide)
      unfold cmpZ
      rw [if_neg (by lia), if_neg (by lia), if_neg (by lia), if_neg (by lia)]
    exact e ▸ h _ _ (Frm.done (by assumption))


section
variable {w : World} {A : Around} {E : Value → Shared → Prop} {s : Shared}
theorem call_lam {d : Nat} {q : Addr} {o : Obj} {fd : FuncData} {body : Expr} {pos : List Value} {binds : List (Str × Value)} {Q : Value → Shared → Prop}
    (lim : s.heap.NoLimit) (r : Room A (d + 1)) (ho : s.heap.get? q = some o) (hd : o.data = .func fd) (hcd : s.heap.CodeRec fd.code fd.qualname) (hb : fd.body = .expr body) (hbind : bindArgs fd ⟨pos, []⟩ = pure binds)
    (h : ∀ s₁, Frm s (callEnv fd s.heap.objs.size q) [] (fun x => binds.reverse.lookup x) mu0 s₁ → Room (A.deeper (callEnv fd s.heap.objs.size q)) d →
      wpAny (Md w) (A.deeper (callEnv fd s.heap.objs.size q)) (eval body (callEnv fd s.heap.objs.size q)) Q (fun _ _ => False) s₁)
    (hcell : ∀ x ∈ fd.scope.names, x.2 ≠ .cell) (hloc : ∀ x ∈ binds, fd.scope.names.lookup x.1 = some .local)
    (hco : fd.scope.isCoroutine = false := by rfl) (hgen : fd.scope.isGenerator = false := by rfl) (hk : fd.scope.kind = .function := by rfl) :
    wpAny (Md w) A (call (.ref q) pos) Q E s := by
  refine wpAny_call (kla_callFunE r.lt ho hd hco hgen hb hcd ?_)
  rw [hbind]
  refine wpAny_pure (wpAny_newFunctionEnv hcell hloc (fun h₁ hns hsb => ⟨lim.fresh _ hsb, kla_codeExpr ?_⟩) hk)
  have k : ∀ b o, s.heap.get? b = some o → h₁.get? b = some o := fun b o e => hsb.extBut b o (Nat.ne_of_lt (Heap.lt_size e)) (Heap.get?_push_of_some _ e)
  exact wpAny_mono (h _ ⟨⟨_, _, rfl⟩, k, ⟨_, hns, fun _ _ => rfl⟩, none_of_size (Nat.le_refl _), rfl, fun x c hc => (by cases hc), .nil, fun a v hv => (by cases hv)⟩ r.deeper) (fun _ _ x => x) fun _ _ x => x.elim

/-- a key that answers ints -/
def KeyF (w : World) (C : Heap) (q : Addr) (V : Value → Int → Prop) : Prop :=
  FnAt q C ∧ ∀ (A : Around) (E : Value → Shared → Prop) (Q : Value → Shared → Prop) (s : Shared) (v : Value) (k : Int), (∀ b o, C.get? b = some o → s.heap.get? b = some o) → Room A 2 → V v k →
    (∀ s' t, Ext s s' → Q (.int k t) s') → wpAny (Md w) A (call (.ref q) [v]) Q E s
theorem KeyF.keeps {C C' : Heap} {q : Addr} {V : Value → Int → Prop} (K : KeyF w C q V) (k : ∀ b o, C.get? b = some o → C'.get? b = some o) : KeyF w C' q V :=
  ⟨let ⟨oc, od, fd, sl, e⟩ := K.1; ⟨oc, od, fd, sl, k _ _ e⟩, fun A E Q s v i h => K.2 A E Q s v i fun b o e => h b o (k b o e)⟩

theorem cw_key {C : Heap} {q : Addr} {V : Value → Int → Prop} {env : Env} {pos : Pos} {e : Expr} {rest : List Expr} {Q : Value → Shared → Prop} (K : KeyF w C q V) (hC : ∀ b o, C.get? b = some o → s.heap.get? b = some o)
    (h : wpAny (Md w) A (spliced (backTo pos (starEach (e :: rest) env))) (fun vs s₁ => FnAt q s₁.heap ∧ wpAny (Md w) A (call (.ref q) vs) Q E s₁) E s)
    (he : starEach (e :: rest) env = (false, eval e env) :: starEach rest env := by rfl) (hplain : (backTo pos (starEach rest env)).any (·.1) = false := by rfl) :
    wpAny (Md w) A (callWith pos (.ref q) [] (backTo pos (starEach (e :: rest) env)) []) Q E s :=
  callWith_F (first := []) (let ⟨oc, od, fd, sl, e⟩ := K.1; ⟨oc, od, fd, sl, hC _ _ e⟩) h he hplain
theorem FnAt.keeps {q : Addr} {h h' : Heap} (x : FnAt q h) (k : ∀ b o, h.get? b = some o → h'.get? b = some o) : FnAt q h' := let ⟨oc, od, fd, sl, e⟩ := x; ⟨oc, od, fd, sl, k _ _ e⟩
end

/-- the binary search: f enough -/
def bs (p : Nat → Bool) : Nat → Nat → Nat → Nat
  | 0, lo, _ => lo
  | f + 1, lo, hi => if lo < hi then (if p ((lo + hi) / 2) then bs p f lo ((lo + hi) / 2) else bs p f ((lo + hi) / 2 + 1) hi) else lo
theorem bs_end {p : Nat → Bool} : ∀ {f lo hi : Nat}, ¬ lo < hi → bs p f lo hi = lo
  | 0, _, _, _ => rfl
  | _ + 1, _, _, h => by rw [bs, if_neg h]

def HiV (hv : Value) (n hi : Nat) : Prop := (hv = .none ∧ hi = n) ∨ ∃ t, hv = .int hi t

theorem fdiv2 (a b : Nat) : Int.fdiv ((a : Int) + b) 2 = ((a + b) / 2 : Nat) := by
  rw [Int.fdiv_eq_ediv_of_nonneg _ (by decide)]
  lia

theorem is_noneV {w : World} {A : Around} {E : Value → Shared → Prop} {s : Shared} {v : Value} {Q : Value → Shared → Prop} (h : Q (.bool (v == .none)) s) : wpAny (Md w) A (compareOp .Is v .none) Q E s := is_none h

--MAC+
local macro_rules | `(tactic| walk_at "go1") => `(tactic| first
  | with_reducible refine is_noneV ?_
  )
--MAC-

theorem join {M : Model} {A : Around} {E : Value → Shared → Prop} {s : Shared} {env : Env} {st : Stmt} {rest : List Stmt} {Q : Flow → Shared → Prop} {P : Shared → Prop} (h1 : wpAny M A (exec st env) (fun f s' => f = .next ∧ P s') E s)
    (h2 : ∀ s', P s' → wpAny M A (execs rest env) Q E s') : wpAny M A (execs (st :: rest) env) Q E s :=
  wpAny_execs_cons (wpAny_mono h1 (fun f s' ⟨e, hp⟩ => by subst e; exact h2 s' hp) fun _ _ x => x)

inductive BJ (B : Shared) (env : Env) (av xv kv : Value) (p : Nat → Bool) (n R f : Nat) (s' : Shared) : Prop
  | mk (m : Str → Option Value) (lo' hi' : Nat) (t t' : Tok) (F : Frm B env [] m mu0 s') (ha : m "a" = some av) (hx : m "x" = some xv) (hl : m "lo" = some (.int (lo' : Nat) t)) (hh : m "hi" = some (.int (hi' : Nat) t')) (hk : m "key" = some kv)
      (h1 : lo' ≤ hi') (h2 : hi' ≤ n) (h3 : hi' - lo' ≤ f) (h4 : bs p f lo' hi' = R)
theorem bisR_key {w : World} {A : Around} {E : Value → Shared → Prop} {s : Shared} {la q : Addr} {xs : List Value} {lo hi : Nat} {x : Int} {tx tl : Tok} {hv : Value} {kf : Nat → Int} {V : Value → Int → Prop} {pos : List Value} {kw : List (Str × Value)} {Q : Value → Shared → Prop}
    (G : Glb w s.heap) (r : Room A 3) (hl : s.heap.PlainList la xs.toArray) (hlen : xs.length ≤ 900) (K : KeyF w s.heap q V) (hV : ∀ j v, xs[j]? = some v → V v (kf j)) (hlo : lo ≤ hi) (hhi : hi ≤ xs.length) (hh : HiV hv xs.length hi)
    (hbind : BindsTo s fdBisR ⟨pos, kw⟩ [("a", .ref la), ("x", .int x tx), ("lo", .int lo tl), ("hi", hv), ("key", .ref q)])
    (h : ∀ s' t, Ext s s' → Q (.int (bs (fun j => decide (x < kf j)) (hi - lo) lo hi : Nat) t) s') : wpAny (Md w) A (call (.ref 39) pos kw) Q E s := by
  refine call_fn G r (kBisR _) (cBisR _) rfl hbind (fun s₁ F r' => ?_) (by decide) (locs rfl)
  walk_at "go"
  refine ifN (by simp) ?_
  refine wpAny_execs_nil ?_
  refine un_hid (by assumption) ?_
  dsimp only
  refine join (P := fun s' => ∃ m t, Frm s (callEnv fdBisR s.heap.objs.size 39) [] m mu0 s' ∧ m "a" = some (.ref la) ∧ m "x" = some (.int x tx) ∧ m "lo" = some (.int lo tl) ∧ m "hi" = some (.int hi t) ∧ m "key" = some (.ref q)) ?_ fun s₂ hP => ?_
  · rcases hh with ⟨rfl, rfl⟩ | ⟨th, rfl⟩
    · walk_at "go"
      refine ifT ?_
      walk_at "go"
      refine l_len (by assumption) (hl.at fun o => Frm.keep (by assumption) _ o) (by lia) fun s₃ t₃ F₃ => ?_
      walk_at "go"
      exact ⟨rfl, _, _, by assumption, by walk_at "lk", by walk_at "lk", by walk_at "lk", by walk_at "lk", by walk_at "lk"⟩
    · walk_at "go"
      refine ifF ?_
      walk_at "go"
      exact ⟨rfl, _, _, by assumption, by walk_at "lk", by walk_at "lk", by walk_at "lk", by walk_at "lk", by walk_at "lk"⟩
  obtain ⟨m, t, F₂, ha, hx, hlo', hhi', hk⟩ := hP
  walk_at "go"
  refine ifF ?_
  walk_at "go"
  refine while_go (fun f s' => BJ s (callEnv fdBisR s.heap.objs.size 39) (.ref la) (.int x tx) (.ref q) (fun j => decide (x < kf j)) xs.length (bs (fun j => decide (x < kf j)) (hi - lo) lo hi) f s') (hi - lo)
    ⟨m, lo, hi, tl, t, by assumption, ha, hx, hlo', hhi', hk, hlo, hhi, Nat.le_refl _, rfl⟩ fun f s₃ hJ Qx QB Vx VB => ?_
  obtain ⟨m₃, lo', hi', t₃, t₃', F₃, ha, hx, hlo', hhi', hk, h1, h2, h3, h4⟩ := hJ
  walk_at "go"
  split
  · rename_i hc
    simp only [decide_eq_true_eq] at hc
    have hlt : lo' < hi' := by lia
    obtain ⟨f', rfl⟩ : ∃ f', f = f' + 1 := ⟨f - 1, by lia⟩
    rw [bs, if_pos hlt] at h4
    walk_at "go"
    refine i_div (by assumption) (by decide) (PyProof.noPylong_small (by decide)) fun s₄ t₄ F₄ => ?_
    rw [fdiv2]
    generalize hmid : (lo' + hi') / 2 = mid at *
    have hm1 : lo' ≤ mid := by lia
    have hm2 : mid < hi' := by lia
    walk_at "go"
    refine cw_key K (Frm.keep (by assumption)) ?_
    walk_at "go"
    have hlm : mid < xs.length := by lia
    refine s_lst (hl.at fun o => Frm.keep (by assumption) _ o) (by lia) (by lia) (List.getElem?_eq_getElem (by simpa using hlm)) ?_
    walk_at "go"
    refine ⟨FnAt.keeps K.1 (Frm.keep (by assumption)), ?_⟩
    refine K.2 _ _ _ _ _ _ (Frm.keep (by assumption)) r' (hV mid _ (by simpa using List.getElem?_eq_getElem hlm)) fun s₅ t₅ e₅ => ?_
    rename_i F₅
    have F₆ := F₅.kept e₅
    walk_at "go"
    split
    · rename_i hc'
      simp only [hc', if_true] at h4
      walk_at "go"
      exact ⟨f', by lia, _, _, _, _, _, by assumption, by walk_at "lk", by walk_at "lk", by walk_at "lk", by walk_at "lk", by walk_at "lk", hm1, by lia, by lia, h4⟩
    · rename_i hc'
      simp only [hc'] at h4
      walk_at "go"
      exact ⟨f', by lia, _, mid + 1, _, _, _, by assumption, by walk_at "lk", by walk_at "lk", by walk_at "lk", by walk_at "lk", by walk_at "lk", by lia, by lia, by lia, h4⟩
  · rename_i hc
    simp only [decide_eq_true_eq] at hc
    rw [bs_end (by lia)] at h4
    walk_at "go"
    rw [h4]
    exact h _ _ (Frm.done (by assumption))

theorem bisL_key {w : World} {A : Around} {E : Value → Shared → Prop} {s : Shared} {la q : Addr} {xs : List Value} {lo hi : Nat} {x : Int} {tx tl : Tok} {hv : Value} {kf : Nat → Int} {V : Value → Int → Prop} {pos : List Value} {kw : List (Str × Value)} {Q : Value → Shared → Prop}
    (G : Glb w s.heap) (r : Room A 3) (hl : s.heap.PlainList la xs.toArray) (hlen : xs.length ≤ 900) (K : KeyF w s.heap q V) (hV : ∀ j v, xs[j]? = some v → V v (kf j)) (hlo : lo ≤ hi) (hhi : hi ≤ xs.length) (hh : HiV hv xs.length hi)
    (hbind : BindsTo s fdBisL ⟨pos, kw⟩ [("a", .ref la), ("x", .int x tx), ("lo", .int lo tl), ("hi", hv), ("key", .ref q)])
    (h : ∀ s' t, Ext s s' → Q (.int (bs (fun j => !decide (kf j < x)) (hi - lo) lo hi : Nat) t) s') : wpAny (Md w) A (call (.ref 48) pos kw) Q E s := by
  refine call_fn G r (kBisL _) (cBisL _) rfl hbind (fun s₁ F r' => ?_) (by decide) (locs rfl)
  walk_at "go"
  refine ifN (by simp) ?_
  refine wpAny_execs_nil ?_
  refine un_hid (by assumption) ?_
  dsimp only
  refine join (P := fun s' => ∃ m t, Frm s (callEnv fdBisL s.heap.objs.size 48) [] m mu0 s' ∧ m "a" = some (.ref la) ∧ m "x" = some (.int x tx) ∧ m "lo" = some (.int lo tl) ∧ m "hi" = some (.int hi t) ∧ m "key" = some (.ref q)) ?_ fun s₂ hP => ?_
  · rcases hh with ⟨rfl, rfl⟩ | ⟨th, rfl⟩
    · walk_at "go"
      refine ifT ?_
      walk_at "go"
      refine l_len (by assumption) (hl.at fun o => Frm.keep (by assumption) _ o) (by lia) fun s₃ t₃ F₃ => ?_
      walk_at "go"
      exact ⟨rfl, _, _, by assumption, by walk_at "lk", by walk_at "lk", by walk_at "lk", by walk_at "lk", by walk_at "lk"⟩
    · walk_at "go"
      refine ifF ?_
      walk_at "go"
      exact ⟨rfl, _, _, by assumption, by walk_at "lk", by walk_at "lk", by walk_at "lk", by walk_at "lk", by walk_at "lk"⟩
  obtain ⟨m, t, F₂, ha, hx, hlo', hhi', hk⟩ := hP
  walk_at "go"
  refine ifF ?_
  walk_at "go"
  refine while_go (fun f s' => BJ s (callEnv fdBisL s.heap.objs.size 48) (.ref la) (.int x tx) (.ref q) (fun j => !decide (kf j < x)) xs.length (bs (fun j => !decide (kf j < x)) (hi - lo) lo hi) f s') (hi - lo)
    ⟨m, lo, hi, tl, t, by assumption, ha, hx, hlo', hhi', hk, hlo, hhi, Nat.le_refl _, rfl⟩ fun f s₃ hJ Qx QB Vx VB => ?_
  obtain ⟨m₃, lo', hi', t₃, t₃', F₃, ha, hx, hlo', hhi', hk, h1, h2, h3, h4⟩ := hJ
  walk_at "go"
  split
  · rename_i hc
    simp only [decide_eq_true_eq] at hc
    have hlt : lo' < hi' := by lia
    obtain ⟨f', rfl⟩ : ∃ f', f = f' + 1 := ⟨f - 1, by lia⟩
    rw [bs, if_pos hlt] at h4
    walk_at "go"
    refine i_div (by assumption) (by decide) (PyProof.noPylong_small (by decide)) fun s₄ t₄ F₄ => ?_
    rw [fdiv2]
    generalize hmid : (lo' + hi') / 2 = mid at *
    have hm1 : lo' ≤ mid := by lia
    have hm2 : mid < hi' := by lia
    walk_at "go"
    refine cw_key K (Frm.keep (by assumption)) ?_
    walk_at "go"
    have hlm : mid < xs.length := by lia
    refine s_lst (hl.at fun o => Frm.keep (by assumption) _ o) (by lia) (by lia) (List.getElem?_eq_getElem (by simpa using hlm)) ?_
    walk_at "go"
    refine ⟨FnAt.keeps K.1 (Frm.keep (by assumption)), ?_⟩
    refine K.2 _ _ _ _ _ _ (Frm.keep (by assumption)) r' (hV mid _ (by simpa using List.getElem?_eq_getElem hlm)) fun s₅ t₅ e₅ => ?_
    rename_i F₅
    have F₆ := F₅.kept e₅
    walk_at "go"
    split
    · rename_i hc'
      simp only [hc', Bool.not_true, Bool.false_eq_true, if_false] at h4
      walk_at "go"
      exact ⟨f', by lia, _, mid + 1, _, _, _, by assumption, by walk_at "lk", by walk_at "lk", by walk_at "lk", by walk_at "lk", by walk_at "lk", by lia, by lia, by lia, h4⟩
    · rename_i hc'
      simp only [hc', Bool.not_false, if_true] at h4
      walk_at "go"
      exact ⟨f', by lia, _, _, _, _, _, by assumption, by walk_at "lk", by walk_at "lk", by walk_at "lk", by walk_at "lk", by walk_at "lk", hm1, by lia, by lia, h4⟩
  · rename_i hc
    simp only [decide_eq_true_eq] at hc
    rw [bs_end (by lia)] at h4
    walk_at "go"
    rw [h4]
    exact h _ _ (Frm.done (by assumption))

theorem bisR_none {w : World} {A : Around} {E : Value → Shared → Prop} {s : Shared} {la : Addr} {xs : List Value} {lo hi : Nat} {x : Int} {tx tl : Tok} {hv : Value} {kf : Nat → Int} {pos : List Value} {kw : List (Str × Value)} {Q : Value → Shared → Prop}
    (G : Glb w s.heap) (r : Room A 3) (hl : s.heap.PlainList la xs.toArray) (hlen : xs.length ≤ 900) (hV : ∀ (j : Nat) (v : Value), xs[j]? = some v → ∃ t, v = .int (kf j) t) (hlo : lo ≤ hi) (hhi : hi ≤ xs.length) (hh : HiV hv xs.length hi)
    (hbind : BindsTo s fdBisR ⟨pos, kw⟩ [("a", .ref la), ("x", .int x tx), ("lo", .int lo tl), ("hi", hv), ("key", .none)])
    (h : ∀ s' t, Ext s s' → Q (.int (bs (fun j => decide (x < kf j)) (hi - lo) lo hi : Nat) t) s') : wpAny (Md w) A (call (.ref 39) pos kw) Q E s := by
  refine call_fn G r (kBisR _) (cBisR _) rfl hbind (fun s₁ F r' => ?_) (by decide) (locs rfl)
  walk_at "go"
  refine ifN (by simp) ?_
  refine wpAny_execs_nil ?_
  refine un_hid (by assumption) ?_
  dsimp only
  refine join (P := fun s' => ∃ m t, Frm s (callEnv fdBisR s.heap.objs.size 39) [] m mu0 s' ∧ m "a" = some (.ref la) ∧ m "x" = some (.int x tx) ∧ m "lo" = some (.int lo tl) ∧ m "hi" = some (.int hi t) ∧ m "key" = some .none) ?_ fun s₂ hP => ?_
  · rcases hh with ⟨rfl, rfl⟩ | ⟨th, rfl⟩
    · walk_at "go"
      refine ifT ?_
      walk_at "go"
      refine l_len (by assumption) (hl.at fun o => Frm.keep (by assumption) _ o) (by lia) fun s₃ t₃ F₃ => ?_
      walk_at "go"
      exact ⟨rfl, _, _, by assumption, by walk_at "lk", by walk_at "lk", by walk_at "lk", by walk_at "lk", by walk_at "lk"⟩
    · walk_at "go"
      refine ifF ?_
      walk_at "go"
      exact ⟨rfl, _, _, by assumption, by walk_at "lk", by walk_at "lk", by walk_at "lk", by walk_at "lk", by walk_at "lk"⟩
  obtain ⟨m, t, F₂, ha, hx, hlo', hhi', hk⟩ := hP
  walk_at "go"
  refine ifT ?_
  walk_at "go"
  refine while_go (fun f s' => BJ s (callEnv fdBisR s.heap.objs.size 39) (.ref la) (.int x tx) .none (fun j => decide (x < kf j)) xs.length (bs (fun j => decide (x < kf j)) (hi - lo) lo hi) f s') (hi - lo)
    ⟨m, lo, hi, tl, t, by assumption, ha, hx, hlo', hhi', hk, hlo, hhi, Nat.le_refl _, rfl⟩ fun f s₃ hJ Qx QB Vx VB => ?_
  obtain ⟨m₃, lo', hi', t₃, t₃', F₃, ha, hx, hlo', hhi', hk, h1, h2, h3, h4⟩ := hJ
  walk_at "go"
  split
  · rename_i hc
    simp only [decide_eq_true_eq] at hc
    have hlt : lo' < hi' := by lia
    obtain ⟨f', rfl⟩ : ∃ f', f = f' + 1 := ⟨f - 1, by lia⟩
    rw [bs, if_pos hlt] at h4
    walk_at "go"
    refine i_div (by assumption) (by decide) (PyProof.noPylong_small (by decide)) fun s₄ t₄ F₄ => ?_
    rw [fdiv2]
    generalize hmid : (lo' + hi') / 2 = mid at *
    have hm1 : lo' ≤ mid := by lia
    have hm2 : mid < hi' := by lia
    walk_at "go"
    have hlm : mid < xs.length := by lia
    obtain ⟨tv, hv'⟩ := hV mid _ (List.getElem?_eq_getElem hlm)
    refine s_lst (hl.at fun o => Frm.keep (by assumption) _ o) (by lia) (by lia) ((List.getElem?_eq_getElem (by simpa using hlm)).trans (congrArg some hv')) ?_
    walk_at "go"
    split
    · rename_i hc'
      simp only [hc', if_true] at h4
      walk_at "go"
      exact ⟨f', by lia, _, _, _, _, _, by assumption, by walk_at "lk", by walk_at "lk", by walk_at "lk", by walk_at "lk", by walk_at "lk", hm1, by lia, by lia, h4⟩
    · rename_i hc'
      simp only [hc'] at h4
      walk_at "go"
      exact ⟨f', by lia, _, mid + 1, _, _, _, by assumption, by walk_at "lk", by walk_at "lk", by walk_at "lk", by walk_at "lk", by walk_at "lk", by lia, by lia, by lia, h4⟩
  · rename_i hc
    simp only [decide_eq_true_eq] at hc
    rw [bs_end (by lia)] at h4
    walk_at "go"
    rw [h4]
    exact h _ _ (Frm.done (by assumption))

theorem bisL_none {w : World} {A : Around} {E : Value → Shared → Prop} {s : Shared} {la : Addr} {xs : List Value} {lo hi : Nat} {x : Int} {tx tl : Tok} {hv : Value} {kf : Nat → Int} {pos : List Value} {kw : List (Str × Value)} {Q : Value → Shared → Prop}
    (G : Glb w s.heap) (r : Room A 3) (hl : s.heap.PlainList la xs.toArray) (hlen : xs.length ≤ 900) (hV : ∀ (j : Nat) (v : Value), xs[j]? = some v → ∃ t, v = .int (kf j) t) (hlo : lo ≤ hi) (hhi : hi ≤ xs.length) (hh : HiV hv xs.length hi)
    (hbind : BindsTo s fdBisL ⟨pos, kw⟩ [("a", .ref la), ("x", .int x tx), ("lo", .int lo tl), ("hi", hv), ("key", .none)])
    (h : ∀ s' t, Ext s s' → Q (.int (bs (fun j => !decide (kf j < x)) (hi - lo) lo hi : Nat) t) s') : wpAny (Md w) A (call (.ref 48) pos kw) Q E s := by
  refine call_fn G r (kBisL _) (cBisL _) rfl hbind (fun s₁ F r' => ?_) (by decide) (locs rfl)
  walk_at "go"
  refine ifN (by simp) ?_
  refine wpAny_execs_nil ?_
  refine un_hid (by assumption) ?_
  dsimp only
  refine join (P := fun s' => ∃ m t, Frm s (callEnv fdBisL s.heap.objs.size 48) [] m mu0 s' ∧ m "a" = some (.ref la) ∧ m "x" = some (.int x tx) ∧ m "lo" = some (.int lo tl) ∧ m "hi" = some (.int hi t) ∧ m "key" = some .none) ?_ fun s₂ hP => ?_
  · rcases hh with ⟨rfl, rfl⟩ | ⟨th, rfl⟩
    · walk_at "go"
      refine ifT ?_
      walk_at "go"
      refine l_len (by assumption) (hl.at fun o => Frm.keep (by assumption) _ o) (by lia) fun s₃ t₃ F₃ => ?_
      walk_at "go"
      exact ⟨rfl, _, _, by assumption, by walk_at "lk", by walk_at "lk", by walk_at "lk", by walk_at "lk", by walk_at "lk"⟩
    · walk_at "go"
      refine ifF ?_
      walk_at "go"
      exact ⟨rfl, _, _, by assumption, by walk_at "lk", by walk_at "lk", by walk_at "lk", by walk_at "lk", by walk_at "lk"⟩
  obtain ⟨m, t, F₂, ha, hx, hlo', hhi', hk⟩ := hP
  walk_at "go"
  refine ifT ?_
  walk_at "go"
  refine while_go (fun f s' => BJ s (callEnv fdBisL s.heap.objs.size 48) (.ref la) (.int x tx) .none (fun j => !decide (kf j < x)) xs.length (bs (fun j => !decide (kf j < x)) (hi - lo) lo hi) f s') (hi - lo)
    ⟨m, lo, hi, tl, t, by assumption, ha, hx, hlo', hhi', hk, hlo, hhi, Nat.le_refl _, rfl⟩ fun f s₃ hJ Qx QB Vx VB => ?_
  obtain ⟨m₃, lo', hi', t₃, t₃', F₃, ha, hx, hlo', hhi', hk, h1, h2, h3, h4⟩ := hJ
  walk_at "go"
  split
  · rename_i hc
    simp only [decide_eq_true_eq] at hc
    have hlt : lo' < hi' := by lia
    obtain ⟨f', rfl⟩ : ∃ f', f = f' + 1 := ⟨f - 1, by lia⟩
    rw [bs, if_pos hlt] at h4
    walk_at "go"
    refine i_div (by assumption) (by decide) (PyProof.noPylong_small (by decide)) fun s₄ t₄ F₄ => ?_
    rw [fdiv2]
    generalize hmid : (lo' + hi') / 2 = mid at *
    have hm1 : lo' ≤ mid := by lia
    have hm2 : mid < hi' := by lia
    walk_at "go"
    have hlm : mid < xs.length := by lia
    obtain ⟨tv, hv'⟩ := hV mid _ (List.getElem?_eq_getElem hlm)
    refine s_lst (hl.at fun o => Frm.keep (by assumption) _ o) (by lia) (by lia) ((List.getElem?_eq_getElem (by simpa using hlm)).trans (congrArg some hv')) ?_
    walk_at "go"
    split
    · rename_i hc'
      simp only [hc', Bool.not_true, Bool.false_eq_true, if_false] at h4
      walk_at "go"
      exact ⟨f', by lia, _, mid + 1, _, _, _, by assumption, by walk_at "lk", by walk_at "lk", by walk_at "lk", by walk_at "lk", by walk_at "lk", by lia, by lia, by lia, h4⟩
    · rename_i hc'
      simp only [hc', Bool.not_false, if_true] at h4
      walk_at "go"
      exact ⟨f', by lia, _, _, _, _, _, by assumption, by walk_at "lk", by walk_at "lk", by walk_at "lk", by walk_at "lk", by walk_at "lk", hm1, by lia, by lia, h4⟩
  · rename_i hc
    simp only [decide_eq_true_eq] at hc
    rw [bs_end (by lia)] at h4
    walk_at "go"
    rw [h4]
    exact h _ _ (Frm.done (by assumption))


theorem bind_d {w : World} {s : Shared} {fd : FuncData} {args : Args} {binds : List (Str × Value)} {T : Addr} {o : Obj} {items : Array Value} {n : Nat} {k : Option (Array Value) → Sem (List (Str × Value))} (G : Glb w s.heap)
    (ho : (Kp w.params).lookup T = some o) (hd : fd.defaults = .ref T) (hs : o.data = .seq items n) (h₁ : bindArgs fd args = seqItems? fd.defaults >>= k) (h₂ : k (some items) = pure binds) : BindsTo s fd args binds :=
  BindsTo.of_defaults hd (G.k _ _ ho) hs h₁ h₂
theorem bind_dk {w : World} {s : Shared} {fd : FuncData} {args : Args} {binds : List (Str × Value)} {T d : Addr} {o : Obj} {items : Array Value} {n : Nat} {name : Str} {r : Option Value} {k : Option (Array Value) → Sem (List (Str × Value))} {k2 : Option Value → Sem (List (Str × Value))} (G : Glb w s.heap)
    (ho : (Kp w.params).lookup T = some o) (e : nsIn (Kp w.params) d name = some r) (hd : fd.defaults = .ref T) (hs : o.data = .seq items n) (h₁ : bindArgs fd args = seqItems? fd.defaults >>= k) (h₂ : k (some items) = nsGet d name >>= k2) (h₃ : k2 r = pure binds) : BindsTo s fd args binds := by
  intro M A E Q hQ
  rw [h₁, hd]
  refine wpAny_bind (wpAny_seqItems (G.k _ _ ho) hs ?_)
  rw [h₂]
  refine wpAny_bind ((looks_nsIn G.k e).here ?_)
  rw [h₃]
  exact wpAny_pure hQ

theorem k31 (P : Params) : ∃ t, List.lookup 31 (Kp P) = some ⟨.type "tuple", none, .seq #[.int 0 t, .none] 0, #[]⟩ := ⟨_, rfl⟩
theorem k40 (P : Params) : ∃ t, List.lookup 40 (Kp P) = some ⟨.type "tuple", none, .seq #[.int 0 t, .none] 0, #[]⟩ := ⟨_, rfl⟩
theorem k22 (P : Params) : ∃ t, List.lookup 22 (Kp P) = some ⟨.type "tuple", none, .seq #[.int 0 t, .none] 0, #[]⟩ := ⟨_, rfl⟩
theorem n32 (P : Params) : nsIn (Kp P) 32 "key" = some (some .none) := by kernel_rfl
theorem n41 (P : Params) : nsIn (Kp P) 41 "key" = some (some .none) := by kernel_rfl

section
variable {w : World} {s : Shared} {a x lo hi k : Value}
theorem bR4 (G : Glb w s.heap) : BindsTo s fdBisR ⟨[a, x, lo, hi], [("key", k)]⟩ [("a", a), ("x", x), ("lo", lo), ("hi", hi), ("key", k)] := let ⟨_, e⟩ := k31 w.params; bind_d G e rfl rfl rfl rfl
theorem bL4 (G : Glb w s.heap) : BindsTo s fdBisL ⟨[a, x, lo, hi], [("key", k)]⟩ [("a", a), ("x", x), ("lo", lo), ("hi", hi), ("key", k)] := let ⟨_, e⟩ := k40 w.params; bind_d G e rfl rfl rfl rfl
theorem bR3 (G : Glb w s.heap) : BindsTo s fdBisR ⟨[a, x, lo], [("key", k)]⟩ [("a", a), ("x", x), ("lo", lo), ("hi", .none), ("key", k)] := let ⟨_, e⟩ := k31 w.params; bind_d G e rfl rfl rfl rfl
theorem bR2 (G : Glb w s.heap) : ∃ t, BindsTo s fdBisR ⟨[a, x], [("key", k)]⟩ [("a", a), ("x", x), ("lo", .int 0 t), ("hi", .none), ("key", k)] := let ⟨t, e⟩ := k31 w.params; ⟨t, bind_d G e rfl rfl rfl rfl⟩
theorem bL2 (G : Glb w s.heap) : ∃ t, BindsTo s fdBisL ⟨[a, x], [("key", k)]⟩ [("a", a), ("x", x), ("lo", .int 0 t), ("hi", .none), ("key", k)] := let ⟨t, e⟩ := k40 w.params; ⟨t, bind_d G e rfl rfl rfl rfl⟩
theorem bR0 (G : Glb w s.heap) : ∃ t, BindsTo s fdBisR ⟨[a, x], []⟩ [("a", a), ("x", x), ("lo", .int 0 t), ("hi", .none), ("key", .none)] := by
  obtain ⟨t, e⟩ := k31 w.params
  refine ⟨t, fun M A E Q hQ Γ p hΓ => ?_⟩
  change ∃ o, s.heap.get? 31 = some o ∧ _
  refine ⟨_, G.k _ _ e, ?_⟩
  change ∃ o, s.heap.get? 32 = some o ∧ _
  refine ⟨_, G.k _ _ rfl, ?_⟩
  exact hQ
theorem bL0 (G : Glb w s.heap) : ∃ t, BindsTo s fdBisL ⟨[a, x], []⟩ [("a", a), ("x", x), ("lo", .int 0 t), ("hi", .none), ("key", .none)] := by
  obtain ⟨t, e⟩ := k40 w.params
  refine ⟨t, fun M A E Q hQ Γ p hΓ => ?_⟩
  change ∃ o, s.heap.get? 40 = some o ∧ _
  refine ⟨_, G.k _ _ e, ?_⟩
  change ∃ o, s.heap.get? 41 = some o ∧ _
  refine ⟨_, G.k _ _ rfl, ?_⟩
  exact hQ
theorem bI2 (G : Glb w s.heap) : ∃ t, BindsTo s fdInsR ⟨[a, x], [("key", k)]⟩ [("a", a), ("x", x), ("lo", .int 0 t), ("hi", .none), ("key", k)] := let ⟨t, e⟩ := k22 w.params; ⟨t, bind_d G e rfl rfl rfl rfl⟩
end


structure Exb (l : Addr) (s s' : Shared) : Prop where
  same : ∃ h tk, s' = { s with heap := h, toks := tk }
  get : ∀ b o, b ≠ l → s.heap.get? b = some o → s'.heap.get? b = some o
abbrev hid (s : Shared) (l : Addr) : Shared := { s with heap := s.heap.hide l }
theorem of_hid {s : Shared} {l b : Addr} {o : Obj} (e : (s.heap.hide l).get? b = some o) : s.heap.get? b = some o := Heap.of_hide e
theorem hid_ne {h : Heap} {l b : Addr} {o : Obj} (e : h.get? b = some o) (q : b ≠ l) : (h.hide l).get? b = some o := (Heap.hide_ne h q).trans e

section
variable {B s s' : Shared} {env : Env} {cs : List (Str × Addr)} {m : Str → Option Value} {mu : Addr → Option Mv}
theorem Frm.hideM (F : Frm B env cs m mu s) {l : Addr} {v : Mv} (hv : v.At B.heap l) : Frm (hid B l) env cs m (mup mu l v) s := by
  obtain ⟨ol, hol⟩ := mv_some hv
  have nn : ∀ a, B.heap.get? a = none → (B.heap.hide l).get? a = none ∧ a ≠ l := fun a ha => by
    have q : a ≠ l := fun q => by rw [q, hol] at ha; cases ha
    exact ⟨(Heap.hide_ne _ q).trans ha, q⟩
  refine ⟨?_, fun b o e => F.keep b o (of_hid e), F.ns, (nn _ F.newL).1, ?_, fun x c hc => ?_, F.apart, fun a v' h' => ?_⟩
  · obtain ⟨h, tk, e⟩ := F.same; exact ⟨h, tk, e⟩
  · rw [mup_ne (nn _ F.newL).2]; exact F.muL
  · obtain ⟨r0, r1, r2, r3, r4⟩ := F.cell x c hc
    exact ⟨r0, (nn _ r1).1, r2, by rw [mup_ne (nn _ r1).2]; exact r3, r4⟩
  · by_cases q : a = l
    · subst q; rw [mup_same] at h'; cases h'; exact ⟨mv_of (fun o e => F.keep a o e) hv, Heap.hide_self _ _⟩
    · rw [mup_ne q] at h'; exact let ⟨p, z⟩ := F.mus a v' h'; ⟨p, (nn _ z).1⟩
theorem Frm.doneB {l : Addr} (F : Frm (hid B l) env cs m mu s) : Exb l B s := by
  obtain ⟨h, tk, e⟩ := F.same
  exact ⟨⟨h, tk, e⟩, fun b o q e => F.keep b o (hid_ne e q)⟩
theorem Frm.lst (F : Frm B env cs m mu s) {l : Addr} {xs : List Value} (h : mu l = some (.lst xs)) : s.heap.PlainList l xs.toArray := (F.mus l _ h).1
end

section
variable {w : World} {A : Around} {E : Value → Shared → Prop} {B s : Shared} {env : Env} {cs : List (Str × Addr)} {m : Str → Option Value} {mu : Addr → Option Mv} {l : Addr} {xs : List Value}

theorem noDict_lst {h : Heap} (hl : h.PlainList l xs.toArray) : h.NoDictAt (.ref l) := by
  obtain ⟨n, e⟩ := hl
  exact ⟨_, e, rfl⟩
theorem lm_append {pl : Sem Bool} {Q : Value × List Value → Shared → Prop} (hl : s.heap.PlainList l xs.toArray) (h : Q (.builtin "list.append", [.ref l]) s) : wpAny (Md w) A (getMethod (.ref l) "append" pl) Q E s :=
  getMethod_list_of PySem.slot_list_append type_list_append hl.isList (noDict_lst hl) h
theorem lm_insert {pl : Sem Bool} {Q : Value × List Value → Shared → Prop} (hl : s.heap.PlainList l xs.toArray) (h : Q (.builtin "list.insert", [.ref l]) s) : wpAny (Md w) A (getMethod (.ref l) "insert" pl) Q E s :=
  getMethod_list_of PySem.F.slot_list_insert PySem.F.type_list_insert hl.isList (noDict_lst hl) h
theorem l_append {v : Value} {Q : Value → Shared → Prop} (F : Frm B env cs m mu s) (hl : mu l = some (.lst xs)) (hz : xs.length ≤ 1000) (h : ∀ s', Frm B env cs m (mup mu l (.lst (xs ++ [v]))) s' → Q .none s') :
    wpAny (Md w) A (call (.builtin "list.append") [.ref l, v]) Q E s := by
  refine wpAny_list_append_plain (F.lst hl) (fun h' hp hs => ?_) (by rw [List.size_toArray, sizeLine_eq]; lia)
  refine h _ (F.chg hl (fun b o q e => hs.extBut b o q e) (v := .lst (xs ++ [v])) ?_)
  show h'.PlainList l (xs ++ [v]).toArray
  simpa using hp
theorem l_insertZ {x : Int} {p : Nat} {t : Tok} {v : Value} {Q : Value → Shared → Prop} (hxp : x = p) (F : Frm B env cs m mu s) (hl : mu l = some (.lst xs)) (hz : xs.length ≤ 1000) (hp : p ≤ xs.length) (h : ∀ s', Frm B env cs m (mup mu l (.lst (xs.take p ++ v :: xs.drop p))) s' → Q .none s') :
    wpAny (Md w) A (call (.builtin "list.insert") [.ref l, .int x t, v]) Q E s := by
  obtain ⟨n, z⟩ := F.lst hl
  have hf : Builtin.List.listFitsIndex x = true := fitsIndex_of (by lia) (by lia)
  have hz' : xs.toArray.size ≤ sizeLine := by rw [List.size_toArray, sizeLine_eq]; lia
  have g := PySem.AutoSeq1.list_insert_list_int_val_1 l xs.toArray n x t v (fun c => by rw [hf] at c; cases c) hz'
  refine call_meets PySem.F.slot_list_insert ⟨_, z, rfl⟩ PySem.F.entry_list_insert (PySem.F.args_list_insert_3 _ _ _) g ⟨z, ?_⟩
  refine h _ (F.chg hl (fun b o q e => (Heap.SameBut.update ..).extBut b o q e) (v := .lst (xs.take p ++ v :: xs.drop p)) ?_)
  have q := PySem.IsL.update z (fun xs => have k := if x < 0 then (x + (xs.size : Int)).toNat else min x.toNat xs.size; (xs.extract 0 k).push v ++ xs.extract k)
  dsimp only at q
  have e : (if x < 0 then (x + (xs.toArray.size : Int)).toNat else min x.toNat xs.toArray.size) = p := by rw [if_neg (by lia), List.size_toArray]; lia
  rw [e, kl_ins_eq] at q
  exact ⟨_, q⟩
theorem l_insert {p : Nat} {t : Tok} {v : Value} {Q : Value → Shared → Prop} (F : Frm B env cs m mu s) (hl : mu l = some (.lst xs)) (hz : xs.length ≤ 1000) (hp : p ≤ xs.length) (h : ∀ s', Frm B env cs m (mup mu l (.lst (xs.take p ++ v :: xs.drop p))) s' → Q .none s') :
    wpAny (Md w) A (call (.builtin "list.insert") [.ref l, .int p t, v]) Q E s := l_insertZ rfl F hl hz hp h
theorem l_set {p : Nat} {t : Tok} {v : Value} {Q : Unit → Shared → Prop} (F : Frm B env cs m mu s) (hl : mu l = some (.lst xs)) (hz : xs.length ≤ 1000) (hp : p < xs.length) (h : ∀ s', Frm B env cs m (mup mu l (.lst (xs.set p v))) s' → Q () s') :
    wpAny (Md w) A (setItem (.ref l) (.int p t) v) Q E s := by
  obtain ⟨n, z⟩ := F.lst hl
  refine ki_setAt z (by lia) (by lia) (by rw [List.size_toArray]; lia) (h _ (F.chg hl (fun b o q e => (Heap.SameBut.update ..).extBut b o q e) (v := .lst (xs.set p v)) ?_))
  have q := PySem.IsL.update z (fun xs => xs.setIfInBounds (p : Int).toNat v)
  rw [show xs.toArray.setIfInBounds (p : Int).toNat v = (xs.set p v).toArray by apply Array.toList_inj.mp; simp] at q
  exact ⟨_, q⟩

theorem cw_fnK {f : Value} {pos : Pos} {first : List Value} {e ev : Expr} {rest : List Expr} {kp : Pos} {Q : Value → Shared → Prop} (hk : keepIn (Kp w.params) f = true)
    (h : wpAny (Md w) A (spliced (backTo pos (starEach (e :: rest) env))) (fun vs s₁ => wpAny (Md w) A (eval ev env) (fun kv s₂ => (Kp w.params).In s₂.heap ∧ wpAny (Md w) A (call f (first ++ vs) [("key", kv)]) Q E s₂) E s₁) E s)
    (he : starEach (e :: rest) env = (false, eval e env) :: starEach rest env := by rfl) (hplain : (backTo pos (starEach rest env)).any (·.1) = false := by rfl) :
    wpAny (Md w) A (callWith pos f first (backTo pos (starEach (e :: rest) env)) (backToKw pos (keywordEach [⟨some "key", ev, kp⟩] env))) Q E s := by
  rw [he] at h ⊢
  refine callWith_of (by show ((false || (backTo pos (starEach rest env)).any (·.1)) || false) = false; rw [hplain]; rfl) (keeps_K hk) (evalArgs_kw rfl ?_)
  refine wpAny_mono h (fun vs s₁ h₁ => ?_) fun _ _ x => x
  refine wpAny_evalAll_cons (x := eval ev env >>= fun v => standAt pos >>= fun _ => pure v) (rest := []) ?_
  exact wpAny_bind (wpAny_mono h₁ (fun kv s₂ h₂ => wpAny_bind (wpAny_standAt (wpAny_pure (wpAny_evalAll_nil h₂)))) fun _ _ x => x)
end

--MAC+
local macro_rules | `(tactic| walk_at "go1") => `(tactic| first
  | ((with_reducible show wpAny _ _ (eval (Expr.Call (Expr.Name _ _) _ (_ :: _) _) _) _ _ _); refine wpAny_Call_Name_kw ?_)
  | ((with_reducible show wpAny _ _ (callWith _ (Value.ref _) _ _ (backToKw _ _)) _ _ _); refine cw_fnK (by walk_at "keepK") ?_)
  )
--MAC-

theorem bs_le {p : Nat → Bool} : ∀ {f lo hi : Nat}, lo ≤ hi → lo ≤ bs p f lo hi ∧ bs p f lo hi ≤ hi
  | 0, _, _, h => ⟨Nat.le_refl _, h⟩
  | f + 1, lo, hi, h => by
    rw [bs]
    by_cases q : lo < hi
    · rw [if_pos q]
      cases p ((lo + hi) / 2) with
      | true => have := bs_le (p := p) (f := f) (lo := lo) (hi := (lo + hi) / 2) (by lia); simp only [if_true]; lia
      | false => have := bs_le (p := p) (f := f) (lo := (lo + hi) / 2 + 1) (hi := hi) (by lia); simp only [Bool.false_eq_true, if_false]; lia
    · rw [if_neg q]; exact ⟨Nat.le_refl _, h⟩

theorem ins_spec {w : World} {A : Around} {E : Value → Shared → Prop} {s : Shared} {l q : Addr} {xs : List Value} {x : Value} {kf : Nat → Int} {k0 : Int} {V : Value → Int → Prop} {Q : Value → Shared → Prop}
    (G : Glb w (s.heap.hide l)) (r : Room A 4) (hl : s.heap.PlainList l xs.toArray) (hlen : xs.length ≤ 900) (K : KeyF w (s.heap.hide l) q V) (hV : ∀ (j : Nat) (v : Value), xs[j]? = some v → V v (kf j)) (hx : V x k0)
    (h : ∀ s', Exb l s s' → s'.heap.PlainList l (xs.take (bs (fun j => decide (k0 < kf j)) xs.length 0 xs.length) ++ x :: xs.drop (bs (fun j => decide (k0 < kf j)) xs.length 0 xs.length)).toArray → Q .none s') :
    wpAny (Md w) A (call (.ref 30) [.ref l, x] [("key", .ref q)]) Q E s := by
  have G0 : Glb w s.heap := G.keeps fun b o e => of_hid e
  obtain ⟨t0, hb⟩ := bI2 (a := .ref l) (x := x) (k := .ref q) G0
  refine call_fn G0 r (kInsR _) (cInsR _) rfl hb (fun s₁ F r' => ?_) (by decide) (locs rfl)
  clear G0
  replace F := F.hideM (v := .lst xs) hl
  walk_at "go"
  refine ifF ?_
  walk_at "go"
  refine cw_key K (Frm.keep (by assumption)) ?_
  walk_at "go"
  refine ⟨FnAt.keeps K.1 (Frm.keep (by assumption)), ?_⟩
  refine K.2 _ _ _ _ _ _ (Frm.keep (by assumption)) (r'.le (by lia)) hx fun s₂ t₂ e₂ => ?_
  replace F := F.kept e₂
  walk_at "go"
  refine bisR_key (lo := 0) (hi := xs.length) (G.keeps F.keep) r' (F.lst mup_same) hlen (K.keeps F.keep) hV (by lia) (by lia) (.inl ⟨rfl, rfl⟩) (bR4 (G.keeps F.keep)) fun s₃ t₃ e₃ => ?_
  replace F := F.kept e₃
  walk_at "go"
  rename_i s₄ F₄
  refine lm_insert (F₄.lst mup_same) ?_
  walk_at "go"
  refine l_insert F₄ mup_same (by lia) (bs_le (Nat.zero_le _)).2 fun s₅ F₅ => ?_
  rw [mup_mup] at F₅
  walk_at "go"
  exact h _ F₅.doneB (F₅.lst mup_same)


theorem bindL_lookup {kindOf : Str → Option NameKind} : ∀ (binds : List (Str × Value)) (m : Str → Option Value) (x : Str), kindOf x = some .local → bindL kindOf binds m x = (binds.reverse.lookup x).or (m x)
  | [], m, x, _ => by simp [bindL]
  | (n, v) :: r, m, x, hx => by
    rw [bindL, bindL_lookup r _ x hx, List.reverse_cons, List.lookup_append]
    cases e : r.reverse.lookup x with
    | some w => simp
    | none =>
      simp only [Option.none_or]
      by_cases q : x = n
      · subst q; rw [if_pos hx]; simp [List.lookup_cons]
      · have q' : (x == n) = false := by simpa using q
        by_cases hk : kindOf n = some .local
        · rw [if_pos hk]; simp [List.lookup_cons, q']; exact fun z => absurd z q
        · rw [if_neg hk]; simp [List.lookup_cons, q']
theorem bindC_lookup {kindOf : Str → Option NameKind} : ∀ (binds : List (Str × Value)) (m : Str → Option Value) (x : Str), kindOf x = some .cell → bindC kindOf binds m x = (binds.reverse.lookup x).or (m x)
  | [], m, x, _ => by simp [bindC]
  | (n, v) :: r, m, x, hx => by
    rw [bindC, bindC_lookup r _ x hx, List.reverse_cons, List.lookup_append]
    cases e : r.reverse.lookup x with
    | some w => simp
    | none =>
      simp only [Option.none_or]
      by_cases q : x = n
      · subst q; rw [if_neg (by rw [hx]; intro z; cases z)]; simp [List.lookup_cons]
      · have q' : (x == n) = false := by simpa using q
        by_cases hk : kindOf n = some .local
        · rw [if_pos hk]; simp [List.lookup_cons, q']
        · rw [if_neg hk]; simp [List.lookup_cons, q']; exact fun z => absurd z q
theorem cellsFrom_kind {x : Str} {c : Addr} : ∀ (names : List (Str × NameKind)) (n : Nat) (acc : List (Str × Addr)), (cellsFrom n names acc).lookup x = some c → (x, NameKind.cell) ∈ names ∨ acc.lookup x = some c
  | [], _, _, h => .inr h
  | (y, k) :: r, n, acc, h => by
    unfold cellsFrom at h
    by_cases hk : (k == .cell) = true
    · rw [if_pos hk] at h
      have hk' : k = .cell := by simpa using hk
      rcases cellsFrom_kind r (n + 1) ((y, n) :: acc) h with q | q
      · exact .inl (.tail _ q)
      · by_cases hy : x = y
        · subst hy; subst hk'; exact .inl (.head _)
        · rw [List.lookup_cons, show (x == y) = false by simpa using hy] at q
          exact .inr q
    · rw [if_neg hk] at h
      exact (cellsFrom_kind r n acc h).imp (fun q => .tail _ q) id
theorem lookup_nodup {x : Str} {k : NameKind} : ∀ (names : List (Str × NameKind)), (names.map (·.1)).Nodup → (x, k) ∈ names → names.lookup x = some k
  | (y, j) :: r, hn, hm => by
    rw [List.map_cons, List.nodup_cons] at hn
    rcases List.mem_cons.mp hm with e | hm
    · cases e; simp [List.lookup_cons]
    · have q : x ≠ y := fun q => hn.1 (q ▸ List.mem_map_of_mem (f := (·.1)) hm)
      rw [List.lookup_cons, show (x == y) = false by simpa using q]
      exact lookup_nodup r hn.2 hm

theorem call_fnC {w : World} {A : Around} {E : Value → Shared → Prop} {s : Shared} {d : Nat} {f : Addr} {oc : Value} {od : Option Addr} {osl : Array (Option Value)} {fd : FuncData} {body : List Stmt} {vals : List Value} {binds : List (Str × Value)} {Q : Value → Shared → Prop}
    (G : Glb w s.heap) (r : Room A (d + 1)) (ho : (Kp w.params).lookup f = some ⟨oc, od, .func fd, osl⟩) (hcd : codeIn (Kp w.params) fd.code fd.qualname = true) (hb : fd.body = .stmts body)
    (hbind : bindArgs fd ⟨vals, []⟩ = pure binds)
    (h : ∀ s₁, Frm s (callEnvC fd s.heap.objs.size f) (callEnvC fd s.heap.objs.size f).cells (fun x => binds.reverse.lookup x) mu0 s₁ → Room (A.deeper (callEnvC fd s.heap.objs.size f)) d →
      wpAny (Md w) (A.deeper (callEnvC fd s.heap.objs.size f)) (execs body (callEnvC fd s.heap.objs.size f)) (fun fl s' => Q (match fl with | .ret v => v | _ => .none) s') (fun _ _ => False) s₁)
    (hclo : fd.closure = []) (hkind : (binds.all fun y => fd.scope.names.lookup y.1 == some .local || fd.scope.names.lookup y.1 == some .cell) = true) (hnd : (fd.scope.names.map (·.1)).Nodup)
    (hco : fd.scope.isCoroutine = false := by rfl) (hgen : fd.scope.isGenerator = false := by rfl) (hk : fd.scope.kind = .function := by rfl) :
    wpAny (Md w) A (call (.ref f) vals) Q E s := by
  refine wpAny_call (codeAny_call_cells r.lt (G.k _ _ ho) rfl G.lim (codeRec_of G.k hcd) hb hbind hclo (kindsX hkind _) (fun s₁ x => ?_) hco hgen hk)
  have kk : ∀ y c, (callEnvC fd s.heap.objs.size f).cells.lookup y = some c → (callEnvC fd s.heap.objs.size f).kindOf y = some .cell := fun y c hc => by
    rcases cellsFrom_kind _ _ _ hc with q | q
    · exact lookup_nodup _ hnd q
    · cases q
  refine wpAny_mono (h s₁ ⟨x.toInCall.same, x.toInCall.keep, ⟨_, x.toInCall.ns, fun y hy => ?_⟩, none_of_size (Nat.le_refl _), rfl, fun y c hc => ⟨?_, ?_, ?_, rfl, kk y c hc⟩, x.apart, fun a v hv => (by cases hv)⟩ r.deeper) (fun fl s' q => q) fun _ _ x => x.elim
  · rw [bindL_lookup _ _ _ hy]; simp
  · have := x.cell y c hc
    rw [bindC_lookup _ _ _ (kk y c hc)] at this; simpa using this
  · exact none_of_size (Nat.le_of_lt (x.above y c (mem_of_lookup hc)))
  · exact Nat.ne_of_gt (x.above y c (mem_of_lookup hc))

-- lambdas
def crP (q : Str) : Mv := .prd fun o => ∃ vs t, o.data = .fields vs ∧ vs[1]? = some (.str q t)
theorem crP_rec {h : Heap} {c : Addr} {q : Str} (x : (crP q).At h c) : h.CodeRec (.ref c) q := let ⟨o, e, vs, t, a, b⟩ := x; ⟨c, o, vs, t, rfl, e, a, b⟩

section
variable {w : World} {A : Around} {E : Value → Shared → Prop} {B s : Shared} {env : Env} {cs : List (Str × Addr)} {m : Str → Option Value} {mu : Addr → Option Mv} {c P : Addr} {params : Arguments} {body : Expr} {scope : Scope} {pos : Pos} {clos : List (Str × Addr)} {Q : Value → Shared → Prop}

theorem Frm.builtinsAt (F : Frm B env cs m mu s) (G : Glb w B.heap) (hP : B.heap.get? P = none) : ∃ mg, s.heap.Ns mainGlobals mg ∧ mainGlobals ≠ P ∧ s.heap.BuiltinsAt mg P := by
  obtain ⟨mg, hn, bm, ob, a1, a2, a3, a4, a5, a6⟩ := G.g
  refine ⟨mg, hn.keeps F.keep, fun q => ?_, bm, ob, a1, a2, fun q => ?_, fun q => ?_, F.keep _ _ a3, a4, a5, a6⟩
  · obtain ⟨o, es, ep, ho, _⟩ := hn; rw [q, hP] at ho; cases ho
  · obtain ⟨o, es, ep, ho, hd, _⟩ := hn; rw [q, ho] at a3; cases a3; rw [hd] at a6; cases a6
  · rw [q, hP] at a3; cases a3

/-- a lambda the first time -/
theorem lam_new (F : Frm B env cs m mu s) (G : Glb w B.heap) (hP : mu P = some (.obj (tabObj #[]))) (C : CodeHd B.heap c P)
    (h : ∀ s' q c' pm ctv, s.heap.get? q = none → s.heap.get? c' = none → c' ≠ P → q ≠ P → q ≠ c' →
      Frm B env cs m (mup (mup (mup mu P (.obj (tabObj #[rawInt pos.line, rawInt pos.col, .ref c']))) c' (crP (env.qual ++ "<lambda>"))) q (.obj (kla_obj "<lambda>" (env.qual ++ "<lambda>") params body scope clos pm c' ctv))) s' → Q (.ref q) s')
    (hcl : closureFor scope env = pure clos) (hdef : defaultsOf params env = ([], [])) (hge0 : env.globals = mainGlobals) (hcode : env.code = .ref c) :
    wpAny (Md w) A (eval (.Lambda params body scope pos) env) Q E s := by
  have hPB := (F.mus P _ hP).2
  obtain ⟨mg, hg, hgP, hb⟩ := F.builtinsAt G hPB
  refine kla_eval hdef (kla_makeFunction hcl hge0 hg hcode (C.keeps F.keep) (F.mus P _ hP).1 True.intro rfl hgP hb fun c' ctv h' tk hE hc1 hc2 hcr hP' => ?_)
  have hcn : s.heap.get? c' = none := none_of_size hc1
  obtain ⟨f1, f2, f3, f4⟩ := F.fresh hcn
  have hcP : c' ≠ P := fun q => by rw [q, (F.mus P _ hP).1] at hcn; cases hcn
  have F₁ : Frm B env cs m (mup mu P (.obj (tabObj #[rawInt pos.line, rawInt pos.col, .ref c']))) { s with heap := h', toks := tk } := F.chg hP hE (show h'.get? P = _ by simpa using hP')
  have F₂ : Frm B env cs m (mup (mup mu P (.obj (tabObj #[rawInt pos.line, rawInt pos.col, .ref c']))) c' (crP (env.qual ++ "<lambda>"))) { s with heap := h', toks := tk } := by
    refine F₁.mnew ?_ f1 f2 f3
    obtain ⟨c0, o, vs, t, e0, e1, e2, e3⟩ := hcr
    cases e0
    exact ⟨o, e1, vs, t, e2, e3⟩
  have hqn : h'.get? h'.objs.size = none := none_of_size (Nat.le_refl _)
  have F₃ := F₂.make (o := kla_obj "<lambda>" (env.qual ++ "<lambda>") params body scope clos ((mg "__name__").getD .none) c' ctv) (v := .obj (kla_obj "<lambda>" (env.qual ++ "<lambda>") params body scope clos ((mg "__name__").getD .none) c' ctv)) (tk := tk) (Heap.get?_push_size _ rfl)
  have hqs : s.heap.get? h'.objs.size = none := by
    cases e : s.heap.get? h'.objs.size with
    | none => rfl
    | some o =>
      by_cases q : h'.objs.size = P
      · rw [q, hP'] at hqn; cases hqn
      · rw [hE _ _ q e] at hqn; cases hqn
  refine h _ h'.objs.size c' _ ctv hqs hcn hcP (fun q => ?_) (Nat.ne_of_gt hc2) F₃
  have := hqn; rw [q, hP'] at this; cases this
/-- a lambda whose code stands -/
theorem lam_hit {c' : Addr} (F : Frm B env cs m mu s) (G : Glb w B.heap) (hP : mu P = some (.obj (tabObj #[rawInt pos.line, rawInt pos.col, .ref c']))) (C : CodeHd B.heap c P)
    (h : ∀ s' q pm ctv, s.heap.get? q = none → Frm B env cs m (mup mu q (.obj (kla_obj "<lambda>" (env.qual ++ "<lambda>") params body scope clos pm c' ctv))) s' → Q (.ref q) s')
    (hcl : closureFor scope env = pure clos) (hdef : defaultsOf params env = ([], [])) (hge0 : env.globals = mainGlobals) (hcode : env.code = .ref c) :
    wpAny (Md w) A (eval (.Lambda params body scope pos) env) Q E s := by
  have hPB := (F.mus P _ hP).2
  obtain ⟨mg, hg, hgP, hb⟩ := F.builtinsAt G hPB
  refine kla_eval hdef (kla_makeFunctionHit (cv := .ref c') hcl hge0 hg hcode (C.keeps F.keep) (F.mus P _ hP).1 (by simp [TriplesOk, rawInt]) (by simp [codeAmong, rawInt]) hb fun ctv h' tk hk hsz => ?_)
  have F₁ : Frm B env cs m mu { s with heap := h', toks := tk } := F.hp hk
  exact h _ _ _ ctv (none_of_size hsz) (F₁.make (v := .obj _) (tk := tk) (Heap.get?_push_size _ rfl))
end


/-- what is new since s -/
def NH (s s' : Shared) : Heap := hideAll s'.heap ((List.range s'.heap.objs.size).filter fun a => (s.heap.get? a).isSome)
theorem NH_get {s s' : Shared} {a : Addr} {o : Obj} (e : s'.heap.get? a = some o) (n : s.heap.get? a = none) : (NH s s').get? a = some o :=
  hideAll_get _ e fun q => by
    have := (List.mem_filter.mp q).2
    rw [n] at this; cases this
theorem of_NH {s s' : Shared} {a : Addr} {o : Obj} (e : (NH s s').get? a = some o) : s'.heap.get? a = some o ∧ s.heap.get? a = none := by
  have h := of_hideAll _ e
  refine ⟨h, ?_⟩
  cases q : s.heap.get? a with
  | none => rfl
  | some o' =>
    have : a ∈ (List.range s'.heap.objs.size).filter fun a => (s.heap.get? a).isSome := List.mem_filter.mpr ⟨List.mem_range.mpr (Heap.lt_size h), by rw [q]; rfl⟩
    unfold NH at e
    rw [hideAll_none _ this] at e; cases e
theorem NH_mono {s s' s'' : Shared} (k : ∀ b o, s.heap.get? b = none → s'.heap.get? b = some o → s''.heap.get? b = some o) : ∀ b o, (NH s s').get? b = some o → (NH s s'').get? b = some o := fun b o e =>
  let ⟨a, n⟩ := of_NH e; NH_get (k b o n a) n
theorem NH_le {s s₁ s' : Shared} (k : ∀ b, s₁.heap.get? b = none → s.heap.get? b = none) : ∀ b o, (NH s₁ s').get? b = some o → (NH s s').get? b = some o := fun b o e =>
  let ⟨a, n⟩ := of_NH e; NH_get a (k b n)
theorem NH_sub {s s' : Shared} : ∀ b o, (NH s s').get? b = some o → s'.heap.get? b = some o := fun _ _ e => (of_NH e).1
theorem none_back {s s' : Shared} (k : ∀ b o, s.heap.get? b = some o → s'.heap.get? b = some o) {b : Addr} (h : s'.heap.get? b = none) : s.heap.get? b = none := by
  cases q : s.heap.get? b with
  | none => rfl
  | some o => rw [k b o q] at h; cases h

/-- the base, and all that was made from s to s' -/
def reb (B s s' : Shared) : Shared := { s' with heap := hideAll s'.heap ((List.range s'.heap.objs.size).filter fun a => (s.heap.get? a).isSome && (B.heap.get? a).isNone) }
theorem reb_new {B s s' : Shared} {a : Addr} {o : Obj} (e : s'.heap.get? a = some o) (n : s.heap.get? a = none) : (reb B s s').heap.get? a = some o :=
  hideAll_get _ e fun q => by
    have := (List.mem_filter.mp q).2
    rw [n] at this; cases this
theorem reb_NH {B s s' : Shared} : ∀ b o, (NH s s').get? b = some o → (reb B s s').heap.get? b = some o := fun _ _ e => let ⟨a, n⟩ := of_NH e; reb_new a n
theorem reb_base {B s s' : Shared} (k : ∀ b o, B.heap.get? b = some o → s'.heap.get? b = some o) : ∀ b o, B.heap.get? b = some o → (reb B s s').heap.get? b = some o := fun b o e =>
  hideAll_get _ (k b o e) fun q => by
    have := (List.mem_filter.mp q).2
    rw [e] at this; simp at this
theorem of_reb {B s s' : Shared} {a : Addr} {o : Obj} (e : (reb B s s').heap.get? a = some o) : s'.heap.get? a = some o := of_hideAll _ e
theorem reb_none {B s s' : Shared} {a : Addr} {o : Obj} (e : s.heap.get? a = some o) (n : B.heap.get? a = none) : (reb B s s').heap.get? a = none := by
  cases q : (reb B s s').heap.get? a with
  | none => rfl
  | some o' =>
    have h := of_reb q
    have : a ∈ (List.range s'.heap.objs.size).filter fun a => (s.heap.get? a).isSome && (B.heap.get? a).isNone := List.mem_filter.mpr ⟨List.mem_range.mpr (Heap.lt_size h), by rw [e, n]; rfl⟩
    have z := hideAll_none (h := s'.heap) _ this
    rw [show (reb B s s').heap = hideAll s'.heap _ from rfl, z] at q; cases q
section
variable {B s s' : Shared} {env : Env} {cs : List (Str × Addr)} {m m' : Str → Option Value} {mu mu' : Addr → Option Mv}
theorem Frm.reb (F : Frm B env cs m mu s) (F' : Frm B env cs m' mu' s') (hm : ∀ a v, mu' a = some v → ∃ v', mu a = some v') : Frm (reb B s s') env cs m' mu' s' where
  same := ⟨s'.heap, s'.toks, rfl⟩
  keep := fun b o e => of_reb e
  ns := F'.ns
  newL := by obtain ⟨_, ⟨o, _, _, ho, _⟩, _⟩ := F.ns; exact reb_none ho F.newL
  muL := F'.muL
  cell := fun x c hc => by
    obtain ⟨r0, r1, r2, r3, r4⟩ := F'.cell x c hc
    obtain ⟨⟨o, ho, _⟩, _⟩ := F.cell x c hc
    exact ⟨r0, reb_none ho r1, r2, r3, r4⟩
  apart := F'.apart
  mus := fun a v h => by
    obtain ⟨p, z⟩ := F'.mus a v h
    obtain ⟨v', hv'⟩ := hm a v h
    obtain ⟨o, ho⟩ := mv_some (F.mus a v' hv').1
    exact ⟨p, reb_none ho z⟩
/-- forget some of the ledger -/
theorem Frm.sub (F : Frm B env cs m mu s) (h : ∀ a v, mu' a = some v → mu a = some v) : Frm B env cs m mu' s where
  same := F.same
  keep := F.keep
  ns := F.ns
  newL := F.newL
  muL := by cases e : mu' env.locals with
    | none => rfl
    | some v => have := h _ _ e; rw [F.muL] at this; cases this
  cell := fun x c hc => by
    obtain ⟨r0, r1, r2, r3, r4⟩ := F.cell x c hc
    refine ⟨r0, r1, r2, ?_, r4⟩
    cases e : mu' c with
    | none => rfl
    | some v => have := h _ _ e; rw [r3] at this; cases this
  apart := F.apart
  mus := fun a v e => F.mus a v (h a v e)
end
theorem mup_none {mu : Addr → Option Mv} {a b : Addr} {v : Mv} (h : mup mu a v b = none) : b ≠ a ∧ mu b = none := by
  by_cases q : b = a
  · subst q; rw [mup_same] at h; cases h
  · rw [mup_ne q] at h; exact ⟨q, h⟩

/-- item by item -/
inductive Al {α : Type} (R : Value → α → Prop) : List Value → List α → Prop
  | nil : Al R [] []
  | cons {v a vs as} : R v a → Al R vs as → Al R (v :: vs) (a :: as)
section
variable {α : Type} {R R' : Value → α → Prop} {vs us : List Value} {as bs : List α}
theorem Al.mono (h : Al R vs as) (k : ∀ v a, R v a → R' v a) : Al R' vs as := by
  induction h with
  | nil => exact .nil
  | cons x _ ih => exact .cons (k _ _ x) ih
theorem Al.length (h : Al R vs as) : vs.length = as.length := by
  induction h with
  | nil => rfl
  | cons _ _ ih => rw [List.length_cons, List.length_cons, ih]
theorem Al.append (h : Al R vs as) (k : Al R us bs) : Al R (vs ++ us) (as ++ bs) := by
  induction h with
  | nil => exact k
  | cons x _ ih => exact .cons x ih
theorem Al.get (h : Al R vs as) : ∀ {j : Nat} {v : Value}, vs[j]? = some v → ∃ a, as[j]? = some a ∧ R v a := by
  induction h with
  | nil => intro j v e; simp at e
  | cons x _ ih =>
    intro j v e
    cases j with
    | zero => simp at e; subst e; exact ⟨_, rfl, x⟩
    | succ j => simp at e; obtain ⟨a, h1, h2⟩ := ih e; exact ⟨a, by simpa using h1, h2⟩
theorem Al.get' (h : Al R vs as) : ∀ {j : Nat} {a : α}, as[j]? = some a → ∃ v, vs[j]? = some v ∧ R v a := by
  induction h with
  | nil => intro j v e; simp at e
  | cons x _ ih =>
    intro j v e
    cases j with
    | zero => simp at e; subst e; exact ⟨_, rfl, x⟩
    | succ j => simp at e; obtain ⟨a, h1, h2⟩ := ih e; exact ⟨a, by simpa using h1, h2⟩
theorem Al.take (h : Al R vs as) (n : Nat) : Al R (vs.take n) (as.take n) := by
  induction h generalizing n with
  | nil => simp; exact .nil
  | cons x _ ih => cases n with
    | zero => exact .nil
    | succ n => exact .cons x (ih n)
theorem Al.drop (h : Al R vs as) (n : Nat) : Al R (vs.drop n) (as.drop n) := by
  induction h generalizing n with
  | nil => simp; exact .nil
  | cons x y ih => cases n with
    | zero => exact .cons x y
    | succ n => exact ih n
end

abbrev Row := Int × Int × Int
def insRow (rs : List Row) (r : Row) : List Row :=
  rs.take (bs (fun j => decide (0 < cmpZ (rs.getD j (0, 0, 0)) r)) rs.length 0 rs.length) ++ r :: rs.drop (bs (fun j => decide (0 < cmpZ (rs.getD j (0, 0, 0)) r)) rs.length 0 rs.length)
def rowOf (ps : List (Nat × Nat)) (k : Nat) : Row := let p := ps.getD k (0, 0); ((p.1 + p.2 : Nat), (p.1 : Nat), (k : Nat))
def rowsTo (ps : List (Nat × Nat)) : Nat → List Row
  | 0 => []
  | k + 1 => insRow (rowsTo ps k) (rowOf ps k)
theorem insRow_perm (rs : List Row) (r : Row) : (insRow rs r).Perm (r :: rs) := by
  unfold insRow
  refine List.perm_middle.trans ?_
  rw [List.take_append_drop]
theorem insRow_length (rs : List Row) (r : Row) : (insRow rs r).length = rs.length + 1 := (insRow_perm rs r).length_eq
theorem rowsTo_length (ps : List (Nat × Nat)) : ∀ k, (rowsTo ps k).length = k
  | 0 => rfl
  | k + 1 => by rw [rowsTo, insRow_length, rowsTo_length ps k]
theorem cmpZ_self (r : Row) : cmpZ r r = 0 := by
  unfold cmpZ; simp

def LeadV (h : Heap) (v : Value) (p : Nat × Nat) : Prop := ∃ x, v = .ref x ∧ LeadAt h x p.1 p.2
theorem LeadV.keeps {h h' : Heap} {v : Value} {p : Nat × Nat} (L : LeadV h v p) (k : ∀ b o, h.get? b = some o → h'.get? b = some o) : LeadV h' v p := let ⟨x, e, l⟩ := L; ⟨x, e, l.keeps k⟩
def RowN (s0 : Shared) (h : Heap) (v : Value) (r : Row) : Prop := ∃ a t1 t2 t3, v = .ref a ∧ s0.heap.get? a = none ∧ IsTup h a [.int r.1 t1, .int r.2.1 t2, .int r.2.2 t3].toArray
theorem RowN.keeps {s0 : Shared} {h h' : Heap} {v : Value} {r : Row} (L : RowN s0 h v r) (k : ∀ b o, h.get? b = some o → h'.get? b = some o) : RowN s0 h' v r :=
  let ⟨a, t1, t2, t3, e, n, x⟩ := L; ⟨a, t1, t2, t3, e, n, x.keeps k⟩
theorem RowN.row {s0 : Shared} {h : Heap} {v : Value} {r : Row} (L : RowN s0 h v r) : RowAt h v r := let ⟨a, t1, t2, t3, e, n, x⟩ := L; ⟨a, t1, t2, t3, e, x⟩
theorem RowN.nh {s0 s' : Shared} {v : Value} {r : Row} (L : RowN s0 s'.heap v r) : RowAt (NH s0 s') v r :=
  let ⟨a, t1, t2, t3, e, n, o, ho, rest⟩ := L; ⟨a, t1, t2, t3, e, o, NH_get ho n, rest⟩


--MAC+
local macro_rules | `(tactic| walk_at "go1") => `(tactic| first
  | ((with_reducible show wpAny _ _ (letOwnedTupleGo (Expr.Name _ _) _ _) _ _ _); refine wpAny_pure (a := ()) ?_)
  )
--MAC-

section
variable {w : World} {A : Around} {E : Value → Shared → Prop} {B s : Shared} {env : Env} {cs : List (Str × Addr)} {m : Str → Option Value} {mu : Addr → Option Mv} {c P : Addr} {params : Arguments} {body : Expr} {scope : Scope} {pos : Pos} {clos : List (Str × Addr)} {Q : Value → Shared → Prop}
/-- a lambda, whether its code stands or not -/
theorem lam_any (F : Frm B env cs m mu s) (G : Glb w B.heap) (C : CodeHd B.heap c P)
    (hP : mu P = some (.obj (tabObj #[])) ∨ ∃ c', mu P = some (.obj (tabObj #[rawInt pos.line, rawInt pos.col, .ref c'])) ∧ B.heap.CodeRec (.ref c') (env.qual ++ "<lambda>"))
    (h : ∀ s' q c' pm ctv mu', Frm B env cs m mu' s' → s.heap.get? q = none → mu' q = some (.obj (kla_obj "<lambda>" (env.qual ++ "<lambda>") params body scope clos pm c' ctv)) → mu' P = some (.obj (tabObj #[rawInt pos.line, rawInt pos.col, .ref c'])) →
      (∀ b v, b ≠ P → mu b = some v → mu' b = some v) → ((s.heap.get? c' = none ∧ mu' c' = some (crP (env.qual ++ "<lambda>"))) ∨ B.heap.CodeRec (.ref c') (env.qual ++ "<lambda>")) → Q (.ref q) s')
    (hcl : closureFor scope env = pure clos) (hdef : defaultsOf params env = ([], [])) (hge0 : env.globals = mainGlobals) (hcode : env.code = .ref c) :
    wpAny (Md w) A (eval (.Lambda params body scope pos) env) Q E s := by
  rcases hP with hP | ⟨c', hP, hcr⟩
  · refine lam_new F G hP C (fun s' q c' pm ctv hq hc h1 h2 h3 F' => ?_) hcl hdef hge0 hcode
    refine h s' q c' pm ctv _ F' hq mup_same ((mup_ne h2.symm).trans ((mup_ne h1.symm).trans mup_same)) (fun b v hb e => ?_) (.inl ⟨hc, (mup_ne h3.symm).trans mup_same⟩)
    have z : ∀ x, s.heap.get? x = none → b ≠ x := fun x hx q => by rw [q, (F.fresh hx).2.2.2] at e; cases e
    exact (mup_ne (z q hq)).trans ((mup_ne (z c' hc)).trans ((mup_ne hb).trans e))
  · refine lam_hit F G hP C (fun s' q pm ctv hq F' => ?_) hcl hdef hge0 hcode
    have z : ∀ b v, mu b = some v → b ≠ q := fun b v e z => by rw [z, (F.fresh hq).2.2.2] at e; cases e
    exact h s' q c' pm ctv _ F' hq mup_same ((mup_ne (z _ _ hP)).trans hP) (fun b v hb e => (mup_ne (z _ _ e)).trans e) (.inr hcr)
end
theorem mup3 {k1 k2 k3 a : Addr} {v1 v2 v3 v : Mv} (h : mup (mup (mup mu0 k1 v1) k2 v2) k3 v3 a = some v) : (a = k3 ∧ v = v3) ∨ (a ≠ k3 ∧ a = k2 ∧ v = v2) ∨ (a ≠ k3 ∧ a ≠ k2 ∧ a = k1 ∧ v = v1) := by
  by_cases q3 : a = k3
  · subst q3; rw [mup_same] at h; cases h; exact .inl ⟨rfl, rfl⟩
  · rw [mup_ne q3] at h
    by_cases q2 : a = k2
    · subst q2; rw [mup_same] at h; cases h; exact .inr (.inl ⟨q3, rfl, rfl⟩)
    · rw [mup_ne q2] at h
      by_cases q1 : a = k1
      · subst q1; rw [mup_same] at h; cases h; exact .inr (.inr ⟨q3, q2, rfl, rfl⟩)
      · rw [mup_ne q1] at h; cases h

theorem tup_new {B s s' : Shared} {a : Addr} {xs : Array Value} (T : IsTup s'.heap a xs) (n : s.heap.get? a = none) : IsTup (reb B s s').heap a xs := let ⟨ob, ho, rest⟩ := T; ⟨ob, reb_new ho n, rest⟩
theorem lst_new {B s s' : Shared} {a : Addr} {xs : Array Value} (T : s'.heap.PlainList a xs) (n : s.heap.get? a = none) : (reb B s s').heap.PlainList a xs := let ⟨k, ho⟩ := T; ⟨k, reb_new ho n⟩
theorem tup_nh {s s' : Shared} {a : Addr} {xs : Array Value} (T : IsTup s'.heap a xs) (n : s.heap.get? a = none) : IsTup (NH s s') a xs := let ⟨ob, ho, rest⟩ := T; ⟨ob, NH_get ho n, rest⟩
theorem lst_nh {s s' : Shared} {a : Addr} {xs : Array Value} (T : s'.heap.PlainList a xs) (n : s.heap.get? a = none) : (NH s s').PlainList a xs := let ⟨k, ho⟩ := T; ⟨k, NH_get ho n⟩

theorem hd144 (P : Params) : codeHdIn (Kp P) 148 144 = true := by kernel_rfl
def GrownP (P : Addr) (h : Heap) : Prop := ∃ ps, h.get? P = some (tabObj ps)

noncomputable abbrev rEnv (s : Shared) : Env := callEnvC fdRows s.heap.objs.size 149
inductive RowsJ (s : Shared) (l o R I : Addr) (ps : List (Nat × Nat)) (i : Nat) (s' : Shared) : Prop
  | mk (B' : Shared) (m : Str → Option Value) (us : List Value) (tb : Obj) (F : Frm B' (rEnv s) (rEnv s).cells m (mup (mup (mup mu0 144 (.obj tb)) R (.lst us)) I (riP i ((ps.length : Int) - i))) s')
      (eB : ∃ hB tB, B' = { s with heap := hB, toks := tB }) (hBB : ∀ b o, (hid s 144).heap.get? b = some o → B'.heap.get? b = some o) (m1 : m "leads" = some (.ref l)) (m2 : m "order" = some (.ref o)) (m3 : m "rows" = some (.ref R)) (hA : Al (RowN s B'.heap) us (rowsTo ps i))
      (htb : tb = tabObj #[] ∨ ∃ c', tb = tabObj #[rawInt 128, rawInt 36, .ref c'] ∧ B'.heap.CodeRec (.ref c') ((rEnv s).qual ++ "<lambda>"))
theorem rows_spec {w : World} {A : Around} {E : Value → Shared → Prop} {s : Shared} {l o : Addr} {vs : List Value} {ps : List (Nat × Nat)} {Q : Value → Shared → Prop}
    (G : Glb w (hid s 144).heap) (r : Room A 6) (hT : s.heap.get? 144 = some (tabObj #[])) (hl : (hid s 144).heap.PlainList l vs.toArray) (L : Al (LeadV (hid s 144).heap) vs ps) (O : OrdAt (hid s 144).heap o) (hn : ps.length ≤ 100)
    (h : ∀ s' R us, Exb 144 s s' → GrownP 144 s'.heap → (NH s s').PlainList R us.toArray → Al (RowAt (NH s s')) us (rowsTo ps ps.length) → Q (.ref R) s') :
    wpAny (Md w) A (call (.ref 149) [.ref l, .ref o]) Q E s := by
  have hlen := L.length
  refine call_fnC (G.keeps fun b o e => of_hid e) r (kRows _) (cRows _) rfl (binds := [("leads", .ref l), ("order", .ref o)]) rfl (fun s₁ F r' => ?_) rfl rfl (by decide)
  replace F : Frm _ (rEnv s) (rEnv s).cells _ _ _ := F.hideM (l := 144) (v := .obj (tabObj #[])) hT
  change wpAny _ (A.deeper (rEnv s)) (execs _ (rEnv s)) _ _ _
  change Room (A.deeper (rEnv s)) _ at r'
  generalize A.deeper (rEnv s) = A' at *
  walk_at "go"
  refine n_lstM F (fun s₂ R hR F₂ => ?_) (by decide)
  walk_at "go"
  rename_i s₃ F₃
  refine l_len F₃ (hl.at fun o => F₃.keep _ o) (by lia) fun s₄ t₄ F₄ => ?_
  walk_at "go"
  refine n_rg1 F₄ fun s₅ rg F₅ _ hrg _ => ?_
  refine it_rg F₅ hrg (by lia) (by lia) (by lia) (by lia) fun s₆ I hI F₆ => ?_
  obtain ⟨hIR, hI1⟩ := mup_none hI
  obtain ⟨hIT, _⟩ := mup_none hI1
  have hRT : R ≠ 144 := fun q => by
    obtain ⟨ob, hob⟩ := mv_some (F.mus 144 _ mup_same).1
    rw [q, hob] at hR; cases hR
  have hRs : s.heap.get? R = none := by
    have := (F₂.mus R _ mup_same).2
    cases q : s.heap.get? R with
    | none => rfl
    | some ob => rw [hid_ne q hRT] at this; cases this
  have e6 : riP 0 (if (0 : Int) < (vs.length : Int) then (vs.length : Int) - 0 else 0) = riP ((0 : Nat) : Int) ((ps.length : Int) - (0 : Nat)) := by
    rw [hlen]
    have : (if (0 : Int) < (ps.length : Int) then (ps.length : Int) - 0 else 0) = (ps.length : Int) - ((0 : Nat) : Int) := by split <;> lia
    rw [this]; rfl
  rw [e6] at F₆
  refine for_go ps.length (fun i s' => RowsJ s l o R I ps i s')
    ⟨hid s 144, _, [], _, F₆, ⟨_, _, rfl⟩, fun _ _ e => e, by walk_at "lk", by walk_at "lk", by walk_at "lk", .nil, .inl rfl⟩ fun i s₇ hi hJ Qx QB Vx VB => ?_
  obtain ⟨B', m, us, tb, F₇, ⟨hB, tB, eB⟩, hBB, hm1, hm2, hm3, hA, htb⟩ := hJ
  have G' := G.keeps hBB
  by_cases hlt : i < ps.length
  · refine nx_rg F₇ mup_same (by lia) fun s₈ t₈ F₈ => ?_
    rw [mup_mup] at F₈
    have h144 : (mup (mup (mup mu0 144 (.obj tb)) R (.lst us)) I (riP ((i : Int) + 1) ((ps.length : Int) - i - 1))) 144 = some (.obj tb) := (mup_ne hIT.symm).trans ((mup_ne hRT.symm).trans mup_same)
    have hR11 : (mup (mup (mup mu0 144 (.obj tb)) R (.lst us)) I (riP ((i : Int) + 1) ((ps.length : Int) - i - 1))) R = some (.lst us) := (mup_ne hIR.symm).trans mup_same
    have hI11 : (mup (mup (mup mu0 144 (.obj tb)) R (.lst us)) I (riP ((i : Int) + 1) ((ps.length : Int) - i - 1))) I = some (riP ((i : Int) + 1) ((ps.length : Int) - i - 1)) := mup_same
    have e70 : ∀ b, (mup (mup (mup mu0 144 (.obj tb)) R (.lst us)) I (riP ((i : Int) + 1) ((ps.length : Int) - i - 1))) b = none → b ≠ R ∧ b ≠ I ∧ b ≠ 144 := fun b f => by
      obtain ⟨f1, f2⟩ := mup_none f
      obtain ⟨f3, f4⟩ := mup_none f2
      exact ⟨f3, f1, (mup_none f4).1⟩
    generalize mup (mup (mup mu0 144 (.obj tb)) R (.lst us)) I (riP ((i : Int) + 1) ((ps.length : Int) - i - 1)) = nu at F₈ h144 hR11 hI11 e70
    refine ⟨hlt, ?_⟩
    obtain ⟨v, hv, x, rfl, LA⟩ := L.get' (List.getElem?_eq_getElem hlt)
    generalize hp : ps[i] = p at LA
    replace LA := LA.keeps hBB
    walk_at "go"
    refine s_lst ((hl.at fun o => hBB _ o).at fun o => Frm.keep (by assumption) _ o) (by lia) (by lia) (by simpa using hv) ?_
    walk_at "go"
    refine s_lst ((hl.at fun o => hBB _ o).at fun o => Frm.keep (by assumption) _ o) (by lia) (by lia) (by simpa using hv) ?_
    walk_at "go"
    rename_i s₉ tk₉ F₉
    refine n_tup F₉ (fun s₁₀ a F₁₀ ha Ta ea => ?_) (by rw [sizeLine_eq]; simp)
    have Fb := F₉.reb F₁₀ (fun a v e => ⟨v, e⟩)
    have hB2 : ∀ b o, B'.heap.get? b = some o → (reb B' s₉ s₁₀).heap.get? b = some o := reb_base F₁₀.keep
    have Ta2 := tup_new (B := B') Ta ha
    have eB2 : ∃ hB tB, reb B' s₉ s₁₀ = { s with heap := hB, toks := tB } := by
      obtain ⟨hh, tt, e⟩ := F₁₀.same; rw [eB] at e; rw [e]; exact ⟨_, _, rfl⟩
    have has : s.heap.get? a = none := by
      cases q : s.heap.get? a with
      | none => rfl
      | some ob =>
        by_cases q' : a = 144
        · obtain ⟨ob', ho'⟩ := mv_some (F₉.mus 144 (.obj tb) h144).1
          rw [q', ho'] at ha; cases ha
        · rw [F₉.keep _ _ (hBB _ _ (hid_ne q q'))] at ha; cases ha
    generalize reb B' s₉ s₁₀ = B2 at *
    have hBB2 : ∀ b o, (hid s 144).heap.get? b = some o → B2.heap.get? b = some o := fun b o e => hB2 b o (hBB b o e)
    have G2 := G.keeps hBB2
    have O2 := O.keeps hBB2
    refine st_c Fb rfl fun s₁₁ F₁₁ => ?_
    walk_at "go"
    have e7 : ∀ b, s₁₁.heap.get? b = none → b ≠ R ∧ b ≠ I ∧ b ≠ 144 := fun b hb => e70 b (F₁₁.fresh hb).2.2.2
    have hT11 : nu 144 = some (.obj (tabObj #[])) ∨
        ∃ c', nu 144 = some (.obj (tabObj #[rawInt 128, rawInt 36, .ref c'])) ∧ B2.heap.CodeRec (.ref c') ((rEnv s).qual ++ "<lambda>") := by
      rcases htb with rfl | ⟨c', rfl, hcr⟩
      · exact .inl h144
      · exact .inr ⟨c', h144, hcr.keeps hB2⟩
    refine lam_any F₁₁ G2 (codeHd_of_K G2.k (hd144 _)) hT11 (fun s₁₂ q c' pm ctv mu' F₁₂ hq hq12 h14412 hmu' hcc => ?_) rfl rfl rfl rfl
    have hR12 := hmu' R _ hRT hR11
    have hI12 := hmu' I _ hIT hI11
    obtain ⟨hqR, hqI, hq144⟩ := e7 q hq
    have hC : ∀ b o, B2.heap.get? b = some o → (s₁₂.heap.hide R).get? b = some o := fun b o e => hid_ne (F₁₂.keep b o e) (fun z => by rw [z, (F₁₂.mus R _ hR12).2] at e; cases e)
    have GC : Glb w (s₁₂.heap.hide R) := G2.keeps hC
    have OC := O2.keeps hC
    refine ⟨kin_of F₁₂ G2, ?_⟩
    have hrow : rowOf ps i = (((p.1 + p.2 : Nat) : Int), ((p.1 : Nat) : Int), ((i : Nat) : Int)) := by
      unfold rowOf; rw [List.getD_eq_getElem?_getD, List.getElem?_eq_getElem hlt, hp]; rfl
    have Ra : RowAt (s₁₂.heap.hide R) (.ref a) (rowOf ps i) := by rw [hrow]; exact ⟨a, _, _, _, rfl, Ta2.keeps hC⟩
    have hcr12 : (s₁₂.heap.hide R).CodeRec (.ref c') ((rEnv s).qual ++ "<lambda>") := by
      rcases hcc with ⟨hc, hm⟩ | hc
      · obtain ⟨ob, ho, vs', t', z1, z2⟩ := (F₁₂.mus c' _ hm).1
        exact ⟨c', ob, vs', t', rfl, hid_ne ho (e7 c' hc).1, z1, z2⟩
      · exact hc.keeps hC
    have cel : ∀ y c, (rEnv s).cells.lookup y = some c → (s₁₂.heap.hide R).IsCell c (upd (upd m "place" (.int i t₈)) "row" (.ref a) y) := fun y c hc => by
      obtain ⟨⟨ob, ho, hd⟩, _, _, z, _⟩ := F₁₂.cell y c hc
      exact ⟨ob, hid_ne ho (fun z' => by rw [z', hR12] at z; cases z), hd⟩
    have cO : (s₁₂.heap.hide R).IsCell (s.heap.objs.size + 1) (some (.ref o)) := by
      have := cel "order" _ rfl
      rw [upd_ne (by decide), upd_ne (by decide), hm2] at this; exact this
    have cR : (s₁₂.heap.hide R).IsCell (s.heap.objs.size + 1 + 1) (some (.ref a)) := by
      have := cel "row" _ rfl
      rw [upd_same] at this; exact this
    have K : KeyF w (s₁₂.heap.hide R) q (fun v k => ∃ r'', RowAt (s₁₂.heap.hide R) v r'' ∧ k = cmpZ r'' (rowOf ps i)) := by
      refine ⟨⟨_, _, _, _, hid_ne (F₁₂.mus q _ hq12).1 hqR⟩, fun A E Q s' v k hCs rA hV hQ => ?_⟩
      obtain ⟨r'', hr'', rfl⟩ := hV
      refine call_lam (GC.lim.keeps hCs) rA (hCs _ _ (hid_ne (F₁₂.mus q _ hq12).1 hqR)) rfl (hcr12.keeps hCs) rfl (binds := [("other", v)]) rfl (fun s₁' F' rr => ?_) (show ∀ x ∈ ([("other", .local), ("order", .free), ("row", .free)] : List (Str × NameKind)), x.2 ≠ .cell by decide) (locs rfl)
      have Gs := GC.keeps hCs
      refine MethodCall_ ?_
      refine nm_o F' (cO.keeps hCs) ?_ rfl rfl (.inr rfl)
      refine me_cmp F' Gs (OC.keeps fun b o e => F'.keep b o (hCs b o e)) ?_
      walk_at "go"
      refine nm_o F' (cR.keeps hCs) ?_ rfl rfl (.inr rfl)
      walk_at "go"
      refine cmp_spec (Gs.keeps F'.keep) rr ((OC.keeps hCs).keeps F'.keep) ((hr''.keeps hCs).keeps F'.keep) ((Ra.keeps hCs).keeps F'.keep) fun s₂' t₂' e₂' => ?_
      exact hQ _ _ (F'.kept e₂').done
    refine ins_spec GC (r'.le (by lia)) (F₁₂.lst hR12) (by rw [hA.length, rowsTo_length]; lia) K (kf := fun j => cmpZ ((rowsTo ps i).getD j (0, 0, 0)) (rowOf ps i)) (fun j v hj => ?_) ⟨_, Ra, rfl⟩ fun s₁₃ e₁₃ hl₁₃ => ?_
    · obtain ⟨r'', hr1, hr2⟩ := hA.get hj
      refine ⟨r'', hr2.row.keeps fun b o e => hC b o (hB2 b o e), ?_⟩
      rw [List.getD_eq_getElem?_getD, hr1]; rfl
    rw [cmpZ_self] at hl₁₃
    obtain ⟨us', hus⟩ : ∃ us', us' = us.take (bs (fun j => decide (0 < cmpZ ((rowsTo ps i).getD j (0, 0, 0)) (rowOf ps i))) us.length 0 us.length) ++ Value.ref a :: us.drop (bs (fun j => decide (0 < cmpZ ((rowsTo ps i).getD j (0, 0, 0)) (rowOf ps i))) us.length 0 us.length) := ⟨_, rfl⟩
    rw [← hus] at hl₁₃
    obtain ⟨h₁₃, t₁₃, rfl⟩ := e₁₃.same
    have F₁₃ := F₁₂.chg (tk := t₁₃) hR12 e₁₃.get (v := .lst us') hl₁₃
    walk_at "go"
    have e13 : riP ((i : Int) + 1) ((ps.length : Int) - i - 1) = riP ((i + 1 : Nat) : Int) ((ps.length : Int) - (i + 1 : Nat)) := by
      rw [show (i : Int) + 1 = ((i + 1 : Nat) : Int) by lia, show (ps.length : Int) - i - 1 = (ps.length : Int) - (i + 1 : Nat) by lia]
    have kp : ∀ b o, B2.heap.get? b = some o → (reb B2 s₁₁ { s₁₂ with heap := h₁₃, toks := t₁₃ }).heap.get? b = some o := reb_base F₁₃.keep
    refine ⟨reb B2 s₁₁ { s₁₂ with heap := h₁₃, toks := t₁₃ }, _, us', tabObj #[rawInt 128, rawInt 36, .ref c'], F₁₁.reb (F₁₃.sub (fun x v e => ?_)) (fun x v e => ?_), ?_, fun b o e => kp b o (hBB2 b o e), by walk_at "lk", by walk_at "lk", by walk_at "lk", ?_, .inr ⟨c', rfl, ?_⟩⟩
    · rcases mup3 e with ⟨rfl, rfl⟩ | ⟨_, rfl, rfl⟩ | ⟨_, h2, rfl, rfl⟩
      · rw [mup_ne hIR, ← e13]; exact hI12
      · exact mup_same
      · rw [mup_ne h2]; exact h14412
    · rcases mup3 e with ⟨rfl, rfl⟩ | ⟨_, rfl, rfl⟩ | ⟨_, h2, rfl, rfl⟩
      · exact ⟨_, hI11⟩
      · exact ⟨_, hR11⟩
      · exact ⟨_, h144⟩
    · obtain ⟨hh, tt, e⟩ := F₁₃.same
      obtain ⟨h2, t2, e2⟩ := eB2
      rw [e2] at e; rw [e]; exact ⟨_, _, rfl⟩
    · rw [rowsTo, hus]
      unfold insRow
      rw [← hA.length]
      have hA2 := hA.mono (R' := RowN s (reb B2 s₁₁ { s₁₂ with heap := h₁₃, toks := t₁₃ }).heap) fun v r' hr' => hr'.keeps fun b o e => kp b o (hB2 b o e)
      refine (hA2.take _).append (.cons ?_ (hA2.drop _))
      rw [hrow]
      exact ⟨a, _, _, _, rfl, has, Ta2.keeps kp⟩
    · rcases hcc with ⟨hc, hm⟩ | hc
      · have hm' := (mup_ne (mu := mu') (v := .lst us') (e7 c' hc).1).trans hm
        obtain ⟨ob, ho, vs', t', z1, z2⟩ := (F₁₃.mus c' _ hm').1
        exact ⟨c', ob, vs', t', rfl, reb_new ho hc, z1, z2⟩
      · exact hc.keeps kp
  · have hie : i = ps.length := by lia
    subst hie
    refine nx_rgE r'.hn F₇ mup_same (by lia) fun s₈ F₈ => ?_
    walk_at "go"
    obtain ⟨hh, tt, e⟩ := F₈.same
    refine h _ R us ⟨?_, fun b o q e => F₈.keep b o (hBB b o (hid_ne e q))⟩ ?_ ?_ ?_
    · rw [eB] at e; exact ⟨hh, tt, e⟩
    · have := (F₈.mus 144 (.obj tb) ?_).1
      · rcases htb with rfl | ⟨c', rfl, _⟩
        · exact ⟨_, this⟩
        · exact ⟨_, this⟩
      · rw [mdel_ne hIT.symm]; exact (mup_ne hIT.symm).trans ((mup_ne hRT.symm).trans mup_same)
    · refine lst_nh (F₈.lst ?_) hRs
      rw [mdel_ne hIR.symm]; exact (mup_ne hIR.symm).trans mup_same
    · exact (hA.mono fun v r' hr' => (hr'.keeps F₈.keep).nh)

/-- a thing to go through, n items, with its iterator -/
structure Itb (w : World) (H : Heap) (x : Value) (n : Nat) (P : Nat → Value → Prop) (st : Nat → Mv) : Prop where
  start : ∀ {A : Around} {E : Value → Shared → Prop} {Q : Value → Shared → Prop} {s : Shared}, (∀ b o, H.get? b = some o → s.heap.get? b = some o) →
    (∀ s' I, s.heap.get? I = none → Ext s s' → (st 0).At s'.heap I → Q (.ref I) s') → wpAny (Md w) A (pyIter x) Q E s
  self : ∀ {A : Around} {E : Value → Shared → Prop} {Q : Value → Shared → Prop} {s : Shared} {I : Addr}, (st 0).At s.heap I → Q (.ref I) s → wpAny (Md w) A (pyIter (.ref I)) Q E s
  next : ∀ {A : Around} {E : Value → Shared → Prop} {Q : Option Value → Shared → Prop} {B s : Shared} {env : Env} {cs : List (Str × Addr)} {m : Str → Option Value} {mu : Addr → Option Mv} {I : Addr} {i : Nat},
    (∀ b o, H.get? b = some o → s.heap.get? b = some o) → Frm B env cs m mu s → mu I = some (st i) → i < n → (∀ s' v, P i v → Frm B env cs m (mup mu I (st (i + 1))) s' → Q (some v) s') → wpAny (Md w) A (pyNext (.ref I)) Q E s
  stop : ∀ {A : Around} {E : Value → Shared → Prop} {Q : Option Value → Shared → Prop} {B s : Shared} {env : Env} {cs : List (Str × Addr)} {m : Str → Option Value} {mu : Addr → Option Mv} {I : Addr},
    (∀ b o, H.get? b = some o → s.heap.get? b = some o) → A.handled = none → Frm B env cs m mu s → mu I = some (st n) → (∀ s', Frm B env cs m (mdel mu I) s' → Q none s') → wpAny (Md w) A (pyNext (.ref I)) Q E s
  lot : ∀ {A : Around} {E : Value → Shared → Prop} {Q : Unit → Shared → Prop} {s : Shared} {I : Addr} {i : Nat} {target : Expr} {v : Value}, (st i).At s.heap I → Q () s → wpAny (Md w) A (letOwnedTupleGo target (.ref I) v) Q E s

theorem lot_n {w : World} {A : Around} {E : Value → Shared → Prop} {s : Shared} {target : Expr} {I : Addr} {o : Obj} {n : String} {v : Value} {Q : Unit → Shared → Prop} (ho : s.heap.get? I = some o) (hc : o.cls = .type n) (hn : n = "list_iterator" ∨ n = "tuple_iterator" ∨ n = "range_iterator") (hQ : Q () s) :
    wpAny (Md w) A (letOwnedTupleGo target (.ref I) v) Q E s := by
  have step : ∀ a : Addr, wpAny (Md w) A (load I >>= fun o => match o.cls, o.data with
      | .type n, .fields vs => if (["enumerate", "zip", "dict_itemiterator", "dict_reverseitemiterator", "odict_iterator", "itertools.zip_longest", "itertools.pairwise"].contains n && vs[0]? == some (rawInt a)) = true then (rule "for.unpacks-the-owned-tuple" >>= fun _ => updateField I 0 .none) else pure ()
      | _, _ => pure ()) Q E s := fun a => by
    refine wpAny_bind (wpAny_load ho ?_)
    rw [hc]
    cases o.data with
    | fields vs =>
      dsimp only
      rw [if_neg (by rcases hn with rfl | rfl | rfl <;> simp)]
      exact wpAny_pure hQ
    | _ => exact wpAny_pure hQ
  cases target <;> first | exact wpAny_pure hQ | (cases v <;> first | exact wpAny_pure hQ | exact step _)

theorem itb_lst {w : World} {H : Heap} {l : Addr} {xs : List Value} (hl : H.PlainList l xs.toArray) : Itb w H (.ref l) xs.length (fun i v => xs[i]? = some v) (liP l) where
  start := fun k h => wpAny_pyIter_list (hl.at fun o => k _ o).isList (h _ _ (none_of_size (Nat.le_refl _)) (.heap _ fun _ _ e => Heap.get?_push_of_some _ e) ⟨_, Heap.get?_push_size _ rfl, rfl, rfl⟩)
  self := fun hi h => wpAny_pyIter_listiter hi h
  next := fun k F hI hi h => by
    obtain ⟨v, hv⟩ : ∃ v, xs[_]? = some v := ⟨_, List.getElem?_eq_getElem hi⟩
    exact nx_lst F hI (hl.at fun o => k _ o) hv fun s' F' => h s' v hv F'
  stop := fun k hh F hI h => nx_lstE hh F hI (hl.at fun o => k _ o) (List.getElem?_eq_none (Nat.le_refl _)) h
  lot := fun hi h => let ⟨o, ho, hc, _⟩ := hi; lot_n ho hc (.inl rfl) h
theorem itb_tup {w : World} {H : Heap} {l : Addr} {xs : List Value} (hl : IsTup H l xs.toArray) : Itb w H (.ref l) xs.length (fun i v => xs[i]? = some v) (tiP l) where
  start := fun k h => iter_tuple (hl.keeps k) (h _ _ (none_of_size (Nat.le_refl _)) (.heap _ fun _ _ e => Heap.get?_push_of_some _ e) ⟨_, Heap.get?_push_size _ rfl, rfl, rfl⟩)
  self := fun hi h => wpAny_pyIter_tupleiter hi h
  next := fun k F hI hi h => by
    obtain ⟨v, hv⟩ : ∃ v, xs[_]? = some v := ⟨_, List.getElem?_eq_getElem hi⟩
    exact nx_tup F hI (hl.keeps k) hv fun s' F' => h s' v hv F'
  stop := fun k hh F hI h => nx_tupE hh F hI (hl.keeps k) (List.getElem?_eq_none (Nat.le_refl _)) h
  lot := fun hi h => let ⟨o, ho, hc, _⟩ := hi; lot_n ho hc (.inr (.inl rfl)) h
theorem itb_rg {w : World} {H : Heap} {r : Addr} {a n : Nat} {b : Int} (hr : RgAt H r a b) (ha : a < 1000) (hb : b < 1000) (hb0 : 0 ≤ b) (hn : n = (b - a).toNat) : Itb w H (.ref r) n (fun i v => ∃ t, v = .int ((a + i : Nat) : Int) t) (fun i => riP ((a + i : Nat) : Int) ((n : Int) - i)) where
  start := fun k h => by
    obtain ⟨t, u, v, hr⟩ := hr
    refine wpAny_pyIter_range (k _ _ hr) (small_one (by lia) (by lia) (by lia) (by lia)) ?_
    rw [rangeSize_one]
    refine h _ _ (none_of_size (Nat.le_refl _)) (.heap _ fun _ _ e => Heap.get?_push_of_some _ e) ?_
    have e : (if (a : Int) < b then b - a else 0) = (n : Int) - (0 : Nat) := by split <;> lia
    rw [e]
    exact Heap.get?_push_size _ rfl
  self := fun hi h => wpAny_pyIter_rangeiter hi h
  next := fun k F hI hi h => by
    refine nx_rg F hI (by lia) fun s' t F' => h s' _ ⟨t, rfl⟩ ?_
    rename_i i
    have e : riP (((a + i : Nat) : Int) + 1) ((n : Int) - i - 1) = riP ((a + (i + 1) : Nat) : Int) ((n : Int) - (i + 1 : Nat)) := by
      rw [show ((a + i : Nat) : Int) + 1 = ((a + (i + 1) : Nat) : Int) by lia, show (n : Int) - i - 1 = (n : Int) - (i + 1 : Nat) by lia]
    rw [← e]; exact F'
  stop := fun k hh F hI h => nx_rgE hh F hI (by lia) h
  lot := fun hi h => lot_n hi rfl (.inr (.inr rfl)) h
theorem Itb.keeps {w : World} {H H' : Heap} {x : Value} {n : Nat} {P : Nat → Value → Prop} {st : Nat → Mv} (i : Itb w H x n P st) (k : ∀ b o, H.get? b = some o → H'.get? b = some o) : Itb w H' x n P st :=
  ⟨fun k' => i.start fun b o e => k' b o (k b o e), i.self, fun k' => i.next fun b o e => k' b o (k b o e), fun k' => i.stop fun b o e => k' b o (k b o e), i.lot⟩

theorem comp_go {w : World} {A : Around} {s : Shared} {elt target iter : Expr} {ifs : List Expr} {scope : Scope} {pos : Pos} {it acc : Value} {env : Env} {R : Result → Shared → Prop} (n : Nat) (J : Nat → Shared → Prop) (h0 : J 0 s)
    (turn : ∀ i s, i ≤ n → J i s → wpAny (Md w) A (pyNext it) (fun r s₁ => match r with
      | none => R (.ok .next) s₁
      | some v => i < n ∧ wpAny (Md w) A (letOwnedTupleGo target it v) (fun _ s₁ => wpAny (Md w) A (assign target env v) (fun _ s₂ =>
          wpAny (Md w) A (forIn ifs true fun c r => if r = true then do let ok ← isTrue c env (eval c env); pure (ForInStep.yield ok) else pure (ForInStep.yield r)) (fun ok s₃ =>
            if ok = true then wpAny (Md w) A (eval elt env) (fun x s₄ => wpAny (Md w) A (call (.builtin "list.append") [acc, x]) (fun _ s₅ => J (i + 1) s₅) (fun _ _ => False) s₄) (fun _ _ => False) s₃
            else J (i + 1) s₃) (fun _ _ => False) s₂) (fun _ _ => False) s₁) (fun _ _ => False) s₁) (fun _ _ => False) s) :
    codeAny (Md w) A (.compLoop (.ListComp elt [⟨target, iter, ifs, 0⟩] scope pos) 0 it acc env) R s := by
  refine codeAny_loop rfl (fun k s => ∃ i, i ≤ n ∧ k = n - i ∧ J i s) (fun k s hI => ?_) n ⟨0, Nat.zero_le _, rfl, h0⟩
  obtain ⟨i, hi, rfl, hJ⟩ := hI
  show wpAny _ A ((compTurn (.ListComp elt [⟨target, iter, ifs, 0⟩] scope pos) 0 it acc env).onRaise (fun x => do noteFrame x env; theTreesLotGoes x)) _ _ s
  refine wpAny_noted ?_
  rw [compTurn_list]
  refine wpAny_bind (wpAny_standAt (wpAny_bind (wpAny_mono (turn i s hi hJ) (fun r s₁ h₁ => ?_) fun _ _ h' => h'.elim)))
  cases r with
  | none => exact wpAny_pure h₁
  | some v =>
    obtain ⟨hlt, h₁⟩ := h₁
    refine wpAny_bind (wpAny_mono h₁ (fun _ s₁ h₁ => ?_) fun _ _ h' => h'.elim)
    refine wpAny_bind (wpAny_mono h₁ (fun _ s₂ h₂ => wpAny_bind (wpAny_mono h₂ (fun ok s₃ h₃ => ?_) fun _ _ h' => h'.elim)) fun _ _ h' => h'.elim)
    cases ok with
    | false => exact wpAny_pure ⟨rfl, n - (i + 1), by lia, i + 1, hlt, rfl, h₃⟩
    | true =>
      exact wpAny_bind (wpAny_bind (wpAny_mono h₃ (fun x s₄ h₄ => wpAny_bind (wpAny_mono h₄ (fun _ s₅ h₅ => wpAny_pure (wpAny_pure ⟨rfl, n - (i + 1), by lia, i + 1, hlt, rfl, h₅⟩)) fun _ _ h' => h'.elim)) fun _ _ h' => h'.elim))

abbrev cEnv (scope : Scope) (cl : List (Str × Addr)) (C : Addr) (env : Env) : Env := compEnvC scope (cellsFrom (C + 1) scope.names cl) C env
abbrev cOwn (scope : Scope) (C : Addr) : List (Str × Addr) := cellsFrom (C + 1) scope.names []

/-- the frame of a comprehension -/
theorem comp_env {w : World} {A : Around} {E : Value → Shared → Prop} {B s : Shared} {env : Env} {scope : Scope} {cl : List (Str × Addr)} {mu : Addr → Option Mv} {Q : Env → Shared → Prop} (hS : Ext B s) (hmu : ∀ a v, mu a = some v → v.At s.heap a ∧ B.heap.get? a = none)
    (hck : ∀ x, (x, NameKind.cell) ∈ scope.names → (relabel scope env).names.lookup x = some .cell)
    (h : ∀ C s' cenv, cenv.locals = C → ({ cenv with scope := relabel scope env } : Env) = cEnv scope cl C env → Frm B (cEnv scope cl C env) (cOwn scope C) (fun _ => none) mu s' → Ext s s' → s.heap.get? C = none → Q cenv s') :
    wpAny (Md w) A (newFunctionEnv scope env.globals cl [] env.qual none .none (some env)) Q E s := by
  simp only [newFunctionEnv, Option.isSome_some, if_true]
  refine wpAny_bind (wpAny_alloc ?_)
  refine wpAny_bind (wpAny_layCells _ (fun name kind cells => by cases hkc : kind == NameKind.cell <;> simp [hkc]) _ _ _ _ ?_)
  have ok := cellsFrom_ok scope.names (s.heap.push { cls := .type "dict", data := .dict #[] }) (s.heap.objs.size + 1) [] ⟨fun _ _ hm => (nomatch hm), List.Pairwise.nil⟩ (by rw [Heap.size_push]; exact Nat.le_refl _)
  rw [Heap.size_push] at ok
  rw [show ({ s with heap := s.heap.push { cls := .type "dict", data := .dict #[] } } : Shared).heap.objs.size = s.heap.objs.size + 1 from Heap.size_push ..]
  have hn : ∀ a, s.heap.objs.size ≤ a → B.heap.get? a = none := fun a q => none_back hS.get (none_of_size q)
  have hk : ∀ b o, s.heap.get? b = some o → (pushCells (s.heap.push { cls := .type "dict", data := .dict #[] }) scope.names).get? b = some o := fun b o e => pushCells_keeps _ _ b o (Heap.get?_push_of_some _ e)
  refine wpAny_bind (wpAny_pure (wpAny_pure (h s.heap.objs.size _ _ rfl rfl ⟨?_, ?_, ?_, ?_, ?_, ?_, ?_, ?_⟩ ?_ (none_of_size (Nat.le_refl _)))))
  · obtain ⟨hh, tk, rfl⟩ := hS.same; exact ⟨_, _, rfl⟩
  · exact fun b o e => hk b o (hS.get b o e)
  · exact ⟨_, (Heap.Ns.new s.heap (.type "dict")).keeps (pushCells_keeps _ _), fun _ _ => rfl⟩
  · exact hn _ (Nat.le_refl _)
  · cases e : mu s.heap.objs.size with
    | none => exact e
    | some v => obtain ⟨o, ho⟩ := mv_some (hmu _ v e).1; rw [none_of_size (Nat.le_refl _)] at ho; cases ho
  · intro x c hc
    have hlt := (ok.empty x c (mem_of_lookup hc)).2
    refine ⟨(ok.empty x c (mem_of_lookup hc)).1, hn _ (Nat.le_of_lt hlt), Nat.ne_of_gt hlt, ?_, ?_⟩
    · cases e : mu c with
      | none => rfl
      | some v => obtain ⟨o, ho⟩ := mv_some (hmu _ v e).1; rw [none_of_size (Nat.le_of_lt hlt)] at ho; cases ho
    · rcases cellsFrom_kind _ _ _ hc with q | q
      · exact hck x q
      · cases q
  · exact ok.apart
  · exact fun a v e => let ⟨p, q⟩ := hmu a v e; ⟨mv_of (fun o => hk a o) p, q⟩
  · exact .heap s hk

def mapf {α : Type} (p : Nat → Bool) (f : Nat → α) (n : Nat) : List α := ((List.range n).filter p).map f
theorem mapf_succ {α : Type} (p : Nat → Bool) (f : Nat → α) (n : Nat) : mapf p f (n + 1) = mapf p f n ++ (if p n then [f n] else []) := by
  unfold mapf; rw [List.range_succ, List.filter_append, List.map_append]
  cases h : p n <;> simp [h]
theorem mapf_len {α : Type} (p : Nat → Bool) (f : Nat → α) (n : Nat) : (mapf p f n).length ≤ n := by
  unfold mapf; rw [List.length_map]; exact Nat.le_trans (List.length_filter_le _ _) (by rw [List.length_range]; exact Nat.le_refl _)
theorem mapf_true {α : Type} (f : Nat → α) (n : Nat) : mapf (fun _ => true) f n = (List.range n).map f := by
  unfold mapf; rw [List.filter_eq_self.mpr fun _ _ => rfl]

theorem n_lstX {w : World} {A : Around} {E : Value → Shared → Prop} {s : Shared} {vs : List Value} {Q : Value → Shared → Prop} (h : ∀ s' a, s.heap.get? a = none → s'.heap.PlainList a vs.toArray → Ext s s' → Q (.ref a) s') (hsz : vs.length ≤ sizeLine) :
    wpAny (Md w) A (newList vs) Q E s :=
  wpAny_newObj_type (h _ _ (none_of_size (Nat.le_refl _)) ⟨0, Heap.get?_push_size _ rfl⟩ (.heap s fun _ _ e => Heap.get?_push_of_some _ e)) (by show vs.toArray.size ≤ sizeLine; rw [List.size_toArray]; exact hsz)

theorem l_appendX {w : World} {A : Around} {E : Value → Shared → Prop} {B s : Shared} {env : Env} {cs : List (Str × Addr)} {m : Str → Option Value} {mu : Addr → Option Mv} {l : Addr} {xs : List Value} {v : Value} {Q : Value → Shared → Prop} (F : Frm B env cs m mu s) (hl : mu l = some (.lst xs)) (hz : xs.length ≤ 1000)
    (h : ∀ s', Frm B env cs m (mup mu l (.lst (xs ++ [v]))) s' → (∀ b o, b ≠ l → s.heap.get? b = some o → s'.heap.get? b = some o) → Q .none s') :
    wpAny (Md w) A (call (.builtin "list.append") [.ref l, v]) Q E s := by
  refine wpAny_list_append_plain (F.lst hl) (fun h' hp hs => ?_) (by rw [List.size_toArray, sizeLine_eq]; lia)
  refine h _ (F.chg hl (fun b o q e => hs.extBut b o q e) (v := .lst (xs ++ [v])) ?_) fun b o q e => hs.extBut b o q e
  show h'.PlainList l (xs ++ [v]).toArray
  simpa using hp
theorem mup2 {k1 k2 a : Addr} {v1 v2 v : Mv} (h : mup (mup mu0 k1 v1) k2 v2 a = some v) : (a = k2 ∧ v = v2) ∨ (a ≠ k2 ∧ a = k1 ∧ v = v1) := by
  by_cases q3 : a = k2
  · subst q3; rw [mup_same] at h; cases h; exact .inl ⟨rfl, rfl⟩
  · rw [mup_ne q3] at h
    by_cases q2 : a = k1
    · subst q2; rw [mup_same] at h; cases h; exact .inr ⟨q3, rfl, rfl⟩
    · rw [mup_ne q2] at h; cases h

section
variable {w : World} {A : Around} {E : Value → Shared → Prop} {s₁ : Shared} {env : Env} {elt target iter : Expr} {ifs : List Expr} {scope : Scope} {pos : Pos} {cl : List (Str × Addr)} {x : Value} {n : Nat} {P : Nat → Value → Prop} {st : Nat → Mv} {α : Type}
  {R : Heap → Value → α → Prop} {p : Nat → Bool} {f : Nat → α} {N : Nat → (Str → Option Value) → Prop}

/-- what a comprehension's parts do: the target, the tests, the item -/
structure CompOk (w : World) (A : Around) (s₁ : Shared) (env : Env) (target : Expr) (ifs : List Expr) (elt : Expr) (scope : Scope) (cl : List (Str × Addr)) (n : Nat) (P : Nat → Value → Prop)
    (R : Heap → Value → α → Prop) (p : Nat → Bool) (f : Nat → α) (N : Nat → (Str → Option Value) → Prop) : Prop where
  mono : ∀ h h' v a, (∀ b o, h.get? b = some o → h'.get? b = some o) → R h v a → R h' v a
  asg : ∀ i v C B' m mu s, i < n → P i v → (∀ b o, s₁.heap.get? b = some o → B'.heap.get? b = some o) → Frm B' (cEnv scope cl C env) (cOwn scope C) m mu s →
    wpAny (Md w) A (assign target (cEnv scope cl C env) v) (fun _ s' => ∃ m', Frm B' (cEnv scope cl C env) (cOwn scope C) m' mu s' ∧ N i m') (fun _ _ => False) s
  tst : ∀ i C B' m mu s, i < n → (∀ b o, s₁.heap.get? b = some o → B'.heap.get? b = some o) → Frm B' (cEnv scope cl C env) (cOwn scope C) m mu s → N i m →
    wpAny (Md w) A (forIn ifs true fun c r => if r = true then do let ok ← isTrue c (cEnv scope cl C env) (eval c (cEnv scope cl C env)); pure (ForInStep.yield ok) else pure (ForInStep.yield r))
      (fun ok s' => Frm B' (cEnv scope cl C env) (cOwn scope C) m mu s' ∧ ok = p i) (fun _ _ => False) s
  itm : ∀ i C B' m mu s, i < n → p i = true → (∀ b o, s₁.heap.get? b = some o → B'.heap.get? b = some o) → Frm B' (cEnv scope cl C env) (cOwn scope C) m mu s → N i m →
    wpAny (Md w) A (eval elt (cEnv scope cl C env)) (fun y s' => Frm B' (cEnv scope cl C env) (cOwn scope C) m mu s' ∧ R (NH s s') y (f i)) (fun _ _ => False) s

theorem comp_core {RR : Value → Addr → Result → Shared → Prop} (hh : A.handled = none) (hz : n ≤ 900) (hck : ∀ x, (x, NameKind.cell) ∈ scope.names → (relabel scope env).names.lookup x = some .cell)
    (It : Itb w s₁.heap x n P st) (X : CompOk w A s₁ env target ifs elt scope cl n P R p f N)
    (hRR : ∀ s' D C B' ys m', Ext s₁ s' → s₁.heap.get? D = none → s₁.heap.get? C = none → D ≠ C → s'.heap.Ns C m' → s'.heap.PlainList D ys.toArray → (∀ b o, B'.heap.get? b = some o → s'.heap.get? b = some o) → B'.heap.get? C = none →
      Al (R (NH s₁ B')) ys (mapf p f n) → RR (.ref D) C (.ok .next) s') :
    wpAny (Md w) A (pyIter x) (fun it s₂ => wpAny (Md w) A (newList []) (fun acc s₃ => wpAny (Md w) A (newFunctionEnv scope env.globals cl [] env.qual none .none (some env)) (fun cenv s₄ =>
      codeAny (Md w) A (.compStart (.ListComp elt [⟨target, iter, ifs, 0⟩] scope pos) 0 it acc { cenv with scope := relabel scope env }) (RR acc cenv.locals) s₄) E s₃) E s₂) E s₁ := by
  refine It.start (fun b o e => e) fun s₂ I hI e₂ hIa => ?_
  refine n_lstX (fun s₃ D hD hDl e₃ => ?_) (Nat.zero_le _)
  have hID : I ≠ D := fun q => by obtain ⟨o, ho⟩ := mv_some hIa; rw [q, hD] at ho; cases ho
  have hDs : s₁.heap.get? D = none := none_back e₂.get hD
  refine comp_env (mu := mup (mup mu0 D (.lst [])) I (st 0)) (e₂.trans e₃) (fun a v e => ?_) hck fun C s₄ cenv hCe hcenv F₄ e₄ hC => ?_
  · rcases mup2 e with ⟨rfl, rfl⟩ | ⟨_, rfl, rfl⟩
    · exact ⟨mv_of (fun o => e₃.get _ o) hIa, hI⟩
    · exact ⟨hDl, hDs⟩
  rw [hcenv, hCe]
  have hCs : s₁.heap.get? C = none := none_back (fun b o e => e₃.get b o (e₂.get b o e)) hC
  have hDC : D ≠ C := fun q => by obtain ⟨k, ho⟩ := hDl; rw [q, hC] at ho; cases ho
  have hIa4 : (st 0).At s₄.heap I := (F₄.mus I _ mup_same).1
  have loop : codeAny (Md w) A (.compLoop (.ListComp elt [⟨target, iter, ifs, 0⟩] scope pos) 0 (.ref I) (.ref D) (cEnv scope cl C env)) (RR (.ref D) C) s₄ := by
    refine comp_go n (fun i s => ∃ B' m ys, Frm B' (cEnv scope cl C env) (cOwn scope C) m (mup (mup mu0 D (.lst ys)) I (st i)) s ∧ (∃ hB tB, B' = { s₁ with heap := hB, toks := tB }) ∧ (∀ b o, s₁.heap.get? b = some o → B'.heap.get? b = some o) ∧ Al (R (NH s₁ B')) ys (mapf p f i))
      ⟨s₁, _, [], F₄, ⟨_, _, rfl⟩, fun b o e => e, .nil⟩ fun i s hi hJ => ?_
    obtain ⟨B', m, ys, F, eB, hB, hA⟩ := hJ
    have hsame : Ext s₁ s := ⟨by obtain ⟨h1, t1, e1⟩ := F.same; obtain ⟨h2, t2, e2⟩ := eB; rw [e2] at e1; exact ⟨h1, t1, e1⟩, fun b o e => F.keep b o (hB b o e)⟩
    by_cases hlt : i < n
    · refine It.next hsame.get F mup_same hlt fun s₅ v hv F₅ => ⟨hlt, It.lot (F₅.mus I _ mup_same).1 ?_⟩
      rw [mup_mup] at F₅
      refine wpAny_mono (X.asg i v C B' m _ s₅ hlt hv hB F₅) (fun _ s₆ h₆ => ?_) fun _ _ z => z
      obtain ⟨m', F₆, hN⟩ := h₆
      refine wpAny_mono (X.tst i C B' m' _ s₆ hlt hB F₆ hN) (fun ok s₇ h₇ => ?_) fun _ _ z => z
      obtain ⟨F₇, rfl⟩ := h₇
      by_cases hp : p i = true
      · rw [if_pos hp]
        refine wpAny_mono (X.itm i C B' m' _ s₇ hlt hp hB F₇ hN) (fun y s₈ h₈ => ?_) fun _ _ z => z
        obtain ⟨F₈, hy⟩ := h₈
        refine l_appendX F₈ ((mup_ne hID.symm).trans mup_same) (by rw [hA.length]; have := mapf_len p f i; lia) fun s₉ F₉ hs₉ => ?_
        have F₁₀ : Frm B' (cEnv scope cl C env) (cOwn scope C) m' (mup (mup mu0 D (.lst (ys ++ [y]))) I (st (i + 1))) s₉ := F₉.sub fun a v e => by
          rcases mup2 e with ⟨rfl, rfl⟩ | ⟨h1, rfl, rfl⟩
          · exact (mup_ne hID).trans mup_same
          · exact mup_same
        have kp : ∀ b o, B'.heap.get? b = some o → (reb B' s₇ s₉).heap.get? b = some o := reb_base F₁₀.keep
        refine ⟨reb B' s₇ s₉, m', ys ++ [y], F₇.reb F₁₀ (fun a v e => ?_), ?_, fun b o e => kp b o (hB b o e), ?_⟩
        · rcases mup2 e with ⟨rfl, rfl⟩ | ⟨h1, rfl, rfl⟩
          · exact ⟨_, mup_same⟩
          · exact ⟨_, (mup_ne h1).trans mup_same⟩
        · obtain ⟨h1, t1, e1⟩ := F₁₀.same; obtain ⟨h2, t2, e2⟩ := eB
          rw [e2] at e1; rw [e1]; exact ⟨_, _, rfl⟩
        · rw [mapf_succ, if_pos hp]
          refine (hA.mono fun v a q => X.mono _ _ _ _ (NH_mono fun b o _ e => kp b o e) q).append (.cons (X.mono _ _ _ _ (fun b o e => ?_) hy) .nil)
          obtain ⟨h1, h2⟩ := of_NH e
          have hs7 : s₁.heap.get? b = none := none_back (s := s₁) (s' := s₇) (fun b o e => F₇.keep b o (hB b o e)) h2
          refine NH_get (reb_new ?_ h2) hs7
          refine hs₉ b o (fun q => ?_) h1
          have := (F₇.fresh h2).2.2.2
          rw [q, mup_ne hID.symm, mup_same] at this; cases this
      · rw [if_neg hp]
        refine ⟨B', m', ys, F₇, eB, hB, ?_⟩
        rw [mapf_succ, if_neg hp, List.append_nil]; exact hA
    · have hie : i = n := by lia
      subst hie
      refine It.stop hsame.get hh F mup_same fun s₅ F₅ => ?_
      obtain ⟨ml, hml, _⟩ := F₅.ns
      refine hRR s₅ D C B' ys ml ⟨?_, fun b o e => F₅.keep b o (hB b o e)⟩ hDs hCs hDC hml (F₅.lst ?_) F₅.keep F₅.newL hA
      · obtain ⟨h1, t1, e1⟩ := F₅.same; obtain ⟨h2, t2, e2⟩ := eB; rw [e2] at e1; exact ⟨h1, t1, e1⟩
      · rw [mdel_ne hID.symm, mup_ne hID.symm]; exact mup_same
  exact codeAny_compStart_list loop (It.self hIa4 loop)

theorem comp_list {s : Shared} {Q : Value → Shared → Prop} (hh : A.handled = none)
    (h : wpAny (Md w) A (eval iter env) (fun x s₁ => ∃ n P st α R p f N, n ≤ 900 ∧ Itb w s₁.heap x n P st ∧ @CompOk α w A s₁ env target ifs elt scope cl n P R p f N ∧
      ∀ s' D ys, Ext s₁ s' → (NH s₁ s').PlainList D ys.toArray → Al (R (NH s₁ s')) ys (mapf p f n) → Q (.ref D) s') E s)
    (hclos : closureFor scope env = pure cl) (hkind : scope.kind = .function := by rfl)
    (hnames : ∀ y ∈ scope.names, y.2 = .local → scope.names.lookup y.1 = some .local) (hck : ∀ x, (x, NameKind.cell) ∈ scope.names → (relabel scope env).names.lookup x = some .cell)
    (hs : ∀ x, foldedSetIterable iter env x = pure x := by intro _; rfl) :
    wpAny (Md w) A (eval (.ListComp elt [⟨target, iter, ifs, 0⟩] scope pos) env) Q E s := by
  rw [eval_ListComp]
  refine wpAny_comprehension_free (use := none) rfl hs hclos hkind hnames (wpAny_mono h (fun x s₁ h₁ => ?_) fun _ _ e => e)
  obtain ⟨n, P, st, α, R, p, f, N, hz, It, X, hQ⟩ := h₁
  refine comp_core (RR := fun acc C => compPost (Md w) A E none Q acc C) hh hz hck It X ?_
  intro s' D C B' ys m' e' hD hC hDC hn hl hB hBC hA
  refine ⟨m', hn, fun h'' hs'' => ?_⟩
  have k : ∀ b o, B'.heap.get? b = some o → h''.get? b = some o := fun b o e => hs''.extBut b o (fun q => by rw [q, hBC] at e; cases e) (hB b o e)
  refine hQ { s' with heap := h'' } D ys ⟨?_, fun b o e => hs''.extBut b o (fun q => by rw [q, hC] at e; cases e) (e'.get b o e)⟩ ?_ (hA.mono fun v a q => X.mono _ _ _ _ (NH_mono (s'' := { s' with heap := h'' }) fun b o _ e => k b o e) q)
  · obtain ⟨h1, t1, rfl⟩ := e'.same; exact ⟨h'', t1, rfl⟩
  · obtain ⟨k0, ho⟩ := hl
    exact ⟨k0, NH_get (s' := { s' with heap := h'' }) (hs''.extBut D _ hDC ho) hD⟩

/-- a comprehension that a local name takes -/
theorem comp_use {B s : Shared} {cs : List (Str × Addr)} {m : Str → Option Value} {mu : Addr → Option Mv} {y : Str} {py spos : Pos} {Q : Flow → Shared → Prop} (hh : A.handled = none)
    (h : wpAny (Md w) A (eval iter env) (fun x s₁ => Frm B env cs m mu s₁ ∧ ∃ n P st α R p f N, n ≤ 900 ∧ Itb w s₁.heap x n P st ∧ @CompOk α w A s₁ env target ifs elt scope cl n P R p f N ∧
      ∀ s' D ys, Frm B env cs (upd m y (.ref D)) mu s' → (NH s₁ s').PlainList D ys.toArray → Al (R (NH s₁ s')) ys (mapf p f n) → Q .next s') E s)
    (hsw : swapsWith (.ListComp elt [⟨target, iter, ifs, 0⟩] scope pos) (some (.Name y py)) spos.line env = pure true)
    (hclos : closureFor scope env = pure cl) (hkind : scope.kind = .function := by rfl)
    (hnames : ∀ y ∈ scope.names, y.2 = .local → scope.names.lookup y.1 = some .local) (hck : ∀ x, (x, NameKind.cell) ∈ scope.names → (relabel scope env).names.lookup x = some .cell)
    (hs : ∀ x, foldedSetIterable iter env x = pure x := by intro _; rfl) (hke : env.scope.kind = .function := by rfl) (hy : env.kindOf y = some .local := by rfl) :
    wpAny (Md w) A (exec (.Assign [.Name y py] (.ListComp elt [⟨target, iter, ifs, 0⟩] scope pos) spos) env) Q E s := by
  rw [exec_Assign_Name_used _ _ _ _ hsw]
  refine wpAny_bind (wpAny_standAt (wpAny_bind ?_))
  show wpAny _ A (do let _ ← comprehension (.ListComp elt [⟨target, iter, ifs, 0⟩] scope pos) scope env _ (newList []) false (eval iter env) (some (assign (.Name y py) env))) _ _ s
  refine wpAny_bind (wpAny_mono (wpAny_comprehension_free (use := some (assign (.Name y py) env)) (Q := fun _ s' => Q .next s') rfl hs hclos hkind hnames
    (wpAny_mono h (fun x s₁ h₁ => ?_) fun _ _ e => e)) (fun _ s' hq => wpAny_pure (wpAny_pure hq)) fun _ _ e => e)
  obtain ⟨F, n, P, st, α, R, p, f, N, hz, It, X, hQ⟩ := h₁
  refine comp_core (RR := fun acc C => compPost (Md w) A E (some (assign (.Name y py) env)) (fun _ s' => Q .next s') acc C) hh hz hck It X ?_
  intro s' D C B' ys m' e' hD hC hDC hn hl hB hBC hA
  show wpAny _ A (assign (.Name y py) env (.ref D)) _ _ _
  have F' := F.kept e'
  obtain ⟨ml, hnL, heL⟩ := F.ns
  obtain ⟨oL, _, _, hoL, _⟩ := hnL
  have hLC : env.locals ≠ C := fun q => by rw [q, hC] at hoL; cases hoL
  have hLD : env.locals ≠ D := fun q => by rw [q, hD] at hoL; cases hoL
  obtain ⟨ml', hnL', heL'⟩ := F'.ns
  refine wpAny_assign_Name (wpAny_storeName_local hy hnL' (fun h₂ hn₂ hs₂ => ?_) (by rw [hke]; rfl))
  refine ⟨m', hn.sameBut hs₂ (Ne.symm hLC), fun h₃ hs₃ => ?_⟩
  have k : ∀ b o, b ≠ env.locals → b ≠ C → s'.heap.get? b = some o → h₃.get? b = some o := fun b o q1 q2 e => hs₃.extBut b o q2 (hs₂.extBut b o q1 e)
  have nC : ∀ b, b ≠ C ∨ b = C := fun b => (Decidable.em (b = C)).symm
  have cC : ∀ x c, cs.lookup x = some c → c ≠ C := fun x c hc q => by obtain ⟨⟨o, ho, _⟩, _⟩ := F.cell x c hc; rw [q, hC] at ho; cases ho
  have mC : mu C = none := (F.fresh hC).2.2.2
  have bC : B.heap.get? C = none := (F.fresh hC).1
  refine hQ { s' with heap := h₃, toks := s'.toks + 1 } D ys ?_ ?_ ?_
  · refine ⟨?_, fun b o e => k b o (fun q => ?_) (fun q => ?_) (F'.keep b o e), ⟨_, hn₂.sameBut hs₃ hLC, fun z hz => ?_⟩, F.newL, F.muL, fun z c hc => ?_, F.apart, fun a v hv => ?_⟩
    · obtain ⟨h1, t1, rfl⟩ := F'.same; exact ⟨h₃, _, rfl⟩
    · rw [q, F.newL] at e; cases e
    · rw [q, bC] at e; cases e
    · show (if z = y then some _ else ml' z) = if z = y then some _ else m z
      split
      · rfl
      · exact heL' z hz
    · obtain ⟨⟨o, ho, hd⟩, r1, r2, r3, r4⟩ := F'.cell z c hc
      have q : z ≠ y := fun q => by rw [q, hy] at r4; cases r4
      rw [upd_ne q]
      exact ⟨⟨o, k c o r2 (cC z c hc) ho, hd⟩, r1, r2, r3, r4⟩
    · have ⟨pp, z⟩ := F'.mus a v hv
      exact ⟨mv_of (fun o e => k a o (fun q => by rw [q, F.muL] at hv; cases hv) (fun q => by rw [q, mC] at hv; cases hv) e) pp, z⟩
  · obtain ⟨k0, ho⟩ := hl
    exact ⟨k0, NH_get (s' := { s' with heap := h₃, toks := s'.toks + 1 }) (k D _ (Ne.symm hLD) hDC ho) hD⟩
  · refine hA.mono fun v a q => X.mono _ _ _ _ (fun b o e => ?_) q
    obtain ⟨h1, h2⟩ := of_NH e
    exact NH_get (k b o (fun q => by rw [q, hoL] at h2; cases h2) (fun q => by rw [q, hBC] at h1; cases h1) (hB b o h1)) h2
end

def lessP (p q : Nat × Nat) : Bool := lessB p.1 p.2 q.1 q.2
def ladB (ps : List (Nat × Nat)) : Bool := (mapf (fun i => !lessP (ps.getD i (0, 0)) (ps.getD (i + 1) (0, 0))) (fun i => ((1 + i : Nat) : Int)) (ps.length - 1)).isEmpty

def IntV (_ : Heap) (v : Value) (z : Int) : Prop := ∃ t, v = .int z t
theorem ra_al {α : Type} {h : Heap} {R : Value → α → Prop} {enc : α → PyData} {vs : List Value} {as : List α} (hx : ∀ v a, R v a → Rd h v (enc a)) (a : Al R vs as) : ∃ bs, ReadsAll h vs (as.map enc) bs := by
  induction a with
  | nil => exact ⟨_, .nil⟩
  | cons x _ ih =>
    obtain ⟨b, hb⟩ := hx _ _ x
    obtain ⟨as, ih⟩ := ih
    exact ⟨_, .cons hb ih⟩
theorem rd_al {α : Type} {h : Heap} {R : Value → α → Prop} {enc : α → PyData} {vs : List Value} {as : List α} {D : Addr} (hl : h.PlainList D vs.toArray) (hx : ∀ v a, R v a → Rd h v (enc a)) (a : Al R vs as) : Rd h (.ref D) (.list (as.map enc)) :=
  let ⟨_, q⟩ := ra_al hx a; rd_lst hl q
theorem rd_int {h H : Heap} {v : Value} {z : Int} (x : IntV H v z) : Rd h v (.int z) := let ⟨t, e⟩ := x; e ▸ ⟨_, .int _ _⟩
theorem shaped_map {α : Type} {enc : α → PyData} (n : Nat) (hn : n ≤ 60) (h1 : ∀ a, (enc a).canLay0 = true) (h2 : ∀ a, (enc a).depth ≤ n) (as : List α) : SeqAt.shaped (.list (as.map enc)) = true := by
  have : ∀ as : List α, PyData.canLayAll0 (as.map enc) = true ∧ PyData.depthAll (as.map enc) ≤ n := fun as => by
    induction as with
    | nil => simp [PyData.canLayAll0, PyData.depthAll]
    | cons z zs ih => simp [PyData.canLayAll0, PyData.depthAll, ih, h1, Nat.max_le, h2]
  have := this as
  simp [SeqAt.shaped, PyData.canLay0, PyData.depth, this.1]
  lia
theorem shaped_ints (zs : List Int) : SeqAt.shaped (.list (zs.map PyData.int)) = true := shaped_map 1 (by decide) (fun _ => rfl) (fun _ => Nat.le_of_ble_eq_true rfl) zs
theorem eqv_nil (ds : List PyData) : PyData.eqv (.list ds) (.list []) = ds.isEmpty := by cases ds <;> simp [PyData.eqv, PyData.eqvAll]

--MAC+
local macro_rules | `(tactic| walk_at "go1") => `(tactic| first
  | ((with_reducible show wpAny _ _ (eval (Expr.Name _ _) _) _ _ _); refine nm_o (hce := rfl) (hl := .inl rfl) (by assumption) (by assumption) ?_)
  )
--MAC-
theorem lead_at {h : Heap} {vs : List Value} {ps : List (Nat × Nat)} (L : Al (LeadV h) vs ps) {i : Nat} (hi : i < ps.length) : ∃ x, vs[i]? = some (.ref x) ∧ LeadAt h x (ps.getD i (0, 0)).1 (ps.getD i (0, 0)).2 := by
  obtain ⟨v, h1, x, rfl, h2⟩ := L.get' (List.getElem?_eq_getElem hi)
  refine ⟨x, h1, ?_⟩
  rw [List.getD_eq_getElem?_getD, List.getElem?_eq_getElem hi]; exact h2

theorem lad_spec {w : World} {A : Around} {E : Value → Shared → Prop} {s : Shared} {l : Addr} {vs : List Value} {ps : List (Nat × Nat)} {Q : Value → Shared → Prop}
    (G : Glb w s.heap) (r : Room A 3) (hl : s.heap.PlainList l vs.toArray) (L : Al (LeadV s.heap) vs ps) (hn : ps.length ≤ 100)
    (h : ∀ s', Ext s s' → Q (.bool (ladB ps)) s') : wpAny (Md w) A (call (.ref 173) [.ref l]) Q E s := by
  have hlen := L.length
  refine call_fnC G r (kLad _) (cLad _) rfl (binds := [("leads", .ref l)]) rfl (fun s₁ F r' => ?_) rfl rfl (by decide)
  walk_at "go"
  refine comp_list (cl := [("leads", s.heap.objs.size + 1)]) r'.hn ?_ ?_ ?_ ?_ ?_
  · walk_at "go"
    refine l_len (by assumption) (hl.at fun o => Frm.keep (by assumption) _ o) (by lia) fun s₄ t₄ F₄ => ?_
    walk_at "go"
    refine n_rg2 F₄ fun s₅ rg F₅ _ hrg _ => ?_
    refine ⟨ps.length - 1, _, _, Int, IntV, fun i => !lessP (ps.getD i (0, 0)) (ps.getD (i + 1) (0, 0)), fun i => ((1 + i : Nat) : Int), fun i m => ∃ t, m "k" = some (.int ((1 + i : Nat) : Int) t), by lia, itb_rg (a := 1) hrg (by decide) (by lia) (by lia) (by lia), ⟨fun _ _ _ _ _ q => q, ?_, ?_, ?_⟩, ?_⟩
    · intro i v C B' m mu s hi hv hB F
      obtain ⟨t, rfl⟩ := hv
      walk_at "go"
      exact ⟨_, by assumption, t, upd_same⟩
    · intro i C B' m mu s hi hB F hN
      obtain ⟨t, hk⟩ := hN
      refine wpAny_tests_one ?_
      have G' := G.keeps fun b o e => hB b o (F₅.keep b o e)
      have c1 : B'.heap.IsCell _ (some (.ref l)) := (F₅.cell "leads" _ rfl).1.keeps hB
      have hl' : B'.heap.PlainList l vs.toArray := hl.at fun o e => hB _ o (F₅.keep _ o e)
      have L' := L.mono fun v a q => q.keeps fun b o e => hB b o (F₅.keep b o e)
      clear G hl L
      obtain ⟨x, hx, Lx⟩ := lead_at L' (i := i) (by lia)
      obtain ⟨y, hy, Ly⟩ := lead_at L' (i := i + 1) (by lia)
      walk_at "go"
      refine s_lst (hl'.at fun o => Frm.keep (by assumption) _ o) (by lia) (by lia) (x := .ref x) (by rw [show (((1 + i : Nat) : Int) - 1).toNat = i by lia]; exact hx) ?_
      refine me_less (by assumption) G' (Lx.keeps (Frm.keep (by assumption))) ?_
      walk_at "go"
      refine s_lst (hl'.at fun o => Frm.keep (by assumption) _ o) (by lia) (by lia) (x := .ref y) (by rw [show ((1 + i : Nat) : Int).toNat = i + 1 by lia]; exact hy) ?_
      walk_at "go"
      rename_i F₉
      refine less_spec (G'.keeps F₉.keep) (r'.le (by lia)) (Lx.keeps F₉.keep) (Ly.keeps F₉.keep) fun s₁₀ e₁₀ => ?_
      walk_at "go"
      exact ⟨F₉.kept e₁₀, rfl⟩
    · intro i C B' m mu s hi hp hB F hN
      obtain ⟨t, hk⟩ := hN
      walk_at "go"
      exact ⟨F, t, rfl⟩
    · intro s' D ys e' hD hA
      walk_at "go"
      refine n_lst (F₅.kept e') (fun s₆ D' F₆ hD' hl₆ e₆ => ?_) (by decide)
      walk_at "go"
      have k : ∀ b o, (NH s₅ s').get? b = some o → s₆.heap.get? b = some o := fun b o e => e₆.get b o (NH_sub b o e)
      refine eq_rd r' (rd_al (enc := PyData.int) (hD.at fun o => k _ o) (fun v a q => rd_int q) hA) (rd_lst hl₆ .nil) (shaped_ints _) rfl ?_
      rw [eqv_nil]
      have := h s₆ F₆.done
      unfold ladB at this
      rw [List.isEmpty_map]
      exact this
  · rfl
  · rfl
  · decide
  · intro x hx; simp at hx

section
variable {w : World} {A : Around} {E : Value → Shared → Prop} {B s : Shared} {env : Env} {cs : List (Str × Addr)} {m : Str → Option Value} {mu : Addr → Option Mv}
theorem l_add {l b : Addr} {xs ys : List Value} {Q : Value → Shared → Prop} (F : Frm B env cs m mu s) (hl : s.heap.PlainList l xs.toArray) (hb : s.heap.PlainList b ys.toArray) (hz : xs.length + ys.length ≤ 2000)
    (h : ∀ s' a, Frm B env cs m mu s' → s.heap.get? a = none → s'.heap.PlainList a (xs ++ ys).toArray → Ext s s' → Q (.ref a) s') : wpAny (Md w) A (binaryOp .Add (.ref l) (.ref b)) Q E s := by
  obtain ⟨n, hl⟩ := hl
  obtain ⟨n', hb⟩ := hb
  refine P.add_list hl hb (h _ _ (F.push _ (tk := s.toks)) (none_of_size (Nat.le_refl _)) ⟨0, ?_⟩ (.heap s fun _ _ e => Heap.get?_push_of_some _ e)) (by rw [List.size_toArray, List.size_toArray, sizeLine_eq]; lia)
  refine (Heap.get?_push_size _ rfl).trans ?_
  simp
theorem mx_fold : ∀ (ns : List Int) (z : Int), z ≤ ns.foldl max z ∧ (∀ a ∈ ns, a ≤ ns.foldl max z) ∧ (ns.foldl max z = z ∨ ns.foldl max z ∈ ns)
  | [], z => ⟨Int.le_refl _, fun _ h => (by cases h), .inl rfl⟩
  | x :: r, z => by
    obtain ⟨h1, h2, h3⟩ := mx_fold r (max z x)
    refine ⟨Int.le_trans (Int.le_max_left _ _) h1, fun a ha => ?_, ?_⟩
    · rcases List.mem_cons.mp ha with rfl | ha
      · exact Int.le_trans (Int.le_max_right _ _) h1
      · exact h2 a ha
    · simp only [List.foldl_cons]
      rcases h3 with h3 | h3
      · rw [h3]
        rcases Int.le_total z x with q | q
        · right; rw [Int.max_eq_right q]; exact .head _
        · left; exact Int.max_eq_left q
      · exact .inr (.tail _ h3)
def mxL (ns : List Int) : Int := ns.foldl max 0
theorem mxL_eq {ns : List Int} {M : Int} (h1 : M ∈ ns) (h2 : ∀ a ∈ ns, a ≤ M) (h3 : 0 ≤ M) : mxL ns = M := by
  obtain ⟨a, b, c⟩ := mx_fold ns 0
  unfold mxL
  have := b M h1
  rcases c with c | c
  · lia
  · have := h2 _ c; lia
theorem ints_of {H : Heap} {vs : List Value} {ns : List Int} (a : Al (IntV H) vs ns) : IntsAre vs ns := by
  induction a with
  | nil => exact .nil
  | cons x _ ih => obtain ⟨t, rfl⟩ := x; exact .cons _ _ ih
theorem l_max {l : Addr} {vs : List Value} {ns : List Int} {H : Heap} {Q : Value → Shared → Prop} (hh : A.handled = none) (F : Frm B env cs m mu s) (hl : s.heap.PlainList l vs.toArray) (ha : Al (IntV H) vs ns) (hne : 0 < ns.length) (h0 : ∀ a ∈ ns, 0 ≤ a)
    (h : ∀ s' t, Frm B env cs m mu s' → Q (.int (mxL ns) t) s') : wpAny (Md w) A (call (.builtin "max") [.ref l]) Q E s := by
  have hi := ints_of ha
  obtain ⟨xs, e⟩ := hi.allInts.items
  have hns : ns = xs.toList.map (·.1) := by
    rw [← hi.numsOf, ← nums_intItems, ← e]
  have hsz : 0 < xs.size := by
    have h3 := hne; rw [hns, List.length_map, Array.length_toList] at h3; exact h3
  have hl := hl.isList
  rw [e] at hl
  refine max_intList hh hl hsz fun v h' tk hv hk => ?_
  obtain ⟨t, rfl⟩ := intItems_at hv
  obtain ⟨h1, h2⟩ := argBest_gt (numAt xs) (xs.size - 1)
  have m1 : numAt xs (argBest (fun i j => decide (numAt xs i > numAt xs j)) (xs.size - 1)) ∈ ns := by
    rw [hns, numAt_eq]; exact getD_mem (by rw [List.length_map, Array.length_toList]; lia)
  have m2 : ∀ a ∈ ns, a ≤ numAt xs (argBest (fun i j => decide (numAt xs i > numAt xs j)) (xs.size - 1)) := fun a ha => by
    rw [hns] at ha
    obtain ⟨j, hj, rfl⟩ := mem_getD ha
    rw [List.length_map, Array.length_toList] at hj
    rw [← numAt_eq]; exact h2 j (by lia)
  have := h _ t (F.hp (h := h') (tk := tk) hk)
  rw [mxL_eq m1 m2 (h0 _ m1)] at this
  exact this
theorem is_bool {a b : Bool} {Q : Value → Shared → Prop} (h : Q (.bool (a == b)) s) : wpAny (Md w) A (compareOp .Is (.bool a) (.bool b)) Q E s :=
  wpAny_is_plain rfl (by cases a <;> cases b <;> exact h)
theorem isnot_bool {a b : Bool} {Q : Value → Shared → Prop} (h : Q (.bool (!(a == b))) s) : wpAny (Md w) A (compareOp .IsNot (.bool a) (.bool b)) Q E s :=
  wpAny_isNot_plain rfl (by cases a <;> cases b <;> exact h)
end

theorem Frm.cellB {B s : Shared} {env : Env} {cs : List (Str × Addr)} {m : Str → Option Value} {mu : Addr → Option Mv} {H : Heap} (x : Str) (v : Value) {c : Addr} (F : Frm B env cs m mu s) (k : ∀ b o, s.heap.get? b = some o → H.get? b = some o) (hv : m x = some v) (hc : cs.lookup x = some c) : H.IsCell c (some v) := by
  have := (F.cell x c hc).1.keeps k
  rw [hv] at this; exact this

def mostTo (ps : List (Nat × Nat)) (rising : Bool) : Nat → List Int
  | 0 => []
  | k + 1 => mostTo ps rising k ++ [1 + mxL (0 :: mapf (fun i => lessP (ps.getD i (0, 0)) (ps.getD k (0, 0)) == rising) (fun i => (mostTo ps rising k).getD i 0) k)]
theorem mostTo_length (ps : List (Nat × Nat)) (rising : Bool) : ∀ k, (mostTo ps rising k).length = k
  | 0 => rfl
  | k + 1 => by rw [mostTo, List.length_append, mostTo_length ps rising k]; rfl
theorem mxL_nonneg (ns : List Int) : 0 ≤ mxL ns := (mx_fold ns 0).1
theorem mostTo_pos (ps : List (Nat × Nat)) (rising : Bool) : ∀ k a, a ∈ mostTo ps rising k → 0 ≤ a
  | 0, a, h => by cases h
  | k + 1, a, h => by
    rw [mostTo] at h
    rcases List.mem_append.mp h with h | h
    · exact mostTo_pos ps rising k a h
    · have := mxL_nonneg (0 :: mapf (fun i => lessP (ps.getD i (0, 0)) (ps.getD k (0, 0)) == rising) (fun i => (mostTo ps rising k).getD i 0) k)
      simp only [List.mem_singleton] at h
      lia
theorem mapf_mem {α : Type} {p : Nat → Bool} {f : Nat → α} {n : Nat} {a : α} (h : a ∈ mapf p f n) : ∃ i, i < n ∧ p i = true ∧ a = f i := by
  unfold mapf at h
  obtain ⟨i, hi, rfl⟩ := List.mem_map.mp h
  obtain ⟨h1, h2⟩ := List.mem_filter.mp hi
  exact ⟨i, List.mem_range.mp h1, h2, rfl⟩

inductive MostJ (s : Shared) (l M I : Addr) (rising : Bool) (ps : List (Nat × Nat)) (i : Nat) (s' : Shared) : Prop
  | mk (m : Str → Option Value) (us : List Value) (F : Frm s (callEnvC fdMost s.heap.objs.size 168) (callEnvC fdMost s.heap.objs.size 168).cells m (mup (mup mu0 M (.lst us)) I (riP i ((ps.length : Int) - i))) s')
      (m1 : m "leads" = some (.ref l)) (m2 : m "rising" = some (.bool rising)) (m3 : m "most" = some (.ref M)) (hA : Al (IntV s.heap) us (mostTo ps rising i))
theorem most_spec {w : World} {A : Around} {E : Value → Shared → Prop} {s : Shared} {l : Addr} {rising : Bool} {vs : List Value} {ps : List (Nat × Nat)} {Q : Value → Shared → Prop}
    (G : Glb w s.heap) (r : Room A 3) (hl : s.heap.PlainList l vs.toArray) (L : Al (LeadV s.heap) vs ps) (hn : ps.length ≤ 100) (hn0 : 0 < ps.length)
    (h : ∀ s' t, Ext s s' → Q (.int (mxL (mostTo ps rising ps.length)) t) s') : wpAny (Md w) A (call (.ref 168) [.ref l, .bool rising]) Q E s := by
  have hlen := L.length
  refine call_fnC G r (kMost _) (cMost _) rfl (binds := [("leads", .ref l), ("rising", .bool rising)]) rfl (fun s₁ F r' => ?_) rfl rfl (by decide)
  walk_at "go"
  refine n_lstM F (fun s₂ M hM F₂ => ?_) (by decide)
  walk_at "go"
  rename_i s₃ F₃
  refine l_len F₃ (hl.at fun o => F₃.keep _ o) (by lia) fun s₄ t₄ F₄ => ?_
  walk_at "go"
  refine n_rg1 F₄ fun s₅ rg F₅ _ hrg _ => ?_
  refine it_rg F₅ hrg (by lia) (by lia) (by lia) (by lia) fun s₆ I hI F₆ => ?_
  obtain ⟨hIM, _⟩ := mup_none hI
  have e6 : riP 0 (if (0 : Int) < (vs.length : Int) then (vs.length : Int) - 0 else 0) = riP ((0 : Nat) : Int) ((ps.length : Int) - (0 : Nat)) := by
    rw [hlen]
    have : (if (0 : Int) < (ps.length : Int) then (ps.length : Int) - 0 else 0) = (ps.length : Int) - ((0 : Nat) : Int) := by split <;> lia
    rw [this]; rfl
  rw [e6] at F₆
  refine for_go ps.length (fun i s' => MostJ s l M I rising ps i s')
    ⟨_, [], F₆, by walk_at "lk", by walk_at "lk", by walk_at "lk", .nil⟩ fun i s₇ hi hJ Qx QB Vx VB => ?_
  clear F F₂ F₃ F₄ F₅ F₆
  obtain ⟨m, us, F₇, hm1, hm2, hm3, hA⟩ := hJ
  by_cases hlt : i < ps.length
  · refine nx_rg F₇ mup_same (by lia) fun s₈ t₈ F₈ => ⟨hlt, ?_⟩
    rw [mup_mup] at F₈
    walk_at "go"
    rename_i s₉ F₉
    refine lm_append (F₉.lst ((mup_ne hIM.symm).trans mup_same)) ?_
    walk_at "go"
    rename_i s₁₀ t₁₀ F₁₀
    refine n_lst F₁₀ (fun s₁₁ Z F₁₁ hZ lZ e₁₁ => ?_) (show 1 ≤ sizeLine by decide)
    refine comp_list (hclos := rfl) r'.hn ?_ ?_ ?_ ?_
    · walk_at "go"
      refine n_rg1 F₁₁ fun s₁₂ rg' F₁₂ _ hrg' e₁₂ => ?_
      refine ⟨i, _, _, Int, IntV, fun j => lessP (ps.getD j (0, 0)) (ps.getD i (0, 0)) == rising, fun j => (mostTo ps rising i).getD j 0, fun j m => ∃ t, m "i" = some (.int (j : Nat) t), by lia, itb_rg (a := 0) hrg' (by decide) (by lia) (by lia) (by lia), ⟨fun _ _ _ _ _ q => q, ?_, ?_, ?_⟩, ?_⟩
      · intro j v C B' m mu s hj hv hB F
        obtain ⟨t, rfl⟩ := hv
        walk_at "go"
        refine ⟨_, by assumption, t, ?_⟩
        rw [upd_same, Nat.zero_add]
      · intro j C B' m' mu' s' hj hB F hN
        obtain ⟨t, hk⟩ := hN
        refine wpAny_tests_one ?_
        have G' := G.keeps fun b o e => hB b o (F₁₂.keep b o e)
        have c1 := F₁₂.cellB "leads" (.ref l) hB (by walk_at "lk") rfl
        have c2 := F₁₂.cellB "rising" (.bool rising) hB (by walk_at "lk") rfl
        have c3 := F₁₂.cellB "k" (.int i t₈) hB (by walk_at "lk") rfl
        have hl' : B'.heap.PlainList l vs.toArray := hl.at fun o e => hB _ o (F₁₂.keep _ o e)
        have L' := L.mono fun v a q => q.keeps fun b o e => hB b o (F₁₂.keep b o e)
        clear G hl L
        obtain ⟨x, hx, Lx⟩ := lead_at L' (i := j) (by lia)
        obtain ⟨y, hy, Ly⟩ := lead_at L' (i := i) (by lia)
        walk_at "go"
        refine s_lst (hl'.at fun o => Frm.keep (by assumption) _ o) (by lia) (by lia) (x := .ref x) hx ?_
        refine me_less (by assumption) G' (Lx.keeps (Frm.keep (by assumption))) ?_
        walk_at "go"
        refine s_lst (hl'.at fun o => Frm.keep (by assumption) _ o) (by lia) (by lia) (x := .ref y) hy ?_
        walk_at "go"
        refine less_spec (G'.keeps F.keep) (r'.le (by lia)) (Lx.keeps F.keep) (Ly.keeps F.keep) fun s₁₃ e₁₃ => ?_
        replace F := F.kept e₁₃
        walk_at "go"
        refine is_bool ?_
        walk_at "go"
        exact ⟨F, rfl⟩
      · intro j C B' m' mu' s' hj hp hB F hN
        obtain ⟨t, hk⟩ := hN
        have c1 := F₁₂.cellB "most" (.ref M) hB (by walk_at "lk") rfl
        have hM' : B'.heap.PlainList M us.toArray := (F₁₂.lst ((mup_ne hIM.symm).trans mup_same)).at fun o e => hB _ o e
        have hjl : j < (mostTo ps rising i).length := by rw [mostTo_length]; exact hj
        obtain ⟨v, hv, hvi⟩ := hA.get' (List.getElem?_eq_getElem hjl)
        walk_at "go"
        refine s_lst (hM'.at fun o => F.keep _ o) (by lia) (by lia) (x := v) hv ?_
        refine ⟨F, ?_⟩
        rw [List.getD_eq_getElem?_getD, List.getElem?_eq_getElem hjl]
        exact hvi
      · intro s₁₃ D ys e₁₃ hD hA'
        refine l_add (F₁₂.kept e₁₃) (lZ.at fun o e => e₁₃.get _ o (e₁₂.get _ o e)) (hD.at fun o => NH_sub _ o) ?_ fun s₁₄ D' F₁₄ _ hD' e₁₄ => ?_
        · have := hA'.length; have := mapf_len (fun j => lessP (ps.getD j (0, 0)) (ps.getD i (0, 0)) == rising) (fun j => (mostTo ps rising i).getD j 0) i
          simp only [List.length_cons, List.length_nil]; lia
        walk_at "go"
        refine l_max r'.hn F₁₄ hD' (H := s.heap) (ns := 0 :: mapf (fun j => lessP (ps.getD j (0, 0)) (ps.getD i (0, 0)) == rising) (fun j => (mostTo ps rising i).getD j 0) i) (.cons ⟨_, rfl⟩ (hA'.mono fun _ _ q => q)) (Nat.succ_pos _) (fun a ha => ?_) fun s₁₅ t₁₅ F₁₅ => ?_
        · rcases List.mem_cons.mp ha with rfl | ha
          · exact Int.le_refl _
          · obtain ⟨j, hj, _, rfl⟩ := mapf_mem ha
            have hjl : j < (mostTo ps rising i).length := by rw [mostTo_length]; exact hj
            rw [List.getD_eq_getElem?_getD, List.getElem?_eq_getElem hjl]
            exact mostTo_pos ps rising i _ (List.getElem_mem hjl)
        walk_at "go"
        rename_i s₁₆ t₁₆ F₁₆
        refine l_append F₁₆ ((mup_ne hIM.symm).trans mup_same) (by rw [hA.length, mostTo_length]; lia) fun s₁₇ F₁₇ => ?_
        walk_at "go"
        refine ⟨_, us ++ [.int (1 + mxL (0 :: mapf (fun j => lessP (ps.getD j (0, 0)) (ps.getD i (0, 0)) == rising) (fun j => (mostTo ps rising i).getD j 0) i)) t₁₆], F₁₇.sub (fun a v e => ?_), by walk_at "lk", by walk_at "lk", by walk_at "lk", ?_⟩
        · rcases mup2 e with ⟨rfl, rfl⟩ | ⟨h1, rfl, rfl⟩
          · rw [mup_ne hIM, mup_same, show (i : Int) + 1 = ((i + 1 : Nat) : Int) by lia, show (ps.length : Int) - i - 1 = (ps.length : Int) - (i + 1 : Nat) by lia]
          · exact mup_same
        · rw [mostTo]
          exact hA.append (.cons ⟨_, rfl⟩ .nil)
    · rfl
    · decide
    · intro x hx; simp at hx
  · have hie : i = ps.length := by lia
    subst hie
    refine nx_rgE r'.hn F₇ mup_same (by lia) fun s₈ F₈ => ?_
    walk_at "go"
    refine l_max r'.hn F₈ (F₈.lst ?_) hA (by rw [mostTo_length]; exact hn0) (mostTo_pos ps rising _) fun s₉ t₉ F₉ => ?_
    · rw [mdel_ne hIM.symm]; exact (mup_ne hIM.symm).trans mup_same
    walk_at "go"
    exact h _ _ F₉.done

def tupP (vs : List Value) : Mv := .prd fun o => o.cls = .type "tuple" ∧ ∃ n, o.data = .seq vs.toArray n
section
variable {w : World} {A : Around} {E : Value → Shared → Prop} {B s : Shared} {env : Env} {cs : List (Str × Addr)} {m : Str → Option Value} {mu : Addr → Option Mv}
theorem Frm.tup (F : Frm B env cs m mu s) {a : Addr} {vs : List Value} (h : mu a = some (tupP vs)) : IsTup s.heap a vs.toArray := let ⟨o, ho, hc, hd⟩ := (F.mus a _ h).1; ⟨o, ho, hc, hd⟩
theorem n_tupM {vs : List Value} {Q : Value → Shared → Prop} (F : Frm B env cs m mu s) (h : ∀ s' a, s.heap.get? a = none → mu a = none → Frm B env cs m (mup mu a (tupP vs)) s' → Q (.ref a) s') (hsz : vs.length ≤ sizeLine) :
    wpAny (Md w) A (newTuple vs) Q E s :=
  wpAny_newObj_type (h _ _ (none_of_size (Nat.le_refl _)) (F.fresh (none_of_size (Nat.le_refl _))).2.2.2 (F.make (v := tupP vs) ⟨_, Heap.get?_push_size _ rfl, rfl, 0, rfl⟩)) (by show vs.toArray.size ≤ sizeLine; rw [List.size_toArray]; exact hsz)
end

section
variable {w : World} {A : Around} {E : Value → Shared → Prop} {B s : Shared} {env : Env} {cs : List (Str × Addr)} {m : Str → Option Value} {mu : Addr → Option Mv} {c P : Addr} {params : Arguments} {body : Expr} {scope : Scope} {pos : Pos} {clos : List (Str × Addr)} {Q : Value → Shared → Prop}
theorem lam_any2 (F : Frm B env cs m mu s) (G : Glb w B.heap) (C : CodeHd B.heap c P)
    (hP : mu P = some (.obj (tabObj #[])) ∨ ∃ c', mu P = some (.obj (tabObj #[rawInt pos.line, rawInt pos.col, .ref c'])) ∧ B.heap.CodeRec (.ref c') (env.qual ++ "<lambda>"))
    (h : ∀ s' q c' pm ctv mu', Frm B env cs m mu' s' → s.heap.get? q = none → mu' q = some (.obj (kla_obj "<lambda>" (env.qual ++ "<lambda>") params body scope clos pm c' ctv)) → mu' P = some (.obj (tabObj #[rawInt pos.line, rawInt pos.col, .ref c'])) →
      (∀ b v, b ≠ P → mu b = some v → mu' b = some v) → ((s.heap.get? c' = none ∧ mu' c' = some (crP (env.qual ++ "<lambda>"))) ∨ (B.heap.CodeRec (.ref c') (env.qual ++ "<lambda>") ∧ mu' P = mu P)) → Q (.ref q) s')
    (hcl : closureFor scope env = pure clos) (hdef : defaultsOf params env = ([], [])) (hge0 : env.globals = mainGlobals) (hcode : env.code = .ref c) :
    wpAny (Md w) A (eval (.Lambda params body scope pos) env) Q E s := by
  rcases hP with hP | ⟨c', hP, hcr⟩
  · refine lam_new F G hP C (fun s' q c' pm ctv hq hc h1 h2 h3 F' => ?_) hcl hdef hge0 hcode
    refine h s' q c' pm ctv _ F' hq mup_same ((mup_ne h2.symm).trans ((mup_ne h1.symm).trans mup_same)) (fun b v hb e => ?_) (.inl ⟨hc, (mup_ne h3.symm).trans mup_same⟩)
    have z : ∀ x, s.heap.get? x = none → b ≠ x := fun x hx q => by rw [q, (F.fresh hx).2.2.2] at e; cases e
    exact (mup_ne (z q hq)).trans ((mup_ne (z c' hc)).trans ((mup_ne hb).trans e))
  · refine lam_hit F G hP C (fun s' q pm ctv hq F' => ?_) hcl hdef hge0 hcode
    have z : ∀ b v, mu b = some v → b ≠ q := fun b v e z => by rw [z, (F.fresh hq).2.2.2] at e; cases e
    exact h s' q c' pm ctv _ F' hq mup_same ((mup_ne (z _ _ hP)).trans hP) (fun b v hb e => (mup_ne (z _ _ e)).trans e) (.inr ⟨hcr, mup_ne (z _ _ hP)⟩)
end
/-- the table of a def's lambda: none yet, or its one -/
def TabOk (T : Addr) (line col : Int) (qual : Str) (h : Heap) : Prop :=
  ∃ tb, h.get? T = some tb ∧ (tb = tabObj #[] ∨ ∃ c', tb = tabObj #[rawInt line, rawInt col, .ref c'] ∧ c' ≠ T ∧ h.CodeRec (.ref c') qual)

def spanOf (rs : List Row) (k : Nat) : Nat × Nat × Nat × Nat :=
  (bs (fun j => !decide (cmpZ (rs.getD j (0, 0, 0)) (rs.getD k (0, 0, 0)) < 0)) rs.length 0 rs.length, bs (fun j => decide (0 < cmpZ (rs.getD j (0, 0, 0)) (rs.getD k (0, 0, 0)))) rs.length 0 rs.length,
   bs (fun j => !decide (cmpZ (rs.getD j (0, 0, 0)) (rs.getD k (0, 0, 0)) < 1)) k 0 k, bs (fun j => decide (-2 < cmpZ (rs.getD j (0, 0, 0)) (rs.getD k (0, 0, 0)))) (rs.length - k) k rs.length)
def SpanAt (h : Heap) (v : Value) (z : Nat × Nat × Nat × Nat) : Prop :=
  ∃ a e t1 t2 t3 t4, v = .ref a ∧ IsTup h a [.int z.1 t1, .int z.2.1 t2, .ref e].toArray ∧ IsTup h e [.int z.2.2.1 t3, .int z.2.2.2 t4].toArray
theorem SpanAt.keeps {h h' : Heap} {v : Value} {z : Nat × Nat × Nat × Nat} (L : SpanAt h v z) (k : ∀ b o, h.get? b = some o → h'.get? b = some o) : SpanAt h' v z :=
  let ⟨a, e, t1, t2, t3, t4, q, x, y⟩ := L; ⟨a, e, t1, t2, t3, t4, q, x.keeps k, y.keeps k⟩
theorem hd151 (P : Params) : codeHdIn (Kp P) 155 151 = true := by kernel_rfl

abbrev qSpan : Str := "_law_span.<locals>.<lambda>"
abbrev cmpK (rs : List Row) (k : Nat) : Nat → Int := fun j => cmpZ (rs.getD j (0, 0, 0)) (rs.getD k (0, 0, 0))
def KeyK (rs : List Row) (k : Nat) (h : Heap) (v : Value) (z : Int) : Prop := ∃ r'', RowAt h v r'' ∧ z = cmpZ r'' (rs.getD k (0, 0, 0))
noncomputable abbrev spanEnv (s : Shared) : Env := callEnvC fdSpan s.heap.objs.size 156
theorem span_spec {w : World} {A : Around} {E : Value → Shared → Prop} {s : Shared} {l o : Addr} {us : List Value} {rs : List Row} {k : Nat} {tk : Tok} {Q : Value → Shared → Prop}
    (G : Glb w (hid s 151).heap) (r : Room A 4) (hT : TabOk 151 131 11 qSpan s.heap) (hl : (hid s 151).heap.PlainList l us.toArray) (L : Al (RowAt (hid s 151).heap) us rs) (O : OrdAt (hid s 151).heap o) (hn : rs.length ≤ 100) (hk : k < rs.length)
    (h : ∀ s' v, Exb 151 s s' → (∃ tb', s'.heap.get? 151 = some tb' ∧ (s.heap.get? 151 = some tb' ∨ ∃ c', tb' = tabObj #[rawInt 131, rawInt 11, .ref c'] ∧ s.heap.get? c' = none ∧ s'.heap.CodeRec (.ref c') qSpan)) → SpanAt (NH s s') v (spanOf rs k) → Q v s') :
    wpAny (Md w) A (call (.ref 156) [.ref l, .int k tk, .ref o]) Q E s := by
  have hlen := L.length
  obtain ⟨tb, hT, htb⟩ := hT
  refine call_fnC (G.keeps fun b o e => of_hid e) r (kSpan _) (cSpan _) rfl (binds := [("rows", .ref l), ("place", .int k tk), ("order", .ref o)]) rfl (fun s₁ F r' => ?_) rfl rfl (by decide)
  replace F : Frm _ (spanEnv s) (spanEnv s).cells _ _ _ := F.hideM (l := 151) (v := .obj tb) hT
  change wpAny _ (A.deeper (spanEnv s)) (execs _ (spanEnv s)) _ _ _
  walk_at "go"
  have hP : mup mu0 151 (.obj tb) 151 = some (.obj (tabObj #[])) ∨ ∃ c', mup mu0 151 (.obj tb) 151 = some (.obj (tabObj #[rawInt 131, rawInt 11, .ref c'])) ∧ (hid s 151).heap.CodeRec (.ref c') qSpan := by
    rcases htb with rfl | ⟨c', rfl, hcT, hcr⟩
    · exact .inl mup_same
    · refine .inr ⟨c', mup_same, ?_⟩
      obtain ⟨c0, o', vs, t, e, g, rest⟩ := hcr
      cases e
      exact ⟨c', o', vs, t, rfl, hid_ne g hcT, rest⟩
  refine lam_any2 F G (codeHd_of_K G.k (hd151 _)) hP (fun s₂ q c' pm ctv mu' F₂ hq hq2 h151 _ hcc => ?_) rfl rfl rfl rfl
  have key : ∀ (sK : Shared) m, Frm (hid s 151) (spanEnv s) (spanEnv s).cells m mu' sK → m "rows" = some (.ref l) → m "place" = some (.int k tk) → m "order" = some (.ref o) →
      KeyF w sK.heap q (KeyK rs k sK.heap) := by
    intro sK m F m1 m2 m3
    refine ⟨⟨_, _, _, _, (F.mus q _ hq2).1⟩, fun A E Q s' v z hCs rA hV hQ => ?_⟩
    obtain ⟨r'', hr'', rfl⟩ := hV
    have GC := G.keeps F.keep
    have hcr : sK.heap.CodeRec (.ref c') qSpan := by
      rcases hcc with ⟨hc, hm⟩ | hc
      · exact crP_rec (F.mus c' _ hm).1
      · exact hc.1.keeps F.keep
    have cR := F.cellB "rows" (.ref l) hCs m1 rfl
    have cP := F.cellB "place" (.int k tk) hCs m2 rfl
    have cO := F.cellB "order" (.ref o) hCs m3 rfl
    refine call_lam (GC.lim.keeps hCs) rA (hCs _ _ (F.mus q _ hq2).1) rfl (hcr.keeps hCs) rfl (binds := [("other", v)]) rfl (fun s₁' F' rr => ?_) (show ∀ x ∈ ([("other", .local), ("order", .free), ("place", .free), ("rows", .free)] : List (Str × NameKind)), x.2 ≠ .cell by decide) (locs rfl)
    have Gs := GC.keeps hCs
    have kp : ∀ b o, (hid s 151).heap.get? b = some o → s'.heap.get? b = some o := fun b o e => hCs b o (F.keep b o e)
    have kp' : ∀ b o, (hid s 151).heap.get? b = some o → s₁'.heap.get? b = some o := fun b o e => F'.keep b o (kp b o e)
    obtain ⟨v', hv', Lk⟩ := L.get' (List.getElem?_eq_getElem hk)
    refine MethodCall_ ?_
    refine nm_o F' cO ?_ rfl rfl (.inr rfl)
    refine me_cmp F' Gs (O.keeps kp') ?_
    walk_at "go"
    refine nm_o F' cR ?_ rfl rfl (.inr rfl)
    walk_at "go"
    refine nm_o F' cP ?_ rfl rfl (.inr rfl)
    walk_at "go"
    refine s_lst (hl.at fun o => kp' _ o) (by lia) (by lia) (by simpa using hv') ?_
    walk_at "go"
    refine cmp_spec (Gs.keeps F'.keep) rr (O.keeps kp') ((hr''.keeps hCs).keeps F'.keep) (Lk.keeps kp') fun s₂' t₂' e₂' => ?_
    have e : cmpZ r'' rs[k] = cmpZ r'' (rs.getD k (0, 0, 0)) := by rw [List.getD_eq_getElem?_getD, List.getElem?_eq_getElem hk]; rfl
    rw [e]
    exact hQ _ _ (F'.kept e₂').done
  have hVV : ∀ (s' : Shared), (∀ b o, (hid s 151).heap.get? b = some o → s'.heap.get? b = some o) → ∀ j v, us[j]? = some v → KeyK rs k s'.heap v (cmpK rs k j) := by
    intro s' kp j v hj
    obtain ⟨r'', hr1, hr2⟩ := L.get hj
    refine ⟨r'', hr2.keeps kp, ?_⟩
    show cmpZ (rs.getD j (0, 0, 0)) (rs.getD k (0, 0, 0)) = _
    rw [List.getD_eq_getElem?_getD (l := rs) (i := j), hr1]; rfl
  walk_at "go"
  rename_i s₃ F₃ s₄ t₄ F₄ s₅ t₅ F₅
  refine bisL_key (kf := cmpK rs k) (lo := 0) (hi := k) (G.keeps F₅.keep) r' (hl.at fun o => F₅.keep _ o) (by lia) (key _ _ F₅ (by walk_at "lk") (by walk_at "lk") (by walk_at "lk")) (hVV _ F₅.keep) (by lia) (by lia) (.inr ⟨_, rfl⟩) (bL4 (G.keeps F₅.keep)) fun s₆ t₆ e₆ => ?_
  replace F₅ := F₅.kept e₆
  walk_at "go"
  rename_i s₇ t₇ F₇ s₈ t₈ F₈
  refine bisR_key (kf := cmpK rs k) (lo := k) (hi := us.length) (G.keeps F₈.keep) r' (hl.at fun o => F₈.keep _ o) (by lia) (key _ _ F₈ (by walk_at "lk") (by walk_at "lk") (by walk_at "lk")) (hVV _ F₈.keep) (by lia) (by lia) (.inl ⟨rfl, rfl⟩) (bR3 (G.keeps F₈.keep)) fun s₉ t₉ e₉ => ?_
  replace F₈ := F₈.kept e₉
  walk_at "go"
  refine n_tupM F₈ (fun s₁₀ a ha hma F₁₀ => ?_) (by rw [sizeLine_eq]; simp)
  have fg : ∀ {B : Shared} {env : Env} {cs : List (Str × Addr)} {m : Str → Option Value} {s : Shared} {vs : List Value}, Frm B env cs m (mup mu' a (tupP vs)) s → Frm B env cs m mu' s := fun F => F.sub fun b v e => (mup_ne fun q => by rw [q, hma] at e; cases e).trans e
  walk_at "go"
  rename_i s₁₁ F₁₁ s₁₂ t₁₂ F₁₂
  obtain ⟨tl, hb⟩ := bL2 (a := .ref l) (x := .int 0 t₁₂) (k := .ref q) (G.keeps F₁₂.keep)
  refine bisL_key (kf := cmpK rs k) (lo := 0) (hi := us.length) (G.keeps F₁₂.keep) r' (hl.at fun o => F₁₂.keep _ o) (by lia) (key _ _ (fg F₁₂) (by walk_at "lk") (by walk_at "lk") (by walk_at "lk")) (hVV _ F₁₂.keep) (by lia) (by lia) (.inl ⟨rfl, rfl⟩) hb fun s₁₃ t₁₃ e₁₃ => ?_
  replace F₁₂ := F₁₂.kept e₁₃
  walk_at "go"
  rename_i s₁₄ t₁₄ F₁₄
  obtain ⟨tl', hb'⟩ := bR2 (a := .ref l) (x := .int 0 t₁₄) (k := .ref q) (G.keeps F₁₄.keep)
  refine bisR_key (kf := cmpK rs k) (lo := 0) (hi := us.length) (G.keeps F₁₄.keep) r' (hl.at fun o => F₁₄.keep _ o) (by lia) (key _ _ (fg F₁₄) (by walk_at "lk") (by walk_at "lk") (by walk_at "lk")) (hVV _ F₁₄.keep) (by lia) (by lia) (.inl ⟨rfl, rfl⟩) hb' fun s₁₅ t₁₅ e₁₅ => ?_
  replace F₁₄ := F₁₄.kept e₁₅
  walk_at "go"
  refine n_tup F₁₄ (fun s₁₆ z F₁₆ hz Tz ez => ?_) (by rw [sizeLine_eq]; simp)
  walk_at "go"
  have nn : ∀ {b : Addr} {v : Mv} {mu : Addr → Option Mv} {B s : Shared} {env : Env} {cs : List (Str × Addr)} {m : Str → Option Value}, Frm (hid B 151) env cs m mu s → mu b = some v → b ≠ 151 → B.heap.get? b = none := by
    intro b v mu B s env cs m F hb h1
    have := (F.mus b v hb).2
    cases q : B.heap.get? b with
    | none => rfl
    | some ob => rw [hid_ne q h1] at this; cases this
  have ha151 : a ≠ 151 := fun q => by rw [q, h151] at hma; cases hma
  have hz1 : s.heap.get? z = none := by
    obtain ⟨f1, f2, f3, f4⟩ := F₁₄.fresh hz
    have h3 : z ≠ 151 := fun q => by
      rw [q] at f4
      exact absurd ((fg F₁₄).fresh hz).2.2.2 (by rw [q, h151]; simp)
    cases q : s.heap.get? z with
    | none => rfl
    | some ob => rw [hid_ne q h3] at f1; cases f1
  refine h s₁₆ _ F₁₆.doneB ?_ ?_
  · refine ⟨_, ((fg F₁₆).mus 151 _ h151).1, ?_⟩
    rcases hcc with ⟨hc, hm⟩ | ⟨hc, hm⟩
    · refine .inr ⟨c', rfl, ?_, crP_rec ((fg F₁₆).mus c' _ hm).1⟩
      have h3 : c' ≠ 151 := fun q => (by obtain ⟨ob, hob⟩ := mv_some (F.mus 151 _ mup_same).1; rw [q, hob] at hc; cases hc)
      cases q : s.heap.get? c' with
      | none => rfl
      | some ob => rw [F.keep _ _ (hid_ne q h3)] at hc; cases hc
    · rw [h151, mup_same] at hm
      cases hm
      exact .inl hT
  · unfold spanOf
    rw [hlen] at *
    exact ⟨z, a, _, _, _, _, rfl, tup_nh Tz hz1, tup_nh (F₁₆.tup mup_same) (nn F₁₆ mup_same ha151)⟩

section
variable {w : World} {A : Around} {E : Value → Shared → Prop} {s : Shared} {env : Env} {elt t0 it0 t1 it1 : Expr} {ifs1 : List Expr} {scope : Scope} {pos : Pos} {it acc : Value} {R : Result → Shared → Prop}
theorem compTurn_in : compTurn (.ListComp elt [⟨t0, it0, [], 0⟩, ⟨t1, it1, ifs1, 0⟩] scope pos) 1 it acc env = (do
      standAt it1.pos
      match ← pyNext it with
      | none => pure (.done .next)
      | some v =>
        letOwnedTupleGo t1 it v
        assign t1 env v
        let mut ok := true
        for c in ifs1 do
          if ok then ok ← isTrue c env (eval c env)
        if ok then
          (do let _ ← call (.builtin "list.append") [acc, ← eval elt env])
        again (.compLoop (.ListComp elt [⟨t0, it0, [], 0⟩, ⟨t1, it1, ifs1, 0⟩] scope pos) 1 it acc env)) := by rfl
theorem compTurn_out : compTurn (.ListComp elt [⟨t0, it0, [], 0⟩, ⟨t1, it1, ifs1, 0⟩] scope pos) 0 it acc env = (do
      standAt it0.pos
      match ← pyNext it with
      | none => pure (.done .next)
      | some v =>
        letOwnedTupleGo t0 it v
        assign t0 env v
        let x ← eval it1 env
        standAt it1.pos
        let x ← foldedSetIterable it1 env x
        let _ ← runOwn (.compStart (.ListComp elt [⟨t0, it0, [], 0⟩, ⟨t1, it1, ifs1, 0⟩] scope pos) 1 (← holding [x] (pyIter x)) acc env) env
        again (.compLoop (.ListComp elt [⟨t0, it0, [], 0⟩, ⟨t1, it1, ifs1, 0⟩] scope pos) 0 it acc env)) := by rfl

theorem start_in (h0 : codeAny (Md w) A (.compLoop (.ListComp elt [⟨t0, it0, [], 0⟩, ⟨t1, it1, ifs1, 0⟩] scope pos) 1 it acc env) R s)
    (h : wpAny (Md w) A (pyIter it) (fun it' s' => codeAny (Md w) A (.compLoop (.ListComp elt [⟨t0, it0, [], 0⟩, ⟨t1, it1, ifs1, 0⟩] scope pos) 1 it' acc env) R s')
      (notedBy (Md w) A env fun x s' => R (.error x) s') s) :
    codeAny (Md w) A (.compStart (.ListComp elt [⟨t0, it0, [], 0⟩, ⟨t1, it1, ifs1, 0⟩] scope pos) 1 it acc env) R s := by
  refine codeAny_of_tree ?_
  show wpAny _ _ ((compStart (.ListComp elt [⟨t0, it0, [], 0⟩, ⟨t1, it1, ifs1, 0⟩] scope pos) 1 it acc env).onRaise (fun x => do noteFrame x env; standAt theWindowsPlace)) _ _ s
  refine wpAny_notedAt ?_
  unfold compStart
  show wpAny _ _ (ask >>= _) _ _ s
  refine wpAny_bind (wpAny_askSetting (wpAny_ite ?_))
  split
  · first
      | exact wpAny_bind (wpAny_pure (wpAny_pure (And.intro rfl h0)))
      | exact wpAny_pure (And.intro rfl h0)
  · first
      | exact wpAny_bind (wpAny_rule (wpAny_bind (wpAny_standAt (wpAny_bind (wpAny_mono h (fun it' s' h' => wpAny_pure (And.intro rfl h')) fun _ _ x => x)))))
      | exact wpAny_bind (wpAny_rule (wpAny_bind (wpAny_mono h (fun it' s' h' => wpAny_pure (And.intro rfl h')) fun _ _ x => x)))

theorem comp_in (n : Nat) (J : Nat → Shared → Prop) (h0 : J 0 s)
    (turn : ∀ i s, i ≤ n → J i s → wpAny (Md w) A (pyNext it) (fun r s₁ => match r with
      | none => R (.ok .next) s₁
      | some v => i < n ∧ wpAny (Md w) A (letOwnedTupleGo t1 it v) (fun _ s₁ => wpAny (Md w) A (assign t1 env v) (fun _ s₂ =>
          wpAny (Md w) A (forIn ifs1 true fun c r => if r = true then do let ok ← isTrue c env (eval c env); pure (ForInStep.yield ok) else pure (ForInStep.yield r)) (fun ok s₃ =>
            if ok = true then wpAny (Md w) A (eval elt env) (fun x s₄ => wpAny (Md w) A (call (.builtin "list.append") [acc, x]) (fun _ s₅ => J (i + 1) s₅) (fun _ _ => False) s₄) (fun _ _ => False) s₃
            else J (i + 1) s₃) (fun _ _ => False) s₂) (fun _ _ => False) s₁) (fun _ _ => False) s₁) (fun _ _ => False) s) :
    codeAny (Md w) A (.compLoop (.ListComp elt [⟨t0, it0, [], 0⟩, ⟨t1, it1, ifs1, 0⟩] scope pos) 1 it acc env) R s := by
  refine codeAny_loop rfl (fun k s => ∃ i, i ≤ n ∧ k = n - i ∧ J i s) (fun k s hI => ?_) n ⟨0, Nat.zero_le _, rfl, h0⟩
  obtain ⟨i, hi, rfl, hJ⟩ := hI
  show wpAny _ A ((compTurn (.ListComp elt [⟨t0, it0, [], 0⟩, ⟨t1, it1, ifs1, 0⟩] scope pos) 1 it acc env).onRaise (fun x => do noteFrame x env; theTreesLotGoes x)) _ _ s
  refine wpAny_noted ?_
  rw [compTurn_in]
  refine wpAny_bind (wpAny_standAt (wpAny_bind (wpAny_mono (turn i s hi hJ) (fun r s₁ h₁ => ?_) fun _ _ h' => h'.elim)))
  cases r with
  | none => exact wpAny_pure h₁
  | some v =>
    obtain ⟨hlt, h₁⟩ := h₁
    refine wpAny_bind (wpAny_mono h₁ (fun _ s₁ h₁ => ?_) fun _ _ h' => h'.elim)
    refine wpAny_bind (wpAny_mono h₁ (fun _ s₂ h₂ => wpAny_bind (wpAny_mono h₂ (fun ok s₃ h₃ => ?_) fun _ _ h' => h'.elim)) fun _ _ h' => h'.elim)
    cases ok with
    | false => exact wpAny_pure ⟨rfl, n - (i + 1), by lia, i + 1, hlt, rfl, h₃⟩
    | true =>
      exact wpAny_bind (wpAny_bind (wpAny_mono h₃ (fun x s₄ h₄ => wpAny_bind (wpAny_mono h₄ (fun _ s₅ h₅ => wpAny_pure (wpAny_pure ⟨rfl, n - (i + 1), by lia, i + 1, hlt, rfl, h₅⟩)) fun _ _ h' => h'.elim)) fun _ _ h' => h'.elim))

theorem comp_out (n : Nat) (J : Nat → Shared → Prop) (h0 : J 0 s) (hs : ∀ x, foldedSetIterable it1 env x = pure x)
    (turn : ∀ i s, i ≤ n → J i s → wpAny (Md w) A (pyNext it) (fun r s₁ => match r with
      | none => R (.ok .next) s₁
      | some v => i < n ∧ wpAny (Md w) A (letOwnedTupleGo t0 it v) (fun _ s₁ => wpAny (Md w) A (assign t0 env v) (fun _ s₂ =>
          wpAny (Md w) A (eval it1 env) (fun x s₃ => wpAny (Md w) A (pyIter x) (fun it' s₄ =>
            codeAny (Md w) A (.compStart (.ListComp elt [⟨t0, it0, [], 0⟩, ⟨t1, it1, ifs1, 0⟩] scope pos) 1 it' acc env) (fun r s' => r = .ok .next ∧ J (i + 1) s') s₄) (fun _ _ => False) s₃) (fun _ _ => False) s₂) (fun _ _ => False) s₁) (fun _ _ => False) s₁) (fun _ _ => False) s) :
    codeAny (Md w) A (.compLoop (.ListComp elt [⟨t0, it0, [], 0⟩, ⟨t1, it1, ifs1, 0⟩] scope pos) 0 it acc env) R s := by
  refine codeAny_loop rfl (fun k s => ∃ i, i ≤ n ∧ k = n - i ∧ J i s) (fun k s hI => ?_) n ⟨0, Nat.zero_le _, rfl, h0⟩
  obtain ⟨i, hi, rfl, hJ⟩ := hI
  show wpAny _ A ((compTurn (.ListComp elt [⟨t0, it0, [], 0⟩, ⟨t1, it1, ifs1, 0⟩] scope pos) 0 it acc env).onRaise (fun x => do noteFrame x env; theTreesLotGoes x)) _ _ s
  refine wpAny_noted ?_
  rw [compTurn_out]
  refine wpAny_bind (wpAny_standAt (wpAny_bind (wpAny_mono (turn i s hi hJ) (fun r s₁ h₁ => ?_) fun _ _ h' => h'.elim)))
  cases r with
  | none => exact wpAny_pure h₁
  | some v =>
    obtain ⟨hlt, h₁⟩ := h₁
    refine wpAny_bind (wpAny_mono h₁ (fun _ s₁ h₁ => ?_) fun _ _ h' => h'.elim)
    refine wpAny_bind (wpAny_mono h₁ (fun _ s₂ h₂ => wpAny_bind (wpAny_mono h₂ (fun x s₃ h₃ => ?_) fun _ _ h' => h'.elim)) fun _ _ h' => h'.elim)
    refine wpAny_bind (wpAny_standAt (wpAny_bind (wpAny_of_eq (hs x) (wpAny_bind (wpAny_holding (wpAny_mono h₃ (fun it' s₄ h₄ => ?_) fun _ _ h' => h'.elim))))))
    refine wpAny_bind (wpAny_runOwn (codeAny_mono h₄ fun r s' hr => ?_))
    obtain ⟨rfl, hr⟩ := hr
    exact wpAny_pure ⟨rfl, n - (i + 1), by lia, i + 1, hlt, rfl, hr⟩
end

def strB (ps : List (Nat × Nat)) : Bool := ps.all fun p => ps.all fun q => !lessP p q
theorem strB_iff (ps : List (Nat × Nat)) : strB ps = true ↔ ∀ i j, i < ps.length → j < ps.length → lessP (ps.getD i (0, 0)) (ps.getD j (0, 0)) = false := by
  unfold strB
  rw [List.all_eq_true]
  constructor
  · intro h i j hi hj
    have := h _ (List.getElem_mem hi)
    rw [List.all_eq_true] at this
    have := this _ (List.getElem_mem hj)
    rw [List.getD_eq_getElem?_getD, List.getD_eq_getElem?_getD, List.getElem?_eq_getElem hi, List.getElem?_eq_getElem hj]
    simpa using this
  · intro h x hx
    rw [List.all_eq_true]
    intro y hy
    obtain ⟨i, hi, rfl⟩ := List.getElem_of_mem hx
    obtain ⟨j, hj, rfl⟩ := List.getElem_of_mem hy
    have := h i j hi hj
    rw [List.getD_eq_getElem?_getD, List.getD_eq_getElem?_getD, List.getElem?_eq_getElem hi, List.getElem?_eq_getElem hj] at this
    simpa using this

abbrev scStr : Scope := { kind := .function, names := [(".0", .local), ("one", .local), ("other", .local), ("leads", .free)], isGenerator := false, isCoroutine := false }
noncomputable abbrev strEnv (L C : Addr) : Env := cEnv scStr [("leads", L + 1)] C (callEnvC fdStr L 178)
inductive StrJ (s₁ : Shared) (H : Heap) (L C D I l : Addr) (ps : List (Nat × Nat)) (i : Nat) (sJ : Shared) : Prop
  | mk (m : Str → Option Value) (ys : List Value) (zs : List Int) (F : Frm s₁ (strEnv L C) (cOwn scStr C) m (mup (mup mu0 D (.lst ys)) I (liP l i)) sJ) (hA : Al (IntV H) ys zs) (hz : zs.length ≤ i * ps.length)
      (hiff : zs = [] ↔ ∀ a b, a < i → b < ps.length → lessP (ps.getD a (0, 0)) (ps.getD b (0, 0)) = false)
inductive StrK (s₁ : Shared) (H : Heap) (L C D I J l x : Addr) (ps : List (Nat × Nat)) (zs : List Int) (i j : Nat) (sJ : Shared) : Prop
  | mk (m' : Str → Option Value) (ys' : List Value) (zs' : List Int) (F : Frm s₁ (strEnv L C) (cOwn scStr C) m' (mup (mup (mup mu0 D (.lst ys')) I (liP l (i + 1))) J (liP l j)) sJ) (m1 : m' "one" = some (.ref x)) (hA' : Al (IntV H) ys' zs')
      (hz' : zs'.length ≤ i * ps.length + j) (hiff' : zs' = [] ↔ zs = [] ∧ ∀ b, b < j → lessP (ps.getD i (0, 0)) (ps.getD b (0, 0)) = false)
theorem str_spec {w : World} {A : Around} {E : Value → Shared → Prop} {s : Shared} {l : Addr} {vs : List Value} {ps : List (Nat × Nat)} {Q : Value → Shared → Prop}
    (G : Glb w s.heap) (r : Room A 3) (hl : s.heap.PlainList l vs.toArray) (L : Al (LeadV s.heap) vs ps) (hn : ps.length ≤ 20)
    (h : ∀ s', Ext s s' → Q (.bool (strB ps)) s') : wpAny (Md w) A (call (.ref 178) [.ref l]) Q E s := by
  have hlen := L.length
  refine call_fnC G r (kStr _) (cStr _) rfl (binds := [("leads", .ref l)]) rfl (fun s₁ F r' => ?_) rfl rfl (by decide)
  walk_at "go"
  rw [eval_ListComp]
  refine wpAny_comprehension_free (cl := [("leads", s.heap.objs.size + 1)]) (use := none) rfl (fun _ => rfl) rfl rfl (by decide) ?_
  show wpAny _ _ (eval (Expr.Name _ _) _) _ _ _
  walk_at "go"
  have It := itb_lst (w := w) (H := s₁.heap) (hl.at fun o => F.keep _ o)
  refine It.start (fun b o e => e) fun s₂ I hI e₂ hIa => ?_
  refine n_lstX (fun s₃ D hD hDl e₃ => ?_) (Nat.zero_le _)
  have hID : I ≠ D := fun q => by obtain ⟨o, ho⟩ := mv_some hIa; rw [q, hD] at ho; cases ho
  have hDs : s₁.heap.get? D = none := none_back e₂.get hD
  refine comp_env (B := s₁) (mu := mup (mup mu0 D (.lst [])) I (liP l 0)) (e₂.trans e₃) (fun a v e => ?_) (by intro x hx; simp at hx) fun C s₄ cenv hCe hcenv F₄ e₄ hC => ?_
  · rcases mup2 e with ⟨rfl, rfl⟩ | ⟨_, rfl, rfl⟩
    · exact ⟨mv_of (fun o => e₃.get _ o) hIa, hI⟩
    · exact ⟨hDl, hDs⟩
  rw [hcenv, hCe]
  change codeAny _ _ (.compStart _ 0 (.ref I) (.ref D) (strEnv s.heap.objs.size C)) _ _
  change Frm _ (strEnv s.heap.objs.size C) _ _ _ _ at F₄
  have hCs : s₁.heap.get? C = none := none_back (fun b o e => e₃.get b o (e₂.get b o e)) hC
  have hDC : D ≠ C := fun q => by obtain ⟨k, ho⟩ := hDl; rw [q, hC] at ho; cases ho
  have hIa4 : (liP l 0).At s₄.heap I := (F₄.mus I _ mup_same).1
  have c1 : s₁.heap.IsCell _ (some (.ref l)) := F.cellB "leads" (.ref l) (fun b o e => e) (by walk_at "lk") rfl
  have hl1 : s₁.heap.PlainList l vs.toArray := hl.at fun o => F.keep _ o
  have L1 := L.mono fun v a q => q.keeps fun b o e => F.keep b o e
  have G1 := G.keeps F.keep
  refine (fun (loop : codeAny _ _ (.compLoop _ 0 (.ref I) (.ref D) _) _ s₄) => codeAny_compStart_list loop (It.self hIa4 loop)) ?_
  refine comp_out ps.length (fun i sJ => StrJ s₁ s.heap s.heap.objs.size C D I l ps i sJ) ⟨_, [], [], F₄, .nil, Nat.zero_le _, by simp⟩ (fun _ => rfl) fun i s₅ hi hJ => ?_
  obtain ⟨m, ys, zs, F₅, hA, hz, hiff⟩ := hJ
  by_cases hlt : i < ps.length
  · refine It.next F₅.keep F₅ mup_same (by lia) fun s₆ v hv F₆ => ⟨hlt, It.lot (F₆.mus I _ mup_same).1 ?_⟩
    rw [mup_mup] at F₆
    obtain ⟨x, hx, Lx⟩ := lead_at L1 hlt
    rw [hx] at hv
    obtain rfl := Option.some.inj hv
    walk_at "go"
    rename_i s₇ F₇
    refine it_lst F₇ (hl1.at fun o => F₇.keep _ o) fun s₈ J hJn F₈ => ?_
    obtain ⟨hJI, hJ1⟩ := mup_none hJn
    obtain ⟨hJD, _⟩ := mup_none hJ1
    refine (fun (loop : codeAny _ _ (.compLoop _ 1 (.ref J) (.ref D) _) _ s₈) => start_in loop (It.self (F₈.mus J _ mup_same).1 loop)) ?_
    refine comp_in ps.length (fun j sJ => StrK s₁ s.heap s.heap.objs.size C D I J l x ps zs i j sJ) ⟨_, ys, zs, F₈, by walk_at "lk", hA, hz, by simp⟩ fun j s₉ hj hJ => ?_
    obtain ⟨m', ys', zs', F₉, m1, hA', hz', hiff'⟩ := hJ
    by_cases hlt' : j < ps.length
    · refine It.next F₉.keep F₉ mup_same (by lia) fun s₁₀ v hv F₁₀ => ⟨hlt', It.lot (F₁₀.mus J _ mup_same).1 ?_⟩
      rw [mup_mup] at F₁₀
      obtain ⟨y, hy, Ly⟩ := lead_at L1 hlt'
      rw [hy] at hv
      obtain rfl := Option.some.inj hv
      walk_at "go"
      refine wpAny_tests_one ?_
      walk_at "go"
      rename_i s₁₁ F₁₁
      refine me_less F₁₁ G1 (Lx.keeps F₁₁.keep) ?_
      walk_at "go"
      refine less_spec (G1.keeps F₁₁.keep) (r'.le (by lia)) (Lx.keeps F₁₁.keep) (Ly.keeps F₁₁.keep) fun s₁₂ e₁₂ => ?_
      replace F₁₁ := F₁₁.kept e₁₂
      walk_at "go"
      have hD1 : (mup (mup (mup mu0 D (.lst ys')) I (liP l (i + 1))) J (liP l (j + 1))) D = some (.lst ys') := (mup_ne hJD.symm).trans ((mup_ne hID.symm).trans mup_same)
      have hij : i * ps.length + ps.length ≤ 400 := by
        have : (i + 1) * ps.length ≤ 20 * 20 := Nat.mul_le_mul (by lia) hn
        rw [Nat.add_mul] at this; lia
      have ev : lessB (ps.getD i (0, 0)).1 (ps.getD i (0, 0)).2 (ps.getD j (0, 0)).1 (ps.getD j (0, 0)).2 = lessP (ps.getD i (0, 0)) (ps.getD j (0, 0)) := rfl
      rw [ev]
      cases hp : lessP (ps.getD i (0, 0)) (ps.getD j (0, 0)) with
      | true =>
        rw [if_pos rfl]
        walk_at "go"
        rename_i s₁₃ t₁₃ F₁₃
        refine l_append F₁₃ hD1 (by rw [hA'.length]; lia) fun s₁₄ F₁₄ => ?_
        refine ⟨_, ys' ++ [.int 1 t₁₃], zs' ++ [1], F₁₄.sub (fun a v e => ?_), by walk_at "lk", hA'.append (.cons ⟨_, rfl⟩ .nil), by rw [List.length_append]; simp only [List.length_singleton]; lia, by simp, fun z => ?_⟩
        · rcases mup3 e with ⟨rfl, rfl⟩ | ⟨h1, rfl, rfl⟩ | ⟨h1, h2, rfl, rfl⟩
          · exact (mup_ne hJD).trans mup_same
          · exact (mup_ne hID).trans ((mup_ne h1).trans mup_same)
          · exact mup_same
        · have := z.2 j (by lia); rw [hp] at this; cases this
      | false =>
        rw [if_neg (by simp)]
        refine ⟨_, ys', zs', F₁₁, by walk_at "lk", hA', by lia, hiff'.trans ⟨fun z => ⟨z.1, fun b hb => ?_⟩, fun z => ⟨z.1, fun b hb => z.2 b (by lia)⟩⟩⟩
        by_cases q : b = j
        · subst q; exact hp
        · exact z.2 b (by lia)
    · have hje : j = ps.length := by lia
      subst hje
      rw [← hlen] at F₉
      refine It.stop F₉.keep r'.hn F₉ mup_same fun s₁₀ F₁₀ => ⟨rfl, ?_⟩
      rw [mdel_mup ((mup_ne hJI).trans ((mup_ne hJD).trans rfl))] at F₁₀
      refine ⟨_, ys', zs', F₁₀, hA', by rw [Nat.add_mul]; lia, hiff'.trans ⟨fun z a b ha hb => ?_, fun z => ⟨hiff.mpr fun a b ha hb => z a b (by lia) hb, fun b hb => z i b (by lia) hb⟩⟩⟩
      by_cases q : a = i
      · subst q; exact z.2 b hb
      · exact hiff.mp z.1 a b (by lia) hb
  · have hie : i = ps.length := by lia
    subst hie
    rw [← hlen] at F₅
    refine It.stop F₅.keep r'.hn F₅ mup_same fun s₆ F₆ => ?_
    rw [mdel_mup ((mup_ne hID).trans rfl)] at F₆
    obtain ⟨ml, hml, _⟩ := F₆.ns
    refine ⟨ml, hml, fun h'' hs'' => ?_⟩
    have k : ∀ b o, s₁.heap.get? b = some o → h''.get? b = some o := fun b o e => hs''.extBut b o (fun q => by rw [q, hCs] at e; cases e) (F₆.keep b o e)
    have hDl' : h''.PlainList D ys.toArray := by
      obtain ⟨k0, ho⟩ := F₆.lst mup_same
      exact ⟨k0, hs''.extBut D _ hDC ho⟩
    have F₇ : Frm s (callEnvC fdStr s.heap.objs.size 178) _ _ mu0 { s₆ with heap := h'' } := F.kept ⟨by obtain ⟨h1, t1, rfl⟩ := F₆.same; exact ⟨h'', t1, rfl⟩, k⟩
    walk_at "go"
    refine n_lst F₇ (fun s₈ D' F₈ hD' hl₈ e₈ => ?_) (by decide)
    walk_at "go"
    refine eq_rd r' (rd_al (enc := PyData.int) (hDl'.at fun o => e₈.get _ o) (fun v a q => rd_int q) hA) (rd_lst hl₈ .nil) (shaped_ints _) rfl ?_
    rw [eqv_nil]
    have := h s₈ F₈.done
    have e : strB ps = (zs.map PyData.int).isEmpty := by
      rw [List.isEmpty_map]
      cases hb : strB ps with
      | true => rw [hiff.mpr fun a b ha hb' => (strB_iff ps).mp hb a b ha hb']; rfl
      | false =>
        cases zs with
        | nil => rw [(strB_iff ps).mpr fun a b ha hb' => hiff.mp rfl a b ha hb'] at hb; cases hb
        | cons z zs => rfl
    rw [e] at this
    walk_at "go"
    exact this

structure PS where
  T : List Int
  P : List (List (Nat × Nat))
  R : List (List (Nat × Nat))
def pWorth (rising : Bool) (p : Nat × Nat) : Int := if rising = true then (p.1 : Int) else -(p.1 : Int)
def pPlace (rising : Bool) (T : List Int) (x : Int) : Nat :=
  if rising = true then bs (fun j => decide (x < T.getD j 0)) T.length 0 T.length else bs (fun j => !decide (T.getD j 0 < x)) T.length 0 T.length
def pRoad (R : List (List (Nat × Nat))) (k : Nat) (p : Nat × Nat) : List (Nat × Nat) := (if 0 < k then R.getD (k - 1) [] else []) ++ [p]
def pStep (rising : Bool) (z : PS) (p : Nat × Nat) : PS :=
  if pPlace rising z.T (pWorth rising p) = z.T.length then ⟨z.T ++ [pWorth rising p], z.P ++ [[p]], z.R ++ [pRoad z.R (pPlace rising z.T (pWorth rising p)) p]⟩
  else ⟨z.T.set (pPlace rising z.T (pWorth rising p)) (pWorth rising p), z.P.set (pPlace rising z.T (pWorth rising p)) (z.P.getD (pPlace rising z.T (pWorth rising p)) [] ++ [p]), z.R.set (pPlace rising z.T (pWorth rising p)) (pRoad z.R (pPlace rising z.T (pWorth rising p)) p)⟩
def pilesTo (rising : Bool) (ps : List (Nat × Nat)) : Nat → PS
  | 0 => ⟨[], [], []⟩
  | i + 1 => pStep rising (pilesTo rising ps i) (ps.getD i (0, 0))
theorem pPlace_le (rising : Bool) (T : List Int) (x : Int) : pPlace rising T x ≤ T.length := by
  unfold pPlace; split
  · exact (bs_le (Nat.zero_le _)).2
  · exact (bs_le (Nat.zero_le _)).2
theorem pilesTo_len (rising : Bool) (ps : List (Nat × Nat)) : ∀ i, (pilesTo rising ps i).P.length = (pilesTo rising ps i).T.length ∧ (pilesTo rising ps i).R.length = (pilesTo rising ps i).T.length ∧ (pilesTo rising ps i).T.length ≤ i ∧ (0 < i → 0 < (pilesTo rising ps i).T.length)
  | 0 => ⟨rfl, rfl, Nat.le_refl _, fun h => h⟩
  | i + 1 => by
    obtain ⟨h1, h2, h3, h4⟩ := pilesTo_len rising ps i
    have hk := pPlace_le rising (pilesTo rising ps i).T (pWorth rising (ps.getD i (0, 0)))
    unfold pilesTo pStep
    split
    · simp [h1, h2]; lia
    · simp [h1, h2]; lia

theorem getD_len {L : List (List (Nat × Nat))} {i : Nat} (h : ∀ q ∈ L, q.length ≤ i) (k : Nat) : (L.getD k []).length ≤ i := by
  rw [List.getD_eq_getElem?_getD]
  rcases Nat.lt_or_ge k L.length with q | q
  · rw [List.getElem?_eq_getElem q]; exact h _ (List.getElem_mem q)
  · rw [List.getElem?_eq_none q]; exact Nat.zero_le _
theorem pilesTo_sm (rising : Bool) (ps : List (Nat × Nat)) : ∀ i, (∀ q ∈ (pilesTo rising ps i).P, q.length ≤ i) ∧ ∀ q ∈ (pilesTo rising ps i).R, q.length ≤ i
  | 0 => ⟨fun _ h => (by cases h), fun _ h => (by cases h)⟩
  | i + 1 => by
    obtain ⟨h1, h2⟩ := pilesTo_sm rising ps i
    have hr : ∀ k p, (pRoad (pilesTo rising ps i).R k p).length ≤ i + 1 := fun k p => by
      unfold pRoad
      rw [List.length_append, List.length_singleton]
      split
      · have := getD_len h2 (k - 1); lia
      · simp
    unfold pilesTo pStep
    split
    · refine ⟨fun q hq => ?_, fun q hq => ?_⟩
      · rcases List.mem_append.mp hq with hq | hq
        · exact Nat.le_succ_of_le (h1 q hq)
        · rw [List.mem_singleton.mp hq]; simp
      · rcases List.mem_append.mp hq with hq | hq
        · exact Nat.le_succ_of_le (h2 q hq)
        · rw [List.mem_singleton.mp hq]; exact hr _ _
    · refine ⟨fun q hq => ?_, fun q hq => ?_⟩
      · rcases List.mem_or_eq_of_mem_set hq with hq | hq
        · exact Nat.le_succ_of_le (h1 q hq)
        · rw [hq, List.length_append, List.length_singleton]; exact Nat.succ_le_succ (getD_len h1 _)
      · rcases List.mem_or_eq_of_mem_set hq with hq | hq
        · exact Nat.le_succ_of_le (h2 q hq)
        · rw [hq]; exact hr _ _

section
variable {w : World} {A : Around} {E : Value → Shared → Prop} {s : Shared}
theorem s_lst_last {value slice : Expr} {l : Addr} {xs : List Value} {u : Tok} {x : Value} {Q : Value → Shared → Prop} (hl : s.heap.PlainList l xs.toArray) (hn : 0 < xs.length) (hx : xs[xs.length - 1]? = some x) (h : Q x s)
    (hs : subscripted slice false (.ref l) (.int (-1) u) = operate [.ref l, .int (-1) u] (getItem (.ref l) (.int (-1) u)) := by with_unfolding_all rfl) :
    wpAny (Md w) A (subscriptTail value slice (.ref l) (.int (-1) u)) Q E s :=
  tail_any hl.isList.typeIs slot_list_getitem.lookup (wpAny_getItem_list_neg hl.isList (by decide) (by rw [List.size_toArray]; lia) (by decide) (by rw [List.size_toArray, show (-1 + (xs.length : Int)).toNat = xs.length - 1 by lia]; simpa using hx) h) hs
end

def RoadV (s : Shared) (H h : Heap) (v : Value) (road : List (Nat × Nat)) : Prop := ∃ b us, v = .ref b ∧ s.heap.get? b = none ∧ h.PlainList b us.toArray ∧ Al (LeadV H) us road
theorem RoadV.keeps {s : Shared} {H h h' : Heap} {v : Value} {p : List (Nat × Nat)} (L : RoadV s H h v p) (k : ∀ b o, h.get? b = some o → h'.get? b = some o) : RoadV s H h' v p :=
  let ⟨b, us, e, n, x, y⟩ := L; ⟨b, us, e, n, x.at fun o => k _ o, y⟩
theorem RoadV.nh {s s' : Shared} {H : Heap} {v : Value} {p : List (Nat × Nat)} (L : RoadV s H s'.heap v p) : RoadV s H (NH s s') v p :=
  let ⟨b, us, e, n, x, y⟩ := L; ⟨b, us, e, n, lst_nh x n, y⟩
/-- piles and the last road -/
def PilesAt (s : Shared) (H h : Heap) (v : Value) (z : List (List (Nat × Nat)) × List (Nat × Nat)) : Prop :=
  ∃ t l pv rv, v = .ref t ∧ IsTup h t [.ref l, rv].toArray ∧ h.PlainList l pv.toArray ∧ Al (RoadV s H h) pv z.1 ∧ RoadV s H h rv z.2

theorem Al.set {α : Type} {R : Value → α → Prop} {vs : List Value} {as : List α} (h : Al R vs as) {v : Value} {a : α} (hv : R v a) (k : Nat) : Al R (vs.set k v) (as.set k a) := by
  induction h generalizing k with
  | nil => exact .nil
  | cons x y ih => cases k with
    | zero => exact .cons hv y
    | succ k => exact .cons x (ih k)
theorem Al.of {α : Type} {R : Value → α → Prop} : ∀ {vs : List Value} {as : List α}, vs.length = as.length → (∀ (j : Nat) v a, vs[j]? = some v → as[j]? = some a → R v a) → Al R vs as
  | [], [], _, _ => .nil
  | [], _ :: _, e, _ => by simp at e
  | _ :: _, [], e, _ => by simp at e
  | v :: vs, a :: as, e, h => .cons (h 0 v a rfl rfl) (Al.of (by simpa using e) fun j v a h1 h2 => h (j + 1) v a (by simpa using h1) (by simpa using h2))

structure PInv (s : Shared) (H : Heap) (l T PL RD I : Addr) (B' : Shared) (mu : Addr → Option Mv) (i : Nat) (z : PS) (tv rv : List Value) (as : List Addr) : Prop where
  hT : mu T = some (.lst tv)
  hP : mu PL = some (.lst (as.map .ref))
  hR : mu RD = some (.lst rv)
  hI : mu I = some (liP l i)
  nd : as.Nodup
  na : ∀ a ∈ as, a ≠ T ∧ a ≠ PL ∧ a ≠ RD ∧ a ≠ I
  aT : Al (IntV s.heap) tv z.T
  aR : Al (RoadV s H B'.heap) rv z.R
  len : as.length = z.P.length
  aP : ∀ (j : Nat) (a : Addr) (p : List (Nat × Nat)), as[j]? = some a → z.P[j]? = some p → ∃ us, mu a = some (.lst us) ∧ Al (LeadV H) us p

inductive PileJ (s : Shared) (H : Heap) (l T PL RD I : Addr) (rising : Bool) (ps : List (Nat × Nat)) (i : Nat) (sJ : Shared) : Prop
  | mk (B' : Shared) (m : Str → Option Value) (mu' : Addr → Option Mv) (tv rv : List Value) (as : List Addr) (F : Frm B' (callEnv fdPiles s.heap.objs.size 163) [] m mu' sJ) (eB : ∃ hB tB, B' = { s with heap := hB, toks := tB }) (hB : ∀ b o, s.heap.get? b = some o → B'.heap.get? b = some o)
      (m1 : m "leads" = some (.ref l)) (m2 : m "rising" = some (.bool rising)) (m3 : m "tops" = some (.ref T)) (m4 : m "piles" = some (.ref PL)) (m5 : m "roads" = some (.ref RD)) (X : PInv s H l T PL RD I B' mu' i (pilesTo rising ps i) tv rv as)
theorem piles_spec {w : World} {A : Around} {E : Value → Shared → Prop} {s : Shared} {H : Heap} {l : Addr} {rising : Bool} {vs : List Value} {ps : List (Nat × Nat)} {Q : Value → Shared → Prop}
    (G : Glb w s.heap) (r : Room A 4) (hl : s.heap.PlainList l vs.toArray) (hH : ∀ b o, H.get? b = some o → s.heap.get? b = some o) (L : Al (LeadV H) vs ps) (hn : ps.length ≤ 100) (hn0 : 0 < ps.length)
    (h : ∀ s' v, Ext s s' → PilesAt s H (NH s s') v ((pilesTo rising ps ps.length).P, (pilesTo rising ps ps.length).R.getD ((pilesTo rising ps ps.length).R.length - 1) []) → Q v s') :
    wpAny (Md w) A (call (.ref 163) [.ref l, .bool rising]) Q E s := by
  have hlen := L.length
  refine call_fn G r (kPiles _) (cPiles _) rfl (binds := [("leads", .ref l), ("rising", .bool rising)]) (BindsTo.of_eq rfl) (fun s₁ F r' => ?_) (by decide) (locs rfl)
  walk_at "go"
  refine n_lstM F (fun s₂ T hT F₂ => ?_) (by decide)
  walk_at "go"
  rename_i s₃ F₃
  refine n_lstM F₃ (fun s₄ PL hPL F₄ => ?_) (by decide)
  walk_at "go"
  rename_i s₅ F₅
  refine n_lstM F₅ (fun s₆ RD hRD F₆ => ?_) (by decide)
  walk_at "go"
  rename_i s₇ F₇
  have n1 := (F₃.fresh hPL).2.2.2
  have n2 := (F₅.fresh hRD).2.2.2
  refine it_lst F₇ (hl.at fun o => F₇.keep _ o) fun s₈ I n3 F₈ => ?_
  obtain ⟨hPT, _⟩ := mup_none n1
  obtain ⟨hRP, n2⟩ := mup_none n2
  obtain ⟨hRT, _⟩ := mup_none n2
  obtain ⟨hIR, n3⟩ := mup_none n3
  obtain ⟨hIP, n3⟩ := mup_none n3
  obtain ⟨hIT, _⟩ := mup_none n3
  refine for_go ps.length (fun i sJ => PileJ s H l T PL RD I rising ps i sJ)
    ⟨s, _, _, [], [], [], F₈, ⟨_, _, rfl⟩, fun _ _ e => e, by walk_at "lk", by walk_at "lk", by walk_at "lk", by walk_at "lk", by walk_at "lk",
      ⟨(mup_ne hIT.symm).trans ((mup_ne hRT.symm).trans ((mup_ne hPT.symm).trans mup_same)), (mup_ne hIP.symm).trans ((mup_ne hRP.symm).trans mup_same), (mup_ne hIR.symm).trans mup_same, mup_same, .nil, by simp, .nil, .nil, rfl, by simp⟩⟩ fun i s₉ hi hJ Qx QB Vx VB => ?_
  clear F F₂ F₃ F₄ F₅ F₆ F₇ F₈
  obtain ⟨B', m, mu₀, tv, rv, as, F, eB, hB, m1, m2, m3, m4, m5, X⟩ := hJ
  have G' := G.keeps hB
  obtain ⟨z1, z2, z3, z4⟩ := pilesTo_len rising ps i
  obtain ⟨y1, y2⟩ := pilesTo_sm rising ps i
  generalize hz : pilesTo rising ps i = z at *
  by_cases hlt : i < ps.length
  · obtain ⟨x, hx, Lx⟩ := lead_at L hlt
    refine nx_lst F X.hI (hl.at fun o e => F.keep _ o (hB _ o e)) hx fun s₁₀ F₁₀ => ⟨hlt, ?_⟩
    have X' : PInv s H l T PL RD I B' (mup mu₀ I (liP l (i + 1))) (i + 1) z tv rv as :=
      ⟨(mup_ne hIT.symm).trans X.hT, (mup_ne hIP.symm).trans X.hP, (mup_ne hIR.symm).trans X.hR, mup_same, X.nd, X.na, X.aT, X.aR, X.len, fun j a p h1 h2 => let ⟨us, q1, q2⟩ := X.aP j a p h1 h2; ⟨us, (mup_ne (X.na a (List.mem_of_getElem? h1)).2.2.2).trans q1, q2⟩⟩
    clear X F
    generalize mup mu₀ I (liP l (i + 1)) = mu at F₁₀ X'
    have hstep : pilesTo rising ps (i + 1) = pStep rising z (ps.getD i (0, 0)) := by rw [pilesTo, hz]
    generalize hp : ps.getD i (0, 0) = p at *
    have hkl := pPlace_le rising z.T (pWorth rising p)
    unfold pStep at hstep
    generalize hw : pWorth rising p = wo at *
    generalize hk : pPlace rising z.T wo = k at *
    have LA := Lx.keeps fun b o e => hB b o (hH b o e)
    refine wpAny_pure (a := ()) ?_
    refine PySem.wpAny_assign_Name (st_l F₁₀ fun s₁₁ F₁₁ => ?_)
    have htl := X'.aT.length
    have hrl := X'.aR.length
    refine join (P := fun s' => ∃ t, Frm B' (callEnv fdPiles s.heap.objs.size 163) [] (upd (upd m "lead" (.ref x)) "worth" (.int wo t)) mu s') ?_ fun s₁₂ hP => ?_
    · refine wp_hid fun Q2 V2 => ?_
      subst hw
      cases rising with
      | true =>
        walk_at "go"
        exact ⟨rfl, _, by assumption⟩
      | false =>
        walk_at "go"
        exact ⟨rfl, _, by assumption⟩
    obtain ⟨t₁₂, F₁₂⟩ := hP
    refine join (P := fun s' => ∃ t, Frm B' (callEnv fdPiles s.heap.objs.size 163) [] (upd (upd (upd m "lead" (.ref x)) "worth" (.int wo t₁₂)) "place" (.int (k : Nat) t)) mu s') ?_ fun s₁₃ hP => ?_
    · have hV : ∀ (j : Nat) (v : Value), tv[j]? = some v → ∃ t, v = .int (z.T.getD j 0) t := fun j v hj => by
        obtain ⟨a, ha, t, e⟩ := X'.aT.get hj
        exact ⟨t, by rw [e, List.getD_eq_getElem?_getD, ha]; rfl⟩
      refine wp_hid fun Q2 V2 => ?_
      subst hk
      unfold pPlace at V2
      cases rising with
      | true =>
        walk_at "go"
        obtain ⟨t0, hb⟩ := bR0 (a := .ref T) (x := .int wo t₁₂) (G'.keeps F₁₂.keep)
        refine bisR_none (kf := fun j => z.T.getD j 0) (lo := 0) (hi := tv.length) (G'.keeps F₁₂.keep) r' (F₁₂.lst X'.hT) (by lia) hV (by lia) (by lia) (.inl ⟨rfl, rfl⟩) hb fun s' t e => ?_
        replace F₁₂ := F₁₂.kept e
        walk_at "go"
        rw [htl] at *
        exact ⟨rfl, _, by assumption⟩
      | false =>
        walk_at "go"
        obtain ⟨t0, hb⟩ := bL0 (a := .ref T) (x := .int wo t₁₂) (G'.keeps F₁₂.keep)
        refine bisL_none (kf := fun j => z.T.getD j 0) (lo := 0) (hi := tv.length) (G'.keeps F₁₂.keep) r' (F₁₂.lst X'.hT) (by lia) hV (by lia) (by lia) (.inl ⟨rfl, rfl⟩) hb fun s' t e => ?_
        replace F₁₂ := F₁₂.kept e
        walk_at "go"
        rw [htl] at *
        exact ⟨rfl, _, by assumption⟩
    obtain ⟨t₁₃, F₁₃⟩ := hP
    refine join (P := fun s' => ∃ B2 rd, Frm B2 (callEnv fdPiles s.heap.objs.size 163) [] (upd (upd (upd (upd m "lead" (.ref x)) "worth" (.int wo t₁₂)) "place" (.int (k : Nat) t₁₃)) "road" rd) mu s' ∧ (∃ hB tB, B2 = { s with heap := hB, toks := tB }) ∧
      (∀ b o, B'.heap.get? b = some o → B2.heap.get? b = some o) ∧ RoadV s H B2.heap rd (pRoad z.R k p)) ?_ fun s₁₄ hP => ?_
    · refine wp_hid fun Q2 V2 => ?_
      refine wpAny_Assign_Name ?_
      refine wpAny_BinOp ?_
      refine wpAny_mono (Q := fun v s' => ∃ b us0, v = .ref b ∧ Frm B' (callEnv fdPiles s.heap.objs.size 163) [] (upd (upd (upd m "lead" (.ref x)) "worth" (.int wo t₁₂)) "place" (.int (k : Nat) t₁₃)) mu s' ∧ s'.heap.PlainList b us0.toArray ∧ us0.length ≤ 900 ∧ Al (LeadV H) us0 (if 0 < k then z.R.getD (k - 1) [] else [])) ?_ (fun v s₁₅ hv => ?_) fun _ _ x => x
      · refine wp_hid fun Q3 V3 => ?_
        walk_at "go"
        split
        · rename_i hc
          simp only [decide_eq_true_eq] at hc
          walk_at "go"
          rename_i s₁₅ t₁₅ F₁₅
          have hk1 : k - 1 < z.R.length := by lia
          obtain ⟨v, hv, b, us, rfl, nb, lb, Lb⟩ := X'.aR.get' (List.getElem?_eq_getElem hk1)
          refine s_lst (F₁₅.lst X'.hR) (by lia) (by lia) (x := .ref b) (by rw [show ((k : Int) - 1).toNat = k - 1 by lia]; exact hv) ?_
          refine V3.go _ _ ⟨b, us, rfl, F₁₅, lb.at fun o => F₁₅.keep _ o, ?_, ?_⟩
          · rw [Lb.length]; have := y2 _ (List.getElem_mem hk1); lia
          · rw [if_pos (by lia), List.getD_eq_getElem?_getD, List.getElem?_eq_getElem hk1]; exact Lb
        · rename_i hc
          simp only [decide_eq_true_eq] at hc
          walk_at "go"
          rename_i s₁₅ t₁₅ F₁₅
          refine n_lst F₁₅ (fun s₁₆ b F₁₆ _ lb _ => ?_) (by decide)
          refine V3.go _ _ ⟨b, [], rfl, F₁₆, lb, Nat.zero_le _, ?_⟩
          rw [if_neg (by lia)]; exact .nil
      · obtain ⟨b, us0, rfl, F₁₅, lb, hu, Lb⟩ := hv
        walk_at "go"
        refine n_lst F₁₅ (fun s₁₆ c F₁₆ _ lc e₁₆ => ?_) (show 1 ≤ sizeLine by decide)
        refine l_add F₁₆ (lb.at fun o => e₁₆.get _ o) lc (by simp only [List.length_cons, List.length_nil]; lia) fun s₁₇ d F₁₇ hd ld e₁₇ => ?_
        have Fb := F₁₆.reb F₁₇ (fun a v e => ⟨v, e⟩)
        refine st_l Fb fun s₁₈ F₁₈ => ?_
        refine V2.go _ _ ⟨rfl, _, _, F₁₈, ?_, reb_base F₁₇.keep, d, us0 ++ [.ref x], rfl, none_back (s := s) (fun b o e => F₁₆.keep b o (hB b o e)) hd, lst_new ld hd, Lb.append (.cons ⟨x, rfl, Lx⟩ .nil)⟩
        obtain ⟨h1, t1, e1⟩ := F₁₇.same; obtain ⟨h2, t2, e2⟩ := eB
        rw [e2] at e1; rw [e1]; exact ⟨_, _, rfl⟩
    obtain ⟨B2, rd, F₁₄, eB2, hB2, hrd⟩ := hP
    have X2 : PInv s H l T PL RD I B2 mu (i + 1) z tv rv as := ⟨X'.hT, X'.hP, X'.hR, X'.hI, X'.nd, X'.na, X'.aT, X'.aR.mono fun v a q => q.keeps hB2, X'.len, X'.aP⟩
    clear X'
    have hBB : ∀ b o, s.heap.get? b = some o → B2.heap.get? b = some o := fun b o e => hB2 b o (hB b o e)
    have G2 := G.keeps hBB
    clear hB2 hB G' F₁₀ F₁₁ F₁₂ F₁₃
    walk_at "go"
    refine l_len (by assumption) (Frm.lst (by assumption) X2.hT) (by lia) fun s₁₅ t₁₅ F₁₅ => ?_
    walk_at "go"
    split
    · rename_i hc
      have hc : k = z.T.length := by simp only [decide_eq_true_eq, beq_iff_eq] at hc; lia
      rw [if_pos hc] at hstep
      walk_at "go"
      refine lm_append (F₁₅.lst X2.hT) ?_
      walk_at "go"
      refine l_append F₁₅ X2.hT (by lia) fun s₁₆ F₁₆ => ?_
      walk_at "go"
      have hP16 := (mup_ne (mu := mu) (v := .lst (tv ++ [.int wo t₁₂])) hPT).trans X2.hP
      refine lm_append (F₁₆.lst hP16) ?_
      walk_at "go"
      refine n_lstM F₁₆ (fun s₁₇ a ha F₁₇ => ?_) (show 1 ≤ sizeLine by decide)
      have na := (F₁₆.fresh ha).2.2.2
      obtain ⟨haT, na'⟩ := mup_none na
      have haP : a ≠ PL := fun q => by rw [q, X2.hP] at na'; cases na'
      have haR : a ≠ RD := fun q => by rw [q, X2.hR] at na'; cases na'
      have haI : a ≠ I := fun q => by rw [q, X2.hI] at na'; cases na'
      have haas : a ∉ as := fun q => by
        obtain ⟨j, hj, e⟩ := List.getElem_of_mem q
        have hj' : j < z.P.length := by rw [← X2.len]; exact hj
        obtain ⟨us, q1, _⟩ := X2.aP j a _ (by rw [List.getElem?_eq_getElem hj, e]) (List.getElem?_eq_getElem hj')
        rw [na'] at q1; cases q1
      walk_at "go"
      refine l_append F₁₇ ((mup_ne haP.symm).trans hP16) (by rw [List.length_map, X2.len]; lia) fun s₁₈ F₁₈ => ?_
      walk_at "go"
      have hR18 := (mup_ne (mu := mup (mup mu T (.lst (tv ++ [.int wo t₁₂]))) a (.lst [.ref x])) (v := .lst (as.map Value.ref ++ [.ref a])) hRP).trans ((mup_ne haR.symm).trans ((mup_ne hRT).trans X2.hR))
      refine lm_append (F₁₈.lst hR18) ?_
      walk_at "go"
      refine l_append F₁₈ hR18 (by lia) fun s₁₉ F₁₉ => ?_
      walk_at "go"
      refine ⟨B2, _, _, tv ++ [.int wo t₁₂], rv ++ [rd], as ++ [a], F₁₉, eB2, hBB, by walk_at "lk", by walk_at "lk", by walk_at "lk", by walk_at "lk", by walk_at "lk", ?_⟩
      rw [hstep]
      refine ⟨?_, ?_, mup_same, ?_, ?_, ?_, X2.aT.append (.cons ⟨_, rfl⟩ .nil), X2.aR.append (.cons hrd .nil), by simp [X2.len], ?_⟩
      · exact (mup_ne hRT.symm).trans ((mup_ne hPT.symm).trans ((mup_ne haT.symm).trans mup_same))
      · rw [List.map_append]; exact (mup_ne hRP.symm).trans mup_same
      · exact (mup_ne hIR).trans ((mup_ne hIP).trans ((mup_ne haI.symm).trans ((mup_ne hIT).trans X2.hI)))
      · rw [List.nodup_append]
        exact ⟨X2.nd, by simp, fun b hb c hc => by rw [List.mem_singleton.mp hc]; exact fun q => haas (q ▸ hb)⟩
      · intro b hb
        rcases List.mem_append.mp hb with hb | hb
        · exact X2.na b hb
        · rw [List.mem_singleton.mp hb]; exact ⟨haT, haP, haR, haI⟩
      · intro j b q hj hq
        by_cases hjl : j < as.length
        · rw [List.getElem?_append_left hjl] at hj
          rw [List.getElem?_append_left (by rw [← X2.len]; exact hjl)] at hq
          obtain ⟨us, q1, q2⟩ := X2.aP j b q hj hq
          have hm := List.mem_of_getElem? hj
          obtain ⟨b1, b2, b3, b4⟩ := X2.na b hm
          exact ⟨us, (mup_ne b3).trans ((mup_ne b2).trans ((mup_ne (a := a) (b := b) fun z => haas (z ▸ hm)).trans ((mup_ne b1).trans q1))), q2⟩
        · rw [List.getElem?_append_right (by lia)] at hj
          rw [List.getElem?_append_right (by rw [← X2.len]; lia)] at hq
          rw [← X2.len] at hq
          by_cases hj0 : j - as.length = 0
          · rw [hj0] at hj hq
            simp at hj hq
            subst hj; subst hq
            exact ⟨[.ref x], (mup_ne haR).trans ((mup_ne haP).trans mup_same), .cons ⟨x, rfl, Lx⟩ .nil⟩
          · obtain ⟨y, hy⟩ : ∃ y, j - as.length = y + 1 := ⟨j - as.length - 1, by lia⟩
            rw [hy] at hj; simp at hj
    · rename_i hc
      have hc : k ≠ z.T.length := by simp only [decide_eq_true_eq, beq_iff_eq] at hc; lia
      rw [if_neg hc] at hstep
      refine wpAny_execs_cons ?_
      refine wpAny_Assign_Subscript ?_
      walk_at "go"
      refine l_set F₁₅ X2.hT (by lia) (by lia) fun s₁₆ F₁₆ => ?_
      walk_at "go"
      have hka : k < as.length := by rw [X2.len]; lia
      have hkP : k < z.P.length := by lia
      obtain ⟨us, ha, Lu⟩ := X2.aP k as[k] z.P[k] (List.getElem?_eq_getElem hka) (List.getElem?_eq_getElem hkP)
      obtain ⟨a1, a2, a3, a4⟩ := X2.na as[k] (List.getElem_mem hka)
      refine s_lst (F₁₆.lst ((mup_ne hPT).trans X2.hP)) (by lia) (by lia) (x := .ref as[k]) (by rw [show ((k : Nat) : Int).toNat = k by lia, List.getElem?_map, List.getElem?_eq_getElem hka]; rfl) ?_
      have ha16 := (mup_ne (mu := mu) (v := .lst (tv.set k (.int wo t₁₂))) a1).trans ha
      refine lm_append (F₁₆.lst ha16) ?_
      walk_at "go"
      refine l_append F₁₆ ha16 (by rw [Lu.length]; have := y1 _ (List.getElem_mem hkP); lia) fun s₁₇ F₁₇ => ?_
      walk_at "go"
      refine wpAny_Assign_Subscript ?_
      walk_at "go"
      have hR17 := (mup_ne (mu := mup mu T (.lst (tv.set k (.int wo t₁₂)))) (v := .lst (us ++ [.ref x])) a3.symm).trans ((mup_ne hRT).trans X2.hR)
      refine l_set F₁₇ hR17 (by lia) (by lia) fun s₁₈ F₁₈ => ?_
      walk_at "go"
      refine ⟨B2, _, _, tv.set k (.int wo t₁₂), rv.set k rd, as, F₁₈, eB2, hBB, by walk_at "lk", by walk_at "lk", by walk_at "lk", by walk_at "lk", by walk_at "lk", ?_⟩
      rw [hstep]
      refine ⟨?_, ?_, mup_same, ?_, X2.nd, X2.na, X2.aT.set ⟨_, rfl⟩ k, X2.aR.set hrd k, by simp [X2.len], ?_⟩
      · exact (mup_ne hRT.symm).trans ((mup_ne a1.symm).trans mup_same)
      · exact (mup_ne hRP.symm).trans ((mup_ne a2.symm).trans ((mup_ne hPT).trans X2.hP))
      · exact (mup_ne hIR).trans ((mup_ne a4.symm).trans ((mup_ne hIT).trans X2.hI))
      · intro j b q hj hq
        have hm := List.mem_of_getElem? hj
        obtain ⟨b1, b2, b3, b4⟩ := X2.na b hm
        obtain ⟨hjl, hje⟩ := List.getElem?_eq_some_iff.mp hj
        by_cases hjk : j = k
        · subst hjk
          rw [List.getElem?_set_self (by lia)] at hq
          have hq := Option.some.inj hq
          subst hq
          rw [← hje]
          refine ⟨us ++ [.ref x], (mup_ne a3).trans mup_same, ?_⟩
          rw [List.getD_eq_getElem?_getD, List.getElem?_eq_getElem hkP]
          exact Lu.append (.cons ⟨x, rfl, Lx⟩ .nil)
        · rw [List.getElem?_set_ne (Ne.symm hjk)] at hq
          obtain ⟨us', q1, q2⟩ := X2.aP j b q hj hq
          refine ⟨us', (mup_ne b3).trans ((mup_ne fun z => ?_).trans ((mup_ne b1).trans q1)), q2⟩
          have w := List.pairwise_iff_getElem.mp X2.nd
          rw [← hje] at z
          rcases Nat.lt_or_gt_of_ne hjk with c | c
          · exact w j k hjl hka c z
          · exact w k j hka hjl c z.symm
  · have hie : i = ps.length := by lia
    subst hie
    rw [hz] at h
    refine nx_lstE r'.hn F X.hI (hl.at fun o e => F.keep _ o (hB _ o e)) (List.getElem?_eq_none (by lia)) fun s₁₀ F₁₀ => ?_
    walk_at "go"
    have hT' := (mdel_ne (mu := mu₀) hIT.symm).trans X.hT
    have hR' := (mdel_ne (mu := mu₀) hIR.symm).trans X.hR
    have hP' := (mdel_ne (mu := mu₀) hIP.symm).trans X.hP
    have hrl := X.aR.length
    have htl := X.aT.length
    have hz0 : 0 < z.T.length := z4 hn0
    have hrl1 : z.R.length - 1 < z.R.length := by lia
    obtain ⟨rd, hrd, Lr⟩ := X.aR.get' (List.getElem?_eq_getElem hrl1)
    rename_i s₁₁ t₁₁ F₁₁
    refine s_lst_last (F₁₁.lst hR') (by lia) (x := rd) (by rw [hrl]; exact hrd) ?_
    walk_at "go"
    refine n_tup F₁₁ (fun s₁₂ v F₁₂ hv Tv _ => ?_) (by rw [sizeLine_eq]; simp)
    walk_at "go"
    have nn : ∀ {a : Addr} {v : Mv}, mdel mu₀ I a = some v → s.heap.get? a = none := fun hm => none_back hB (F₁₂.mus _ _ hm).2
    have kp : ∀ b o, B'.heap.get? b = some o → s₁₂.heap.get? b = some o := F₁₂.keep
    refine h s₁₂ _ ⟨?_, fun b o e => kp b o (hB b o e)⟩ ⟨v, PL, as.map .ref, rd, rfl, tup_nh Tv (none_back (fun b o e => F₁₁.keep b o (hB b o e)) hv), lst_nh (F₁₂.lst hP') (nn hP'), ?_, ?_⟩
    · obtain ⟨h1, t1, e1⟩ := F₁₂.same; obtain ⟨h2, t2, e2⟩ := eB
      rw [e2] at e1; rw [e1]; exact ⟨_, _, rfl⟩
    · refine Al.of (by rw [List.length_map]; exact X.len) fun j v p hj hp => ?_
      rw [List.getElem?_map] at hj
      obtain ⟨hjl, hje⟩ : ∃ hjl : j < as.length, Value.ref as[j] = v := by
        rcases Nat.lt_or_ge j as.length with q | q
        · rw [List.getElem?_eq_getElem q] at hj; exact ⟨q, by simpa using hj⟩
        · rw [List.getElem?_eq_none q] at hj; simp at hj
      subst hje
      obtain ⟨us, q1, q2⟩ := X.aP j as[j] p (List.getElem?_eq_getElem hjl) hp
      have q1' := (mdel_ne (mu := mu₀) (X.na as[j] (List.getElem_mem hjl)).2.2.2).trans q1
      exact ⟨as[j], us, rfl, nn q1', lst_nh (F₁₂.lst q1') (nn q1'), q2⟩
    · rw [List.getD_eq_getElem?_getD, List.getElem?_eq_getElem hrl1]
      exact (Lr.keeps kp).nh

def hE : Heap := {}
theorem hE_none (a : Addr) : hE.get? a = none := none_of_size (Nat.zero_le _)
def allBut (h : Heap) (L x : Addr) : List (Addr × Obj) := (List.range h.objs.size).filterMap fun a => if a = L ∨ a = x then none else (h.get? a).map fun o => (a, o)
theorem allBut_in {h : Heap} {L x a : Addr} {o : Obj} (e : h.get? a = some o) (h1 : a ≠ L) (h2 : a ≠ x) : (a, o) ∈ allBut h L x := by
  unfold allBut
  rw [List.mem_filterMap]
  exact ⟨a, List.mem_range.mpr (Heap.lt_size e), by rw [if_neg (by simp [h1, h2]), e]; rfl⟩
theorem allBut_of {h : Heap} {L x : Addr} {p : Addr × Obj} (e : p ∈ allBut h L x) : h.get? p.1 = some p.2 ∧ p.1 ≠ L ∧ p.1 ≠ x := by
  unfold allBut at e
  rw [List.mem_filterMap] at e
  obtain ⟨a, _, e⟩ := e
  by_cases q : a = L ∨ a = x
  · rw [if_pos q] at e; cases e
  · rw [if_neg q] at e
    obtain ⟨o, e1, rfl⟩ := Option.map_eq_some_iff.mp e
    exact ⟨e1, fun z => q (.inl z), fun z => q (.inr z)⟩

section
variable {w : World} {A : Around} {E : Value → Shared → Prop} {B s : Shared} {env : Env} {cs : List (Str × Addr)} {m : Str → Option Value} {mu : Addr → Option Mv}
/-- from the library's ledger back to the frame -/
theorem Frm.from (F : Frm B env cs m mu s) {a : Addr} {v₀ v : Mv} {h : Heap} {tk : Nat} {ml : Str → Option Value} (ha : mu a = some v₀) (hn : h.Ns env.locals ml) (he : ∀ x, env.kindOf x = some .local → ml x = m x)
    (k : ∀ b o, b ≠ a → b ≠ env.locals → s.heap.get? b = some o → h.get? b = some o) (hv : v.At h a) : Frm B env cs m (mup mu a v) { s with heap := h, toks := tk } where
  same := by obtain ⟨h', tk', rfl⟩ := F.same; exact ⟨h, tk, rfl⟩
  keep := fun b o e => k b o (fun q => by rw [q, (F.mus a v₀ ha).2] at e; cases e) (fun q => by rw [q, F.newL] at e; cases e) (F.keep b o e)
  ns := ⟨ml, hn, he⟩
  newL := F.newL
  muL := by
    by_cases q : env.locals = a
    · have := F.muL; rw [q, ha] at this; cases this
    · rw [mup_ne q]; exact F.muL
  cell := fun x c hc => by
    obtain ⟨⟨o, ho, hd⟩, r1, r2, r3, r4⟩ := F.cell x c hc
    have q : c ≠ a := fun z => by rw [z, ha] at r3; cases r3
    exact ⟨⟨o, k c o q r2 ho, hd⟩, r1, r2, by rw [mup_ne q]; exact r3, r4⟩
  apart := F.apart
  mus := fun b v' h' => by
    by_cases q : b = a
    · subst q; rw [mup_same] at h'; cases h'; exact ⟨hv, (F.mus b v₀ ha).2⟩
    · rw [mup_ne q] at h'
      exact let ⟨p, z⟩ := F.mus b v' h'; ⟨mv_of (fun o e => k b o q (fun y => by have := F.muL; rw [y, this] at h'; cases h') e) p, z⟩

theorem st_attr {C x dx : Addr} {es : List DictEntry} {n : Nat} {name : Str} {v : Value} {Q : Unit → Shared → Prop} (F : Frm B env cs m mu s) (G : Glb w B.heap) (hx : mu x = some (.obj (instObj C dx))) (hdx : mu dx = some (.obj (dictOf es n)))
    (hs : findIn (Kp w.params) (.ref C) "__setattr__" = some (some (.builtin "object.__setattr__"))) (hp : plainOver (Kp w.params) C = true) (ht : takerIn (Kp w.params) C name = some none) (hh : hasDictIn (Kp w.params) C = true) (hl : (getL name es).isSome = true)
    (hz : (putL name (PyData.keyHash w.params name) (.str name (s.toks + 1)) v es).length ≤ 1000)
    (h : ∀ s' tk, Frm B env cs m (mup mu dx (.obj (dictOf (putL name (PyData.keyHash w.params name) (.str name tk) v es) (putN name es n)))) s' → Q () s') : wpAny (Md w) A (setAttr (.ref x) name v) Q E s := by
  obtain ⟨ml, hn, he⟩ := F.ns
  have hod : s.heap.get? dx = some (dictOf es n) := (F.mus dx _ hdx).1
  have hdL : dx ≠ env.locals := fun q => by have := F.muL; rw [← q, hdx] at this; cases this
  have I : PySem.W.InstAt s.heap x (instObj C dx) C (some (dictOf es n)) := ⟨(F.mus x _ hx).1, rfl, rfl, hod⟩
  have F0 : Fr hE env.locals s.heap ml := ⟨hn, fun b o e => (by rw [hE_none] at e; cases e), Nat.zero_le _⟩
  have N0 : News hE env.locals s.heap ([] ++ (dx, dictOf es n) :: allBut s.heap env.locals dx) := fun p hp => by
    rcases List.mem_cons.mp hp with rfl | hp
    · exact ⟨hod, hdL, hE_none _⟩
    · obtain ⟨a, b, c⟩ := allBut_of hp; exact ⟨a, b, hE_none _⟩
  have KI : (Kp w.params).In s.heap := kin_of F G
  refine set_plain KI I hs (osa_dict (s := { s with toks := s.toks + 1 }) F0 N0 KI I rfl hp ht hh hl (fun p hp => by cases hp) (fun p hp => (allBut_of hp).2.2) (putName_dict _ _ _ _ _ _) rfl hz fun h' F' N' => ?_)
  refine h { s with heap := h', toks := s.toks + 2 } (s.toks + 1) (F.from hdx F'.ns he (fun b o q1 q2 e => (N' (b, o) (List.mem_cons_of_mem _ (allBut_in e q2 q1))).1) ?_)
  exact (N' _ (.head _)).1

theorem tc_weight (C : Addr) (vals : List Value) : (Code.builtin "type.__call__" ⟨.ref C :: vals, []⟩).weight = 1 := by kernel_rfl
theorem tc_units (args : Args) : (Code.builtin "type.__call__" args).cUnits = 1 := by kernel_rfl
theorem Room.tc {d : Nat} {C : Addr} {vals : List Value} (r : Room A (d + 1)) : Room (A.under (.builtin "type.__call__" ⟨.ref C :: vals, []⟩)) d :=
  ⟨by have := r.1; show A.depth + (Code.builtin "type.__call__" ⟨.ref C :: vals, []⟩).weight + d < _; rw [tc_weight]; lia, by have := r.2.1; show A.units + (Code.builtin "type.__call__" ⟨.ref C :: vals, []⟩).cUnits + 100 + 20 * d < _; rw [tc_units]; lia, r.2.2⟩
theorem mk_inst {d : Nat} {C fI : Addr} {oc : Value} {od : Option Addr} {osl : Array (Option Value)} {fd : FuncData} {body : List Stmt} {vals : List Value} {binds : Addr → List (Str × Value)} {Q : Value → Shared → Prop}
    (G : Glb w s.heap) (r : Room A (d + 2)) (hm : makesIn (Kp w.params) C = true) (hi : findIn (Kp w.params) (.ref C) "__init__" = some (some (.ref fI))) (hf : typeIn (Kp w.params) (.ref fI) = some (.type "function"))
    (ho : (Kp w.params).lookup fI = some ⟨oc, od, .func fd, osl⟩) (hcd : codeIn (Kp w.params) fd.code fd.qualname = true) (hb : fd.body = .stmts body) (hbind : ∀ x s, BindsTo s fd ⟨.ref x :: vals, []⟩ (binds x))
    (h : ∀ s₁ x dx L A', A'.handled = none → x ≠ dx → Frm s (callEnv fd L fI) [] (fun y => (binds x).reverse.lookup y) (mup (mup mu0 dx (.obj (dictOf [] 0))) x (.obj (instObj C dx))) s₁ → Room A' d →
      wpAny (Md w) A' (execs body (callEnv fd L fI)) (fun fl s' => (match fl with | .ret v => v | _ => .none) = .none ∧ Q (.ref x) s') (fun _ _ => False) s₁)
    (hcell : ∀ x ∈ fd.scope.names, x.2 ≠ .cell) (hloc : ∀ x, ∀ y ∈ binds x, fd.scope.names.lookup y.1 = some .local)
    (hco : fd.scope.isCoroutine = false := by rfl) (hgen : fd.scope.isGenerator = false := by rfl) (hk : fd.scope.kind = .function := by rfl) :
    wpAny (Md w) A (call (.ref C) vals) Q E s := by
  refine wpAny_call ?_
  obtain ⟨hh, g, dd, t, os⟩ := s
  refine make_core (makes_of G.k hm) (looks_findIn G.k hi) (fun self => bind_fn G.k self hf) (.inl rfl) ?_
  have k : ∀ b o, hh.get? b = some o → ((hh.push emptyDict).push (instObj C hh.objs.size)).get? b = some o := fun b o e => Heap.get?_push_of_some _ (Heap.get?_push_of_some _ e)
  have G' : Glb w ((hh.push emptyDict).push (instObj C hh.objs.size)) := G.keeps k
  refine codeAny_call_def r.tc.lt (G'.k _ _ ho) rfl G'.lim (codeRec_of G'.k hcd) hb (hbind _ _) hcell (hloc _) (fun h₀ hns hk₀ => ?_) hco hgen hk
  have hx : ((hh.push emptyDict).push (instObj C hh.objs.size)).get? (hh.objs.size + 1) = some (instObj C hh.objs.size) := by heap_get
  have hdx : ((hh.push emptyDict).push (instObj C hh.objs.size)).get? hh.objs.size = some emptyDict := by heap_get
  have hsz : ((hh.push emptyDict).push (instObj C hh.objs.size)).objs.size = hh.objs.size + 2 := by rw [Heap.size_push, Heap.size_push]
  refine wpAny_mono (h _ (hh.objs.size + 1) hh.objs.size _ _ r.tc.deeper.hn (Nat.succ_ne_self _) ⟨⟨_, _, rfl⟩, fun b o e => hk₀ b o (k b o e), ⟨_, hns, fun _ _ => rfl⟩, ?_, ?_, fun x c hc => (by cases hc), .nil, fun a v hv => ?_⟩ r.tc.deeper) (fun fl s' q => ?_) fun _ _ x => x.elim
  · exact none_of_size (by show hh.objs.size ≤ ((hh.push emptyDict).push (instObj C hh.objs.size)).objs.size; rw [hsz]; exact Nat.le_add_right _ _)
  · show mup _ _ _ ((hh.push emptyDict).push (instObj C hh.objs.size)).objs.size = none
    rw [hsz]
    exact (mup_ne (Nat.ne_of_gt (Nat.lt_succ_self _))).trans (mup_ne (Nat.ne_of_gt (Nat.lt_succ_of_lt (Nat.lt_succ_self _))))
  · rcases mup2 hv with ⟨rfl, rfl⟩ | ⟨_, rfl, rfl⟩
    · exact ⟨hk₀ _ _ hx, none_of_size (Nat.le_succ _)⟩
    · exact ⟨hk₀ _ _ hdx, none_of_size (Nat.le_refl _)⟩
  · exact q
end

theorem mk72 (P : Params) : makesIn (Kp P) 72 = true := by kernel_rfl
theorem init72 (P : Params) : findIn (Kp P) (.ref 72) "__init__" = some (some (.ref 62)) := by kernel_rfl
theorem type62 (P : Params) : typeIn (Kp P) (.ref 62) = some (.type "function") := by kernel_rfl
theorem set72 (P : Params) : findIn (Kp P) (.ref 72) "__setattr__" = some (some (.builtin "object.__setattr__")) := by kernel_rfl
theorem over72 (P : Params) : plainOver (Kp P) 72 = true := by kernel_rfl
theorem take72 (P : Params) : takerIn (Kp P) 72 "comp_select_list" = some none := by kernel_rfl
theorem mk138 (P : Params) : makesIn (Kp P) 138 = true := by kernel_rfl
theorem init138 (P : Params) : findIn (Kp P) (.ref 138) "__init__" = some (some (.ref 93)) := by kernel_rfl
theorem type93 (P : Params) : typeIn (Kp P) (.ref 93) = some (.type "function") := by kernel_rfl
theorem set138 (P : Params) : findIn (Kp P) (.ref 138) "__setattr__" = some (some (.builtin "object.__setattr__")) := by kernel_rfl
theorem over138 (P : Params) : plainOver (Kp P) 138 = true := by kernel_rfl
theorem take138_raw (P : Params) : takerIn (Kp P) 138 "raw" = some none := by kernel_rfl
theorem take138_n (P : Params) : takerIn (Kp P) 138 "n" = some none := by kernel_rfl
theorem take138_nt (P : Params) : takerIn (Kp P) 138 "nt" = some none := by kernel_rfl
theorem take138_norm (P : Params) : takerIn (Kp P) 138 "norm" = some none := by kernel_rfl
theorem take138_is (P : Params) : takerIn (Kp P) 138 "is_simple" = some none := by kernel_rfl
theorem find138_raw (P : Params) : findIn (Kp P) (.ref 138) "raw" = some none := by kernel_rfl
theorem reads138 (P : Params) : readsIn (Kp P) 138 (.type "type") = true := by kernel_rfl
noncomputable def tok138_S (P : Params) : Tok := match findCls (Kp P) (.ref 138) (.type "type") "S" with | some (.val (.str _ t)) => t | _ => 0
theorem cls138_S (P : Params) : findCls (Kp P) (.ref 138) (.type "type") "S" = some (.val (.str " " (tok138_S P))) := by kernel_rfl
noncomputable def tok138_T (P : Params) : Tok := match findCls (Kp P) (.ref 138) (.type "type") "T" with | some (.val (.str _ t)) => t | _ => 0
theorem cls138_T (P : Params) : findCls (Kp P) (.ref 138) (.type "type") "T" = some (.val (.str "\t" (tok138_T P))) := by kernel_rfl

def OrdI (h : Heap) (o T : Addr) : Prop := ∃ dx es ep, PySem.W.InstAt h o (instObj 72 dx) 72 (some (dictOf es ep)) ∧ getL "comp_select_list" es = some (some (.ref T)) ∧ getL "compare" es = some none

theorem order_spec {w : World} {A : Around} {E : Value → Shared → Prop} {s : Shared} {T : Addr} {Q : Value → Shared → Prop} (G : Glb w s.heap) (r : Room A 3)
    (h : ∀ s' o, Ext s s' → s.heap.get? o = none → OrdI (NH s s') o T → Q (.ref o) s') : wpAny (Md w) A (call (.ref 72) [.ref T]) Q E s := by
  refine mk_inst G r (mk72 _) (init72 _) (type62 _) (kTcInit _) (cTcInit _) rfl (binds := fun x => [("self", .ref x), ("comp_select_list", .ref T)]) (fun x s => BindsTo.of_eq rfl) (fun s₁ x dx L A' hh hx F r' => ?_) (by decide) (fun x => locs rfl)
  walk_at "go"
  refine plainObj_wpAny_Assign_Attribute ?_
  walk_at "go"
  refine st_attr F G mup_same ((mup_ne (Ne.symm hx)).trans mup_same) (set72 _) (over72 _) (take72 _) (dict72 _) rfl (by simp [putL]) fun s₂ tk F₂ => ?_
  walk_at "go"
  have e1 := F₂.mus x _ ((mup_ne hx).trans mup_same)
  have e2 := F₂.mus dx _ mup_same
  refine ⟨rfl, h s₂ x F₂.done e1.2 ⟨dx, _, _, ⟨NH_get e1.1 e1.2, rfl, rfl, NH_get e2.1 e2.2⟩, rfl, rfl⟩⟩

def rawS (t b : Nat) : Str := ⟨(List.replicate t 9 ++ List.replicate b 32 ++ [120, 9, 32]).toArray⟩
def siP (x : Str) (t : Tok) (i : Nat) : Mv := .prd fun o => o.cls = .type "str_ascii_iterator" ∧ o.data = .fields #[.str x t, .int i 0]
section
variable {w : World} {A : Around} {E : Value → Shared → Prop} {B s : Shared} {env : Env} {cs : List (Str × Addr)} {m : Str → Option Value} {mu : Addr → Option Mv} {x : Str} {t : Tok}
theorem it_str {Q : Value → Shared → Prop} (F : Frm B env cs m mu s) (ha : x.cps.all (· < 128) = true) (h : ∀ s' I, mu I = none → Frm B env cs m (mup mu I (siP x t 0)) s' → Q (.ref I) s') : wpAny (Md w) A (pyIter (.str x t)) Q E s :=
  wpAny_pyIter_ascii ha (h _ _ (F.fresh (none_of_size (Nat.le_refl _))).2.2.2 (F.make (v := siP x t 0) ⟨_, Heap.get?_push_size _ rfl, rfl, rfl⟩))
theorem nx_str {I : Addr} {i c : Nat} {Q : Option Value → Shared → Prop} (F : Frm B env cs m mu s) (hI : mu I = some (siP x t i)) (hx : x.cps[i]? = some c)
    (h : ∀ s' tk, Frm B env cs m (mup mu I (siP x t (i + 1))) s' → Q (some (.str ⟨#[c]⟩ tk)) s') : wpAny (Md w) A (pyNext (.ref I)) Q E s :=
  wpAny_pyNext_ascii_item (F.mus I _ hI).1 hx fun h' hi hs => h _ _ (F.chg (v := siP x t (i + 1)) hI (fun b o q e => hs.extBut b o q e) hi)
theorem unT {n : Nat} {T : Addr} {vs : List Value} {Q : List Value → Shared → Prop} (hh : A.handled = none) (F : Frm B env cs m mu s) (hT : IsTup s.heap T vs.toArray) (hn : n = vs.toArray.size) (h : ∀ s', Frm B env cs m mu s' → Q vs s') : wpAny (Md w) A (unpackItems (.ref T) n none) Q E s := by
  subst hn
  refine unpackItems_tuple hh hT fun h' he => ?_
  exact h _ (F.hp fun b o e => he b o (Nat.ne_of_lt (Heap.lt_size e)) e)
theorem inord2 {f₁ f₂ : Value → Sem Unit} {v₁ v₂ : Value} {Q : Unit → Shared → Prop} (h : wpAny (Md w) A (f₁ v₁) (fun _ s₁ => wpAny (Md w) A (f₂ v₂) Q E s₁) E s) : wpAny (Md w) A (assignInOrder [f₁, f₂] [v₁, v₂]) Q E s := by
  show wpAny _ _ (holding [v₂] (f₁ v₁) >>= fun _ => (holding [] (f₂ v₂) >>= fun _ => pure ())) _ _ _
  exact wpAny_bind (wpAny_holding (wpAny_mono h (fun _ s₁ h₁ => wpAny_bind (wpAny_holding (wpAny_mono h₁ (fun _ _ q => wpAny_pure q) fun _ _ x => x))) fun _ _ x => x))
theorem l_mul1 {l : Addr} {xs : List Value} {u : Tok} {Q : Value → Shared → Prop} (F : Frm B env cs m mu s) (hl : s.heap.PlainList l xs.toArray) (hz : xs.length ≤ 1000) (hn : 0 < xs.length)
    (h : ∀ s' a, Frm B env cs m mu s' → s'.heap.PlainList a xs.toArray → Ext s s' → Q (.ref a) s') : wpAny (Md w) A (binaryOp .Mult (.ref l) (.int 1 u)) Q E s := by
  obtain ⟨k, hl⟩ := hl
  refine wpAny_binaryOp_repeat_ref (T := "list") (U := "int") (by decide) ⟨_, hl, rfl⟩ (fun s' => typeIs_int s' 1 u) noFill_list_mul PySem.F.fills_int_mul PySem.F.slot_int_rmul repeat_list PySem.F.slot_int_index.lookup
    (call_meets PySem.F.slot_int_rmul (typeIs_int s 1 u) PySem.F.entry_int_rmul (PySem.F.args_int_rmul_2 _ _) (int___rmul___int_list 1 u l xs.toArray k)
      ⟨hl, rfl, ⟨_, hl, rfl⟩, call_meets PySem.F.slot_list_mul ⟨_, hl, rfl⟩ PySem.F.entry_list_mul (PySem.F.args_list_mul_2 _ _)
        (AutoListH.list___mul___list_int_3 l xs.toArray k 1 u (by simp [Builtin.List.listFitsIndex]) (by rw [List.size_toArray, show Int.toNat 1 = 1 from rfl]; lia) (by simp [Builtin.List.listTooLong, sizeLine]; lia))
        ⟨hl, h _ _ (F.push _ (tk := s.toks)) ⟨0, (Heap.get?_push_size _ rfl).trans ?_⟩ (.heap s fun _ _ e => Heap.get?_push_of_some _ e)⟩⟩)
  have hne : xs.toArray.isEmpty = false := by cases xs with
    | nil => simp at hn
    | cons _ _ => rfl
  simp [hne]
theorem t_list {l : Addr} {xs : List Value} {Q : Value → Shared → Prop} (F : Frm B env cs m mu s) (hl : s.heap.PlainList l xs.toArray) (hz : xs.length ≤ 1000)
    (h : ∀ s' a, mu a = none → Frm B env cs m (mup mu a (tupP xs)) s' → Q (.ref a) s') : wpAny (Md w) A (call (.type "tuple") [.ref l]) Q E s := by
  refine call_tuple_list hl.isList (fun h' hk => ?_) (by rw [List.size_toArray, sizeLine_eq]; lia)
  have F' : Frm B env cs m mu { s with heap := h' } := F.hp hk
  exact h _ _ (F'.fresh (none_of_size (Nat.le_refl _))).2.2.2 (F'.make (v := tupP xs) ⟨_, Heap.get?_push_size _ rfl, rfl, 0, rfl⟩)
end
theorem ascii_raw {t b : Nat} (ht : t < 4) (hb : b < 4) : (rawS t b).cps.all (· < 128) = true := by
  have h1 : t = 0 ∨ t = 1 ∨ t = 2 ∨ t = 3 := by lia
  have h2 : b = 0 ∨ b = 1 ∨ b = 2 ∨ b = 3 := by lia
  rcases h1 with rfl | rfl | rfl | rfl <;> rcases h2 with rfl | rfl | rfl | rfl <;> decide +kernel
theorem raw_at {t b i : Nat} (hi : i ≤ t + b) : (rawS t b).cps[i]? = some (if i < t then 9 else if i < t + b then 32 else 120) := by
  unfold rawS
  rw [List.getElem?_toArray]
  by_cases h1 : i < t
  · rw [if_pos h1, List.append_assoc, List.getElem?_append_left (by rw [List.length_replicate]; exact h1), List.getElem?_replicate, if_pos h1]
  · rw [if_neg h1, List.append_assoc, List.getElem?_append_right (by rw [List.length_replicate]; lia), List.length_replicate]
    by_cases h2 : i < t + b
    · rw [if_pos h2, List.getElem?_append_left (by rw [List.length_replicate]; lia), List.getElem?_replicate, if_pos (by lia)]
    · rw [if_neg h2, List.getElem?_append_right (by rw [List.length_replicate]; lia), List.length_replicate, show i - t - b = 0 by lia]; rfl

theorem putL_len (name : Str) (hsh : Int) (key v : Value) : ∀ es : List DictEntry, (putL name hsh key v es).length ≤ es.length + 1
  | [] => Nat.le_refl _
  | e :: r => by
    unfold putL
    split
    · simp
    · have := putL_len name hsh key v r; simp only [List.length_cons]; lia

structure WInv (x dx I : Addr) (es : List DictEntry) (ep : Nat) (raw : Str) (tr : Tok) (t : Nat) (m : Str → Option Value) (mu : Addr → Option Mv) (i : Nat) : Prop where
  hx : mu x = some (.obj (instObj 138 dx))
  hd : mu dx = some (.obj (dictOf es ep))
  hI : mu I = some (siP raw tr i)
  m1 : m "self" = some (.ref x)
  m2 : ∃ u, m "S" = some (.str " " u)
  m3 : ∃ u, m "T" = some (.str "\t" u)
  m4 : ∃ c u, m "count" = some (.ref c) ∧ mu c = some (.lst (if min i t = 0 then [] else [.int (min i t : Nat) u]))
  m5 : ∃ u, m "b" = some (.int (i - t : Nat) u)
  m6 : ∃ u, m "n" = some (.int i u)
  m7 : ∃ u, m "nt" = some (.int (min i t : Nat) u)

theorem ws_spec {w : World} {A : Around} {E : Value → Shared → Prop} {s : Shared} {t b : Nat} {tr : Tok} {Q : Value → Shared → Prop} (G : Glb w s.heap) (r : Room A 3) (ht : t < 4) (hb : b < 4)
    (h : ∀ s' x, Ext s s' → s.heap.get? x = none → LeadAt (NH s s') x t b → Q (.ref x) s') : wpAny (Md w) A (call (.ref 138) [.str (rawS t b) tr]) Q E s := by
  refine mk_inst G r (mk138 _) (init138 _) (type93 _) (kWsInit _) (cWsInit _) rfl (binds := fun x => [("self", .ref x), ("ws", .str (rawS t b) tr)]) (fun x s => BindsTo.of_eq rfl) (fun s₁ x dx L A' hh hx F r' => ?_) (by decide) (fun x => locs rfl)
  walk_at "go"
  refine plainObj_wpAny_Assign_Attribute ?_
  walk_at "go"
  refine st_attr F G mup_same ((mup_ne (Ne.symm hx)).trans mup_same) (set138 _) (over138 _) (take138_raw _) (dict138 _) rfl (by simp [putL]) fun s₂ tk F₂ => ?_
  have hx2 : mup (mup (mup mu0 dx (.obj (dictOf [] 0))) x (.obj (instObj 138 dx))) dx (.obj (dictOf (putL "raw" (PyData.keyHash w.params "raw") (.str "raw" tk) (.str (rawS t b) tr) []) (putN "raw" [] 0))) x = some (.obj (instObj 138 dx)) := (mup_ne hx).trans mup_same
  have hd2 : mup (mup (mup mu0 dx (.obj (dictOf [] 0))) x (.obj (instObj 138 dx))) dx (.obj (dictOf (putL "raw" (PyData.keyHash w.params "raw") (.str "raw" tk) (.str (rawS t b) tr) []) (putN "raw" [] 0))) dx = some (.obj (dictOf (putL "raw" (PyData.keyHash w.params "raw") (.str "raw" tk) (.str (rawS t b) tr) []) (putN "raw" [] 0))) := mup_same
  have hraw : getL "raw" (putL "raw" (PyData.keyHash w.params "raw") (.str "raw" tk) (.str (rawS t b) tr) []) = some (some (.str (rawS t b) tr)) := rfl
  generalize mup (mup (mup mu0 dx (.obj (dictOf [] 0))) x (.obj (instObj 138 dx))) dx (.obj (dictOf (putL "raw" (PyData.keyHash w.params "raw") (.str "raw" tk) (.str (rawS t b) tr) []) (putN "raw" [] 0))) = mu at F₂ hx2 hd2
  generalize hes : putL "raw" (PyData.keyHash w.params "raw") (.str "raw" tk) (.str (rawS t b) tr) [] = es at hd2 hraw
  generalize putN "raw" [] 0 = ep at hd2
  walk_at "go"
  refine Assign_Tuple_swapped ?_
  walk_at "go"
  refine cls_value (kin_of F₂ G) (reads138 _) (cls138_S _) rfl ?_
  have F₃ := F₂.tok (s₂.toks + 1)
  walk_at "go"
  refine cls_value (kin_of F₃ G) (reads138 _) (cls138_T _) rfl ?_
  have F₄ := F₃.tok (s₂.toks + 1 + 1)
  walk_at "go"
  refine n_tup F₄ (fun s₅ T F₅ hT lT e₅ => ?_) (show 2 ≤ sizeLine by decide)
  refine unT hh F₅ lT rfl fun s₆ F₆ => ?_
  refine inord2 (bindName_ (st_l F₆ fun s₇ F₇ => bindName_ (st_l F₇ fun s₈ F₈ => ?_)))
  walk_at "go"
  refine n_lstM F₈ (fun s₉ c hc F₉ => ?_) (by decide)
  have hcn := (F₈.fresh hc).2.2.2
  have hcx : c ≠ x := fun q => by rw [q, hx2] at hcn; cases hcn
  have hcd : c ≠ dx := fun q => by rw [q, hd2] at hcn; cases hcn
  walk_at "go"
  refine wpAny_Assign_three ?_
  walk_at "go"
  rename_i s₁₀ F₁₀ s₁₁ t₁₁ F₁₁ s₁₂ F₁₂ s₁₃ F₁₃ s₁₄ F₁₄
  refine inst_attr F₁₄ G ⟨(F₁₄.mus x _ ((mup_ne (Ne.symm hcx)).trans hx2)).1, rfl, rfl, (F₁₄.mus dx _ ((mup_ne (Ne.symm hcd)).trans hd2)).1⟩ (dict138 _) (get138 _) (find138_raw _) hraw rfl fun s₁₅ F₁₅ => ?_
  refine it_str F₁₅ (ascii_raw ht hb) fun s₁₆ I hI F₁₆ => ?_
  obtain ⟨hIc, hI2⟩ := mup_none hI
  have hIx : I ≠ x := fun q => by rw [q, hx2] at hI2; cases hI2
  have hId : I ≠ dx := fun q => by rw [q, hd2] at hI2; cases hI2
  refine for_go (t + b + 1) (fun i sJ => ∃ m mu', Frm s (callEnv fdWsInit L 93) [] m mu' sJ ∧ WInv x dx I es ep (rawS t b) tr t m mu' i ∧ i ≤ t + b)
    ⟨_, _, F₁₆, ⟨(mup_ne (Ne.symm hIx)).trans ((mup_ne (Ne.symm hcx)).trans hx2), (mup_ne (Ne.symm hId)).trans ((mup_ne (Ne.symm hcd)).trans hd2), mup_same, by walk_at "lk", ⟨_, by walk_at "lk"⟩, ⟨_, by walk_at "lk"⟩, ⟨c, 0, by walk_at "lk", ?_⟩, ⟨t₁₁, ?_⟩, ⟨t₁₁, ?_⟩, ⟨t₁₁, ?_⟩⟩, Nat.zero_le _⟩ fun i s₁₇ hi hJ Qx QB Vx VB => ?_
  · rw [Nat.zero_min, if_pos rfl]; exact (mup_ne (Ne.symm hIc)).trans mup_same
  · rw [Nat.zero_sub]; walk_at "lk"
  · walk_at "lk"
  · rw [Nat.zero_min]; walk_at "lk"
  clear F F₂ F₃ F₄ F₅ F₆ F₇ F₈ F₉ F₁₀ F₁₁ F₁₂ F₁₃ F₁₄ F₁₅ F₁₆ hx2 hd2 hcn hI hI2 hIc hcx hcd
  obtain ⟨m, mu', F, X, hib⟩ := hJ
  refine nx_str F X.hI (raw_at hib) fun s₁₈ tk F₁₈ => ⟨by lia, ?_⟩
  obtain ⟨c, uc, m4, hmc⟩ := X.m4
  obtain ⟨ub, m5⟩ := X.m5
  obtain ⟨un, m6⟩ := X.m6
  obtain ⟨unt, m7⟩ := X.m7
  obtain ⟨uS, m2⟩ := X.m2
  obtain ⟨uT, m3⟩ := X.m3
  have m1 := X.m1
  have hcI : c ≠ I := fun q => by rw [q, X.hI] at hmc; cases hmc
  have hcx : c ≠ x := fun q => by rw [q, X.hx] at hmc; cases hmc
  have hcd : c ≠ dx := fun q => by rw [q, X.hd] at hmc; cases hmc
  have k1 := (mup_ne (mu := mu') (v := siP (rawS t b) tr (i + 1)) hIx.symm).trans X.hx
  have k2 := (mup_ne (mu := mu') (v := siP (rawS t b) tr (i + 1)) hId.symm).trans X.hd
  have k3 := (mup_ne (mu := mu') (v := siP (rawS t b) tr (i + 1)) hcI).trans hmc
  have k4 : mup mu' I (siP (rawS t b) tr (i + 1)) I = some (siP (rawS t b) tr (i + 1)) := mup_same
  clear X F hmc
  generalize mup mu' I (siP (rawS t b) tr (i + 1)) = nu at F₁₈ k1 k2 k3 k4
  by_cases h1 : i < t
  · rw [if_pos h1]
    walk_at "go"
    refine PyProof.Rows.eq_str ?_
    rw [show ((⟨#[9]⟩ : Str) == " ") = false by decide +kernel]
    walk_at "go"
    refine PyProof.Rows.eq_str ?_
    rw [show ((⟨#[9]⟩ : Str) == "\t") = true by decide +kernel]
    walk_at "go"
    rename_i s₁₉ F₁₉ s₂₀ t₂₀ F₂₀ s₂₁ t₂₁ F₂₁ s₂₂ t₂₂ F₂₂ s₂₃ t₂₃ F₂₃ Qf Vf
    rw [show i - t = 0 by lia] at *
    rw [show min i t = i by lia] at *
    by_cases h0 : i = 0
    · subst h0
      rw [if_pos rfl] at k3
      refine l_len F₂₃ (F₂₃.lst k3) (by decide) fun s₂₄ t₂₄ F₂₄ => ?_
      walk_at "go"
      refine ifP (by simp) ?_
      walk_at "go"
      rename_i s₂₅ t₂₅ F₂₅
      refine n_lstM F₂₅ (fun s₂₆ z hz F₂₆ => ?_) (show 1 ≤ sizeLine by decide)
      have hzn := (F₂₅.fresh hz).2.2.2
      have hzc : z ≠ c := fun q => by rw [q, k3] at hzn; cases hzn
      walk_at "go"
      refine l_len (by assumption) (Frm.lst (by assumption) ((mup_ne hzc.symm).trans k3)) (by decide) fun s₂₈ t₂₈ F₂₈ => ?_
      walk_at "go"
      rw [show ((0 : Nat) : Int) - (([] : List Value).length : Nat) + 1 = 1 from rfl]
      rename_i s₂₉ t₂₉ F₂₉ s₃₀ t₃₀ F₃₀ s₃₁ t₃₁ F₃₁
      refine l_mul1 F₃₁ (F₃₁.lst mup_same) (by simp) (by simp) fun s₃₂ y F₃₂ ly _ => ?_
      refine l_add F₃₂ (F₃₂.lst ((mup_ne hzc.symm).trans k3)) ly (by simp) fun s₃₃ D F₃₃ hD lD _ => ?_
      obtain ⟨f1, f2, f3, f4⟩ := F₃₂.fresh hD
      have hDn := (mup_none f4).2
      have hDx : D ≠ x := fun q => by rw [q, k1] at hDn; cases hDn
      have hDd : D ≠ dx := fun q => by rw [q, k2] at hDn; cases hDn
      have hDI : D ≠ I := fun q => by rw [q, k4] at hDn; cases hDn
      have F₃₄ := (F₃₃.sub (mu' := nu) fun b v e => (mup_ne fun q => by rw [q, hzn] at e; cases e).trans e).mnew (v := .lst _) lD f1 f2 f3
      walk_at "go"
      refine wpAny_Assign_Subscript ?_
      walk_at "go"
      rename_i s₃₅ F₃₅
      refine s_lst (F₃₅.lst mup_same) (by decide) (by decide) (x := .int 0 t₂₅) rfl ?_
      walk_at "go"
      rename_i s₃₆ t₃₆ F₃₆ s₃₇ t₃₇ F₃₇
      refine l_set (p := 0) F₃₇ mup_same (by simp) (by simp) fun s₃₈ F₃₈ => ?_
      rw [mup_mup] at F₃₈
      walk_at "go"
      rename_i s₃₉ t₃₉ F₃₉ s₄₀ F₄₀
      refine ⟨_, _, F₄₀, ⟨(mup_ne hDx.symm).trans k1, (mup_ne hDd.symm).trans k2, (mup_ne hDI.symm).trans k4, by walk_at "lk", ⟨_, by walk_at "lk"⟩, ⟨_, by walk_at "lk"⟩, ⟨D, t₃₇, by walk_at "lk", ?_⟩, ?_, ?_, ?_⟩, by lia⟩
      · rw [show min (0 + 1) t = 1 by lia, if_neg (by lia)]; exact mup_same
      · rw [show 0 + 1 - t = 0 by lia]; exact ⟨_, by walk_at "lk"⟩
      · exact ⟨_, by walk_at "lk"⟩
      · rw [show min (0 + 1) t = 0 + 1 by lia]; exact ⟨_, by walk_at "lk"⟩
    · rw [if_neg h0] at k3
      refine l_len F₂₃ (F₂₃.lst k3) (by simp) fun s₂₄ t₂₄ F₂₄ => ?_
      walk_at "go"
      refine ifN (by simp) ?_
      walk_at "go"
      refine wpAny_Assign_Subscript ?_
      walk_at "go"
      refine s_lst (F₂₄.lst k3) (by lia) (by lia) (x := .int i uc) rfl ?_
      walk_at "go"
      rename_i s₂₅ t₂₅ F₂₅ s₂₆ t₂₆ F₂₆
      refine l_set (p := 0) F₂₆ k3 (by simp) (by simp) fun s₂₇ F₂₇ => ?_
      walk_at "go"
      rename_i s₂₈ t₂₈ F₂₈ s₂₉ F₂₉
      refine ⟨_, _, F₂₉, ⟨(mup_ne hcx.symm).trans k1, (mup_ne hcd.symm).trans k2, (mup_ne hcI.symm).trans k4, by walk_at "lk", ⟨_, by walk_at "lk"⟩, ⟨_, by walk_at "lk"⟩, ⟨c, t₂₆, by walk_at "lk", ?_⟩, ?_, ?_, ?_⟩, by lia⟩
      · rw [show min (i + 1) t = i + 1 by lia, if_neg (by lia)]; exact mup_same
      · rw [show i + 1 - t = 0 by lia]; exact ⟨_, by walk_at "lk"⟩
      · exact ⟨_, by walk_at "lk"⟩
      · rw [show min (i + 1) t = i + 1 by lia]; exact ⟨_, by walk_at "lk"⟩
  · rw [if_neg h1]
    by_cases h2 : i < t + b
    · rw [if_pos h2]
      walk_at "go"
      refine PyProof.Rows.eq_str ?_
      rw [show ((⟨#[32]⟩ : Str) == " ") = true by decide +kernel]
      walk_at "go"
      rename_i s₁₉ F₁₉
      refine ⟨_, _, F₁₉, ⟨k1, k2, k4, by walk_at "lk", ⟨_, by walk_at "lk"⟩, ⟨_, by walk_at "lk"⟩, ⟨c, uc, by walk_at "lk", ?_⟩, ?_, ?_, ?_⟩, by lia⟩
      · rw [show min (i + 1) t = min i t by lia]; exact k3
      · rw [show i + 1 - t = i - t + 1 by lia]; exact ⟨_, by walk_at "lk"⟩
      · exact ⟨_, by walk_at "lk"⟩
      · rw [show min (i + 1) t = min i t by lia]; exact ⟨_, by walk_at "lk"⟩
    · rw [if_neg h2]
      walk_at "go"
      refine PyProof.Rows.eq_str ?_
      rw [show ((⟨#[120]⟩ : Str) == " ") = false by decide +kernel]
      walk_at "go"
      refine PyProof.Rows.eq_str ?_
      rw [show ((⟨#[120]⟩ : Str) == "\t") = false by decide +kernel]
      walk_at "go"
      refine wpAny_Break ?_
      have hie : i = t + b := by lia
      subst hie
      rw [show min (t + b) t = t by lia] at *
      rw [show t + b - t = b by lia] at *
      have hesl : es.length ≤ 1 := by rw [← hes]; exact putL_len _ _ _ _ _
      walk_at "go"
      refine plainObj_wpAny_Assign_Attribute ?_
      walk_at "go"
      rename_i s₁₉ F₁₉
      refine st_attr F₁₉ G k1 k2 (set138 _) (over138 _) (take138_n _) (dict138 _) (by rw [← hes]; rfl) (Nat.le_trans (putL_len _ _ _ _ _) (by lia)) fun s₂₀ tk₂₀ F₂₀ => ?_
      generalize hes2 : putL "n" _ _ _ es = es2 at F₂₀
      have hesl2 : es2.length ≤ 2 := by rw [← hes2]; exact Nat.le_trans (putL_len _ _ _ _ _) (by lia)
      have k1 := (mup_ne (mu := nu) (v := .obj (dictOf es2 (putN "n" es ep))) hx).trans k1
      walk_at "go"
      refine plainObj_wpAny_Assign_Attribute ?_
      walk_at "go"
      refine st_attr F₂₀ G k1 mup_same (set138 _) (over138 _) (take138_nt _) (dict138 _) (by rw [← hes2, ← hes]; rfl) (Nat.le_trans (putL_len _ _ _ _ _) (by lia)) fun s₂₁ tk₂₁ F₂₁ => ?_
      rw [mup_mup] at F₂₁
      generalize hes3 : putL "nt" _ _ _ es2 = es3 at F₂₁
      have hesl3 : es3.length ≤ 3 := by rw [← hes3]; exact Nat.le_trans (putL_len _ _ _ _ _) (by lia)
      generalize putN "nt" _ _ = ep3 at F₂₁
      walk_at "go"
      refine plainObj_wpAny_Assign_Attribute ?_
      walk_at "go"
      have k3 := (mup_ne (mu := nu) (v := .obj (dictOf es3 ep3)) hcd).trans k3
      have k1 := (mup_ne (mu := nu) (v := .obj (dictOf es3 ep3)) hx).trans ((mup_ne hx).symm.trans k1)
      refine t_list F₂₁ (F₂₁.lst k3) (by split <;> simp) fun s₂₂ ct hct F₂₂ => ?_
      have hctd : ct ≠ dx := fun q => by rw [q, mup_same] at hct; cases hct
      have hctx : ct ≠ x := fun q => by rw [q, k1] at hct; cases hct
      have hctc : ct ≠ c := fun q => by rw [q, k3] at hct; cases hct
      walk_at "go"
      refine n_tupM F₂₂ (fun s₂₃ nm hs₂₃ hnm F₂₃ => ?_) (show 2 ≤ sizeLine by decide)
      obtain ⟨hnct, hnm'⟩ := mup_none hnm
      have hnmd : nm ≠ dx := fun q => by rw [q, mup_same] at hnm'; cases hnm'
      have hnmx : nm ≠ x := fun q => by rw [q, k1] at hnm'; cases hnm'
      have hnmc : nm ≠ c := fun q => by rw [q, k3] at hnm'; cases hnm'
      walk_at "go"
      refine st_attr F₂₃ G ((mup_ne hnmx.symm).trans ((mup_ne hctx.symm).trans k1)) ((mup_ne hnmd.symm).trans ((mup_ne hctd.symm).trans mup_same)) (set138 _) (over138 _) (take138_norm _) (dict138 _) (by rw [← hes3, ← hes2, ← hes]; rfl) (Nat.le_trans (putL_len _ _ _ _ _) (by lia)) fun s₂₄ tk₂₄ F₂₄ => ?_
      generalize hes4 : putL "norm" _ _ _ es3 = es4 at F₂₄
      have hesl4 : es4.length ≤ 4 := by rw [← hes4]; exact Nat.le_trans (putL_len _ _ _ _ _) (by lia)
      generalize putN "norm" _ _ = ep4 at F₂₄
      have j1 : mup (mup (mup (mup nu dx (.obj (dictOf es3 ep3))) ct (tupP (if t = 0 then [] else [.int t uc]))) nm (tupP [.ref ct, .int b ub])) dx (.obj (dictOf es4 ep4)) x = some (.obj (instObj 138 dx)) := (mup_ne hx).trans ((mup_ne hnmx.symm).trans ((mup_ne hctx.symm).trans k1))
      have j2 : mup (mup (mup (mup nu dx (.obj (dictOf es3 ep3))) ct (tupP (if t = 0 then [] else [.int t uc]))) nm (tupP [.ref ct, .int b ub])) dx (.obj (dictOf es4 ep4)) nm = some (tupP [.ref ct, .int b ub]) := (mup_ne hnmd).trans mup_same
      have j3 : mup (mup (mup (mup nu dx (.obj (dictOf es3 ep3))) ct (tupP (if t = 0 then [] else [.int t uc]))) nm (tupP [.ref ct, .int b ub])) dx (.obj (dictOf es4 ep4)) ct = some (tupP (if t = 0 then [] else [.int t uc])) := (mup_ne hctd).trans ((mup_ne hnct.symm).trans mup_same)
      have j4 : mup (mup (mup (mup nu dx (.obj (dictOf es3 ep3))) ct (tupP (if t = 0 then [] else [.int t uc]))) nm (tupP [.ref ct, .int b ub])) dx (.obj (dictOf es4 ep4)) c = some (.lst (if t = 0 then [] else [.int t uc])) := (mup_ne hcd).trans ((mup_ne hnmc.symm).trans ((mup_ne hctc.symm).trans k3))
      have j5 : mup (mup (mup (mup nu dx (.obj (dictOf es3 ep3))) ct (tupP (if t = 0 then [] else [.int t uc]))) nm (tupP [.ref ct, .int b ub])) dx (.obj (dictOf es4 ep4)) dx = some (.obj (dictOf es4 ep4)) := mup_same
      generalize mup (mup (mup (mup nu dx (.obj (dictOf es3 ep3))) ct (tupP (if t = 0 then [] else [.int t uc]))) nm (tupP [.ref ct, .int b ub])) dx (.obj (dictOf es4 ep4)) = pu at F₂₄ j1 j2 j3 j4 j5
      walk_at "go"
      refine plainObj_wpAny_Assign_Attribute ?_
      walk_at "go"
      have hl1 : (if t = 0 then [] else [Value.int t uc]).length ≤ 1 := by split <;> simp
      refine l_len F₂₄ (F₂₄.lst j4) (by lia) fun s₂₅ t₂₅ F₂₅ => ?_
      walk_at "go"
      rename_i s₂₆ t₂₆ F₂₆
      rw [decide_eq_true (show (((if t = 0 then [] else [Value.int t uc]).length : Nat) : Int) ≤ 1 by lia)]
      refine st_attr F₂₆ G j1 j5 (set138 _) (over138 _) (take138_is _) (dict138 _) (by rw [← hes4, ← hes3, ← hes2, ← hes]; rfl) (Nat.le_trans (putL_len _ _ _ _ _) (by lia)) fun s₂₇ tk₂₇ F₂₇ => ?_
      generalize hes5 : putL "is_simple" _ _ _ es4 = es5 at F₂₇
      walk_at "go"
      have hnd : nm ≠ dx := hnmd
      have q1 := F₂₇.mus x _ ((mup_ne hx).trans j1)
      have q2 := F₂₇.mus dx _ mup_same
      have q3 := (mup_ne (mu := pu) (v := .obj (dictOf es5 (putN "is_simple" es4 ep4))) hnmd).trans j2
      have q4 := (mup_ne (mu := pu) (v := .obj (dictOf es5 (putN "is_simple" es4 ep4))) hctd).trans j3
      refine ⟨rfl, h s₂₇ x F₂₇.done q1.2 ⟨dx, es5, putN "is_simple" es4 ep4, nm, ct, un, unt, ub, ⟨NH_get q1.1 q1.2, rfl, rfl, NH_get q2.1 q2.2⟩, ?_, ?_, ?_, ?_, ?_, ?_, ?_, tup_nh (F₂₇.tup q3) (F₂₇.mus _ _ q3).2, uc, tup_nh (F₂₇.tup q4) (F₂₇.mus _ _ q4).2⟩⟩
      all_goals (rw [← hes5, ← hes4, ← hes3, ← hes2, ← hes]; rfl)

section
variable {w : World} {A : Around} {E : Value → Shared → Prop} {B s : Shared} {env : Env} {cs : List (Str × Addr)} {m : Str → Option Value} {mu : Addr → Option Mv}
theorem eqAt_rd {d : Nat} {v v' : Value} {x y : PyData} (r : Room A d) (h1 : Rd s.heap v x) (h2 : Rd s.heap v' y) (s1 : SeqAt.shaped x = true) (s2 : SeqAt.shaped y = true) : SeqAt.EqAt A s v v' (PyData.eqv x y) :=
  let ⟨_, h1⟩ := h1; let ⟨_, h2⟩ := h2; SeqAt.eqAt_reads _ _ _ _ _ _ _ _ h1 h2 (SeqAt.canLay_of_shaped s1) (SeqAt.canLay_of_shaped s2) (SeqAt.room_of_shaped s1 r.un64)
theorem lm_index {l : Addr} {xs : List Value} {pl : Sem Bool} {Q : Value × List Value → Shared → Prop} (hl : s.heap.PlainList l xs.toArray) (h : Q (.builtin "list.index", [.ref l]) s) : wpAny (Md w) A (getMethod (.ref l) "index" pl) Q E s :=
  getMethod_list_of PySem.F.slot_list_index PySem.F.type_list_index hl.isList (noDict_lst hl) h
theorem lm_count {l : Addr} {xs : List Value} {pl : Sem Bool} {Q : Value × List Value → Shared → Prop} (hl : s.heap.PlainList l xs.toArray) (h : Q (.builtin "list.count", [.ref l]) s) : wpAny (Md w) A (getMethod (.ref l) "count" pl) Q E s :=
  getMethod_list_of PySem.F.slot_list_count PySem.F.type_list_count hl.isList (noDict_lst hl) h
theorem l_index {l : Addr} {xs : List Value} {x : Value} {j : Nat} {Q : Value → Shared → Prop} (e : Value → Bool) (F : Frm B env cs m mu s) (hl : s.heap.PlainList l xs.toArray) (he : ∀ y, y ∈ xs → SeqAt.EqAt A.in1 s y x (e y)) (hj : j < xs.length) (hz : xs.length ≤ 1000) (hit : e xs[j] = true) (hno : ∀ m (hm : m < xs.length), m < j → e xs[m] = false)
    (h : ∀ s' tk, Frm B env cs m mu s' → Q (.int j tk) s') : wpAny (Md w) A (call (.builtin "list.index") [.ref l, x]) Q E s := by
  obtain ⟨n, ho⟩ := hl
  refine call_meets PySem.F.slot_list_index ⟨_, ho, rfl⟩ PySem.F.entry_list_index (PySem.F.args_list_index_2 _ _) (SeqAt.list_indexAt l xs.toArray n none #[] x e j (by rw [List.size_toArray]; exact hj) (by lia) (by simpa using hit) (fun m hm hmj => by simpa using hno m (by simpa using hm) hmj)) ⟨ho, fun y hy => he y (by simpa using hy), h _ _ (F.tok _)⟩
theorem l_count {l : Addr} {xs : List Value} {x : Value} {Q : Value → Shared → Prop} (e : Value → Bool) (F : Frm B env cs m mu s) (hl : s.heap.PlainList l xs.toArray) (he : ∀ y, y ∈ xs → SeqAt.EqAt A.in1 s y x (e y))
    (h : ∀ s' tk, Frm B env cs m mu s' → Q (.int (xs.countP e : Nat) tk) s') : wpAny (Md w) A (call (.builtin "list.count") [.ref l, x]) Q E s := by
  obtain ⟨n, ho⟩ := hl
  refine call_meets PySem.F.slot_list_count ⟨_, ho, rfl⟩ PySem.F.entry_list_count (PySem.F.args_list_count_2 _ _) (SeqAt.list_countAt l xs.toArray n none #[] x e) ⟨ho, fun y hy => he y (by simpa using hy), h _ _ (F.tok _)⟩
theorem t_sum2 {t : Addr} {a b : Int} {t1 t2 : Tok} {Q : Value → Shared → Prop} (hh : A.handled = none) (F : Frm B env cs m mu s) (hT : IsTup s.heap t [.int a t1, .int b t2].toArray) (h : ∀ s' tk, Frm B env cs m mu s' → Q (.int (a + b) tk) s') :
    wpAny (Md w) A (call (.builtin "sum") [.ref t]) Q E s := by
  obtain ⟨o, ho, hc, n, hd⟩ := hT
  refine ktm_sumG (xs := #[(a, t1), (b, t2)]) hh ⟨o, ho, hc, n, hd.trans (by simp [intItems])⟩ fun h' tk t' hk => ?_
  have e : preSum (numAt #[(a, t1), (b, t2)]) (#[(a, t1), (b, t2)] : Array (Int × Tok)).size = a + b := by
    rw [preSum_eq]; simp
  rw [e]
  exact h _ _ (F.hp hk)
theorem i_pow {t u : Tok} {Q : Value → Shared → Prop} (F : Frm B env cs m mu s) (h : ∀ s' t, Frm B env cs m mu s' → Q (.int 1000000 t) s') : wpAny (Md w) A (binaryOp .Pow (.int 10 t) (.int 6 u)) Q E s := by
  refine PySem.AutoIntOps.pow_4 (by decide) (by decide) (by decide) (by decide) (by decide +kernel) ?_
  exact h _ _ (F.tok _)
theorem sub_lst_upto {value : Expr} {z : Int} {b k : Nat} {p pos cp : Pos} {Q : Value → Shared → Prop} (hz : z = b) (h : wpAny (Md w) A (eval value env) (fun o s₁ => ∃ (l : Addr) (xs : List Value), o = .ref l ∧ Frm B env cs m mu s₁ ∧ s₁.heap.IsList l xs.toArray ∧ xs.length ≤ 1000 ∧
      ∀ s' D, Frm B env cs m mu s' → s₁.heap.get? D = none → s'.heap.PlainList D (xs.take b).toArray → Ext s₁ s' → Q (.ref D) s') E s)
    (ht : ∀ o r, letTemporaryGo value o r = pure () := by intro _ _; rfl) : wpAny (Md w) A (eval (.Subscript value (.Slice none (some (.Constant (.int z) k cp)) none p) pos) env) Q E s := by
  subst hz
  refine wpAny_Subscript_list_slice (wpAny_mono h (fun o s₁ h₁ => ?_) fun _ _ x => x) ht
  obtain ⟨l, xs, rfl, F, hl, hz, hQ⟩ := h₁
  rw [evalPart_none]
  refine wpAny_pure ?_
  show wpAny _ _ (eval (.Constant (.int (b : Int)) k cp) env) _ _ _
  refine wpAny_Constant_int ?_
  refine ⟨l, xs.toArray, none, some (b : Int), rfl, hl, by rw [List.size_toArray, sizeLine_eq]; lia, .none, .int _ _, ?_⟩
  have k : ∀ b' o, s₁.heap.get? b' = some o → ((s₁.heap.push { cls := .type "slice", data := .fields #[.none, .int b s₁.toks, .none] }).push { cls := .type "list", data := .seq (slicePick xs.toArray none (some b) none) }).get? b' = some o := fun b o e => Heap.get?_push_of_some _ (Heap.get?_push_of_some _ e)
  have e1 := Heap.get?_push_size (s₁.heap.push { cls := .type "slice", data := .fields #[.none, .int b s₁.toks, .none] }) (o := { cls := .type "list", data := .seq (slicePick xs.toArray none (some b) none) }) rfl
  rw [Heap.size_push] at e1
  rw [slicePick_upto' xs.toArray b] at *
  exact hQ _ _ (F.hp k) (none_of_size (Nat.le_succ _)) ⟨0, e1⟩ (.heap _ k)

theorem applied_upto {sl : Addr} {b n : Nat} {u : Tok} {Q : Int × Int × Nat → Shared → Prop} (hs : s.heap.IsSliceOf sl .none (.int b u) .none) (hb : b ≤ n) (h : Q (0, 1, b) s) :
    wpAny (Md w) A (Builtin.Slice.sliceApplied (.ref sl) (pure (n : Int))) Q E s := by
  obtain ⟨os, hos, hcs, hds⟩ := id hs
  unfold Builtin.Slice.sliceApplied Builtin.Slice.sliceFields
  refine wpAny_bind (wpAny_bind (wpAny_field hos hds (x := .none) rfl (wpAny_bind (wpAny_field hos hds (x := .int b u) rfl (wpAny_bind (wpAny_field hos hds (x := .none) rfl (wpAny_pure ?_)))))))
  refine wpAny_bind (slicePart_none ?_)
  show wpAny _ _ (if ((1 : Int) == 0) = true then _ else _) _ _ s
  rw [if_neg (by decide)]
  refine wpAny_bind (slicePart_none (wpAny_bind (slicePart_int (wpAny_bind (wpAny_pure ?_)))))
  show wpAny _ _ (match Builtin.Slice.sliceAdjust none (some (b : Int)) 1 (n : Int) with | (lo, hi) => pure (lo, (1 : Int), Builtin.Slice.slicePlaces lo hi 1)) _ _ s
  have e1 : Builtin.Slice.sliceAdjust none (some (b : Int)) 1 (n : Int) = (0, (b : Int)) := by
    unfold Builtin.Slice.sliceAdjust
    have h1 : ¬ ((1 : Int) < 0) := by lia
    have h2 : ¬ ((b : Int) < 0) := by lia
    simp only [h1, h2, if_false]
    congr 1
    lia
  rw [e1]
  show wpAny _ _ (pure ((0 : Int), (1 : Int), Builtin.Slice.slicePlaces 0 (b : Int) 1)) _ _ s
  have e2 : Builtin.Slice.slicePlaces 0 (b : Int) 1 = b := by
    unfold Builtin.Slice.slicePlaces
    have h1 : (1 : Int) > 0 := by lia
    simp only [h1, if_true, Int.ediv_one]
    split <;> lia
  rw [e2]
  exact wpAny_pure h
theorem pick_upto (xs : List Value) (b : Nat) : ((List.range b).filterMap fun (k : Nat) => xs.toArray[((0 : Int) + (k : Int) * 1).toNat]?).toArray = (xs.take b).toArray := by
  have e : (fun (k : Nat) => xs.toArray[((0 : Int) + (k : Int) * 1).toNat]?) = fun k => xs.toArray[0 + k]? := by
    funext k
    have : ((0 : Int) + (k : Int) * 1).toNat = 0 + k := by lia
    rw [this]
  rw [e]
  have := pick_run xs.toArray 0 b
  rw [List.filterMap_map] at this
  have e2 : ((fun x => xs.toArray[x]?) ∘ fun x => 0 + x) = fun k => xs.toArray[0 + k]? := rfl
  rw [e2] at this
  rw [this]
  simp
theorem get_tup_upto {t sl : Addr} {xs : List Value} {b : Nat} {u : Tok} {Q : Value → Shared → Prop} (ht : IsTup s.heap t xs.toArray) (hs : s.heap.IsSliceOf sl .none (.int b u) .none) (hb : b < xs.length) (hz : xs.length ≤ 1000)
    (h : Q (.ref s.heap.objs.size) { s with heap := s.heap.push { cls := .type "tuple", data := .seq (xs.take b).toArray } }) : wpAny (Md w) A (getItem (.ref t) (.ref sl)) Q E s := by
  have hok : sizeOk (.seq (xs.take b).toArray) := by
    show (xs.take b).toArray.size ≤ sizeLine
    rw [List.size_toArray, List.length_take, sizeLine_eq]
    lia
  obtain ⟨os, hos, hcs, hds⟩ := id hs
  have hTs : s.TypeIs (.ref sl) "slice" := ⟨os, hos, hcs⟩
  unfold getItem
  try with_reducible refine wpAny_holding ?_
  first | refine wpAny_bind (wpAny_pure ?_) | skip
  refine wpAny_bind (wpAny_sequenceKey ht.typeIs (by decide) ?_)
  refine wpAny_bind (wpAny_callSpecial?_slot (name := Str.ofString "__getitem__") ht.typeIs slot_tuple_getitem
    (wpAny_call_entry slot_tuple_getitem ht.typeIs entry_tuple_getitem ?_ (args_tuple_getitem _ _)))
  show wpAny _ _ (Builtin.Tuple.tupleItemsOf (.ref t) >>= _) _ _ s
  refine wpAny_bind (tupleItemsOf_ ht ?_)
  refine wpAny_bind (wpAny_typeOf hTs ?_)
  rw [if_pos (by decide)]
  refine wpAny_bind (applied_upto hs (n := xs.toArray.size) (by rw [List.size_toArray]; lia) ?_)
  have hno : ¬ (((0 : Int) == 0 && (1 : Int) == 1 && b == xs.toArray.size) = true) := by
    have : (b == xs.toArray.size) = false := by rw [beq_eq_false_iff_ne, List.size_toArray]; lia
    rw [this]; simp
  show wpAny _ _ (if ((0 : Int) == 0 && (1 : Int) == 1 && b == xs.toArray.size) = true then _ else _) _ _ s
  rw [if_neg hno, pick_upto xs b]
  first
    | exact wpAny_bind (m := Builtin.Tuple.tupleExact _) (wpAny_newObj_type (wpAny_pure ⟨_, rfl, wpAny_pure h⟩) hok)
    | exact wpAny_bind (m := Builtin.Tuple.tupleExact _) (wpAny_newObj_type (wpAny_bind (wpAny_pure (wpAny_pure ⟨_, rfl, wpAny_pure h⟩))) hok)
    | exact wpAny_bind (wpAny_bind (m := Builtin.Tuple.tupleExact _) (wpAny_newObj_type (wpAny_pure (wpAny_pure ⟨_, rfl, wpAny_pure h⟩)) hok))
    | exact wpAny_bind (wpAny_bind (m := Builtin.Tuple.tupleExact _) (wpAny_newObj_type (wpAny_pure ⟨_, rfl, wpAny_pure h⟩) hok))
theorem sub_tup_upto {value : Expr} {z : Int} {b k : Nat} {p pos cp : Pos} {Q : Value → Shared → Prop} (hz : z = b) (h : wpAny (Md w) A (eval value env) (fun o s₁ => ∃ (t : Addr) (xs : List Value), o = .ref t ∧ Frm B env cs m mu s₁ ∧ IsTup s₁.heap t xs.toArray ∧ b < xs.length ∧ xs.length ≤ 1000 ∧
      ∀ s' D, Frm B env cs m mu s' → s₁.heap.get? D = none → IsTup s'.heap D (xs.take b).toArray → Ext s₁ s' → Q (.ref D) s') E s)
    (ht : ∀ o r, letTemporaryGo value o r = pure () := by intro _ _; rfl) : wpAny (Md w) A (eval (.Subscript value (.Slice none (some (.Constant (.int z) k cp)) none p) pos) env) Q E s := by
  subst hz
  refine wpAny_Subscript_Slice (T := "tuple") slot_tuple_getitem.lookup (wpAny_mono h (fun o s₁ h₁ => wpAny_Slice ?_) fun _ _ x => x) ht
  obtain ⟨t, xs, rfl, F, hT, hb, hz, hQ⟩ := h₁
  rw [evalPart_none]
  refine wpAny_pure ?_
  show wpAny _ _ (eval (.Constant (.int (b : Int)) k cp) env) _ _ _
  refine wpAny_Constant_int ?_
  refine wpAny_pure ?_
  have hT' : IsTup (s₁.heap.push { cls := .type "slice", data := .fields #[.none, .int b s₁.toks, .none] }) t xs.toArray := hT.keeps fun _ _ e => Heap.get?_push_of_some _ e
  refine ⟨hT'.typeIs, get_tup_upto hT' (Heap.IsSliceOf.new ..) hb hz ?_⟩
  have k : ∀ b' o, s₁.heap.get? b' = some o → ((s₁.heap.push { cls := .type "slice", data := .fields #[.none, .int b s₁.toks, .none] }).push { cls := .type "tuple", data := .seq (xs.take b).toArray }).get? b' = some o := fun b o e => Heap.get?_push_of_some _ (Heap.get?_push_of_some _ e)
  have e1 := Heap.get?_push_size (s₁.heap.push { cls := .type "slice", data := .fields #[.none, .int b s₁.toks, .none] }) (o := { cls := .type "tuple", data := .seq (xs.take b).toArray }) rfl
  exact hQ _ _ (F.hp k) (none_of_size (by rw [Heap.size_push]; exact Nat.le_succ _)) ⟨_, e1, rfl, 0, rfl⟩ (.heap _ k)
end

noncomputable def lawB : List Stmt := (⟨_, rfl⟩ : Σ' b : List Stmt, fdLaw.body = .stmts b).1
noncomputable def st0 : Stmt := (⟨_, rfl⟩ : Σ' a : Stmt, lawB[0]? = some a).1
noncomputable def st1 : Stmt := (⟨_, rfl⟩ : Σ' a : Stmt, lawB[1]? = some a).1
noncomputable def st2 : Stmt := (⟨_, rfl⟩ : Σ' a : Stmt, lawB[2]? = some a).1
noncomputable def st3 : Stmt := (⟨_, rfl⟩ : Σ' a : Stmt, lawB[3]? = some a).1
noncomputable def st4 : Stmt := (⟨_, rfl⟩ : Σ' a : Stmt, lawB[4]? = some a).1
noncomputable def st5 : Stmt := (⟨_, rfl⟩ : Σ' a : Stmt, lawB[5]? = some a).1
noncomputable def st6 : Stmt := (⟨_, rfl⟩ : Σ' a : Stmt, lawB[6]? = some a).1
noncomputable def st7 : Stmt := (⟨_, rfl⟩ : Σ' a : Stmt, lawB[7]? = some a).1
noncomputable def st8 : Stmt := (⟨_, rfl⟩ : Σ' a : Stmt, lawB[8]? = some a).1
noncomputable def st9 : Stmt := (⟨_, rfl⟩ : Σ' a : Stmt, lawB[9]? = some a).1
noncomputable def st10 : Stmt := (⟨_, rfl⟩ : Σ' a : Stmt, lawB[10]? = some a).1
noncomputable def st11 : Stmt := (⟨_, rfl⟩ : Σ' a : Stmt, lawB[11]? = some a).1
noncomputable def st12 : Stmt := (⟨_, rfl⟩ : Σ' a : Stmt, lawB[12]? = some a).1
noncomputable def st13 : Stmt := (⟨_, rfl⟩ : Σ' a : Stmt, lawB[13]? = some a).1
noncomputable def st14 : Stmt := (⟨_, rfl⟩ : Σ' a : Stmt, lawB[14]? = some a).1
noncomputable def st15 : Stmt := (⟨_, rfl⟩ : Σ' a : Stmt, lawB[15]? = some a).1
noncomputable def st16 : Stmt := (⟨_, rfl⟩ : Σ' a : Stmt, lawB[16]? = some a).1
noncomputable def st17 : Stmt := (⟨_, rfl⟩ : Σ' a : Stmt, lawB[17]? = some a).1
noncomputable abbrev lenv (L : Addr) : Env := callEnvC fdLaw L 183
noncomputable abbrev lcs (L : Addr) : List (Str × Addr) := (lenv L).cells

section
variable {w : World} {A : Around} {B s : Shared} {L : Addr} {m : Str → Option Value} {mu : Addr → Option Mv}
/-- what is made from s to s' goes to the base -/
theorem Frm.grow {env : Env} {cs : List (Str × Addr)} {s' : Shared} (F : Frm B env cs m mu s) (e : Ext s s') : Frm (Mine.reb B s s') env cs m mu s' := F.reb (F.kept e) fun a v e => ⟨v, e⟩
theorem Frm.growE {env : Env} {cs : List (Str × Addr)} {s' : Shared} (F : Frm B env cs m mu s) (e : Ext s s') : Ext B (Mine.reb B s s') :=
  ⟨by obtain ⟨h, t, q⟩ := (F.kept e).same; exact ⟨_, t, by show ({ s' with heap := _ } : Shared) = _; rw [q]⟩, reb_base (F.kept e).keep⟩

/-- all that stands, but the names and what changes -/
def fullB (env : Env) (cs : List (Str × Addr)) (mu : Addr → Option Mv) (s : Shared) : Shared := { s with heap := hideAll s.heap ((List.range s.heap.objs.size).filter fun a => a == env.locals || cs.any (fun x => x.2 == a) || (mu a).isSome) }
theorem full_in {env : Env} {cs : List (Str × Addr)} {a : Addr} {o : Obj} (e : s.heap.get? a = some o) (h1 : a ≠ env.locals) (h2 : ∀ x ∈ cs, x.2 ≠ a) (h3 : mu a = none) : (fullB env cs mu s).heap.get? a = some o :=
  hideAll_get _ e fun q => by
    have := (List.mem_filter.mp q).2
    simp only [h3, Option.isSome_none, Bool.or_false, Bool.or_eq_true, beq_iff_eq, List.any_eq_true] at this
    rcases this with h | ⟨x, hx, e⟩
    · exact h1 h
    · exact h2 x hx e
theorem full_out {env : Env} {cs : List (Str × Addr)} {a : Addr} (h : a = env.locals ∨ (∃ x ∈ cs, x.2 = a) ∨ mu a ≠ none) : (fullB env cs mu s).heap.get? a = none := by
  cases q : (fullB env cs mu s).heap.get? a with
  | none => rfl
  | some o =>
    have e := of_hideAll _ q
    have hm : a ∈ (List.range s.heap.objs.size).filter fun a => a == env.locals || cs.any (fun x => x.2 == a) || (mu a).isSome := by
      refine List.mem_filter.mpr ⟨List.mem_range.mpr (Heap.lt_size e), ?_⟩
      simp only [Bool.or_eq_true, beq_iff_eq, List.any_eq_true]
      rcases h with h | ⟨x, hx, e⟩ | h
      · exact .inl (.inl h)
      · exact .inl (.inr ⟨x, hx, e⟩)
      · exact .inr (Option.isSome_iff_ne_none.mpr h)
    have z := hideAll_none (h := s.heap) _ hm
    rw [show (fullB env cs mu s).heap = hideAll s.heap _ from rfl, z] at q; cases q
theorem lookup_of_mem {x : Str × Addr} : ∀ {cs : List (Str × Addr)}, (cs.map (·.1)).Nodup → x ∈ cs → cs.lookup x.1 = some x.2
  | (y1, y2) :: r, hn, hm => by
    rw [List.map_cons, List.nodup_cons] at hn
    rcases List.mem_cons.mp hm with e | hm'
    · rw [e]; rw [List.lookup_cons, beq_self_eq_true]
    · have q : x.1 ≠ y1 := fun q => hn.1 (q ▸ List.mem_map_of_mem (f := (·.1)) hm')
      rw [List.lookup_cons, show (x.1 == y1) = false by simpa using q]
      exact lookup_of_mem hn.2 hm'
theorem Frm.full {env : Env} {cs : List (Str × Addr)} (hn : (cs.map (·.1)).Nodup) (F : Frm B env cs m mu s) : Frm (fullB env cs mu s) env cs m mu s ∧ Ext B (fullB env cs mu s) := by
  refine ⟨⟨⟨s.heap, s.toks, rfl⟩, fun b o e => of_hideAll _ e, F.ns, full_out (.inl rfl), F.muL, fun x c hc => ?_, F.apart, fun a v h => ⟨(F.mus a v h).1, full_out (.inr (.inr (by rw [h]; simp)))⟩⟩, ?_, fun b o e => ?_⟩
  · obtain ⟨r0, r1, r2, r3, r4⟩ := F.cell x c hc
    exact ⟨r0, full_out (.inr (.inl ⟨_, mem_of_lookup hc, rfl⟩)), r2, r3, r4⟩
  · obtain ⟨h, t, q⟩ := F.same; exact ⟨_, t, by show ({ s with heap := _ } : Shared) = _; rw [q]⟩
  · refine full_in (F.keep b o e) (fun q => ?_) (fun x hx q => ?_) ?_
    · rw [q, F.newL] at e; cases e
    · have := (F.cell x.1 x.2 (lookup_of_mem hn hx)).2.1
      rw [q, e] at this; cases this
    · cases h : mu b with
      | none => rfl
      | some v => rw [(F.mus b v h).2] at e; cases e
theorem full_fresh {env : Env} {cs : List (Str × Addr)} {m' : Str → Option Value} {mu' : Addr → Option Mv} {s' : Shared} (hn : (cs.map (·.1)).Nodup) (F : Frm (fullB env cs mu s) env cs m' mu' s') (hmu : ∀ a, mu a ≠ none → mu' a ≠ none) : ∀ {a : Addr}, s'.heap.get? a = none → s.heap.get? a = none := by
  intro a h
  cases e : s.heap.get? a with
  | none => rfl
  | some o =>
    obtain ⟨f1, f2, f3, f4⟩ := F.fresh h
    have := full_in (env := env) (cs := cs) (mu := mu) e f2 (fun x hx q => f3 x.1 x.2 (lookup_of_mem hn hx) q) (by
      cases q : mu a with
      | none => rfl
      | some v => exact absurd f4 (hmu a (by rw [q]; simp)))
    rw [this] at f1; cases f1
theorem Frm.base {env : Env} {cs : List (Str × Addr)} {B₀ : Shared} (F : Frm B env cs m mu s) (e : Ext B₀ B) : Frm B₀ env cs m mu s where
  same := by obtain ⟨h, t, rfl⟩ := F.same; obtain ⟨h', t', q⟩ := e.same; exact ⟨h, t, by rw [q]⟩
  keep := fun b o h => F.keep b o (e.get b o h)
  ns := F.ns
  newL := none_back e.get F.newL
  muL := F.muL
  cell := fun x c hc => let ⟨a, b, r⟩ := F.cell x c hc; ⟨a, none_back e.get b, r⟩
  apart := F.apart
  mus := fun a v h => let ⟨p, q⟩ := F.mus a v h; ⟨p, none_back e.get q⟩

theorem range_map_getD {α β : Type} (l : List α) (d : α) (g : α → β) : (List.range l.length).map (fun i => g (l.getD i d)) = l.map g := by
  apply List.ext_getElem
  · simp
  · intro i h1 h2
    simp at h1
    simp [h1]

def cellsOf (ns : List Int) : List Int := [6, 1, 9, 4] ++ (ns.take 3).map fun x => x.fmod 1000000

theorem law0 {d : Nat} {S : Addr} {sv : List Value} {ns : List Int} (G : Glb w B.heap) (r : Room A d) (F : Frm B (lenv L) (lcs L) m mu s) (m1 : m "script" = some (.ref S)) (hS : B.heap.IsList S sv.toArray) (hz : sv.length ≤ 1000) (hA : Al (IntV B.heap) sv ns) :
    wpAny (Md w) A (exec st0 (lenv L)) (fun f s' => f = .next ∧ ∃ B' c cv, Ext B B' ∧ Frm B' (lenv L) (lcs L) (upd m "cells" (.ref c)) mu s' ∧ B'.heap.PlainList c cv.toArray ∧ Al (IntV B'.heap) cv (cellsOf ns)) (fun _ _ => False) s := by
  unfold st0
  dsimp only
  walk_at "go"
  rename_i s₁ t₁ F₁ s₂ t₂ F₂ s₃ t₃ F₃ s₄ t₄ F₄
  refine n_lst F₄ (fun s₅ a F₅ ha la e₅ => ?_) (show 4 ≤ sizeLine by decide)
  refine comp_list (hclos := rfl) r.hn ?_ ?_ ?_ ?_
  · refine sub_lst_upto (B := B) (cs := lcs L) (m := m) (mu := mu) (b := 3) rfl ?_
    walk_at "go"
    refine ⟨S, sv, rfl, F₅, hS.at fun o => F₅.keep _ o, hz, fun s₆ D F₆ hD lD e₆ => ?_⟩
    refine ⟨(sv.take 3).length, _, _, Int, IntV, fun _ => true, fun i => ((ns.take 3).getD i 0).fmod 1000000, fun i m => ∃ t, m "x" = some (.int ((ns.take 3).getD i 0) t), by rw [List.length_take]; lia, itb_lst lD, ⟨fun _ _ _ _ _ q => q, ?_, ?_, ?_⟩, ?_⟩
    · intro i v C B' m' mu' s' hi hv hB F
      obtain ⟨z, hz', t, rfl⟩ := (hA.take 3).get hv
      walk_at "go"
      refine ⟨_, by assumption, t, ?_⟩
      rw [upd_same, List.getD_eq_getElem?_getD, hz']; rfl
    · intro i C B' m' mu' s' hi hB F hN
      exact wpAny_tests_nil ⟨F, rfl⟩
    · intro i C B' m' mu' s' hi hp hB F hN
      obtain ⟨t, hk⟩ := hN
      walk_at "go"
      refine i_pow (by assumption) fun s₇ t₇ F₇ => ?_
      refine i_mod F₇ (by decide) fun s₈ t₈ F₈ => ?_
      exact ⟨F₈, t₈, rfl⟩
    · intro s₇ D' ys e₇ hD' hA'
      have F₇ := F₆.kept e₇
      refine l_add F₇ (la.at fun o e => e₇.get _ o (e₆.get _ o e)) (hD'.at fun o => NH_sub _ o) ?_ fun s₈ c F₈ hc lc e₈ => ?_
      · rw [hA'.length, mapf_true, List.length_map, List.length_range, List.length_take]; simp only [List.length_cons, List.length_nil]; lia
      refine st_l (F₇.grow e₈) fun s₉ F₉ => ?_
      refine ⟨rfl, _, c, _, F₇.growE e₈, F₉, lst_new lc hc, ?_⟩
      refine (Al.cons ⟨_, rfl⟩ (.cons ⟨_, rfl⟩ (.cons ⟨_, rfl⟩ (.cons ⟨_, rfl⟩ .nil)))).append ?_
      have h1 : (sv.take 3).length = (ns.take 3).length := (hA.take 3).length
      have e := range_map_getD (ns.take 3) 0 (fun x : Int => x.fmod 1000000)
      rw [mapf_true, h1, e] at hA'
      exact hA'.mono fun _ _ q => q
  · rfl
  · decide
  · intro x hx; simp at hx

def PartV (h : Heap) (v : Value) (p : Nat × Nat) : Prop := ∃ a t1 t2, v = .ref a ∧ IsTup h a [.int p.1 t1, .int p.2 t2].toArray
theorem PartV.keeps {h h' : Heap} {v : Value} {p : Nat × Nat} (L : PartV h v p) (k : ∀ b o, h.get? b = some o → h'.get? b = some o) : PartV h' v p := let ⟨a, t1, t2, e, x⟩ := L; ⟨a, t1, t2, e, x.keeps k⟩
def partOf (y : Int) : Nat × Nat := ((y.fmod 4).toNat, ((y.fdiv 4).fmod 4).toNat)
theorem cells_nd (L : Addr) : ((lcs L).map (·.1)).Nodup := by
  have e : (lcs L).map (·.1) = (["spans", "heads", "rows", "order", "j", "i", "columns", "leads", "parts"] : List Str) := rfl
  rw [e]; decide
theorem own_nil (scope : Scope) (C : Addr) (h : ∀ x ∈ scope.names, x.2 ≠ .cell) : ((cOwn scope C).map (·.1)).Nodup := by
  have : ∀ (names : List (Str × NameKind)) (n : Nat) (acc : List (Str × Addr)), (∀ x ∈ names, x.2 ≠ .cell) → cellsFrom n names acc = acc := by
    intro names
    induction names with
    | nil => intro n acc _; rfl
    | cons y r ih =>
      intro n acc h
      unfold cellsFrom
      have hy : (y.2 == NameKind.cell) = false := by have := h y (.head _); simpa using this
      obtain ⟨y1, y2⟩ := y
      simp only at hy ⊢
      rw [if_neg (by rw [hy]; simp)]
      exact ih n acc fun x hx => h x (.tail _ hx)
  show ((cellsFrom _ _ _).map _).Nodup
  rw [this _ _ _ h]; simp

theorem law1 {d : Nat} {c : Addr} {cv : List Value} {zs : List Int} (G : Glb w B.heap) (r : Room A d) (F : Frm B (lenv L) (lcs L) m mu s) (m1 : m "cells" = some (.ref c)) (hS : B.heap.PlainList c cv.toArray) (hz : cv.length ≤ 900) (hA : Al (IntV B.heap) cv zs) :
    wpAny (Md w) A (exec st1 (lenv L)) (fun f s' => f = .next ∧ ∃ B' a pv, Ext B B' ∧ Frm B' (lenv L) (lcs L) (upd m "parts" (.ref a)) mu s' ∧ B'.heap.PlainList a pv.toArray ∧ Al (PartV B'.heap) pv (zs.map partOf)) (fun _ _ => False) s := by
  unfold st1
  dsimp only
  refine wpAny_Assign_Name ?_
  refine comp_list (hclos := rfl) r.hn ?_ ?_ ?_ ?_
  · walk_at "go"
    refine ⟨cv.length, _, _, Nat × Nat, PartV, fun _ => true, fun i => partOf (zs.getD i 0), fun i m => ∃ t, m "y" = some (.int (zs.getD i 0) t), hz, itb_lst (hS.at fun o => F.keep _ o), ⟨fun _ _ _ _ k q => q.keeps k, ?_, ?_, ?_⟩, ?_⟩
    · intro i v C B' m' mu' s' hi hv hB F
      obtain ⟨z, hz', t, rfl⟩ := hA.get hv
      walk_at "go"
      refine ⟨_, by assumption, t, ?_⟩
      rw [upd_same, List.getD_eq_getElem?_getD, hz']; rfl
    · intro i C B' m' mu' s' hi hB F hN
      exact wpAny_tests_nil ⟨F, rfl⟩
    · intro i C B' m' mu' s' hi hp hB F hN
      obtain ⟨t, hk⟩ := hN
      have hnd := own_nil { kind := .function, names := [(".0", .local), ("y", .local)], isGenerator := false, isCoroutine := false } C (by decide)
      obtain ⟨F₀, e₀⟩ := F.full hnd
      generalize zs.getD i 0 = z at hk
      walk_at "go"
      refine i_mod (by assumption) (by decide) fun s₂ t₂ F₂ => ?_
      walk_at "go"
      refine i_div (by assumption) (by decide) (PyProof.noPylong_small (by decide)) fun s₃ t₃ F₃ => ?_
      walk_at "go"
      refine i_mod (by assumption) (by decide) fun s₄ t₄ F₄ => ?_
      walk_at "go"
      refine n_tup F₄ (fun s₅ a F₅ ha Ta _ => ?_) (show 2 ≤ sizeLine by decide)
      refine ⟨F₅.base e₀, a, t₂, t₄, rfl, ?_⟩
      have e1 : (((partOf z).1 : Nat) : Int) = z.fmod 4 := Int.toNat_of_nonneg (by rw [Int.fmod_eq_emod_of_nonneg _ (by decide)]; exact Int.emod_nonneg _ (by decide))
      have e2 : (((partOf z).2 : Nat) : Int) = (z.fdiv 4).fmod 4 := Int.toNat_of_nonneg (by rw [Int.fmod_eq_emod_of_nonneg _ (by decide)]; exact Int.emod_nonneg _ (by decide))
      rw [e1, e2]
      exact tup_nh Ta (full_fresh hnd F₄ (fun a q => q) ha)
    · intro s₂ D ys e₂ hD hA'
      refine st_c (F.grow e₂) rfl fun s₃ F₃ => ?_
      refine ⟨rfl, _, D, ys, F.growE e₂, F₃, hD.at fun o => reb_NH _ o, ?_⟩
      have e := range_map_getD zs 0 partOf
      rw [mapf_true, hA.length, e] at hA'
      exact hA'.mono fun _ _ q => q.keeps reb_NH
  · rfl
  · decide
  · intro x hx; simp at hx
end

section
variable {w : World} {A : Around} {E : Value → Shared → Prop} {B s : Shared} {env : Env} {cs : List (Str × Addr)} {m : Str → Option Value} {mu : Addr → Option Mv}
theorem c_str {x : Str} {k : Nat} {pos : Pos} {Q : Value → Shared → Prop} (F : Frm B env cs m mu s) (h : ∀ s' t, Frm B env cs m mu s' → Q (.str x t) s') : wpAny (Md w) A (eval (.Constant (.str x) k pos) env) Q E s :=
  wpAny_Constant_str (h _ _ (F.tok _))
theorem mulok4 {x : Str} (hx : x = "\t" ∨ x = " ") {t : Nat} (ht : t < 4) : MulOk x (t : Int) := by
  have h1 : t = 0 ∨ t = 1 ∨ t = 2 ∨ t = 3 := by lia
  rcases hx with rfl | rfl <;> rcases h1 with rfl | rfl | rfl | rfl <;> exact ⟨by decide +kernel, by decide +kernel, by decide +kernel⟩
theorem s_mul {x : Str} {t : Nat} {u v : Tok} {Q : Value → Shared → Prop} (hx : x = "\t" ∨ x = " ") (ht : t < 4) (F : Frm B env cs m mu s) (h : ∀ s' k, Frm B env cs m mu s' → Q (.str (Txt.mul x t) k) s') : wpAny (Md w) A (binaryOp .Mult (.str x u) (.int t v)) Q E s :=
  SB.mul (mulok4 hx ht) fun t' k => h _ _ (F.tok k)
theorem raw_eq {t b : Nat} (ht : t < 4) (hb : b < 4) : Txt.mul "\t" (t : Int) ++ Txt.mul " " (b : Int) ++ "x\t " = rawS t b := by
  have h1 : t = 0 ∨ t = 1 ∨ t = 2 ∨ t = 3 := by lia
  have h2 : b = 0 ∨ b = 1 ∨ b = 2 ∨ b = 3 := by lia
  rcases h1 with rfl | rfl | rfl | rfl <;> rcases h2 with rfl | rfl | rfl | rfl <;> decide +kernel
theorem mul_small {x : Str} (hx : x = "\t" ∨ x = " ") {t : Nat} (ht : t < 4) : (Txt.mul x (t : Int)).length ≤ 3 := by
  have h1 : t = 0 ∨ t = 1 ∨ t = 2 ∨ t = 3 := by lia
  rcases hx with rfl | rfl <;> rcases h1 with rfl | rfl | rfl | rfl <;> decide +kernel
theorem len_app (x y : Str) : (x ++ y).length = x.length + y.length := by
  show (x.cps ++ y.cps).size = _
  rw [Array.size_append]; rfl
theorem s_add {x y : Str} {u v : Tok} {Q : Value → Shared → Prop} (F : Frm B env cs m mu s) (hz : x.length + y.length ≤ 1000) (h : ∀ s' k, Frm B env cs m mu s' → Q (.str (x ++ y) k) s') : wpAny (Md w) A (binaryOp .Add (.str x u) (.str y v)) Q E s :=
  PyProof.Rows.add_str (fun t' tk => h _ _ (F.tok tk)) (by rw [sizeLine_eq]; lia)
end
--MAC+
local macro_rules | `(tactic| walk_at "go1") => `(tactic| first
  | ((with_reducible show wpAny _ _ (eval (Expr.Constant (Const.str _) _ _) _) _ _ _); refine c_str (by assumption) ?_; intro _ _ _)
  )
--MAC-

section
variable {w : World} {A : Around} {B s : Shared} {L : Addr} {m : Str → Option Value} {mu : Addr → Option Mv}
theorem law2 {a : Addr} {pv : List Value} {ps : List (Nat × Nat)} (G : Glb w B.heap) (r : Room A 4) (F : Frm B (lenv L) (lcs L) m mu s) (m1 : m "parts" = some (.ref a)) (hS : B.heap.PlainList a pv.toArray) (hz : pv.length ≤ 900) (hA : Al (PartV B.heap) pv ps) (hp : ∀ p ∈ ps, p.1 < 4 ∧ p.2 < 4) :
    wpAny (Md w) A (exec st2 (lenv L)) (fun f s' => f = .next ∧ ∃ B' l lv, Ext B B' ∧ Frm B' (lenv L) (lcs L) (upd m "leads" (.ref l)) mu s' ∧ B'.heap.PlainList l lv.toArray ∧ Al (LeadV B'.heap) lv ps) (fun _ _ => False) s := by
  unfold st2
  dsimp only
  refine wpAny_Assign_Name ?_
  refine comp_list (hclos := rfl) r.hn ?_ ?_ ?_ ?_
  · walk_at "go"
    refine ⟨pv.length, _, _, Nat × Nat, LeadV, fun _ => true, fun i => ps.getD i (0, 0), fun i m => ∃ t u, m "tabs" = some (.int ((ps.getD i (0, 0)).1 : Nat) t) ∧ m "blanks" = some (.int ((ps.getD i (0, 0)).2 : Nat) u), hz, itb_lst (hS.at fun o => F.keep _ o), ⟨fun _ _ _ _ k q => q.keeps k, ?_, ?_, ?_⟩, ?_⟩
    · intro i v C B' m' mu' s' hi hv hB F'
      obtain ⟨p, hp', q, t, u, rfl, hT⟩ := hA.get hv
      have e : ps.getD i (0, 0) = p := by rw [List.getD_eq_getElem?_getD, hp']; rfl
      refine as_tup2 r.hn F' (hT.keeps fun b o e => F'.keep b o (hB b o (F.keep b o e))) fun s₂ F₂ => ?_
      walk_at "go"
      exact ⟨_, by assumption, t, u, by rw [e]; walk_at "lk", by rw [e]; walk_at "lk"⟩
    · intro i C B' m' mu' s' hi hB F hN
      exact wpAny_tests_nil ⟨F, rfl⟩
    · intro i C B' m' mu' s' hi hpp hB F' hN
      obtain ⟨t, u, k1, k2⟩ := hN
      have hi' : i < ps.length := by rw [← hA.length]; exact hi
      have hm : ps.getD i (0, 0) ∈ ps := by rw [List.getD_eq_getElem?_getD, List.getElem?_eq_getElem hi']; exact List.getElem_mem hi'
      obtain ⟨h1, h2⟩ := hp _ hm
      generalize ps.getD i (0, 0) = p at *
      have G' := G.keeps fun b o e => hB b o (F.keep b o e)
      have hnd := own_nil { kind := .function, names := [(".0", .local), ("tabs", .local), ("blanks", .local), ("Whitespace", .globalImplicit)], isGenerator := false, isCoroutine := false } C (by decide)
      clear F
      obtain ⟨F₀, e₀⟩ := F'.full hnd
      replace G' := G'.keeps e₀.get
      clear F'
      walk_at "go"
      refine s_mul (.inl rfl) h1 (by assumption) fun s₂ t₂ F₂ => ?_
      walk_at "go"
      refine s_mul (.inr rfl) h2 (by assumption) fun s₃ t₃ F₃ => ?_
      refine s_add F₃ (by have := mul_small (x := "\t") (.inl rfl) h1; have := mul_small (x := " ") (.inr rfl) h2; lia) fun s₄ t₄ F₄ => ?_
      walk_at "go"
      refine s_add (by assumption) (by have := mul_small (x := "\t") (.inl rfl) h1; have := mul_small (x := " ") (.inr rfl) h2; rw [len_app]; have : (Str.ofString "x\t ").length = 3 := by decide +kernel
                                       lia) fun s₅ t₅ F₅ => ?_
      rw [raw_eq h1 h2]
      walk_at "go"
      refine ws_spec (G'.keeps F₅.keep) (r.le (by lia)) h1 h2 fun s₆ x e₆ hx hL => ?_
      exact ⟨(F₅.kept e₆).base e₀, x, rfl, hL.keeps (NH_le fun b hb => full_fresh hnd F₅ (fun a q => q) hb)⟩
    · intro s₂ D ys e₂ hD hA'
      refine st_c (F.grow e₂) rfl fun s₃ F₃ => ?_
      refine ⟨rfl, _, D, ys, F.growE e₂, F₃, hD.at fun o => reb_NH _ o, ?_⟩
      have e := range_map_getD ps (0, 0) id
      rw [List.map_id] at e
      rw [mapf_true, hA.length] at hA'
      rw [← e]
      exact hA'.mono fun _ _ q => q.keeps reb_NH
  · rfl
  · decide
  · intro x hx; simp at hx
end

def colOf (p : Nat × Nat) : List Int := (List.range 4).map fun k => ((p.1 * (k + 1) + p.2 : Nat) : Int)
def ColV (h : Heap) (v : Value) (p : Nat × Nat) : Prop := ∃ l vs, v = .ref l ∧ h.PlainList l vs.toArray ∧ Al (IntV h) vs (colOf p)
theorem ColV.keeps {h h' : Heap} {v : Value} {p : Nat × Nat} (L : ColV h v p) (k : ∀ b o, h.get? b = some o → h'.get? b = some o) : ColV h' v p := let ⟨l, vs, e, x, y⟩ := L; ⟨l, vs, e, x.at fun o => k _ o, y.mono fun _ _ q => q⟩
theorem own2 (x y : Str) (hxy : x ≠ y) (C : Addr) : ((cOwn { kind := .function, names := [(".0", .local), (x, .cell), (y, .cell)], isGenerator := false, isCoroutine := false } C).map (·.1)).Nodup := by
  show (([y, x] : List Str)).Nodup
  simp [Ne.symm hxy]
theorem mul4 {a : Int} {i : Nat} (hi : i < 4) : IntMulOk a ((i : Int) + 1) := by
  refine IntMulOk.of_right ?_
  have : i = 0 ∨ i = 1 ∨ i = 2 ∨ i = 3 := by lia
  rcases this with rfl | rfl | rfl | rfl <;> decide

section
variable {w : World} {A : Around} {B s : Shared} {L : Addr} {m : Str → Option Value} {mu : Addr → Option Mv}
theorem law3 {a : Addr} {pv : List Value} {ps : List (Nat × Nat)} (G : Glb w B.heap) (r : Room A 4) (F : Frm B (lenv L) (lcs L) m mu s) (m1 : m "parts" = some (.ref a)) (hS : B.heap.PlainList a pv.toArray) (hz : pv.length ≤ 900) (hA : Al (PartV B.heap) pv ps) :
    wpAny (Md w) A (exec st3 (lenv L)) (fun f s' => f = .next ∧ ∃ B' l lv, Ext B B' ∧ Frm B' (lenv L) (lcs L) (upd m "columns" (.ref l)) mu s' ∧ B'.heap.PlainList l lv.toArray ∧ Al (ColV B'.heap) lv ps) (fun _ _ => False) s := by
  unfold st3
  dsimp only
  refine wpAny_Assign_Name ?_
  refine comp_list (hclos := rfl) r.hn ?_ ?_ ?_ ?_
  · walk_at "go"
    refine ⟨pv.length, _, _, Nat × Nat, ColV, fun _ => true, fun i => ps.getD i (0, 0), fun i m => ∃ t u, m "tabs" = some (.int ((ps.getD i (0, 0)).1 : Nat) t) ∧ m "blanks" = some (.int ((ps.getD i (0, 0)).2 : Nat) u), hz, itb_lst (hS.at fun o => F.keep _ o), ⟨fun _ _ _ _ k q => q.keeps k, ?_, ?_, ?_⟩, ?_⟩
    · intro i v C B' m' mu' s' hi hv hB F'
      obtain ⟨p, hp', q, t, u, rfl, hT⟩ := hA.get hv
      have e : ps.getD i (0, 0) = p := by rw [List.getD_eq_getElem?_getD, hp']; rfl
      refine as_tup2 r.hn F' (hT.keeps fun b o e => F'.keep b o (hB b o (F.keep b o e))) fun s₂ F₂ => ?_
      walk_at "go"
      exact ⟨_, by assumption, t, u, by rw [e]; walk_at "lk", by rw [e]; walk_at "lk"⟩
    · intro i C B' m' mu' s' hi hB F hN
      exact wpAny_tests_nil ⟨F, rfl⟩
    · intro i C B' m' mu' s' hi hpp hB F' hN
      obtain ⟨t, u, k1, k2⟩ := hN
      generalize ps.getD i (0, 0) = p at *
      have hnd := own2 "tabs" "blanks" (by decide) C
      clear F
      obtain ⟨F₀, e₀⟩ := F'.full hnd
      clear F'
      refine comp_list (hclos := rfl) r.hn ?_ ?_ ?_ ?_
      · walk_at "go"
        rename_i s₁ t₁ F₁ s₂ t₂ F₂ s₃ t₃ F₃ s₄ t₄ F₄
        refine n_tup F₄ (fun s₅ T F₅ hT lT _ => ?_) (show 4 ≤ sizeLine by decide)
        have hF5 : ∀ b, s₅.heap.get? b = none → s'.heap.get? b = none := fun b => full_fresh hnd F₅ (fun a q => q)
        refine ⟨4, _, _, Int, IntV, fun _ => true, fun i => ((p.1 * (i + 1) + p.2 : Nat) : Int), fun i m => ∃ t, m "size" = some (.int ((i : Int) + 1) t), by decide, itb_tup lT, ⟨fun _ _ _ _ _ q => q, ?_, ?_, ?_⟩, ?_⟩
        · intro j v C' B'' m'' mu'' s'' hj hv hB' F
          have : j = 0 ∨ j = 1 ∨ j = 2 ∨ j = 3 := by lia
          rcases this with rfl | rfl | rfl | rfl <;> (simp at hv; subst hv; walk_at "go"; exact ⟨_, by assumption, _, upd_same⟩)
        · intro j C' B'' m'' mu'' s'' hj hB' F hN
          exact wpAny_tests_nil ⟨F, rfl⟩
        · intro j C' B'' m'' mu'' s'' hj hp' hB' F hN
          obtain ⟨v, hk⟩ := hN
          have c1 := F₅.cellB "tabs" _ hB' k1 rfl
          have c2 := F₅.cellB "blanks" _ hB' k2 rfl
          walk_at "go"
          refine i_mul (by assumption) (mul4 hj) fun s₆ t₆ F₆ => ?_
          walk_at "go"
          rename_i s₇ t₇ F₇
          exact ⟨F₇, t₇, by rw [Int.natCast_add, Int.natCast_mul]; rfl⟩
        · intro s₆ D ys e₆ hD hA'
          refine ⟨(F₅.kept e₆).base e₀, D, ys, rfl, hD.at fun o => NH_le hF5 _ o, ?_⟩
          rw [mapf_true] at hA'
          exact hA'.mono fun _ _ q => q
      · rfl
      · decide
      · intro x hx; simp at hx
    · intro s₂ D ys e₂ hD hA'
      refine st_c (F.grow e₂) rfl fun s₃ F₃ => ?_
      refine ⟨rfl, _, D, ys, F.growE e₂, F₃, hD.at fun o => reb_NH _ o, ?_⟩
      have e := range_map_getD ps (0, 0) id
      rw [List.map_id] at e
      rw [mapf_true, hA.length] at hA'
      rw [← e]
      exact hA'.mono fun _ _ q => q.keeps reb_NH
  · rfl
  · decide
  · intro x hx; simp at hx; rcases hx with rfl | rfl <;> rfl
end

theorem rg_new {B s s' : Shared} {r : Addr} {a b : Int} (x : RgAt s'.heap r a b) (n : s.heap.get? r = none) : RgAt (reb B s s').heap r a b := let ⟨t, u, v, e⟩ := x; ⟨t, u, v, reb_new e n⟩
theorem RgAt.keeps {h h' : Heap} {r : Addr} {a b : Int} (x : RgAt h r a b) (k : ∀ b o, h.get? b = some o → h'.get? b = some o) : RgAt h' r a b := let ⟨t, u, v, e⟩ := x; ⟨t, u, v, k _ _ e⟩
theorem eqvAll_ints : ∀ a b : List Int, PyData.eqvAll (a.map PyData.int) (b.map PyData.int) = decide (a = b)
  | [], [] => rfl
  | [], _ :: _ => by simp [PyData.eqvAll]
  | _ :: _, [] => by simp [PyData.eqvAll]
  | x :: a, y :: b => by
    have := eqvAll_ints a b
    simp [PyData.eqvAll, PyData.eqv, this]
    by_cases h : x = y <;> simp [h]
theorem eqv_ints (a b : List Int) : PyData.eqv (.list (a.map PyData.int)) (.list (b.map PyData.int)) = decide (a = b) := by
  have := eqvAll_ints a b
  simp [PyData.eqv, this]

section
variable {w : World} {A : Around} {B s : Shared} {L : Addr} {m : Str → Option Value} {mu : Addr → Option Mv}
theorem law4 {d : Nat} {c : Addr} {cv : List Value} (G : Glb w B.heap) (r : Room A d) (F : Frm B (lenv L) (lcs L) m mu s) (m1 : m "cells" = some (.ref c)) (hS : B.heap.PlainList c cv.toArray) (hz : cv.length ≤ 900) :
    wpAny (Md w) A (exec st4 (lenv L)) (fun f s' => f = .next ∧ ∃ B' a, Ext B B' ∧ Frm B' (lenv L) (lcs L) (upd m "places" (.ref a)) mu s' ∧ RgAt B'.heap a 0 cv.length) (fun _ _ => False) s := by
  unfold st4
  dsimp only
  walk_at "go"
  refine l_len F (hS.at fun o => F.keep _ o) (by lia) fun s₁ t₁ F₁ => ?_
  walk_at "go"
  refine n_rg1 F₁ fun s₂ r F₂ hr hR e₂ => ?_
  refine st_l (F₁.grow e₂) fun s₃ F₃ => ?_
  exact ⟨rfl, _, r, F₁.growE e₂, F₃, rg_new hR hr⟩

theorem col_below {p q : Nat × Nat} (hp : p.1 < 4 ∧ p.2 < 4) (hq : q.1 < 4 ∧ q.2 < 4) :
    (mapf (fun k => decide (((q.1 * (k + 1) + q.2 : Nat) : Int) ≤ ((p.1 * (k + 1) + p.2 : Nat) : Int))) (fun k => ((k : Nat) : Int)) 4 == []) = lessB p.1 p.2 q.1 q.2 := by
  obtain ⟨a, b⟩ := p
  obtain ⟨c, d⟩ := q
  obtain ⟨h1, h2⟩ := hp
  obtain ⟨h3, h4⟩ := hq
  simp only at h1 h2 h3 h4
  have e : ∀ x y : Bool, (x = true ↔ y = true) → x = y := fun x y h => by cases x <;> cases y <;> simp_all
  apply e
  unfold lessB
  simp only [beq_iff_eq, Bool.and_eq_true, decide_eq_true_eq]
  constructor
  · intro h
    have all : ∀ k, k < 4 → ¬ (((c * (k + 1) + d : Nat) : Int) ≤ ((a * (k + 1) + b : Nat) : Int)) := by
      intro k hk hle
      have : ((k : Nat) : Int) ∈ mapf (fun k => decide (((c * (k + 1) + d : Nat) : Int) ≤ ((a * (k + 1) + b : Nat) : Int))) (fun k => ((k : Nat) : Int)) 4 := by
        unfold mapf
        refine List.mem_map.mpr ⟨k, List.mem_filter.mpr ⟨List.mem_range.mpr hk, by simpa using hle⟩, rfl⟩
      rw [h] at this; cases this
    have a0 := all 0 (by decide)
    have a3 := all 3 (by decide)
    lia
  · intro h
    cases hm : mapf (fun k => decide (((c * (k + 1) + d : Nat) : Int) ≤ ((a * (k + 1) + b : Nat) : Int))) (fun k => ((k : Nat) : Int)) 4 with
    | nil => rfl
    | cons z zs =>
      obtain ⟨k, hk, hd, _⟩ := mapf_mem (a := z) (by rw [hm]; exact .head _)
      simp only [decide_eq_true_eq] at hd
      have : k = 0 ∨ k = 1 ∨ k = 2 ∨ k = 3 := by lia
      rcases this with rfl | rfl | rfl | rfl <;> lia

def partD (p : Nat × Nat) : PyData := .tuple [.int (p.1 : Nat), .int (p.2 : Nat)]
theorem rd_part {h : Heap} {v : Value} {p : Nat × Nat} (x : PartV h v p) : Rd h v (partD p) := by
  obtain ⟨a, t1, t2, rfl, hT⟩ := x
  exact rd_tup hT (.cons (.int _ _) (.cons (.int _ _) .nil))
theorem shaped_part (p : Nat × Nat) : SeqAt.shaped (partD p) = true := rfl
theorem eqv_part (p q : Nat × Nat) : PyData.eqv (partD p) (partD q) = (decide (p.1 = q.1) && decide (p.2 = q.2)) := by
  have e : ∀ x y : Nat, ((x : Int) == (y : Int)) = decide (x = y) := fun x y => by
    by_cases q : x = y
    · subst q; simp
    · simp [q]; lia
  simp [partD, PyData.eqv, PyData.eqvAll, e]

theorem colOf_at (p : Nat × Nat) {k : Nat} (hk : k < 4) : (colOf p)[k]? = some ((p.1 * (k + 1) + p.2 : Nat) : Int) := by
  unfold colOf
  rw [List.getElem?_map, List.getElem?_range hk]; rfl

theorem law5 {l co pl a : Addr} {lv cov pv : List Value} {ps : List (Nat × Nat)} (G : Glb w B.heap) (r : Room A 4) (F : Frm B (lenv L) (lcs L) m mu s) (m1 : m "leads" = some (.ref l)) (m2 : m "columns" = some (.ref co)) (m3 : m "places" = some (.ref pl)) (m4 : m "parts" = some (.ref a))
    (hL : B.heap.PlainList l lv.toArray) (hLA : Al (LeadV B.heap) lv ps) (hC : B.heap.PlainList co cov.toArray) (hCA : Al (ColV B.heap) cov ps) (hR : RgAt B.heap pl 0 ps.length) (hP : B.heap.PlainList a pv.toArray) (hPA : Al (PartV B.heap) pv ps)
    (hp : ∀ p ∈ ps, p.1 < 4 ∧ p.2 < 4) (hn : ps.length ≤ 20) :
    wpAny (Md w) A (exec st5 (lenv L)) (fun f s' => f = .next ∧ ∃ m', Frm B (lenv L) (lcs L) m' mu s' ∧ ∀ x : Str, x ≠ "i" → x ≠ "j" → x ≠ "below" → m' x = m x) (fun _ _ => False) s := by
  have hl1 := hLA.length
  have hl2 := hCA.length
  have hl3 := hPA.length
  unfold st5
  dsimp only
  walk_at "go"
  refine it_rg F (hR.keeps F.keep) (by decide) (by decide) (by lia) (by lia) fun s₁ I hI F₁ => ?_
  have e1 : riP 0 (if (0 : Int) < (ps.length : Int) then (ps.length : Int) - 0 else 0) = riP ((0 : Nat) : Int) ((ps.length : Int) - (0 : Nat)) := by
    have : (if (0 : Int) < (ps.length : Int) then (ps.length : Int) - 0 else 0) = (ps.length : Int) - ((0 : Nat) : Int) := by split <;> lia
    rw [this]; rfl
  rw [e1] at F₁
  refine for_go ps.length (fun i s' => ∃ m', Frm B (lenv L) (lcs L) m' (mup mu I (riP i ((ps.length : Int) - i))) s' ∧ ∀ x : Str, x ≠ "i" → x ≠ "j" → x ≠ "below" → m' x = m x) ⟨_, F₁, fun _ _ _ _ => rfl⟩ fun i s₂ hi hJ Qx QB Vx VB => ?_
  clear F F₁
  obtain ⟨m', F, hm⟩ := hJ
  have k1 := (hm "leads" (by decide) (by decide) (by decide)).trans m1
  have k2 := (hm "columns" (by decide) (by decide) (by decide)).trans m2
  have k3 := (hm "places" (by decide) (by decide) (by decide)).trans m3
  have k4 := (hm "parts" (by decide) (by decide) (by decide)).trans m4
  by_cases hlt : i < ps.length
  · refine nx_rg F mup_same (by lia) fun s₃ t₃ F₃ => ⟨hlt, ?_⟩
    rw [mup_mup] at F₃
    obtain ⟨x, hx, Lx⟩ := lead_at hLA hlt
    obtain ⟨vc, hvc, lc, cvs, rfl, hlc, hcA⟩ := hCA.get' (List.getElem?_eq_getElem hlt)
    obtain ⟨vp, hvp, hPp⟩ := hPA.get' (List.getElem?_eq_getElem hlt)
    obtain ⟨hp1, hp2⟩ := hp _ (List.getElem_mem hlt)
    have ep : ps.getD i (0, 0) = ps[i] := by rw [List.getD_eq_getElem?_getD, List.getElem?_eq_getElem hlt]; rfl
    rw [ep] at Lx
    generalize hpi : ps[i] = p at *
    walk_at "go"
    rename_i s₄ F₄
    refine comp_list (hclos := rfl) r.hn ?_ ?_ ?_ ?_
    · walk_at "go"
      rename_i s₅ t₅ F₅ s₆ t₆ F₆ s₇ t₇ F₇ s₈ t₈ F₈
      refine n_tup F₈ (fun s₉ T F₉ _ lT _ => ?_) (show 4 ≤ sizeLine by decide)
      refine ⟨4, _, _, Int, IntV, fun _ => true, fun k => ((p.1 * (k + 1) + p.2 : Nat) : Int), fun k m => ∃ t, m "size" = some (.int ((k : Int) + 1) t), by decide, itb_tup lT, ⟨fun _ _ _ _ _ q => q, ?_, ?_, ?_⟩, ?_⟩
      · intro j v C' B'' m'' mu'' s'' hj hv hB' F
        have : j = 0 ∨ j = 1 ∨ j = 2 ∨ j = 3 := by lia
        rcases this with rfl | rfl | rfl | rfl <;> (simp at hv; subst hv; walk_at "go"; exact ⟨_, by assumption, _, upd_same⟩)
      · intro j C' B'' m'' mu'' s'' hj hB' F hN
        exact wpAny_tests_nil ⟨F, rfl⟩
      · intro j C' B'' m'' mu'' s'' hj hp' hB' F' hN
        obtain ⟨v, hk⟩ := hN
        have c1 := F₉.cellB "leads" _ hB' (by walk_at "lk") rfl
        have c2 := F₉.cellB "i" _ hB' (by walk_at "lk") rfl
        have kp : ∀ b o, B.heap.get? b = some o → B''.heap.get? b = some o := fun b o e => hB' b o (F₉.keep b o e)
        have G' := G.keeps kp
        walk_at "go"
        refine s_lst (hL.at fun o e => F'.keep _ o (kp _ o e)) (by lia) (by lia) (x := .ref x) hx ?_
        refine me_indent F' G' (Lx.keeps fun b o e => F'.keep b o (kp b o e)) ?_
        walk_at "go"
        have hz : (j : Int) + 1 = ((j + 1 : Nat) : Int) := rfl
        rw [hz]
        refine indent_spec (G'.keeps F'.keep) (r.le (by lia)) (Lx.keeps fun b o e => F'.keep b o (kp b o e)) (z := j + 1) (by lia) (by lia) (by lia) fun s₁₀ tk e₁₀ => ?_
        refine ⟨F'.kept e₁₀, tk, ?_⟩
        rw [Nat.add_comm, Nat.mul_comm]
      · intro s₁₀ D ys e₁₀ hD hA'
        have F₁₀ := F₉.kept e₁₀
        walk_at "go"
        refine s_lst (hC.at fun o => F₁₀.keep _ o) (by lia) (by lia) (x := .ref lc) (by simpa using hvc) ?_
        refine ne_rd r (rd_al (enc := PyData.int) (hD.at fun o => NH_sub _ o) (fun v a q => rd_int q) hA') (rd_al (enc := PyData.int) (hlc.at fun o => F₁₀.keep _ o) (fun v a q => rd_int q) hcA) (shaped_ints _) (shaped_ints _) ?_
        rw [eqv_ints]
        have e : mapf (fun _ => true) (fun k => ((p.1 * (k + 1) + p.2 : Nat) : Int)) 4 = colOf p := by rw [mapf_true]; rfl
        rw [decide_eq_true e]
        walk_at "go"
        refine ifN rfl ?_
        walk_at "go"
        refine it_rg F₁₀ (hR.keeps F₁₀.keep) (by decide) (by decide) (by lia) (by lia) fun s₁₁ J hJn F₁₁ => ?_
        obtain ⟨hJI, _⟩ := mup_none hJn
        rw [e1] at F₁₁
        refine for_go ps.length (fun j s' => ∃ m', Frm B (lenv L) (lcs L) m' (mup (mup mu I (riP ((i : Int) + 1) ((ps.length : Int) - i - 1))) J (riP j ((ps.length : Int) - j))) s' ∧ (∃ t, m' "i" = some (.int (i : Nat) t)) ∧ ∀ x : Str, x ≠ "i" → x ≠ "j" → x ≠ "below" → m' x = m x)
          ⟨_, F₁₁, ⟨t₃, upd_same⟩, fun x h1 h2 h3 => (upd_ne h1).trans (hm x h1 h2 h3)⟩ fun j s₁₂ hj hJ Qx QB Vx VB => ?_
        clear F F₃ F₄ F₅ F₆ F₇ F₈ F₉ F₁₀ F₁₁ hD hA' k1 k2 k3 k4 hm
        obtain ⟨m₁, F, ⟨ti, ki⟩, hm⟩ := hJ
        have k1 := (hm "leads" (by decide) (by decide) (by decide)).trans m1
        have k2 := (hm "columns" (by decide) (by decide) (by decide)).trans m2
        have k4 := (hm "parts" (by decide) (by decide) (by decide)).trans m4
        by_cases hlt' : j < ps.length
        · refine nx_rg F mup_same (by lia) fun s₁₃ t₁₃ F₁₃ => ⟨hlt', ?_⟩
          rw [mup_mup] at F₁₃
          clear F
          obtain ⟨y, hy, Ly⟩ := lead_at hLA hlt'
          obtain ⟨vd, hvd, ld, dvs, rfl, hld, hdA⟩ := hCA.get' (List.getElem?_eq_getElem hlt')
          obtain ⟨vq, hvq, hPq⟩ := hPA.get' (List.getElem?_eq_getElem hlt')
          obtain ⟨hq1, hq2⟩ := hp _ (List.getElem_mem hlt')
          have eq' : ps.getD j (0, 0) = ps[j] := by rw [List.getD_eq_getElem?_getD, List.getElem?_eq_getElem hlt']; rfl
          rw [eq'] at Ly
          generalize hqi : ps[j] = q at *
          walk_at "go"
          rename_i s₁₄ F₁₄
          refine comp_list (hclos := rfl) r.hn ?_ ?_ ?_ ?_
          · walk_at "go"
            rename_i s₁₅ t₁₅ F₁₅
            refine n_rg1 F₁₅ fun s₁₆ rg F₁₆ _ hrg _ => ?_
            refine ⟨4, _, _, Int, IntV, fun k => decide (((q.1 * (k + 1) + q.2 : Nat) : Int) ≤ ((p.1 * (k + 1) + p.2 : Nat) : Int)), fun k => ((k : Nat) : Int), fun k m => ∃ t, m "k" = some (.int (k : Nat) t), by decide, itb_rg (a := 0) (n := 4) hrg (by decide) (by decide) (by decide) (by decide), ⟨fun _ _ _ _ _ q => q, ?_, ?_, ?_⟩, ?_⟩
            · intro k v C' B'' m'' mu'' s'' hk hv hB' F
              obtain ⟨t, rfl⟩ := hv
              walk_at "go"
              refine ⟨_, by assumption, t, ?_⟩
              rw [upd_same, Nat.zero_add]
            · intro k C' B'' m'' mu'' s'' hk hB' F' hN
              obtain ⟨v, hkk⟩ := hN
              refine wpAny_tests_one ?_
              have c1 := F₁₆.cellB "columns" _ hB' (by walk_at "lk") rfl
              have c2 := F₁₆.cellB "i" _ hB' (by walk_at "lk") rfl
              have c3 := F₁₆.cellB "j" _ hB' (by walk_at "lk") rfl
              have kp : ∀ b o, B.heap.get? b = some o → s''.heap.get? b = some o := fun b o e => F'.keep b o (hB' b o (F₁₆.keep b o e))
              obtain ⟨v1, hv1, u1, rfl⟩ := hcA.get' (colOf_at p hk)
              obtain ⟨v2, hv2, u2, rfl⟩ := hdA.get' (colOf_at q hk)
              walk_at "go"
              refine s_lst (hC.at fun o e => kp _ o e) (by lia) (by lia) (x := .ref lc) (by simpa using hvc) ?_
              walk_at "go"
              refine s_lst (hlc.at fun o e => kp _ o e) (by lia) (by lia) (by simpa using hv1) ?_
              walk_at "go"
              refine s_lst (hC.at fun o e => kp _ o e) (by lia) (by lia) (x := .ref ld) (by simpa using hvd) ?_
              walk_at "go"
              refine s_lst (hld.at fun o e => kp _ o e) (by lia) (by lia) (by simpa using hv2) ?_
              walk_at "go"
              exact ⟨F', rfl⟩
            · intro k C' B'' m'' mu'' s'' hk hp' hB' F' hN
              obtain ⟨v, hkk⟩ := hN
              walk_at "go"
              exact ⟨F', v, rfl⟩
            · intro s₁₇ D' ys' e₁₇ hD' hA''
              have F₁₇ := F₁₆.kept e₁₇
              walk_at "go"
              refine n_lst F₁₇ (fun s₁₈ Z F₁₈ _ lZ e₁₈ => ?_) (by decide)
              refine eq_rd r (rd_al (enc := PyData.int) (hD'.at fun o e => e₁₈.get _ o (NH_sub _ o e)) (fun v a q => rd_int q) hA'') (rd_lst lZ .nil) (shaped_ints _) rfl ?_
              have eb : PyData.eqv (.list ((mapf (fun k => decide (((q.1 * (k + 1) + q.2 : Nat) : Int) ≤ ((p.1 * (k + 1) + p.2 : Nat) : Int))) (fun k => ((k : Nat) : Int)) 4).map PyData.int)) (.list []) = lessB p.1 p.2 q.1 q.2 := by
                rw [eqv_nil, List.isEmpty_map, ← col_below ⟨hp1, hp2⟩ ⟨hq1, hq2⟩]
                cases mapf (fun k => decide (((q.1 * (k + 1) + q.2 : Nat) : Int) ≤ ((p.1 * (k + 1) + p.2 : Nat) : Int))) (fun k => ((k : Nat) : Int)) 4 <;> rfl
              rw [eb]
              walk_at "go"
              rename_i s₁₉ F₁₉
              have G' := G.keeps F₁₉.keep
              have kp := F₁₉.keep
              refine s_lst (hL.at fun o e => kp _ o e) (by lia) (by lia) (x := .ref x) hx ?_
              refine me_less F₁₉ G (Lx.keeps kp) ?_
              walk_at "go"
              refine s_lst (hL.at fun o e => kp _ o e) (by lia) (by lia) (x := .ref y) hy ?_
              walk_at "go"
              refine less_spec G' (r.le (by lia)) (Lx.keeps kp) (Ly.keeps kp) fun s₂₀ e₂₀ => ?_
              have F₂₀ := F₁₉.kept e₂₀
              walk_at "go"
              refine isnot_bool ?_
              rw [beq_self_eq_true]
              walk_at "go"
              refine ifN rfl ?_
              walk_at "go"
              refine s_lst (hL.at fun o e => F₂₀.keep _ o e) (by lia) (by lia) (x := .ref x) hx ?_
              refine me_equal F₂₀ G (Lx.keeps F₂₀.keep) ?_
              walk_at "go"
              refine s_lst (hL.at fun o e => F₂₀.keep _ o e) (by lia) (by lia) (x := .ref y) hy ?_
              walk_at "go"
              refine equal_spec (G.keeps F₂₀.keep) (r.le (by lia)) (Lx.keeps F₂₀.keep) (Ly.keeps F₂₀.keep) fun s₂₁ e₂₁ => ?_
              have F₂₁ := F₂₀.kept e₂₁
              walk_at "go"
              refine s_lst (hP.at fun o e => F₂₁.keep _ o e) (by lia) (by lia) (x := vp) (by simpa using hvp) ?_
              walk_at "go"
              refine s_lst (hP.at fun o e => F₂₁.keep _ o e) (by lia) (by lia) (x := vq) (by simpa using hvq) ?_
              refine eq_rd r (rd_part (hPp.keeps F₂₁.keep)) (rd_part (hPq.keeps F₂₁.keep)) (shaped_part _) (shaped_part _) ?_
              rw [eqv_part]
              refine isnot_bool ?_
              rw [beq_self_eq_true]
              walk_at "go"
              refine ifN rfl ?_
              walk_at "go"
              rw [show (j : Int) + 1 = ((j + 1 : Nat) : Int) from rfl, show (ps.length : Int) - j - 1 = (ps.length : Int) - (j + 1 : Nat) by lia] at F₂₁
              exact ⟨_, F₂₁, ⟨ti, by walk_at "lk"⟩, fun x h1 h2 h3 => (upd_ne h3).trans ((upd_ne h2).trans (hm x h1 h2 h3))⟩
          · rfl
          · decide
          · intro x hx; simp at hx
        · have hje : j = ps.length := by lia
          subst hje
          refine nx_rgE r.hn F mup_same (by lia) fun s₁₃ F₁₃ => ?_
          rw [mdel_mup ((mup_ne hJI).trans (mup_none hJn).2)] at F₁₃
          walk_at "go"
          rw [show (i : Int) + 1 = ((i + 1 : Nat) : Int) from rfl, show (ps.length : Int) - i - 1 = (ps.length : Int) - (i + 1 : Nat) by lia] at F₁₃
          exact ⟨m₁, F₁₃, hm⟩
    · rfl
    · decide
    · intro x hx; simp at hx
  · have hie : i = ps.length := by lia
    subst hie
    refine nx_rgE r.hn F mup_same (by lia) fun s₃ F₃ => ?_
    rw [mdel_mup hI] at F₃
    exact Vx.go _ _ ⟨rfl, m', F₃, hm⟩
end

theorem hd180 (P : Params) : codeHdIn (Kp P) 182 180 = true := by kernel_rfl
def gP : Mv := .prd fun o => ∃ ps, o = tabObj ps
section
variable {w : World} {A : Around} {B s : Shared} {L : Addr} {m : Str → Option Value} {mu : Addr → Option Mv}
theorem Frm.growX {env : Env} {cs : List (Str × Addr)} {s' : Shared} {a : Addr} {v₀ v : Mv} (F : Frm B env cs m mu s) (ha : mu a = some v₀) (e : Exb a s s') (hv : v.At s'.heap a) : Frm (Mine.reb B s s') env cs m (mup mu a v) s' ∧ Ext B (Mine.reb B s s') := by
  obtain ⟨h, t, q⟩ := e.same
  subst q
  have F' := F.chg (tk := t) ha e.get hv
  refine ⟨F.reb F' fun b v' hb => ?_, ?_⟩
  · by_cases q : b = a
    · subst q; exact ⟨_, ha⟩
    · rw [mup_ne q] at hb; exact ⟨_, hb⟩
  · exact ⟨by obtain ⟨h', t', rfl⟩ := F.same; exact ⟨_, t, rfl⟩, reb_base F'.keep⟩
theorem Frm.hidden {env : Env} {cs : List (Str × Addr)} {a : Addr} {v : Mv} (F : Frm B env cs m mu s) (ha : mu a = some v) : ∀ b o, B.heap.get? b = some o → (hid s a).heap.get? b = some o := fun b o e =>
  hid_ne (F.keep b o e) fun q => by rw [q, (F.mus a v ha).2] at e; cases e

theorem law6 (G : Glb w B.heap) (r : Room A 4) (F : Frm B (lenv L) (lcs L) m mu s) :
    wpAny (Md w) A (exec st6 (lenv L)) (fun f s' => f = .next ∧ ∃ B' o, Ext B B' ∧ Frm B' (lenv L) (lcs L) (upd m "order" (.ref o)) mu s' ∧ OrdAt B'.heap o) (fun _ _ => False) s := by
  unfold st6
  dsimp only
  walk_at "go"
  rename_i s₁ t₁ F₁ s₂ t₂ F₂
  refine n_tup F₂ (fun s₃ T0 F₃ h0 l0 e₃ => ?_) (show 2 ≤ sizeLine by decide)
  have l0' := tup_new (B := B) l0 h0
  have E₃ := F₂.growE e₃
  replace F₃ := F₂.grow e₃
  have G₃ := G.keeps E₃.get
  generalize reb B s₂ s₃ = B₃ at *
  clear F F₁ F₂
  walk_at "go"
  rename_i s₄ t₄ F₄ s₅ t₅ F₅ s₆ t₆ F₆
  refine n_tup F₆ (fun s₇ T1 F₇ h1 l1 e₇ => ?_) (show 2 ≤ sizeLine by decide)
  have l1' := tup_new (B := B₃) l1 h1
  have E₇ := F₆.growE e₇
  replace F₇ := F₆.grow e₇
  have G₇ := G₃.keeps E₇.get
  generalize reb B₃ s₆ s₇ = B₇ at *
  clear F₃ F₄ F₅ F₆
  walk_at "go"
  refine n_tup F₇ (fun s₈ T F₈ h2 l2 e₈ => ?_) (show 2 ≤ sizeLine by decide)
  have l2' := tup_new (B := B₇) l2 h2
  have E₈ := F₇.growE e₈
  replace F₈ := F₇.grow e₈
  have G₈ := G₇.keeps E₈.get
  generalize reb B₇ s₇ s₈ = B₈ at *
  clear F₇
  walk_at "go"
  refine order_spec (G₈.keeps F₈.keep) (r.le (by lia)) fun s₉ o e₉ ho hO => ?_
  refine st_c (F₈.grow e₉) rfl fun s₁₀ F₁₀ => ?_
  have E₉ := F₈.growE e₉
  obtain ⟨dx, es, ep, I, q1, q2⟩ := hO
  refine ⟨rfl, _, o, E₃.trans (E₇.trans (E₈.trans E₉)), F₁₀, dx, es, ep, T, T0, T1, t₁, t₂, t₄, t₆, instAt_keeps I reb_NH, q1, q2, l2'.keeps E₉.get, ?_, ?_⟩
  · exact l0'.keeps (E₇.trans (E₈.trans E₉)).get
  · exact l1'.keeps (E₈.trans E₉).get

theorem law7 {l o : Addr} {lv : List Value} {ps : List (Nat × Nat)} (G : Glb w B.heap) (r : Room A 6) (F : Frm B (lenv L) (lcs L) m mu s) (m1 : m "leads" = some (.ref l)) (m2 : m "order" = some (.ref o))
    (hL : B.heap.PlainList l lv.toArray) (hLA : Al (LeadV B.heap) lv ps) (hO : OrdAt B.heap o) (hn : ps.length ≤ 20) (h144 : mu 144 = some (.obj (tabObj #[]))) :
    wpAny (Md w) A (exec st7 (lenv L)) (fun f s' => f = .next ∧ ∃ B' R us, Ext B B' ∧ Frm B' (lenv L) (lcs L) (upd m "rows" (.ref R)) (mup mu 144 gP) s' ∧ B'.heap.PlainList R us.toArray ∧ Al (RowAt B'.heap) us (rowsTo ps ps.length)) (fun _ _ => False) s := by
  unfold st7
  dsimp only
  walk_at "go"
  have hk := F.hidden h144
  refine rows_spec (G.keeps hk) r (F.mus 144 _ h144).1 (hL.at fun o => hk _ o) (hLA.mono fun v a q => q.keeps hk) (hO.keeps hk) (by lia) fun s₁ R us e₁ g₁ hR hA => ?_
  obtain ⟨ps', hg⟩ := g₁
  obtain ⟨F₁, E₁⟩ := F.growX (v := gP) h144 e₁ ⟨_, hg, ps', rfl⟩
  refine st_c F₁ rfl fun s₂ F₂ => ?_
  exact ⟨rfl, _, R, us, E₁, F₂, hR.at fun o => reb_NH _ o, hA.mono fun v a q => q.keeps reb_NH⟩
end

section
variable {n : Nat} {c : Nat → Nat → Bool} {p : Array Nat}
def sg (p : Array Nat) (i : Nat) : Nat := p.getD i 0
def SP (n : Nat) (p : Array Nat) : Prop := p.toList.Perm (List.range n)
theorem SP.size (h : SP n p) : p.size = n := by have := h.length_eq; simpa using this
theorem sg_of (h : SP n p) {i : Nat} (hi : i < n) : ∃ hs : i < p.toList.length, sg p i = p.toList[i] := by
  have hs : i < p.size := by rw [h.size]; exact hi
  exact ⟨by simpa using hs, by unfold sg; simp [Array.getD, hs]⟩
theorem SP.lt (h : SP n p) {i : Nat} (hi : i < n) : sg p i < n := by
  obtain ⟨hs, e⟩ := sg_of h hi
  rw [e]
  exact List.mem_range.mp (h.mem_iff.mp (List.getElem_mem hs))
theorem SP.inj (h : SP n p) {i j : Nat} (hi : i < n) (hj : j < n) (hij : i ≠ j) : sg p i ≠ sg p j := by
  obtain ⟨hs, e⟩ := sg_of h hi
  obtain ⟨hs', e'⟩ := sg_of h hj
  rw [e, e']
  have nd : p.toList.Nodup := h.nodup_iff.mpr List.nodup_range
  intro q
  have w := List.pairwise_iff_getElem.mp nd
  rcases Nat.lt_or_gt_of_ne hij with z | z
  · exact w i j hs hs' z q
  · exact w j i hs' hs z q.symm
def SUp (c : Nat → Nat → Bool) (p : Array Nat) (k : Nat) : Prop := ∀ i j, i < j → j < k → c (sg p i) (sg p j) = true
def SDn (c : Nat → Nat → Bool) (p : Array Nat) (k : Nat) : Prop := ∀ i j, i < j → j < k → c (sg p j) (sg p i) = true
structure SOrd (c : Nat → Nat → Bool) (n : Nat) : Prop where
  asym : ∀ i j, c i j = true → c j i = false
  trans : ∀ i j k, c i j = true → c j k = true → c i k = true
  tot : ∀ i j, i < n → j < n → i ≠ j → c i j = true ∨ c j i = true
theorem sg_rev (h : SP n p) {m : Nat} (hm : m ≤ n) (k : Nat) : sg (kas_rev p 0 m) k = if k < m then sg p (m - 1 - k) else sg p k := by
  have e := getElem?_mirror_all (xs := p) (i := 0) (j := m) (by rw [h.size]; exact hm) k
  unfold sg kas_rev
  rw [Array.getD_eq_getD_getElem?, e]
  by_cases q : k < m
  · rw [if_pos q, if_pos ⟨Nat.zero_le _, q⟩, Array.getD_eq_getD_getElem?, Nat.zero_add]
  · rw [if_neg q, if_neg (fun z => q z.2), Array.getD_eq_getD_getElem?]
theorem SP.rev (h : SP n p) (i j : Nat) : SP n (kas_rev p i j) := (Array.perm_iff_toList_perm.mp (mirror_perm _ _ _ _)).trans h
theorem sg_bub (h : SP n p) {k l : Nat} (hk : k < n) (hl : l ≤ k) (i : Nat) : sg (bubble p k (k - l)) i = if i = l then sg p k else if l < i ∧ i ≤ k then sg p (i - 1) else sg p i := by
  have e := getElem?_bubble (xs := p) (src := k) (by rw [h.size]; exact hk) (k - l) (by lia) i
  rw [show k - (k - l) = l by lia] at e
  unfold sg
  simp only [Array.getD_eq_getD_getElem?]
  rw [e]
  split
  · rfl
  · split <;> rfl
theorem SP.bub (h : SP n p) (i j : Nat) : SP n (bubble p i j) := (Array.perm_iff_toList_perm.mp (bubble_perm _ _ _)).trans h

variable {I : Shared → Prop} {cmp : Nat → Nat → (Bool → Shared → Prop) → Shared → Prop}
theorem asc_ok (O : SOrd c n) (hc : ∀ i j C s, I s → i < n → j < n → (∀ s', I s' → C (c i j) s') → cmp i j C s) (hp : SP n p) {G : Nat → Shared → Prop} : ∀ (f k : Nat) (s : Shared), k + f = n → 1 ≤ k → SUp c p k → I s →
    (∀ m s', I s' → k ≤ m → m ≤ n → SUp c p m → (m = n ∨ c (sg p m) (sg p (m - 1)) = true) → G m s') → (kas_asc p f k).kasWp cmp G s
  | 0, k, s, e, h1, hu, hI, h => h k s hI (Nat.le_refl _) (by lia) hu (.inl (by lia))
  | f + 1, k, s, e, h1, hu, hI, h => by
    show cmp (sg p k) (sg p (k - 1)) _ s
    refine hc _ _ _ _ hI (hp.lt (by lia)) (hp.lt (by lia)) fun s' hI' => ?_
    cases q : c (sg p k) (sg p (k - 1)) with
    | true => exact h k s' hI' (Nat.le_refl _) (by lia) hu (.inr q)
    | false =>
      refine asc_ok O hc hp f (k + 1) s' (by lia) (by lia) (fun i j hij hj => ?_) hI' fun m s'' hI'' hm => h m s'' hI'' (by lia)
      by_cases hjk : j < k
      · exact hu i j hij hjk
      · have hj' : j = k := by lia
        subst hj'
        have t : c (sg p (j - 1)) (sg p j) = true := (O.tot _ _ (hp.lt (by lia)) (hp.lt (by lia)) (hp.inj (by lia) (by lia) (by lia))).resolve_right (by rw [q]; simp)
        by_cases hi : i = j - 1
        · subst hi; exact t
        · exact O.trans _ _ _ (hu i (j - 1) (by lia) (by lia)) t
theorem desc_ok (O : SOrd c n) (hc : ∀ i j C s, I s → i < n → j < n → (∀ s', I s' → C (c i j) s') → cmp i j C s) (hp : SP n p) {G : Array Nat × Nat × Nat → Shared → Prop} : ∀ (f k : Nat) (s : Shared), k + f = n → 1 ≤ k → SDn c p k → I s →
    (∀ m s', I s' → k ≤ m → m ≤ n → SDn c p m → G (p, m, 0) s') → (kas_desc f p k 0).kasWp cmp G s
  | 0, k, s, e, h1, hu, hI, h => h k s hI (Nat.le_refl _) (by lia) hu
  | f + 1, k, s, e, h1, hu, hI, h => by
    show cmp (sg p k) (sg p (k - 1)) _ s
    refine hc _ _ _ _ hI (hp.lt (by lia)) (hp.lt (by lia)) fun s' hI' => ?_
    cases q : c (sg p k) (sg p (k - 1)) with
    | true =>
      refine desc_ok O hc hp f (k + 1) s' (by lia) (by lia) (fun i j hij hj => ?_) hI' fun m s'' hI'' hm => h m s'' hI'' (by lia)
      by_cases hjk : j < k
      · exact hu i j hij hjk
      · have hj' : j = k := by lia
        subst hj'
        by_cases hi : i = j - 1
        · subst hi; exact q
        · exact O.trans _ _ _ q (hu i (j - 1) (by lia) (by lia))
    | false =>
      show cmp (sg p (k - 1)) (sg p k) _ s'
      refine hc _ _ _ _ hI' (hp.lt (by lia)) (hp.lt (by lia)) fun s'' hI'' => ?_
      have t : c (sg p (k - 1)) (sg p k) = true := (O.tot _ _ (hp.lt (by lia)) (hp.lt (by lia)) (hp.inj (by lia) (by lia) (by lia))).resolve_right (by rw [q]; simp)
      rw [t]
      exact h k s'' hI'' (Nat.le_refl _) (by lia) hu
theorem tail3_ok (O : SOrd c n) (hc : ∀ i j C s, I s → i < n → j < n → (∀ s', I s' → C (c i j) s') → cmp i j C s) (hp : SP n p) {G : Nat × Array Nat → Shared → Prop} {m : Nat} {s : Shared} (h1 : 1 ≤ m) (hm : m ≤ n) (hd : SDn c p m) (hI : I s)
    (h : ∀ m p' s', I s' → 1 ≤ m → m ≤ n → SP n p' → SUp c p' m → G (m, p') s') : (kas_tail3 m n p).kasWp cmp G s := by
  unfold kas_tail3
  rw [KasT.kasWp_bind]
  refine asc_ok O hc (hp.rev 0 m) (n - m) m s (by lia) h1 (fun i j hij hj => ?_) hI fun k s' hI' h2 h3 hu _ => h k _ s' hI' (Nat.le_trans h1 h2) h3 (hp.rev 0 m) hu
  rw [sg_rev hp hm, sg_rev hp hm, if_pos (by lia), if_pos hj]
  exact hd _ _ (by lia) (by lia)
theorem descPart_ok (O : SOrd c n) (hc : ∀ i j C s, I s → i < n → j < n → (∀ s', I s' → C (c i j) s') → cmp i j C s) (hp : SP n p) {G : Nat × Array Nat → Shared → Prop} {m : Nat} {s : Shared} (hm : m + 1 ≤ n) (hd : SDn c p (m + 1)) (hI : I s)
    (h : ∀ m p' s', I s' → 1 ≤ m → m ≤ n → SP n p' → SUp c p' m → G (m, p') s') : (kas_descPart m n p).kasWp cmp G s := by
  unfold kas_descPart
  rw [KasT.kasWp_bind]
  refine desc_ok O hc hp (n - (m + 1)) (m + 1) s (by lia) (by lia) hd hI fun k s' hI' h2 h3 hu => ?_
  exact tail3_ok (m := k) O hc hp (by lia) h3 hu hI' h
theorem count_ok (O : SOrd c n) (hc : ∀ i j C s, I s → i < n → j < n → (∀ s', I s' → C (c i j) s') → cmp i j C s) (hp : SP n p) {G : Nat × Array Nat → Shared → Prop} {s : Shared} (hn : 1 ≤ n) (hI : I s)
    (h : ∀ m p' s', I s' → 1 ≤ m → m ≤ n → SP n p' → SUp c p' m → G (m, p') s') : (kas_count n p).kasWp cmp G s := by
  unfold kas_count
  rw [KasT.kasWp_bind]
  refine asc_ok O hc hp (n - 1) 1 s (by lia) (Nat.le_refl _) (fun i j hij hj => by lia) hI fun m s' hI' h1 h2 hu hor => ?_
  by_cases e : m = n
  · rw [if_pos (by simpa using e)]
    exact h m p s' hI' h1 h2 hp hu
  · rw [if_neg (by simpa using e)]
    have hlt := hor.resolve_left e
    by_cases e2 : m > 1
    · rw [if_pos e2]
      show cmp (sg p 0) (sg p (m - 1)) _ s'
      refine hc _ _ _ _ hI' (hp.lt (by lia)) (hp.lt (by lia)) fun s'' hI'' => ?_
      rw [hu 0 (m - 1) (by lia) (by lia)]
      exact h m p s'' hI'' h1 h2 hp hu
    · rw [if_neg e2]
      have : m = 1 := by lia
      subst this
      refine descPart_ok O hc hp (by lia) (fun i j hij hj => ?_) hI' h
      have hi0 : i = 0 := by lia
      have hj1 : j = 1 := by lia
      subst hi0; subst hj1
      exact hlt
theorem place_ok (O : SOrd c n) (hc : ∀ i j C s, I s → i < n → j < n → (∀ s', I s' → C (c i j) s') → cmp i j C s) (hp : SP n p) {G : Nat → Shared → Prop} {k : Nat} (hk : k < n) (hu : SUp c p k) : ∀ (f l r : Nat) (s : Shared), l ≤ r → r ≤ k → r - l ≤ f →
    (∀ i, i < l → c (sg p i) (sg p k) = true) → (∀ i, r ≤ i → i < k → c (sg p k) (sg p i) = true) → I s →
    (∀ l s', I s' → l ≤ k → (∀ i, i < l → c (sg p i) (sg p k) = true) → (∀ i, l ≤ i → i < k → c (sg p k) (sg p i) = true) → G l s') → (kas_place p k f l r).kasWp cmp G s
  | 0, l, r, s, h1, h2, h3, hlo, hhi, hI, h => h l s hI (by lia) hlo fun i q => hhi i (by lia)
  | f + 1, l, r, s, h1, h2, h3, hlo, hhi, hI, h => by
    unfold kas_place
    by_cases q : l ≥ r
    · rw [if_pos q]
      exact h l s hI (by lia) hlo fun i q' => hhi i (by lia)
    · rw [if_neg q]
      show cmp (sg p k) (sg p ((l + r) / 2)) _ s
      refine hc _ _ _ _ hI (hp.lt (by lia)) (hp.lt (by lia)) fun s' hI' => ?_
      cases e : c (sg p k) (sg p ((l + r) / 2)) with
      | true =>
        refine place_ok O hc hp hk hu f l ((l + r) / 2) s' (by lia) (by lia) (by lia) hlo (fun i hi hik => ?_) hI' h
        by_cases z : i = (l + r) / 2
        · subst z; exact e
        · exact O.trans _ _ _ e (hu _ _ (by lia) hik)
      | false =>
        have t : c (sg p ((l + r) / 2)) (sg p k) = true := (O.tot _ _ (hp.lt (by lia)) (hp.lt (by lia)) (hp.inj (by lia) (by lia) (by lia))).resolve_right (by rw [e]; simp)
        refine place_ok O hc hp hk hu f ((l + r) / 2 + 1) r s' (by lia) (by lia) (by lia) (fun i hi => ?_) hhi hI' h
        by_cases z : i = (l + r) / 2
        · subst z; exact t
        · exact O.trans _ _ _ (hu _ _ (by lia) (by lia)) t
theorem bin_ok (O : SOrd c n) (hc : ∀ i j C s, I s → i < n → j < n → (∀ s', I s' → C (c i j) s') → cmp i j C s) {G : Array Nat → Shared → Prop} : ∀ (f k : Nat) (p : Array Nat) (s : Shared), SP n p → k + f = n → SUp c p k → I s →
    (∀ p' s', I s' → SP n p' → SUp c p' n → G p' s') → (kas_bin f p k).kasWp cmp G s
  | 0, k, p, s, hp, e, hu, hI, h => h p s hI hp (by rw [← show k = n by lia]; exact hu)
  | f + 1, k, p, s, hp, e, hu, hI, h => by
    show ((kas_place p k k 0 k).bind fun l => kas_bin f (bubble p k (k - l)) (k + 1)).kasWp cmp G s
    rw [KasT.kasWp_bind]
    refine place_ok O hc hp (by lia) hu k 0 k s (by lia) (by lia) (by lia) (fun i hi => by lia) (fun i h1 h2 => by lia) hI fun l s' hI' hl hlo hhi => ?_
    refine bin_ok O hc f (k + 1) _ s' (hp.bub _ _) (by lia) (fun i j hij hj => ?_) hI' h
    rw [sg_bub hp (by lia) hl, sg_bub hp (by lia) hl]
    by_cases a1 : i = l
    · rw [if_pos a1, if_neg (by lia), if_pos (by lia)]
      exact hhi _ (by lia) (by lia)
    · rw [if_neg a1]
      by_cases a2 : j = l
      · rw [if_pos a2, if_neg (by lia)]
        exact hlo _ (by lia)
      · rw [if_neg a2]
        by_cases a3 : l < i
        · rw [if_pos ⟨a3, by lia⟩, if_pos ⟨by lia, by lia⟩]
          exact hu _ _ (by lia) (by lia)
        · rw [if_neg (fun z => a3 z.1)]
          by_cases a4 : l < j
          · rw [if_pos ⟨a4, by lia⟩]; exact hu _ _ (by lia) (by lia)
          · rw [if_neg (fun z => a4 z.1)]; exact hu _ _ (by lia) (by lia)
theorem sort_ok (O : SOrd c n) (hc : ∀ i j C s, I s → i < n → j < n → (∀ s', I s' → C (c i j) s') → cmp i j C s) {G : Array Nat → Shared → Prop} {s : Shared} (hn : 1 ≤ n) (hI : I s)
    (h : ∀ p' s', I s' → SP n p' → SUp c p' n → G p' s') : (kas_sort n).kasWp cmp G s := by
  unfold kas_sort
  rw [KasT.kasWp_bind]
  refine count_ok O hc (p := List.toArray (List.range n)) (List.Perm.refl _) hn hI fun m p' s' hI' h1 h2 hp hu => ?_
  by_cases e : m < n
  · rw [if_pos e]
    exact bin_ok O hc _ _ p' s' hp (by lia) (by rw [Nat.max_eq_left h1]; exact hu) hI' h
  · rw [if_neg e]
    have : m = n := by lia
    subst this
    exact h p' s' hI' hp hu
end

def rlt (a b : Row) : Bool := if a.1 = b.1 then (if a.2.1 = b.2.1 then decide (a.2.2 < b.2.2) else decide (b.2.1 < a.2.1)) else decide (a.1 < b.1)
def KeyT (h : Heap) (v : Value) (r : Row) : Prop := ∃ a t1 t2 t3, v = .ref a ∧ IsTup h a [.int r.1 t1, .int (-r.2.1) t2, .int r.2.2 t3].toArray
section
variable {w : World} {A : Around} {E : Value → Shared → Prop} {B s : Shared} {env : Env} {cs : List (Str × Addr)} {m : Str → Option Value} {mu : Addr → Option Mv}
theorem tup_ne_ns {h : Heap} {a L : Addr} {xs : Array Value} {ml : Str → Option Value} (T : IsTup h a xs) (N : h.Ns L ml) : a ≠ L := by
  obtain ⟨o, ho, hc, n, hd⟩ := T
  obtain ⟨o', es, ep, ho', hd', _⟩ := N
  intro q; subst q
  rw [ho] at ho'; cases ho'
  rw [hd] at hd'; cases hd'
theorem tup_ne_lst {h : Heap} {a l : Addr} {xs ys : Array Value} {n : Nat} (T : IsTup h a xs) (N : h.get? l = some (seqObj "list" ys n)) : a ≠ l := by
  obtain ⟨o, ho, hc, _⟩ := T
  intro q; subst q
  rw [ho] at N; cases N
  simp [seqObj] at hc
theorem key_lt {x y : Value} {a b : Row} {Q : Bool → Shared → Prop} (hx : KeyT s.heap x a) (hy : KeyT s.heap y b) (h : Q (rlt a b) s) : wpAny (Md w) A (keyLt' (tuples' true) x y) Q E s := by
  obtain ⟨p, t1, t2, t3, rfl, o, ho, hc, n, hd⟩ := hx
  obtain ⟨q, u1, u2, u3, rfl, o', ho', hc', n', hd'⟩ := hy
  refine kat_lt ho hd ho' hd' ?_
  refine kat_cons (SeqAt.EqAt.int_int _ _ _ _ _ _ _ _ ?_)
  unfold rlt at h
  by_cases h1 : a.1 = b.1
  · rw [if_pos h1] at h
    rw [beq_iff_eq.mpr h1]
    refine kat_yes (kat_cons (SeqAt.EqAt.int_int _ _ _ _ _ _ _ _ ?_))
    by_cases h2 : a.2.1 = b.2.1
    · rw [if_pos h2] at h
      rw [beq_iff_eq.mpr (congrArg Neg.neg h2)]
      refine kat_yes (kat_cons (SeqAt.EqAt.int_int _ _ _ _ _ _ _ _ ?_))
      by_cases h3 : a.2.2 = b.2.2
      · rw [beq_iff_eq.mpr h3]
        refine kat_yes (kat_nil ?_)
        rw [decide_eq_false (by lia)] at h
        exact h
      · rw [beq_eq_false_iff_ne.mpr h3]
        refine kat_no (kat_one _ _ (PyProof.Rows.lt_int ?_))
        exact h
    · rw [if_neg h2] at h
      rw [beq_eq_false_iff_ne.mpr (show -a.2.1 ≠ -b.2.1 by lia)]
      refine kat_no (kat_one _ _ (PyProof.Rows.lt_int ?_))
      rw [show decide (-a.2.1 < -b.2.1) = decide (b.2.1 < a.2.1) from decide_eq_decide.mpr (by lia)]
      exact h
  · rw [if_neg h1] at h
    rw [beq_eq_false_iff_ne.mpr h1]
    exact kat_no (oneLt_int h)

/-- what the sort keeps between its steps -/
structure Srt (s : Shared) (L D kS : Addr) (ml : Str → Option Value) (e1 : Nat) (ks : List Value) (e : Nat) (s₁ : Shared) : Prop where
  same : ∃ h tk, s₁ = { s with heap := h, toks := tk }
  F : Fr hE L s₁.heap ml
  K : s₁.heap.get? kS = some (seqObj "list" (List.toArray ks) e)
  D : s₁.heap.get? D = some (seqObj "list" #[] e1)
  get : ∀ b o, b ≠ L → s.heap.get? b = some o → s₁.heap.get? b = some o
theorem frE {L : Addr} {h : Heap} {ml : Str → Option Value} (n : h.Ns L ml) : Fr hE L h ml := ⟨n, fun b o e => (by rw [hE_none] at e; cases e), Nat.zero_le _⟩
theorem newsE {h : Heap} {L x : Addr} {o : Obj} (e : h.get? x = some o) (hL : x ≠ L) : News hE L h ((x, o) :: allBut h L x) := fun p hp => by
  rcases List.mem_cons.mp hp with rfl | hp
  · exact ⟨e, hL, hE_none _⟩
  · obtain ⟨a, b, c⟩ := allBut_of hp; exact ⟨a, b, hE_none _⟩
theorem updE {h : Heap} {L x : Addr} {o : Obj} : UpdF x o ((x, o) :: allBut h L x) (fun o' => (x, o') :: allBut h L x) := .head fun p hp => (allBut_of hp).2.2

def LamK (w : World) (B : Shared) (d : Nat) (q : Addr) : Prop := ∀ (A : Around) (E : Value → Shared → Prop) (Q : Value → Shared → Prop) (s' : Shared) (v : Value) (r : Row), (∀ b o, B.heap.get? b = some o → s'.heap.get? b = some o) → Room A d → RowAt s'.heap v r →
  (∀ s'' a t1 t2 t3, Ext s' s'' → s'.heap.get? a = none → IsTup s''.heap a [.int r.1 t1, .int (-r.2.1) t2, .int r.2.2 t3].toArray → Q (.ref a) s'') → wpAny (Md w) A (call (.ref q) [v]) Q E s'

theorem keys_go {d : Nat} {q L D kS : Addr} {ml : Str → Option Value} {e1 : Nat} {Fin : List Value → Nat → Shared → Prop} (r : Room A d) (K : LamK w B d q) (hB : ∀ b o, B.heap.get? b = some o → s.heap.get? b = some o) (hL : B.heap.get? L = none) (hDL : D ≠ L) (hkL : kS ≠ L) (hDk : D ≠ kS) (hDs : s.heap.get? D = none) (hks : s.heap.get? kS = none) :
    ∀ (vs : List Value) (rs : List Row) (ks : List Value) (done : List Row) (e : Nat) (s₁ : Shared), Al (RowAt B.heap) vs rs → Srt s L D kS ml e1 ks e s₁ → Al (KeyT s₁.heap) ks done →
      (∀ ks' e' s₂, Srt s L D kS ml e1 ks' e' s₂ → Al (KeyT s₂.heap) ks' (done ++ rs) → Fin ks' e' s₂) → KatKeys PySem.Challenge.rw_pe0231_01.row.prog w A hE L ml kS (.ref q) Fin vs ks e s₁
  | _, _, ks, done, e, s₁, .nil, S, hK, fin => KatKeys.nil (fin ks e s₁ S (by rw [List.append_nil]; exact hK))
  | v :: vs, r' :: rs, ks, done, e, s₁, .cons hv hvs, S, hK, fin => by
    have kB : ∀ b o, B.heap.get? b = some o → s₁.heap.get? b = some o := fun b o h => S.get b o (fun q => by rw [q, hL] at h; cases h) (hB b o h)
    refine KatKeys.cons (K A _ _ s₁ v r' kB r (hv.keeps kB) fun s₂ a t1 t2 t3 e₂ ha hT => ?_)
    have k2 := e₂.get kS _ S.K
    have F₂ : Fr hE L s₂.heap ml := frE (S.F.ns.keeps e₂.get)
    refine KatBack.intro F₂ (newsE k2 hkL) updE fun h' c F' N' => ?_
    have k' : ∀ b o, b ≠ L → b ≠ kS → s₂.heap.get? b = some o → h'.get? b = some o := fun b o q1 q2 e => (N' (b, o) (List.mem_cons_of_mem _ (allBut_in e q1 q2))).1
    have tk : ∀ {a : Addr} {xs : Array Value}, IsTup s₂.heap a xs → IsTup h' a xs := fun {a xs} T => by
      have n1 := tup_ne_ns T F₂.ns
      have n2 := tup_ne_lst T k2
      obtain ⟨o, ho, hr⟩ := T
      exact ⟨o, k' _ _ n1 n2 ho, hr⟩
    refine keys_go r K hB hL hDL hkL hDk hDs hks vs rs (ks ++ [.ref a]) (done ++ [r']) c { s₂ with heap := h' } hvs ⟨?_, F', (N' _ (.head _)).1, ?_, fun b o hbL hb => ?_⟩ ?_ fun ks' e' s₃ S₃ hK₃ => fin ks' e' s₃ S₃ ?_
    · obtain ⟨h₁, tk₁, rfl⟩ := S.same
      obtain ⟨h₂, tk₂, rfl⟩ := e₂.same
      exact ⟨h', tk₂, rfl⟩
    · exact k' _ _ hDL hDk (e₂.get _ _ S.D)
    · exact k' _ _ hbL (fun q => by rw [q, hks] at hb; cases hb) (e₂.get _ _ (S.get b o hbL hb))
    · refine (hK.mono fun v r hr => ?_).append (.cons ⟨a, t1, t2, t3, rfl, tk hT⟩ .nil)
      obtain ⟨a', x1, x2, x3, e', T'⟩ := hr
      exact ⟨a', x1, x2, x3, e', tk (T'.keeps e₂.get)⟩
    · rw [List.append_assoc] at hK₃; exact hK₃

theorem tups_of {h : Heap} {ks : List Value} {rs : List Row} (a : Al (KeyT h) ks rs) : ∃ fs, KatTups h ks fs ∧ fs.length = ks.length ∧ ∀ f ∈ fs, ∃ i t, f = Value.int i t := by
  induction a with
  | nil => exact ⟨[], KatTups.nil, rfl, fun _ h => (by cases h)⟩
  | @cons v r _ _ x _ ih =>
    obtain ⟨fs, h1, h2, h3⟩ := ih
    obtain ⟨p, t1, t2, t3, rfl, o, ho, hc, n, hd⟩ := x
    exact ⟨.int r.1 t1 :: fs, KatTups.cons ho hc hd rfl h1, by simp [h2], fun f hf => by
      rcases List.mem_cons.mp hf with rfl | hf
      · exact ⟨_, _, rfl⟩
      · exact h3 f hf⟩
theorem sorted_spec {d : Nat} {l q : Addr} {vs : List Value} {rs : List Row} {Q : Value → Shared → Prop} (F : Frm B env cs m mu s) (r : Room A (d + 2)) (hl : B.heap.PlainList l vs.toArray) (hA : Al (RowAt B.heap) vs rs) (h2 : 2 ≤ vs.length) (h64 : vs.length < 64)
    (O : SOrd (fun i j => rlt (rs.getD i (0, 0, 0)) (rs.getD j (0, 0, 0))) rs.length) (K : LamK w B d q)
    (h : ∀ s' D p, Frm B env cs m mu s' → s.heap.get? D = none → SP rs.length p → SUp (fun i j => rlt (rs.getD i (0, 0, 0)) (rs.getD j (0, 0, 0))) p rs.length → s'.heap.PlainList D (p.toList.map fun i => vs.getD i .none).toArray → Q (.ref D) s') :
    wpAny (Md w) A (call (.builtin "sorted") [.ref l] [("key", .ref q)]) Q E s := by
  obtain ⟨ml, hn, he⟩ := F.ns
  have hlen := hA.length
  have N0 : News hE env.locals s.heap (allBut s.heap env.locals env.locals) := fun p hp => let ⟨a, b, c⟩ := allBut_of hp; ⟨a, b, hE_none _⟩
  refine kat_sortedK (b := false) (frE hn) N0 (hl.at fun o => F.keep _ o).isList h2 h64 (ksk_s1 _ _) (fun x => ksk_l1 _ _) (fun x => ksk_t1 _ _) fun D kS e1 h' F' N' hDk hDn => ?_
  have gk : h'.get? kS = some (seqObj "list" #[] 0) := (N' _ (.head _)).1
  have gD : h'.get? D = some (seqObj "list" #[] e1) := (N' _ (.tail _ (.head _))).1
  have hkL : kS ≠ env.locals := (N' _ (.head _)).2.1
  have hDL : D ≠ env.locals := (N' _ (.tail _ (.head _))).2.1
  have gs : ∀ b o, b ≠ env.locals → s.heap.get? b = some o → h'.get? b = some o := fun b o q e => (N' (b, o) (.tail _ (.tail _ (allBut_in e q q)))).1
  have hDs : s.heap.get? D = none := by
    cases e : s.heap.get? D with
    | none => rfl
    | some o => exact absurd (hDn _ (allBut_in e hDL hDL)) (Nat.lt_irrefl _)
  have hks : s.heap.get? kS = none := by
    cases e : s.heap.get? kS with
    | none => rfl
    | some o => exact absurd (hDn _ (allBut_in e hkL hkL)) (Nat.not_lt.mpr (Nat.le_of_lt hDk))
  refine keys_go (s := s) (d := d) r.in1.in1 K F.keep F.newL hDL hkL (Nat.ne_of_lt hDk) hDs hks vs rs [] [] 0 { s with heap := h' } hA ⟨⟨_, _, rfl⟩, F', gk, gD, gs⟩ .nil fun ks e s₂ S hK => ?_
  rw [List.nil_append] at hK
  obtain ⟨fs, t1, t2, t3⟩ := tups_of hK
  have hkl := hK.length
  refine kat_kind t1 (by lia) (T := .type "int") (fun v hv => ?_) (by decide) ?_
  · obtain ⟨i, t, rfl⟩ := t3 v hv
    exact Looks.of_pure rfl
  rw [show ((Value.type "int") != Value.type "tuple") = true by decide]
  rw [show vs.length = rs.length from hlen]
  refine sort_ok (I := fun s' => Srt s env.locals D kS ml e1 ks e s' ∧ Al (KeyT s'.heap) ks rs) O (fun i j C s' hI hi hj hC => ?_) (by lia) ⟨S, hK⟩ fun p s₃ hI hp hu => ?_
  · show wpAny _ _ (keyLt' _ ((katRev false ks).getD i .none) ((katRev false ks).getD j .none)) C _ s'
    have e1 : katRev false ks = ks := rfl
    rw [e1]
    obtain ⟨v1, g1, K1⟩ := hI.2.get' (List.getElem?_eq_getElem hi)
    obtain ⟨v2, g2, K2⟩ := hI.2.get' (List.getElem?_eq_getElem hj)
    rw [List.getD_eq_getElem?_getD, List.getD_eq_getElem?_getD, g1, g2]
    refine key_lt K1 K2 ?_
    have := hC s' hI
    rw [List.getD_eq_getElem?_getD, List.getD_eq_getElem?_getD, List.getElem?_eq_getElem hi, List.getElem?_eq_getElem hj] at this
    exact this
  · obtain ⟨S₃, _⟩ := hI
    refine KatFin.intro S₃.F (newsE S₃.K hkL) updE fun h₄ c F₄ N₄ => ?_
    have g4 : h₄.get? D = some (seqObj "list" #[] e1) := (N₄ (D, _) (.tail _ (allBut_in S₃.D hDL (Nat.ne_of_lt hDk)))).1
    refine KasFin.intro F₄ (newsE g4 hDL) updE fun h₅ c' F₅ N₅ => ?_
    have g5 : h₅.get? D = some (listOf (List.toArray (p.toList.map fun i => vs.getD i .none)) c') := (N₅ _ (.head _)).1
    obtain ⟨h₃, t₃, e₃⟩ := S₃.same
    have k5 : ∀ b o, b ≠ env.locals → s.heap.get? b = some o → h₅.get? b = some o := fun b o hb hbo => by
      have q1 := S₃.get b o hb hbo
      have q2 := (N₄ (b, o) (.tail _ (allBut_in q1 hb (fun q => by rw [q, hks] at hbo; cases hbo)))).1
      exact (N₅ (b, o) (.tail _ (allBut_in q2 hb (fun q => by rw [q, hDs] at hbo; cases hbo)))).1
    have F₆ : Frm B env cs m mu { s₃ with heap := h₅ } := by
      rw [e₃]
      exact { same := by obtain ⟨h, t, rfl⟩ := F.same; exact ⟨h₅, t₃, rfl⟩
              keep := fun b o hb => k5 b o (fun q => by rw [q, F.newL] at hb; cases hb) (F.keep b o hb)
              ns := ⟨ml, F₅.ns, he⟩
              newL := F.newL
              muL := F.muL
              cell := fun x c hc => by
                obtain ⟨⟨o, ho, hd⟩, r1, r2, r3, r4⟩ := F.cell x c hc
                exact ⟨⟨o, k5 c o r2 ho, hd⟩, r1, r2, r3, r4⟩
              apart := F.apart
              mus := fun b v hb => let ⟨p, z⟩ := F.mus b v hb; ⟨mv_of (fun o e => k5 b o (fun y => by have := F.muL; rw [y, this] at hb; cases hb) e) p, z⟩ }
    exact h _ D p F₆ hDs hp hu ⟨c', g5⟩
end

def rowD (r : Row) : PyData := .tuple [.int r.1, .int r.2.1, .int r.2.2]
theorem rd_row {h : Heap} {v : Value} {r : Row} (x : RowAt h v r) : Rd h v (rowD r) := by
  obtain ⟨a, t1, t2, t3, rfl, hT⟩ := x
  exact rd_tup hT (.cons (.int _ _) (.cons (.int _ _) (.cons (.int _ _) .nil)))
theorem shaped_rows (rs : List Row) : SeqAt.shaped (.list (rs.map rowD)) = true := shaped_map 5 (by decide) (fun _ => rfl) (fun _ => Nat.le_of_ble_eq_true rfl) rs
theorem eqvAll_rows : ∀ a : List Row, PyData.eqvAll (a.map rowD) (a.map rowD) = true
  | [] => rfl
  | x :: a => by
    have := eqvAll_rows a
    simp [PyData.eqvAll, PyData.eqv, rowD, this]
theorem eqv_rows (a : List Row) : PyData.eqv (.list (a.map rowD)) (.list (a.map rowD)) = true := by
  have := eqvAll_rows a
  simp [PyData.eqv, this]
section
variable {w : World} {A : Around} {E : Value → Shared → Prop} {B s : Shared} {env : Env} {cs : List (Str × Addr)} {m : Str → Option Value} {mu : Addr → Option Mv}
theorem cw_bK {id : String} {pos : Pos} {e ev : Expr} {rest : List Expr} {kp : Pos} {Q : Value → Shared → Prop}
    (h : wpAny (Md w) A (spliced (backTo pos (starEach (e :: rest) env))) (fun vs s₁ => wpAny (Md w) A (eval ev env) (fun kv s₂ => wpAny (Md w) A (call (.builtin id) vs [("key", kv)]) Q E s₂) E s₁) E s)
    (he : backTo pos (starEach (e :: rest) env) = (false, eval e env) :: backTo pos (starEach rest env) := by rfl) (hplain : (backTo pos (starEach (e :: rest) env)).any (·.1) = false := by rfl) :
    wpAny (Md w) A (callWith pos (.builtin id) [] (backTo pos (starEach (e :: rest) env)) (backToKw pos (keywordEach [⟨some "key", ev, kp⟩] env))) Q E s := by
  refine callWith_kw (wpAny_mono h (fun vs s₁ h₁ => ?_) fun _ _ x => x) he hplain
  refine wpAny_evalAll_cons (x := eval ev env >>= fun v => standAt pos >>= fun _ => pure v) (rest := []) ?_
  exact wpAny_bind (wpAny_mono h₁ (fun kv s₂ h₂ => wpAny_bind (wpAny_standAt (wpAny_pure (wpAny_evalAll_nil h₂)))) fun _ _ x => x)
/-- a lambda the first time, its def and code in the base -/
theorem lam_base {c P : Addr} {params : Arguments} {body : Expr} {scope : Scope} {pos : Pos} {clos : List (Str × Addr)} {Q : Value → Shared → Prop} (F : Frm B env cs m mu s) (G : Glb w B.heap) (hP : mu P = some (.obj (tabObj #[]))) (C : CodeHd B.heap c P)
    (h : ∀ s' B' q c' pm ctv, Frm B' env cs m (mup mu P gP) s' → Ext B B' → B'.heap.get? q = some (kla_obj "<lambda>" (env.qual ++ "<lambda>") params body scope clos pm c' ctv) → B'.heap.CodeRec (.ref c') (env.qual ++ "<lambda>") → Q (.ref q) s')
    (hcl : closureFor scope env = pure clos) (hdef : defaultsOf params env = ([], [])) (hge0 : env.globals = mainGlobals) (hcode : env.code = .ref c) :
    wpAny (Md w) A (eval (.Lambda params body scope pos) env) Q E s := by
  refine lam_new F G hP C (fun s' q c' pm ctv hq hc h1 h2 h3 F' => ?_) hcl hdef hge0 hcode
  obtain ⟨_, _, _, nq⟩ := F.fresh hq
  obtain ⟨_, _, _, nc⟩ := F.fresh hc
  have gq := (F'.mus q _ mup_same).1
  have gc := (F'.mus c' _ ((mup_ne h3.symm).trans mup_same)).1
  have F₂ : Frm B env cs m (mup mu P (.obj (tabObj #[rawInt pos.line, rawInt pos.col, .ref c']))) s' := F'.sub fun a v e => by
    have a1 : a ≠ q := fun z => by rw [z, mup_ne h2, nq] at e; cases e
    have a2 : a ≠ c' := fun z => by rw [z, mup_ne h1, nc] at e; cases e
    exact (mup_ne a1).trans ((mup_ne a2).trans e)
  have F₃ : Frm B env cs m (mup mu P gP) s' := { F₂ with
    muL := by have := F₂.muL; by_cases q : env.locals = P
              · rw [q, mup_same] at this; cases this
              · rw [mup_ne q] at this ⊢; exact this
    cell := fun x c hc => let ⟨r0, r1, r2, r3, r4⟩ := F₂.cell x c hc; ⟨r0, r1, r2, (by
      by_cases q : c = P
      · rw [q, mup_same] at r3; cases r3
      · rw [mup_ne q] at r3 ⊢; exact r3), r4⟩
    mus := fun a v e => by
      by_cases q : a = P
      · subst q
        rw [mup_same] at e; cases e
        obtain ⟨z1, z2⟩ := F₂.mus a _ mup_same
        exact ⟨⟨_, z1, _, rfl⟩, z2⟩
      · exact F₂.mus a v (by rw [mup_ne q] at e ⊢; exact e) }
  have F₄ := F.reb F₃ fun a v e => by
    by_cases q : a = P
    · subst q; exact ⟨_, hP⟩
    · rw [mup_ne q] at e; exact ⟨_, e⟩
  refine h s' _ q c' pm ctv F₄ ⟨?_, reb_base F₃.keep⟩ (reb_new gq hq) ?_
  · obtain ⟨h₁, t₁, e⟩ := F₃.same
    exact ⟨_, t₁, by show ({ s' with heap := _ } : Shared) = _; rw [e]⟩
  · obtain ⟨ob, ho, vs, t, z1, z2⟩ := gc
    exact ⟨c', ob, vs, t, rfl, reb_new ho hc, z1, z2⟩
/-- from here on with all that stands as the base -/
theorem Frm.restart (hn : (cs.map (·.1)).Nodup) (F : Frm B env cs m mu s) : ∃ B₂, Ext B B₂ ∧ Frm B₂ env cs m mu s ∧ ∀ m' s', Frm B₂ env cs m' mu s' → ∀ a, s'.heap.get? a = none → s.heap.get? a = none :=
  ⟨_, (F.full hn).2, (F.full hn).1, fun _ _ F' _ h => full_fresh hn F' (fun _ q => q) h⟩
end

section
variable {w : World} {A : Around} {B s : Shared} {L : Addr} {m : Str → Option Value} {mu : Addr → Option Mv}
theorem law8 {R pl a : Addr} {us pv : List Value} {ps : List (Nat × Nat)} (G : Glb w B.heap) (r : Room A 6) (F : Frm B (lenv L) (lcs L) m mu s) (m1 : m "rows" = some (.ref R)) (m2 : m "places" = some (.ref pl)) (m3 : m "parts" = some (.ref a))
    (hR : B.heap.PlainList R us.toArray) (hRA : Al (RowAt B.heap) us (rowsTo ps ps.length)) (hP : B.heap.PlainList a pv.toArray) (hPA : Al (PartV B.heap) pv ps) (hpl : RgAt B.heap pl 0 ps.length) (hn : ps.length ≤ 20) (hn2 : 2 ≤ ps.length)
    (h180 : mu 180 = some (.obj (tabObj #[]))) (O : SOrd (fun i j => rlt (((List.range ps.length).map (rowOf ps)).getD i (0, 0, 0)) (((List.range ps.length).map (rowOf ps)).getD j (0, 0, 0))) ps.length)
    (hrows : ∀ p, SP ps.length p → SUp (fun i j => rlt (((List.range ps.length).map (rowOf ps)).getD i (0, 0, 0)) (((List.range ps.length).map (rowOf ps)).getD j (0, 0, 0))) p ps.length → p.toList.map (fun i => ((List.range ps.length).map (rowOf ps)).getD i (0, 0, 0)) = rowsTo ps ps.length) :
    wpAny (Md w) A (exec st8 (lenv L)) (fun f s' => f = .next ∧ ∃ B', Ext B B' ∧ Frm B' (lenv L) (lcs L) m (mup mu 180 gP) s') (fun _ _ => False) s := by
  have hl3 := hPA.length
  unfold st8
  dsimp only
  walk_at "go"
  refine cw_bK ?_
  walk_at "go"
  refine comp_list (hclos := rfl) r.hn ?_ ?_ ?_ ?_
  · walk_at "go"
    refine ⟨ps.length, _, _, Row, RowAt, fun _ => true, fun i => rowOf ps i, fun i m => ∃ t, m "i" = some (.int (i : Nat) t), by lia, itb_rg (a := 0) (hpl.keeps F.keep) (by decide) (by lia) (by lia) (by lia), ⟨fun _ _ _ _ k q => q.keeps k, ?_, ?_, ?_⟩, ?_⟩
    · intro i v C B' m' mu' s' hi hv hB F'
      obtain ⟨t, rfl⟩ := hv
      walk_at "go"
      refine ⟨_, by assumption, t, ?_⟩
      rw [upd_same, Nat.zero_add]
    · intro i C B' m' mu' s' hi hB F hN
      exact wpAny_tests_nil ⟨F, rfl⟩
    · intro i C B' m' mu' s' hi hpp hB F' hN
      obtain ⟨t, hk⟩ := hN
      have hnd := own_nil { kind := .function, names := [(".0", .local), ("i", .local), ("sum", .globalImplicit), ("parts", .free)], isGenerator := false, isCoroutine := false } C (by decide)
      obtain ⟨B₂, e₀, F₀, ff⟩ := F'.restart hnd
      have kp : ∀ b o, B.heap.get? b = some o → B₂.heap.get? b = some o := fun b o e => e₀.get b o (hB b o (F.keep b o e))
      have c1 := F.cellB "parts" _ (fun b o e => e₀.get b o (hB b o e)) m3 rfl
      have G' := G.keeps kp
      obtain ⟨v, hv, q, t1, t2, rfl, hT⟩ := hPA.get' (List.getElem?_eq_getElem hi)
      have hrow : rowOf ps i = (((ps[i].1 + ps[i].2 : Nat) : Int), ((ps[i].1 : Nat) : Int), ((i : Nat) : Int)) := by
        unfold rowOf; rw [List.getD_eq_getElem?_getD, List.getElem?_eq_getElem hi]; rfl
      generalize ps[i] = p at *
      have hP' : B₂.heap.PlainList a pv.toArray := hP.at fun o => kp _ o
      have hT' := hT.keeps kp
      clear F' F hP hT G
      walk_at "go"
      refine s_lst (hP'.at fun o => F₀.keep _ o) (by lia) (by lia) (x := .ref q) (by simpa using hv) ?_
      walk_at "go"
      refine t_sum2 r.hn F₀ (hT'.keeps F₀.keep) fun s₃ t₃ F₃ => ?_
      walk_at "go"
      refine s_lst (hP'.at fun o => F₃.keep _ o) (by lia) (by lia) (x := .ref q) (by simpa using hv) ?_
      walk_at "go"
      rename_i s₄ t₄ F₄
      refine s_tup (hT'.keeps F₄.keep) (by decide) (by decide) (x := .int p.1 t1) rfl ?_
      walk_at "go"
      refine n_tup F₄ (fun s₅ a F₅ ha Ta _ => ?_) (show 3 ≤ sizeLine by decide)
      refine ⟨F₅.base e₀, a, t₃, t1, t, rfl, ?_⟩
      rw [hrow]
      exact tup_nh Ta (ff _ _ F₄ a ha)
    · intro s₂ D ys e₂ hD hA'
      have F₂ := F.grow e₂
      have E₂ := F.growE e₂
      have hD₂ : (reb B s s₂).heap.PlainList D ys.toArray := hD.at fun o => reb_NH _ o
      rw [mapf_true] at hA'
      have hA₂ : Al (RowAt (reb B s s₂).heap) ys ((List.range ps.length).map (rowOf ps)) := hA'.mono fun v a q => q.keeps reb_NH
      have G₂ := G.keeps E₂.get
      generalize reb B s s₂ = B₂ at *
      walk_at "go"
      refine lam_base F₂ G₂ h180 (codeHd_of_K G₂.k (hd180 _)) (fun s₃ B₃ q c' pm ctv F₃ E₃ gq hcr => ?_) rfl rfl rfl rfl
      have G₃ := G₂.keeps E₃.get
      have K : LamK w B₃ 1 q := by
        intro A E Q s' v rr hB rA hv hQ
        obtain ⟨a', u1, u2, u3, rfl, hT⟩ := hv
        refine call_lam (G₃.lim.keeps hB) rA (hB _ _ gq) rfl (hcr.keeps hB) rfl (binds := [("row", .ref a')]) rfl (fun s₁' F' rr' => ?_) (show ∀ x ∈ ([("row", .local)] : List (Str × NameKind)), x.2 ≠ .cell by decide) (locs rfl)
        walk_at "go"
        refine s_tup (hT.keeps (Frm.keep (by assumption))) (by decide) (by decide) rfl ?_
        walk_at "go"
        refine s_tup (hT.keeps (Frm.keep (by assumption))) (by decide) (by decide) rfl ?_
        walk_at "go"
        refine s_tup (hT.keeps (Frm.keep (by assumption))) (by decide) (by decide) rfl ?_
        walk_at "go"
        rename_i s₄ t₄ F₄
        refine n_tup F₄ (fun s₅ z F₅ hz Tz _ => ?_) (show 3 ≤ sizeLine by decide)
        exact hQ _ _ _ _ _ F₅.done (none_back F₄.keep hz) Tz
      have hA₃ : Al (RowAt B₃.heap) ys ((List.range ps.length).map (rowOf ps)) := hA₂.mono fun v a q => q.keeps E₃.get
      have hD₃ := hD₂.at fun o => E₃.get _ o
      have hzl : ((List.range ps.length).map (rowOf ps)).length = ps.length := by simp
      have hyl : ys.length = ps.length := by rw [hA₃.length, hzl]
      refine sorted_spec F₃ (r.le (by lia)) hD₃ hA₃ (by lia) (by lia) (by rw [hzl]; exact O) K fun s₄ D' p F₄ hDs hp hu lD => ?_
      rw [hzl] at hp hu
      have hAp : Al (RowAt B₃.heap) (p.toList.map fun i => ys.getD i .none) (p.toList.map fun i => ((List.range ps.length).map (rowOf ps)).getD i (0, 0, 0)) := by
        refine Al.of (by simp) fun j v a hj ha => ?_
        rw [List.getElem?_map] at hj ha
        cases e : p.toList[j]? with
        | none => rw [e] at hj; simp at hj
        | some i =>
          rw [e] at hj ha
          have hi : i < ps.length := by
            have := hp.mem_iff.mp (List.mem_of_getElem? e)
            exact List.mem_range.mp this
          obtain ⟨v', hv', hr'⟩ := hA₃.get' (List.getElem?_eq_getElem (by rw [hzl]; exact hi))
          simp only [Option.map_some, Option.some.injEq] at hj ha
          rw [← hj, ← ha, List.getD_eq_getElem?_getD, List.getD_eq_getElem?_getD, hv', List.getElem?_eq_getElem (by rw [hzl]; exact hi)]
          exact hr'
      rw [hrows p hp hu] at hAp
      have E23 := E₂.trans E₃
      refine ne_rd r (rd_al (enc := rowD) (hR.at fun o e => F₄.keep _ o (E23.get _ o e)) (fun v a q => rd_row q) (hRA.mono fun v a q => q.keeps fun b o e => F₄.keep b o (E23.get b o e)))
        (rd_al (enc := rowD) lD (fun v a q => rd_row q) (hAp.mono fun v a q => q.keeps F₄.keep)) (shaped_rows _) (shaped_rows _) ?_
      rw [eqv_rows]
      walk_at "go"
      refine ifN rfl ?_
      walk_at "go"
      exact ⟨rfl, B₃, E23, F₄⟩
  · rfl
  · decide
  · intro x hx; simp at hx
end

def HeadV (h : Heap) (v : Value) (r : Row) : Prop := ∃ a t1 t2, v = .ref a ∧ IsTup h a [.int r.1 t1, .int r.2.1 t2].toArray
theorem HeadV.keeps {h h' : Heap} {v : Value} {p : Row} (L : HeadV h v p) (k : ∀ b o, h.get? b = some o → h'.get? b = some o) : HeadV h' v p := let ⟨a, t1, t2, e, x⟩ := L; ⟨a, t1, t2, e, x.keeps k⟩
section
variable {w : World} {A : Around} {B s : Shared} {L : Addr} {m : Str → Option Value} {mu : Addr → Option Mv}
theorem law9 {d : Nat} {R : Addr} {us : List Value} {rs : List Row} (G : Glb w B.heap) (r : Room A d) (F : Frm B (lenv L) (lcs L) m mu s) (m1 : m "rows" = some (.ref R)) (hR : B.heap.PlainList R us.toArray) (hRA : Al (RowAt B.heap) us rs) (hz : us.length ≤ 900) :
    wpAny (Md w) A (exec st9 (lenv L)) (fun f s' => f = .next ∧ ∃ B' H hv, Ext B B' ∧ Frm B' (lenv L) (lcs L) (upd m "heads" (.ref H)) mu s' ∧ B'.heap.PlainList H hv.toArray ∧ Al (HeadV B'.heap) hv rs) (fun _ _ => False) s := by
  unfold st9
  dsimp only
  refine wpAny_Assign_Name ?_
  refine comp_list (hclos := rfl) r.hn ?_ ?_ ?_ ?_
  · walk_at "go"
    refine ⟨us.length, _, _, Row, HeadV, fun _ => true, fun i => rs.getD i (0, 0, 0), fun i m => ∃ v, us[i]? = some v ∧ m "row" = some v, hz, itb_lst (hR.at fun o => F.keep _ o), ⟨fun _ _ _ _ k q => q.keeps k, ?_, ?_, ?_⟩, ?_⟩
    · intro i v C B' m' mu' s' hi hv hB F'
      walk_at "go"
      exact ⟨_, by assumption, v, hv, upd_same⟩
    · intro i C B' m' mu' s' hi hB F hN
      exact wpAny_tests_nil ⟨F, rfl⟩
    · intro i C B' m' mu' s' hi hpp hB F' hN
      obtain ⟨v, hv, hk⟩ := hN
      have hnd := own_nil { kind := .function, names := [(".0", .local), ("row", .local)], isGenerator := false, isCoroutine := false } C (by decide)
      obtain ⟨B₂, e₀, F₀, ff⟩ := F'.restart hnd
      have kp : ∀ b o, B.heap.get? b = some o → B₂.heap.get? b = some o := fun b o e => e₀.get b o (hB b o (F.keep b o e))
      obtain ⟨rr, hr, a, t1, t2, t3, rfl, hT⟩ := hRA.get hv
      refine sub_tup_upto (B := B₂) (cs := cOwn { kind := .function, names := [(".0", .local), ("row", .local)], isGenerator := false, isCoroutine := false } C) (m := m') (mu := mu') (b := 2) rfl ?_
      clear F'
      walk_at "go"
      refine ⟨a, _, rfl, F₀, (hT.keeps kp).keeps F₀.keep, by simp, by simp, fun s₂ D F₂ hD lD _ => ⟨F₂.base e₀, D, t1, t2, rfl, ?_⟩⟩
      have e : rs.getD i (0, 0, 0) = rr := by rw [List.getD_eq_getElem?_getD, hr]; rfl
      rw [e]
      exact tup_nh lD hD
    · intro s₂ D ys e₂ hD hA'
      refine st_c (F.grow e₂) rfl fun s₃ F₃ => ?_
      refine ⟨rfl, _, D, ys, F.growE e₂, F₃, hD.at fun o => reb_NH _ o, ?_⟩
      have e := range_map_getD rs (0, 0, 0) id
      rw [List.map_id] at e
      rw [mapf_true, hRA.length] at hA'
      rw [← e]
      exact hA'.mono fun _ _ q => q.keeps reb_NH
  · rfl
  · decide
  · intro x hx; simp at hx
end

abbrev scSp : Scope := { kind := .function, names := [(".0", .local), ("k", .local), ("_law_span", .globalImplicit), ("order", .free), ("rows", .free)], isGenerator := false, isCoroutine := false }
theorem SpanAt.at {h h' : Heap} {v : Value} {z : Nat × Nat × Nat × Nat} (L : SpanAt h v z) (k : ∀ b o, h.get? b = some o → h'.get? b = some o) : SpanAt h' v z := L.keeps k
noncomputable abbrev spEnv (L C : Addr) : Env := cEnv scSp [("rows", L + 1 + 1 + 1 + 1 + 1 + 1 + 1), ("order", L + 1 + 1 + 1 + 1 + 1 + 1)] C (lenv L)
abbrev spMu (tb : Obj) (D : Addr) (ys : List Value) (I : Addr) (n i : Nat) : Addr → Option Mv := mup (mup (mup mu0 151 (.obj tb)) D (.lst ys)) I (riP ((0 + i : Nat) : Int) ((n : Int) - i))
theorem spMu_next (tb : Obj) (D : Addr) (ys : List Value) (I : Addr) (n i : Nat) : mup (spMu tb D ys I n i) I (riP ((0 + (i + 1) : Nat) : Int) ((n : Int) - (i + 1 : Nat))) = spMu tb D ys I n (i + 1) := mup_mup
inductive SpJ (s : Shared) (L C D I : Addr) (rs : List Row) (i : Nat) (sJ : Shared) : Prop
  | mk (B' : Shared) (mm : Str → Option Value) (ys : List Value) (tb : Obj) (F : Frm B' (spEnv L C) (cOwn scSp C) mm (spMu tb D ys I rs.length i) sJ) (eB : ∃ hB tB, B' = { s with heap := hB, toks := tB })
      (hB : ∀ b o, (hid s 151).heap.get? b = some o → B'.heap.get? b = some o) (hA : Al (SpanAt (NH s B')) ys ((List.range i).map (spanOf rs)))
      (htb : tb = tabObj #[] ∨ ∃ c', tb = tabObj #[rawInt 131, rawInt 11, .ref c'] ∧ c' ≠ 151 ∧ B'.heap.CodeRec (.ref c') qSpan)
section
variable {w : World} {A : Around} {B s : Shared} {L : Addr} {m : Str → Option Value} {mu : Addr → Option Mv}
theorem law10 {R pl o : Addr} {us : List Value} {rs : List Row} (G : Glb w B.heap) (r : Room A 5) (F : Frm B (lenv L) (lcs L) m mu s) (m1 : m "rows" = some (.ref R)) (m2 : m "places" = some (.ref pl)) (m3 : m "order" = some (.ref o))
    (hR : B.heap.PlainList R us.toArray) (hRA : Al (RowAt B.heap) us rs) (hO : OrdAt B.heap o) (hpl : RgAt B.heap pl 0 rs.length) (hn : rs.length ≤ 20) (h151 : mu 151 = some (.obj (tabObj #[]))) :
    wpAny (Md w) A (exec st10 (lenv L)) (fun f s' => f = .next ∧ ∃ B' S sv, Ext B B' ∧ Frm B' (lenv L) (lcs L) (upd m "spans" (.ref S)) (mup mu 151 gP) s' ∧ B'.heap.PlainList S sv.toArray ∧ Al (SpanAt B'.heap) sv ((List.range rs.length).map (spanOf rs))) (fun _ _ => False) s := by
  have hul := hRA.length
  unfold st10
  dsimp only
  refine wpAny_Assign_Name ?_
  rw [eval_ListComp]
  refine wpAny_comprehension_free (use := none) rfl (fun _ => rfl) rfl rfl (by decide) ?_
  show wpAny _ _ (eval (Expr.Name _ _) _) _ _ _
  walk_at "go"
  have It := itb_rg (w := w) (H := B.heap) (a := 0) (n := rs.length) hpl (by decide) (by lia) (by lia) (by lia)
  refine It.start F.keep fun s₂ I hI e₂ hIa => ?_
  refine n_lstX (fun s₃ D hD hDl e₃ => ?_) (Nat.zero_le _)
  have g151 := (F.mus 151 _ h151).1
  have hID : I ≠ D := fun q => by obtain ⟨o, ho⟩ := mv_some hIa; rw [q, hD] at ho; cases ho
  have hI5 : I ≠ 151 := fun q => by rw [q] at hI; exact absurd hI (by rw [show s.heap.get? 151 = _ from g151]; simp)
  have hDs : s.heap.get? D = none := none_back e₂.get hD
  have hD5 : D ≠ 151 := fun q => by rw [q] at hDs; exact absurd hDs (by rw [show s.heap.get? 151 = _ from g151]; simp)
  have hh : ∀ {a}, s.heap.get? a = none → (hid s 151).heap.get? a = none := fun {a} h => by
    cases q : (hid s 151).heap.get? a with
    | none => rfl
    | some ob => rw [of_hid q] at h; cases h
  refine comp_env (B := hid s 151) (mu := mup (mup (mup mu0 151 (.obj (tabObj #[]))) D (.lst [])) I (riP ((0 + 0 : Nat) : Int) ((rs.length : Int) - (0 : Nat)))) ⟨by obtain ⟨h, t, q⟩ := (e₂.trans e₃).same; exact ⟨h, t, q⟩, fun b o e => (e₂.trans e₃).get b o (of_hid e)⟩ (fun a v e => ?_) (by intro x hx; simp at hx) fun C s₄ cenv hCe hcenv F₄ e₄ hC => ?_
  · rcases mup3 e with ⟨rfl, rfl⟩ | ⟨_, rfl, rfl⟩ | ⟨_, _, rfl, rfl⟩
    · exact ⟨mv_of (fun o => e₃.get _ o) hIa, hh hI⟩
    · exact ⟨hDl, hh hDs⟩
    · exact ⟨(e₂.trans e₃).get _ _ g151, Heap.hide_self _ _⟩
  rw [hcenv, hCe]
  change codeAny _ _ (.compStart _ 0 (.ref I) (.ref D) (spEnv L C)) _ _
  change Frm _ (spEnv L C) _ _ _ _ at F₄
  have hCs : s.heap.get? C = none := none_back (fun b o e => e₃.get b o (e₂.get b o e)) hC
  have hDC : D ≠ C := fun q => by obtain ⟨k, ho⟩ := hDl; rw [q, hC] at ho; cases ho
  have hIa4 := (F₄.mus I _ mup_same).1
  have hk := F.hidden h151
  have c1 : (hid s 151).heap.IsCell (L + 1 + 1 + 1 + 1 + 1 + 1 + 1) (some (.ref R)) := by
    obtain ⟨⟨ob, ho, hd⟩, _, _, r3, _⟩ := F.cell "rows" _ rfl
    rw [m1] at hd
    exact ⟨ob, hid_ne ho (fun q => by rw [q, h151] at r3; cases r3), hd⟩
  have c2 : (hid s 151).heap.IsCell (L + 1 + 1 + 1 + 1 + 1 + 1) (some (.ref o)) := by
    obtain ⟨⟨ob, ho, hd⟩, _, _, r3, _⟩ := F.cell "order" _ rfl
    rw [m3] at hd
    exact ⟨ob, hid_ne ho (fun q => by rw [q, h151] at r3; cases r3), hd⟩
  refine (fun (loop : codeAny _ _ (.compLoop _ 0 (.ref I) (.ref D) _) _ s₄) => codeAny_compStart_list loop (It.self hIa4 loop)) ?_
  refine comp_go rs.length (fun i sJ => SpJ s L C D I rs i sJ)
    ⟨hid s 151, _, [], _, F₄, ⟨_, _, rfl⟩, fun b o e => e, .nil, .inl rfl⟩ fun i s₅ hi hJ => ?_
  obtain ⟨B', mm, ys, tb, F₅, eB, hB, hA, htb⟩ := hJ
  have hBB : ∀ b o, B.heap.get? b = some o → B'.heap.get? b = some o := fun b o e => hB b o (hk b o e)
  have j151 : spMu tb D ys I rs.length i 151 = some (.obj tb) := (mup_ne hI5.symm).trans ((mup_ne hD5.symm).trans mup_same)
  by_cases hlt : i < rs.length
  · refine It.next (fun b o e => F₅.keep b o (hBB b o e)) F₅ mup_same hlt fun s₆ v hv F₆ => ⟨hlt, It.lot (F₆.mus I _ mup_same).1 ?_⟩
    rw [spMu_next] at F₆
    obtain ⟨t, rfl⟩ := hv
    walk_at "go"
    refine wpAny_tests_nil ?_
    rw [if_pos rfl]
    have d1 := c1.keeps hB
    have d2 := c2.keeps hB
    have G' := G.keeps hBB
    walk_at "go"
    rename_i s₇ F₇
    have j7 : spMu tb D ys I rs.length (i + 1) 151 = some (.obj tb) := (mup_ne hI5.symm).trans ((mup_ne hD5.symm).trans mup_same)
    have hk7 := F₇.hidden j7
    have kk : ∀ b o, B.heap.get? b = some o → (hid s₇ 151).heap.get? b = some o := fun b o e => hk7 b o (hBB b o e)
    have g7 := (F₇.mus 151 _ j7).1
    rw [show (0 + i : Nat) = i by lia]
    refine span_spec (G.keeps kk) (r.le (by lia)) ⟨tb, g7, htb.imp id fun ⟨c', x1, x2, x3⟩ => ⟨c', x1, x2, x3.keeps F₇.keep⟩⟩ (hR.at fun o => kk _ o) (hRA.mono fun v a q => q.keeps kk) (hO.keeps kk) (by lia) hlt fun s₈ v e₈ ht hv => ?_
    obtain ⟨tb', ht', htn⟩ := ht
    have F₈' := F₇.chg (tk := s₈.toks) j7 e₈.get (v := .obj tb') ht'
    have es8 : ({ s₇ with heap := s₈.heap, toks := s₈.toks } : Shared) = s₈ := by obtain ⟨h, t, q⟩ := e₈.same; rw [q]
    rw [es8] at F₈'
    have F₈ : Frm B' (spEnv L C) (cOwn scSp C) _ (spMu tb' D ys I rs.length (i + 1)) s₈ := F₈'.sub fun a v e => by
      rcases mup3 e with ⟨rfl, rfl⟩ | ⟨h1, rfl, rfl⟩ | ⟨h1, h2, rfl, rfl⟩
      · exact (mup_ne hI5).trans mup_same
      · exact (mup_ne hD5).trans ((mup_ne h1).trans mup_same)
      · exact mup_same
    have j8 : spMu tb' D ys I rs.length (i + 1) D = some (.lst ys) := (mup_ne hID.symm).trans mup_same
    refine l_appendX F₈ j8 (by rw [hA.length, List.length_map, List.length_range]; lia) fun s₉ F₉ hs₉ => ?_
    have F₉' : Frm B' (spEnv L C) (cOwn scSp C) _ (spMu tb' D (ys ++ [v]) I rs.length (i + 1)) s₉ := F₉.sub fun a v e => by
      rcases mup3 e with ⟨rfl, rfl⟩ | ⟨h1, rfl, rfl⟩ | ⟨h1, h2, rfl, rfl⟩
      · exact (mup_ne hID).trans mup_same
      · exact mup_same
      · exact (mup_ne h2).trans ((mup_ne h1).trans ((mup_ne h2).trans mup_same))
    have kp : ∀ b o, B'.heap.get? b = some o → (reb B' s₇ s₉).heap.get? b = some o := reb_base F₉'.keep
    have D7 : s₇.heap.get? D ≠ none := by
      obtain ⟨ob, hob⟩ := mv_some (F₇.mus D _ ((mup_ne hID.symm).trans mup_same)).1
      rw [hob]; simp
    have back : ∀ b, s₇.heap.get? b = none → s.heap.get? b = none := fun b hb => by
      cases q : s.heap.get? b with
      | none => rfl
      | some ob =>
        have h5 : b ≠ 151 := fun q' => by rw [q', show s₇.heap.get? 151 = _ from g7] at hb; cases hb
        rw [F₇.keep _ _ (hB _ _ (hid_ne q h5))] at hb; cases hb
    refine ⟨reb B' s₇ s₉, _, ys ++ [v], tb', F₇.reb F₉' (fun a v e => ?_), ?_, fun b o e => kp b o (hB b o e), ?_, ?_⟩
    · rcases mup3 e with ⟨rfl, rfl⟩ | ⟨h1, rfl, rfl⟩ | ⟨h1, h2, rfl, rfl⟩
      · exact ⟨_, mup_same⟩
      · exact ⟨_, (mup_ne h1).trans mup_same⟩
      · exact ⟨_, (mup_ne h1).trans ((mup_ne h2).trans mup_same)⟩
    · obtain ⟨h1, t1, e1⟩ := F₉'.same; obtain ⟨h2, t2, e2⟩ := eB
      exact ⟨_, t1, by show ({ s₉ with heap := _ } : Shared) = _; rw [e1, e2]⟩
    · rw [List.range_succ, List.map_append]
      refine (hA.mono fun v a q => q.keeps (NH_mono fun b o _ e => kp b o e)).append (.cons (hv.keeps fun b o e => ?_) .nil)
      obtain ⟨h1, h2⟩ := of_NH e
      exact NH_get (reb_new (hs₉ b o (fun q => D7 (q ▸ h2)) h1) h2) (back b h2)
    · rcases htn with htn | ⟨c', x1, x2, x3⟩
      · have e : tb' = tb := by rw [show s₇.heap.get? 151 = _ from g7] at htn; exact (Option.some.inj htn).symm
        subst e
        exact htb.imp id fun ⟨c', x1, x2, x3⟩ => ⟨c', x1, x2, x3.keeps kp⟩
      · refine .inr ⟨c', x1, fun q => (by rw [q, show s₇.heap.get? 151 = _ from g7] at x2; cases x2), ?_⟩
        obtain ⟨c0, ob, vs, t, y1, y2, y3, y4⟩ := x3
        cases y1
        exact ⟨c', ob, vs, t, rfl, reb_new (hs₉ _ _ (fun q => D7 (q ▸ x2)) y2) x2, y3, y4⟩
  · have hie : i = rs.length := by lia
    subst hie
    refine It.stop (fun b o e => F₅.keep b o (hBB b o e)) r.hn F₅ mup_same fun s₆ F₆ => ?_
    have eI : mdel (spMu tb D ys I rs.length rs.length) I = mup (mup mu0 151 (.obj tb)) D (.lst ys) := mdel_mup ((mup_ne hID).trans ((mup_ne hI5).trans rfl))
    rw [eI] at F₆
    obtain ⟨ml, hml, _⟩ := F₆.ns
    have hB0 : B'.heap.get? C = none := F₆.newL
    refine ⟨ml, hml, fun h'' hs'' => ?_⟩
    have ex : Exb 151 s { s₆ with heap := h'' } := by
      refine ⟨?_, fun b o hb e => hs''.extBut b o (fun q => by rw [q, hCs] at e; cases e) (F₆.keep b o (hB b o (hid_ne e hb)))⟩
      obtain ⟨h1, t1, e1⟩ := F₆.same; obtain ⟨h2, t2, e2⟩ := eB
      exact ⟨h'', t1, by rw [e1, e2]⟩
    have h5C : (151 : Addr) ≠ C := fun q => by rw [← q] at hCs; exact absurd hCs (by rw [show s.heap.get? 151 = _ from g151]; simp)
    have gtb : h''.get? 151 = some tb := hs''.extBut _ _ h5C (F₆.mus 151 (.obj tb) ((mup_ne hD5.symm).trans mup_same)).1
    obtain ⟨F₇, E₇⟩ := F.growX (v := gP) h151 ex ⟨tb, gtb, by rcases htb with rfl | ⟨c', rfl, _⟩ <;> exact ⟨_, rfl⟩⟩
    refine st_c F₇ rfl fun s₈ F₈ => ?_
    refine ⟨rfl, _, D, ys, E₇, F₈, ?_, hA.mono fun v a q => q.keeps fun b o e => ?_⟩
    · obtain ⟨k0, ho⟩ := F₆.lst (l := D) mup_same
      exact ⟨k0, reb_new (s' := { s₆ with heap := h'' }) (hs''.extBut D _ hDC ho) hDs⟩
    · obtain ⟨h1, h2⟩ := of_NH e
      exact reb_new (s' := { s₆ with heap := h'' }) (hs''.extBut b o (fun q => by rw [q, hB0] at h1; cases h1) (F₆.keep b o h1)) h2
end

def hq (a b : Row) : Bool := decide (a.1 = b.1) && decide (a.2.1 = b.2.1)
def ixOf (rs : List Row) (k : Nat) : Nat := rs.findIdx fun a => hq a (rs.getD k (0, 0, 0))
def ctOf (rs : List Row) (k : Nat) : Nat := rs.countP fun a => hq a (rs.getD k (0, 0, 0))
def wantOf (rs : List Row) (k : Nat) : Nat × Nat × Nat × Nat := (ixOf rs k, ixOf rs k + ctOf rs k, k, k)
def headD (r : Row) : PyData := .tuple [.int r.1, .int r.2.1]
theorem rd_head {h : Heap} {v : Value} {r : Row} (x : HeadV h v r) : Rd h v (headD r) := by
  obtain ⟨a, t1, t2, rfl, hT⟩ := x
  exact rd_tup hT (.cons (.int _ _) (.cons (.int _ _) .nil))
theorem eqv_head (a b : Row) : PyData.eqv (headD a) (headD b) = hq a b := by
  simp only [headD, PyData.eqv, PyData.eqvAll, Bool.and_true, hq]
  congr 1 <;> (by_cases q : _ = _ <;> simp [q])
theorem head_fun {h : Heap} {v : Value} {a b : Row} (x : HeadV h v a) (y : HeadV h v b) : a.1 = b.1 ∧ a.2.1 = b.2.1 := by
  obtain ⟨p, t1, t2, rfl, o, ho, _, n, hd⟩ := x
  obtain ⟨q, u1, u2, e, o', ho', _, n', hd'⟩ := y
  cases e
  rw [ho] at ho'; cases ho'
  rw [hd] at hd'
  simp at hd'
  exact ⟨hd'.1.1.1, hd'.1.2.1⟩
open Classical in
noncomputable def headE (h : Heap) (t : Row) (y : Value) : Bool := if q : ∃ r, HeadV h y r then hq (Classical.choose q) t else false
theorem headE_eq {h : Heap} {y : Value} {r t : Row} (x : HeadV h y r) : headE h t y = hq r t := by
  unfold headE
  have q : ∃ r, HeadV h y r := ⟨r, x⟩
  rw [dif_pos q]
  obtain ⟨e1, e2⟩ := head_fun x (Classical.choose_spec q)
  unfold hq
  rw [e1, e2]
theorem countP_head {h : Heap} {t : Row} {hv : List Value} {rs : List Row} (a : Al (HeadV h) hv rs) : hv.countP (headE h t) = rs.countP fun a => hq a t := by
  induction a with
  | nil => rfl
  | cons x _ ih => rw [List.countP_cons, List.countP_cons, ih, headE_eq x]
theorem hq_refl (a : Row) : hq a a = true := by simp [hq]
theorem ix_lt {rs : List Row} {k : Nat} (hk : k < rs.length) : ixOf rs k < rs.length := by
  unfold ixOf
  refine List.findIdx_lt_length_of_exists ⟨rs[k], List.getElem_mem hk, ?_⟩
  rw [List.getD_eq_getElem?_getD, List.getElem?_eq_getElem hk]; exact hq_refl _
def spanD (z : Nat × Nat × Nat × Nat) : PyData := .tuple [.int (z.1 : Nat), .int (z.2.1 : Nat), .tuple [.int (z.2.2.1 : Nat), .int (z.2.2.2 : Nat)]]
theorem rd_span {h : Heap} {v : Value} {z : Nat × Nat × Nat × Nat} (x : SpanAt h v z) : Rd h v (spanD z) := by
  obtain ⟨a, e, t1, t2, t3, t4, rfl, hT, hE⟩ := x
  obtain ⟨as, hr⟩ := rd_tup hE (ReadsAll.cons (.int (z.2.2.1 : Nat) t3) (.cons (.int (z.2.2.2 : Nat) t4) .nil))
  exact rd_tup hT (.cons (.int _ _) (.cons (.int _ _) (.cons hr .nil)))
theorem shaped_spans (zs : List (Nat × Nat × Nat × Nat)) : SeqAt.shaped (.list (zs.map spanD)) = true := shaped_map 5 (by decide) (fun _ => rfl) (fun _ => Nat.le_of_ble_eq_true rfl) zs
theorem eqvAll_spans : ∀ a : List (Nat × Nat × Nat × Nat), PyData.eqvAll (a.map spanD) (a.map spanD) = true
  | [] => rfl
  | x :: a => by
    have := eqvAll_spans a
    simp [PyData.eqvAll, PyData.eqv, spanD, this]
theorem eqv_spans (a : List (Nat × Nat × Nat × Nat)) : PyData.eqv (.list (a.map spanD)) (.list (a.map spanD)) = true := by
  have := eqvAll_spans a
  simp [PyData.eqv, this]

section
variable {w : World} {A : Around} {E : Value → Shared → Prop} {B s : Shared} {L : Addr} {m : Str → Option Value} {mu : Addr → Option Mv} {env : Env} {cs : List (Str × Addr)}
theorem heads_index {d : Nat} {H : Addr} {hv : List Value} {rs : List Row} {v : Value} {k : Nat} {Q : Value → Shared → Prop} (r : Room A (d + 1)) (F : Frm B env cs m mu s) (hH : B.heap.PlainList H hv.toArray) (hA : Al (HeadV B.heap) hv rs) (hk : k < rs.length) (hv' : hv[k]? = some v) (hz : rs.length ≤ 1000)
    (h : ∀ s' tk, Frm B env cs m mu s' → Q (.int (ixOf rs k : Nat) tk) s') : wpAny (Md w) A (call (.builtin "list.index") [.ref H, v]) Q E s := by
  have hl := hA.length
  have hget : ∀ {j : Nat} (hj : j < hv.length), HeadV B.heap hv[j] (rs[j]'(by lia)) := fun {j} hj => by
    obtain ⟨a, ha, hr⟩ := hA.get (List.getElem?_eq_getElem hj)
    rw [List.getElem?_eq_getElem (by lia)] at ha
    cases ha; exact hr
  have hkv : HeadV B.heap v (rs.getD k (0, 0, 0)) := by
    obtain ⟨a, ha, hr⟩ := hA.get hv'
    rw [List.getD_eq_getElem?_getD, ha]; exact hr
  have hlt := ix_lt hk
  refine l_index (headE B.heap (rs.getD k (0, 0, 0))) F (hH.at fun o => F.keep _ o) (fun y hy => ?_) (j := ixOf rs k) (by lia) (by lia) ?_ (fun j hj hjx => ?_) h
  · obtain ⟨j, hj, rfl⟩ := List.getElem_of_mem hy
    rw [headE_eq (hget hj), ← eqv_head]
    exact eqAt_rd r.in1 (rd_head ((hget hj).keeps F.keep)) (rd_head (hkv.keeps F.keep)) rfl rfl
  · rw [headE_eq (hget (by lia))]
    exact List.findIdx_getElem (p := fun a => hq a (rs.getD k (0, 0, 0))) (w := hlt)
  · rw [headE_eq (hget hj)]
    have := List.not_of_lt_findIdx hjx
    simpa using this
theorem heads_count {d : Nat} {H : Addr} {hv : List Value} {rs : List Row} {v : Value} {k : Nat} {Q : Value → Shared → Prop} (r : Room A (d + 1)) (F : Frm B env cs m mu s) (hH : B.heap.PlainList H hv.toArray) (hA : Al (HeadV B.heap) hv rs) (hv' : hv[k]? = some v)
    (h : ∀ s' tk, Frm B env cs m mu s' → Q (.int (ctOf rs k : Nat) tk) s') : wpAny (Md w) A (call (.builtin "list.count") [.ref H, v]) Q E s := by
  have hkv : HeadV B.heap v (rs.getD k (0, 0, 0)) := by
    obtain ⟨a, ha, hr⟩ := hA.get hv'
    rw [List.getD_eq_getElem?_getD, ha]; exact hr
  refine l_count (headE B.heap (rs.getD k (0, 0, 0))) F (hH.at fun o => F.keep _ o) (fun y hy => ?_) fun s' tk F' => ?_
  · obtain ⟨j, hj, rfl⟩ := List.getElem_of_mem hy
    obtain ⟨a, ha, hr⟩ := hA.get (List.getElem?_eq_getElem hj)
    rw [headE_eq hr, ← eqv_head]
    exact eqAt_rd r.in1 (rd_head (hr.keeps F.keep)) (rd_head (hkv.keeps F.keep)) rfl rfl
  · rw [countP_head hA]
    exact h _ _ F'
end

abbrev sc11 : Scope := { kind := .function, names := [(".0", .local), ("k", .local), ("heads", .free)], isGenerator := false, isCoroutine := false }
section
variable {w : World} {A : Around} {B s : Shared} {L : Addr} {m : Str → Option Value} {mu : Addr → Option Mv}
theorem law11 {H S pl : Addr} {hv sv : List Value} {rs : List Row} (G : Glb w B.heap) (r : Room A 4) (F : Frm B (lenv L) (lcs L) m mu s) (m1 : m "heads" = some (.ref H)) (m2 : m "places" = some (.ref pl)) (m3 : m "spans" = some (.ref S))
    (hH : B.heap.PlainList H hv.toArray) (hHA : Al (HeadV B.heap) hv rs) (hS : B.heap.PlainList S sv.toArray) (hSA : Al (SpanAt B.heap) sv ((List.range rs.length).map (spanOf rs))) (hpl : RgAt B.heap pl 0 rs.length) (hn : rs.length ≤ 20)
    (hsp : ∀ k, k < rs.length → spanOf rs k = wantOf rs k) :
    wpAny (Md w) A (exec st11 (lenv L)) (fun f s' => f = .next ∧ Frm B (lenv L) (lcs L) m mu s') (fun _ _ => False) s := by
  have hhl := hHA.length
  unfold st11
  dsimp only
  walk_at "go"
  refine comp_list (hclos := rfl) r.hn ?_ ?_ ?_ ?_
  · walk_at "go"
    refine ⟨rs.length, _, _, Nat × Nat × Nat × Nat, SpanAt, fun _ => true, fun k => wantOf rs k, fun k m => ∃ t, m "k" = some (.int (k : Nat) t), by lia, itb_rg (a := 0) (hpl.keeps F.keep) (by decide) (by lia) (by lia) (by lia), ⟨fun _ _ _ _ k q => q.keeps k, ?_, ?_, ?_⟩, ?_⟩
    · intro i v C B' m' mu' s' hi hv hB F'
      obtain ⟨t, rfl⟩ := hv
      walk_at "go"
      refine ⟨_, by assumption, t, ?_⟩
      rw [upd_same, Nat.zero_add]
    · intro i C B' m' mu' s' hi hB F hN
      exact wpAny_tests_nil ⟨F, rfl⟩
    · intro k C B' m' mu' s' hi hpp hB F' hN
      obtain ⟨t, hk⟩ := hN
      have hnd := own_nil sc11 C (by decide)
      obtain ⟨B₂, e₀, F₀, ff⟩ := F'.restart hnd
      have kp : ∀ b o, B.heap.get? b = some o → B₂.heap.get? b = some o := fun b o e => e₀.get b o (hB b o (F.keep b o e))
      have c1 := F.cellB "heads" _ (fun b o e => e₀.get b o (hB b o e)) m1 rfl
      have hH' : B₂.heap.PlainList H hv.toArray := hH.at fun o => kp _ o
      have hHA' : Al (HeadV B₂.heap) hv rs := hHA.mono fun v a q => q.keeps kp
      obtain ⟨v, hv', _⟩ := hHA.get' (List.getElem?_eq_getElem hi)
      clear F' F hH hHA
      walk_at "go"
      refine lm_index (hH'.at fun o => F₀.keep _ o) ?_
      walk_at "go"
      refine s_lst (hH'.at fun o => F₀.keep _ o) (by lia) (by lia) (x := v) (by simpa using hv') ?_
      walk_at "go"
      refine heads_index r F₀ hH' hHA' hi hv' (by lia) fun s₂ t₂ F₂ => ?_
      walk_at "go"
      refine lm_index (hH'.at fun o => F₂.keep _ o) ?_
      walk_at "go"
      refine s_lst (hH'.at fun o => F₂.keep _ o) (by lia) (by lia) (x := v) (by simpa using hv') ?_
      walk_at "go"
      refine heads_index r F₂ hH' hHA' hi hv' (by lia) fun s₃ t₃ F₃ => ?_
      walk_at "go"
      refine lm_count (hH'.at fun o => F₃.keep _ o) ?_
      walk_at "go"
      refine s_lst (hH'.at fun o => F₃.keep _ o) (by lia) (by lia) (x := v) (by simpa using hv') ?_
      walk_at "go"
      refine heads_count r F₃ hH' hHA' hv' fun s₄ t₄ F₄ => ?_
      walk_at "go"
      rename_i s₅ t₅ F₅
      refine n_tup F₅ (fun s₆ e F₆ he Te ee => ?_) (show 2 ≤ sizeLine by decide)
      walk_at "go"
      refine n_tup F₆ (fun s₇ a F₇ ha Ta ea => ?_) (show 3 ≤ sizeLine by decide)
      exact ⟨F₇.base e₀, a, e, t₂, t₅, t, t, rfl, tup_nh Ta (ff _ _ F₆ a ha), tup_nh (Te.keeps ea.get) (ff _ _ F₅ e he)⟩
    · intro s₂ D ys e₂ hD hA'
      have F₂ := F.kept e₂
      walk_at "go"
      have e : mapf (fun _ => true) (fun k => wantOf rs k) rs.length = (List.range rs.length).map (spanOf rs) := by
        rw [mapf_true]
        exact List.map_congr_left fun k hk => (hsp k (List.mem_range.mp hk)).symm
      rw [e] at hA'
      refine ne_rd r (rd_al (enc := spanD) (hS.at fun o => F₂.keep _ o) (fun v a q => rd_span q) (hSA.mono fun v a q => q.keeps F₂.keep)) (rd_al (enc := spanD) (hD.at fun o => NH_sub _ o) (fun v a q => rd_span (q.keeps NH_sub)) hA') (shaped_spans _) (shaped_spans _) ?_
      rw [eqv_spans]
      walk_at "go"
      refine ifN rfl ?_
      walk_at "go"
      exact ⟨rfl, F₂⟩
  · rfl
  · decide
  · intro x hx; simp at hx
end

theorem int_beq (x y : Nat) : ((x : Int) == (y : Int)) = decide (x = y) := by
  by_cases q : x = y
  · subst q; simp
  · simp [q]; lia
def sgl (ps : List (Nat × Nat)) (rs : List Row) : List (Nat × Nat) := mapf (fun k => decide ((spanOf rs k).1 = k)) (fun k => ps.getD (rs.getD k (0, 0, 0)).2.2.toNat (0, 0)) rs.length
section
variable {w : World} {A : Around} {B s : Shared} {L : Addr} {m : Str → Option Value} {mu : Addr → Option Mv}
theorem law12 {l R S pl : Addr} {lv us sv : List Value} {ps : List (Nat × Nat)} {rs : List Row} (G : Glb w B.heap) (r : Room A 4) (F : Frm B (lenv L) (lcs L) m mu s) (m1 : m "leads" = some (.ref l)) (m2 : m "places" = some (.ref pl)) (m3 : m "spans" = some (.ref S)) (m4 : m "rows" = some (.ref R))
    (hL : B.heap.PlainList l lv.toArray) (hLA : Al (LeadV B.heap) lv ps) (hR : B.heap.PlainList R us.toArray) (hRA : Al (RowAt B.heap) us rs) (hS : B.heap.PlainList S sv.toArray) (hSA : Al (SpanAt B.heap) sv ((List.range rs.length).map (spanOf rs))) (hpl : RgAt B.heap pl 0 rs.length) (hn : rs.length ≤ 20)
    (h3 : ∀ k, k < rs.length → ∃ j, j < ps.length ∧ (rs.getD k (0, 0, 0)).2.2 = (j : Nat)) (hps : ps.length ≤ 20) :
    wpAny (Md w) A (exec st12 (lenv L)) (fun f s' => f = .next ∧ ∃ B' D dv, Ext B B' ∧ Frm B' (lenv L) (lcs L) (upd m "single" (.ref D)) mu s' ∧ B'.heap.PlainList D dv.toArray ∧ Al (LeadV B'.heap) dv (sgl ps rs)) (fun _ _ => False) s := by
  have hul := hRA.length
  have hsl : sv.length = rs.length := by rw [hSA.length]; simp
  have hll := hLA.length
  unfold st12
  dsimp only
  refine comp_use (B := B) (cs := lcs L) (m := m) (mu := mu) (hclos := rfl) r.hn ?_ ?_ ?_ ?_ ?_
  · walk_at "go"
    refine ⟨F, rs.length, _, _, Nat × Nat, fun _ => LeadV B.heap, fun k => decide ((spanOf rs k).1 = k), fun k => ps.getD (rs.getD k (0, 0, 0)).2.2.toNat (0, 0), fun k m => ∃ t, m "k" = some (.int (k : Nat) t), by lia, itb_rg (a := 0) (hpl.keeps F.keep) (by decide) (by lia) (by lia) (by lia), ⟨fun _ _ _ _ _ q => q, ?_, ?_, ?_⟩, ?_⟩
    · intro i v C B' m' mu' s' hi hv hB F'
      obtain ⟨t, rfl⟩ := hv
      walk_at "go"
      refine ⟨_, by assumption, t, ?_⟩
      rw [upd_same, Nat.zero_add]
    · intro k C B' m' mu' s' hi hB F' hN
      obtain ⟨t, hk⟩ := hN
      refine wpAny_tests_one ?_
      have kp : ∀ b o, B.heap.get? b = some o → s'.heap.get? b = some o := fun b o e => F'.keep b o (hB b o (F.keep b o e))
      have c1 := F.cellB "spans" _ hB m3 rfl
      obtain ⟨v, hv, a, e, t1, t2, t3, t4, rfl, hT, _⟩ := hSA.get' (j := k) (a := spanOf rs k) (by rw [List.getElem?_map, List.getElem?_range hi]; rfl)
      walk_at "go"
      refine s_lst (hS.at fun o => kp _ o) (by lia) (by lia) (x := .ref a) (by simpa using hv) ?_
      walk_at "go"
      rename_i s₂ t₂ F₂
      refine s_tup (hT.keeps fun b o e => F₂.keep b o (hB b o (F.keep b o e))) (by decide) (by decide) rfl ?_
      walk_at "go"
      exact ⟨F₂, int_beq _ _⟩
    · intro k C B' m' mu' s' hi hpp hB F' hN
      obtain ⟨t, hk⟩ := hN
      have kp : ∀ b o, B.heap.get? b = some o → s'.heap.get? b = some o := fun b o e => F'.keep b o (hB b o (F.keep b o e))
      have c1 := F.cellB "leads" _ hB m1 rfl
      have c2 := F.cellB "rows" _ hB m4 rfl
      obtain ⟨v, hv, a, t1, t2, t3, rfl, hT⟩ := hRA.get' (List.getElem?_eq_getElem hi)
      obtain ⟨j, hj, ej⟩ := h3 k hi
      have er : rs.getD k (0, 0, 0) = rs[k] := by rw [List.getD_eq_getElem?_getD, List.getElem?_eq_getElem hi]; rfl
      rw [er] at ej ⊢
      obtain ⟨x, hx, hLx⟩ := hLA.get' (List.getElem?_eq_getElem hj)
      walk_at "go"
      refine s_lst (hR.at fun o => kp _ o) (by lia) (by lia) (x := .ref a) (by simpa using hv) ?_
      walk_at "go"
      rename_i s₂ t₂ F₂
      have kp2 : ∀ b o, B.heap.get? b = some o → s₂.heap.get? b = some o := fun b o e => F₂.keep b o (hB b o (F.keep b o e))
      refine s_tup (hT.keeps kp2) (by decide) (by decide) (x := .int rs[k].2.2 t3) rfl ?_
      rw [ej]
      walk_at "go"
      refine s_lst (hL.at fun o => kp2 _ o) (by lia) (by lia) (x := x) (by simpa using hx) ?_
      refine ⟨F₂, ?_⟩
      rw [Int.toNat_natCast, List.getD_eq_getElem?_getD, List.getElem?_eq_getElem hj]
      exact hLx
    · intro s₂ D ys F₂ hD hA'
      have F₃ := F.reb F₂ fun a v e => ⟨v, e⟩
      refine ⟨rfl, _, D, ys, ⟨?_, reb_base F₂.keep⟩, F₃, hD.at fun o => reb_NH _ o, hA'.mono fun v a q => q.keeps (reb_base F₂.keep)⟩
      obtain ⟨h, t, q⟩ := F₂.same
      exact ⟨_, t, by show ({ s₂ with heap := _ } : Shared) = _; rw [q]⟩
  · rfl
  · rfl
  · decide
  · intro x hx; simp at hx
end

def PileV (h : Heap) (v : Value) (p : List (Nat × Nat)) : Prop := ∃ b us, v = .ref b ∧ h.PlainList b us.toArray ∧ Al (LeadV h) us p
theorem PileV.keeps {h h' : Heap} {v : Value} {p : List (Nat × Nat)} (L : PileV h v p) (k : ∀ b o, h.get? b = some o → h'.get? b = some o) : PileV h' v p :=
  let ⟨b, us, e, x, y⟩ := L; ⟨b, us, e, x.at fun o => k _ o, y.mono fun _ _ q => q.keeps k⟩
def pilesP (rising : Bool) (ps : List (Nat × Nat)) : List (List (Nat × Nat)) := (pilesTo rising ps ps.length).P
def pilesR (rising : Bool) (ps : List (Nat × Nat)) : List (Nat × Nat) := (pilesTo rising ps ps.length).R.getD ((pilesTo rising ps ps.length).R.length - 1) []
section
variable {w : World} {A : Around} {B s : Shared} {L : Addr} {m : Str → Option Value} {mu : Addr → Option Mv}
theorem piles_st {D : Addr} {dv : List Value} {qs : List (Nat × Nat)} {rising : Bool} {x y : Str} {k : Nat} {p1 p2 tp : Pos} {E : Value → Shared → Prop} {Q : Unit → Shared → Prop} (G : Glb w B.heap) (r : Room A 4) (F : Frm B (lenv L) (lcs L) m mu s)
    (hD : B.heap.PlainList D dv.toArray) (hDA : Al (LeadV B.heap) dv qs) (hn : qs.length ≤ 100) (hn0 : 0 < qs.length)
    (hx : (lenv L).kindOf x = some .local) (hy : (lenv L).kindOf y = some .local) (hdx : (x == ("__debug__" : Str)) = false)
    (h : ∀ s' B' l pv rd, Ext B B' → Frm B' (lenv L) (lcs L) (upd (upd m x (.ref l)) y rd) mu s' → B'.heap.PlainList l pv.toArray → Al (PileV B'.heap) pv (pilesP rising qs) → PileV B'.heap rd (pilesR rising qs) → Q () s') :
    wpAny (Md w) A (call (.ref 163) [.ref D, .bool rising]) (fun v s₁ => wpAny (Md w) A (assign (.Tuple [.Name x p1, .Name y p2] k tp) (lenv L) v) Q E s₁) E s := by
  refine piles_spec (H := B.heap) (G.keeps F.keep) r (hD.at fun o => F.keep _ o) F.keep hDA hn hn0 fun s₁ v e₁ hv => ?_
  obtain ⟨t, l, pv, rd, rfl, hT, hl, hP, hR⟩ := hv
  have F₁ := F.grow e₁
  have E₁ := F.growE e₁
  have kN : ∀ b o, (NH s s₁).get? b = some o → (reb B s s₁).heap.get? b = some o := reb_NH
  have conv : ∀ {v p}, RoadV s B.heap (NH s s₁) v p → PileV (reb B s s₁).heap v p := fun ⟨b, us, e, _, x, y⟩ => ⟨b, us, e, x.at fun o => kN _ o, y.mono fun _ _ q => q.keeps E₁.get⟩
  refine as_tup2 r.hn F₁ ((hT.keeps kN).keeps F₁.keep) fun s₂ F₂ => ?_
  refine PySem.wpAny_assign_Name (st_l F₂ (fun s₃ F₃ => ?_) rfl hx)
  refine PySem.wpAny_assign_Name (st_l F₃ (fun s₄ F₄ => ?_) rfl hy)
  exact h s₄ _ l pv rd E₁ F₄ (hl.at fun o => kN _ o) (hP.mono fun _ _ q => conv q) (conv hR)

theorem law13 {D : Addr} {dv : List Value} {qs : List (Nat × Nat)} (G : Glb w B.heap) (r : Room A 4) (F : Frm B (lenv L) (lcs L) m mu s) (m1 : m "single" = some (.ref D)) (hD : B.heap.PlainList D dv.toArray) (hDA : Al (LeadV B.heap) dv qs) (hn : qs.length ≤ 100) (hn0 : 0 < qs.length) :
    wpAny (Md w) A (exec st13 (lenv L)) (fun f s' => f = .next ∧ ∃ B' l pv rd, Ext B B' ∧ Frm B' (lenv L) (lcs L) (upd (upd m "layers" (.ref l)) "ladder" rd) mu s' ∧ B'.heap.PlainList l pv.toArray ∧ Al (PileV B'.heap) pv (pilesP true qs) ∧ PileV B'.heap rd (pilesR true qs)) (fun _ _ => False) s := by
  unfold st13
  dsimp only
  walk_at "go"
  exact piles_st G r F hD hDA hn hn0 rfl rfl rfl fun s' B' l pv rd e F' h1 h2 h3 => ⟨rfl, B', l, pv, rd, e, F', h1, h2, h3⟩
theorem law14 {D : Addr} {dv : List Value} {qs : List (Nat × Nat)} (G : Glb w B.heap) (r : Room A 4) (F : Frm B (lenv L) (lcs L) m mu s) (m1 : m "single" = some (.ref D)) (hD : B.heap.PlainList D dv.toArray) (hDA : Al (LeadV B.heap) dv qs) (hn : qs.length ≤ 100) (hn0 : 0 < qs.length) :
    wpAny (Md w) A (exec st14 (lenv L)) (fun f s' => f = .next ∧ ∃ B' l pv rd, Ext B B' ∧ Frm B' (lenv L) (lcs L) (upd (upd m "ladders" (.ref l)) "strangers" rd) mu s' ∧ B'.heap.PlainList l pv.toArray ∧ Al (PileV B'.heap) pv (pilesP false qs) ∧ PileV B'.heap rd (pilesR false qs)) (fun _ _ => False) s := by
  unfold st14
  dsimp only
  walk_at "go"
  exact piles_st G r F hD hDA hn hn0 rfl rfl rfl fun s' B' l pv rd e F' h1 h2 h3 => ⟨rfl, B', l, pv, rd, e, F', h1, h2, h3⟩
end

section
variable {w : World} {A : Around} {B s : Shared} {L : Addr} {m : Str → Option Value} {mu : Addr → Option Mv}
theorem law15 {D ly ld : Addr} {dv yv ldv : List Value} {qs : List (Nat × Nat)} (G : Glb w B.heap) (r : Room A 4) (F : Frm B (lenv L) (lcs L) m mu s) (m1 : m "single" = some (.ref D)) (m2 : m "layers" = some (.ref ly)) (m3 : m "ladders" = some (.ref ld))
    (hD : B.heap.PlainList D dv.toArray) (hDA : Al (LeadV B.heap) dv qs) (hy : B.heap.PlainList ly yv.toArray) (hyl : yv.length = (pilesP true qs).length) (hd : B.heap.PlainList ld ldv.toArray) (hdl : ldv.length = (pilesP false qs).length) (hn : qs.length ≤ 100) (hn0 : 0 < qs.length)
    (h1 : (((pilesP true qs).length : Nat) : Int) = mxL (mostTo qs true qs.length)) (h2 : (((pilesP false qs).length : Nat) : Int) = mxL (mostTo qs false qs.length)) (hy9 : yv.length ≤ 900) (hd9 : ldv.length ≤ 900) :
    wpAny (Md w) A (exec st15 (lenv L)) (fun f s' => f = .next ∧ Frm B (lenv L) (lcs L) m mu s') (fun _ _ => False) s := by
  unfold st15
  dsimp only
  walk_at "go"
  refine l_len F (hy.at fun o => F.keep _ o) (by lia) fun s₁ t₁ F₁ => ?_
  walk_at "go"
  refine most_spec (G.keeps F₁.keep) (r.le (by lia)) (hD.at fun o => F₁.keep _ o) (hDA.mono fun v a q => q.keeps F₁.keep) hn hn0 fun s₂ t₂ e₂ => ?_
  have F₂ := F₁.kept e₂
  rw [hyl, h1]
  walk_at "go"
  refine ifN (by simp) ?_
  walk_at "go"
  refine l_len F₂ (hd.at fun o => F₂.keep _ o) (by lia) fun s₃ t₃ F₃ => ?_
  walk_at "go"
  refine most_spec (G.keeps F₃.keep) (r.le (by lia)) (hD.at fun o => F₃.keep _ o) (hDA.mono fun v a q => q.keeps F₃.keep) hn hn0 fun s₄ t₄ e₄ => ?_
  have F₄ := F₃.kept e₄
  rw [hdl, h2]
  walk_at "go"
  refine ifN (by simp) ?_
  walk_at "go"
  exact ⟨rfl, F₄⟩

theorem mapf_none {α : Type} {p : Nat → Bool} {f : Nat → α} {n : Nat} (h : ∀ i, i < n → p i = false) : mapf p f n = [] := by
  cases e : mapf p f n with
  | nil => rfl
  | cons a l =>
    obtain ⟨i, hi, hp, _⟩ := mapf_mem (a := a) (by rw [e]; exact .head _)
    rw [h i hi] at hp; cases hp
theorem law16 {ly ld : Addr} {yv ldv : List Value} {qs : List (Nat × Nat)} (G : Glb w B.heap) (r : Room A 4) (F : Frm B (lenv L) (lcs L) m mu s) (m2 : m "layers" = some (.ref ly)) (m3 : m "ladders" = some (.ref ld))
    (hy : B.heap.PlainList ly yv.toArray) (hyA : Al (PileV B.heap) yv (pilesP true qs)) (hd : B.heap.PlainList ld ldv.toArray) (hdA : Al (PileV B.heap) ldv (pilesP false qs))
    (hy9 : (pilesP true qs).length ≤ 100) (hd9 : (pilesP false qs).length ≤ 100) (hys : ∀ p ∈ pilesP true qs, p.length ≤ 20) (hds : ∀ p ∈ pilesP false qs, p.length ≤ 20)
    (h1 : ∀ p ∈ pilesP true qs, strB p = true) (h2 : ∀ p ∈ pilesP false qs, ladB p = true) :
    wpAny (Md w) A (exec st16 (lenv L)) (fun f s' => f = .next ∧ Frm B (lenv L) (lcs L) m mu s') (fun _ _ => False) s := by
  have hyl := hyA.length
  have hdl := hdA.length
  have g1 : ∀ i, i < (pilesP true qs).length → (pilesP true qs).getD i [] ∈ pilesP true qs := fun i hi => by rw [List.getD_eq_getElem?_getD, List.getElem?_eq_getElem hi]; exact List.getElem_mem hi
  have g2 : ∀ i, i < (pilesP false qs).length → (pilesP false qs).getD i [] ∈ pilesP false qs := fun i hi => by rw [List.getD_eq_getElem?_getD, List.getElem?_eq_getElem hi]; exact List.getElem_mem hi
  unfold st16
  dsimp only
  walk_at "go"
  refine comp_list (hclos := rfl) r.hn ?_ ?_ ?_ ?_
  · walk_at "go"
    refine ⟨yv.length, _, _, Unit, fun _ _ _ => True, fun i => !strB ((pilesP true qs).getD i []), fun _ => (), fun i m => ∃ v, yv[i]? = some v ∧ m "pile" = some v, by lia, itb_lst (hy.at fun o => F.keep _ o), ⟨fun _ _ _ _ _ q => q, ?_, ?_, ?_⟩, ?_⟩
    · intro i v C B' m' mu' s' hi hv hB F'
      walk_at "go"
      exact ⟨_, by assumption, v, hv, upd_same⟩
    · intro i C B' m' mu' s' hi hB F' hN
      obtain ⟨v, hv, hk⟩ := hN
      refine wpAny_tests_one ?_
      have kp : ∀ b o, B.heap.get? b = some o → s'.heap.get? b = some o := fun b o e => F'.keep b o (hB b o (F.keep b o e))
      have G' := G.keeps fun b o e => hB b o (F.keep b o e)
      obtain ⟨p, hp, b, us, rfl, hb, hbA⟩ := hyA.get hv
      have ep : (pilesP true qs).getD i [] = p := by rw [List.getD_eq_getElem?_getD, hp]; rfl
      have hpl : p.length ≤ 20 := hys _ (List.mem_of_getElem? hp)
      rw [ep]
      walk_at "go"
      refine str_spec (G'.keeps F'.keep) (r.le (by lia)) (hb.at fun o => kp _ o) (hbA.mono fun v a q => q.keeps kp) hpl fun s₂ e₂ => ?_
      walk_at "go"
      exact ⟨F'.kept e₂, rfl⟩
    · intro i C B' m' mu' s' hi hpp hB F' hN
      obtain ⟨v, hv, hk⟩ := hN
      walk_at "go"
      exact ⟨F', trivial⟩
    · intro s₂ X ys e₂ hX hA'
      have F₂ := F.kept e₂
      rw [mapf_none (fun i hi => by rw [h1 _ (g1 i (by lia))]; rfl)] at hA'
      cases hA'
      walk_at "go"
      refine n_lst F₂ (fun s₃ Z F₃ _ lZ e₃ => ?_) (by decide)
      refine ne_rd r (rd_lst (hX.at fun o e => e₃.get _ o (NH_sub _ o e)) .nil) (rd_lst lZ .nil) rfl rfl ?_
      rw [show (!PyData.eqv (.list []) (.list [])) = false from rfl]
      walk_at "go"
      refine comp_list (hclos := rfl) r.hn ?_ ?_ ?_ ?_
      · walk_at "go"
        refine ⟨ldv.length, _, _, Unit, fun _ _ _ => True, fun i => !ladB ((pilesP false qs).getD i []), fun _ => (), fun i m => ∃ v, ldv[i]? = some v ∧ m "pile" = some v, by lia, itb_lst (hd.at fun o => F₃.keep _ o), ⟨fun _ _ _ _ _ q => q, ?_, ?_, ?_⟩, ?_⟩
        · intro i v C B' m' mu' s' hi hv hB F'
          walk_at "go"
          exact ⟨_, by assumption, v, hv, upd_same⟩
        · intro i C B' m' mu' s' hi hB F' hN
          obtain ⟨v, hv, hk⟩ := hN
          refine wpAny_tests_one ?_
          have kp : ∀ b o, B.heap.get? b = some o → s'.heap.get? b = some o := fun b o e => F'.keep b o (hB b o (F₃.keep b o e))
          have G' := G.keeps fun b o e => hB b o (F₃.keep b o e)
          obtain ⟨p, hp, b, us, rfl, hb, hbA⟩ := hdA.get hv
          have ep : (pilesP false qs).getD i [] = p := by rw [List.getD_eq_getElem?_getD, hp]; rfl
          have hpl : p.length ≤ 20 := hds _ (List.mem_of_getElem? hp)
          rw [ep]
          walk_at "go"
          refine lad_spec (G'.keeps F'.keep) (r.le (by lia)) (hb.at fun o => kp _ o) (hbA.mono fun v a q => q.keeps kp) (by lia) fun s₄ e₄ => ?_
          walk_at "go"
          exact ⟨F'.kept e₄, rfl⟩
        · intro i C B' m' mu' s' hi hpp hB F' hN
          obtain ⟨v, hv, hk⟩ := hN
          walk_at "go"
          exact ⟨F', trivial⟩
        · intro s₄ X' ys' e₄ hX' hA''
          have F₄ := F₃.kept e₄
          rw [mapf_none (fun i hi => by rw [h2 _ (g2 i (by lia))]; rfl)] at hA''
          cases hA''
          walk_at "go"
          refine n_lst F₄ (fun s₅ Z' F₅ _ lZ' e₅ => ?_) (by decide)
          refine ne_rd r (rd_lst (hX'.at fun o e => e₅.get _ o (NH_sub _ o e)) .nil) (rd_lst lZ' .nil) rfl rfl ?_
          rw [show (!PyData.eqv (.list []) (.list [])) = false from rfl]
          walk_at "go"
          exact ⟨rfl, F₅⟩
      · rfl
      · decide
      · intro x hx; simp at hx
  · rfl
  · decide
  · intro x hx; simp at hx

theorem law17 {rd rs : Value} {qs : List (Nat × Nat)} (G : Glb w B.heap) (r : Room A 4) (F : Frm B (lenv L) (lcs L) m mu s) (m1 : m "ladder" = some rd) (m2 : m "strangers" = some rs) (h1 : PileV B.heap rd (pilesR true qs)) (h2 : PileV B.heap rs (pilesR false qs))
    (hl1 : (pilesR true qs).length ≤ 20) (hl2 : (pilesR false qs).length ≤ 20) (e1 : ladB (pilesR true qs) = true) (e2' : strB (pilesR false qs) = true) :
    wpAny (Md w) A (exec st17 (lenv L)) (fun f s' => f = .ret (.bool true) ∧ Frm B (lenv L) (lcs L) m mu s') (fun _ _ => False) s := by
  obtain ⟨b1, us1, rfl, hb1, hA1⟩ := h1
  obtain ⟨b2, us2, rfl, hb2, hA2⟩ := h2
  unfold st17
  dsimp only
  walk_at "go"
  refine BoolOp_and ?_
  walk_at "go"
  refine lad_spec (G.keeps F.keep) (r.le (by lia)) (hb1.at fun o => F.keep _ o) (hA1.mono fun v a q => q.keeps F.keep) (by lia) fun s₂ e₂ => ?_
  have F₂ := F.kept e₂
  rw [e1]
  walk_at "go"
  refine BoolOp_one ?_
  walk_at "go"
  refine str_spec (G.keeps F₂.keep) (r.le (by lia)) (hb2.at fun o => F₂.keep _ o) (hA2.mono fun v a q => q.keeps F₂.keep) hl2 fun s₃ e₃ => ?_
  rw [e2']
  exact ⟨rfl, F₂.kept e₃⟩
end

/-- what plain Lean says of the parts -/
structure PlainOk (ps : List (Nat × Nat)) : Prop where
  small : ∀ p ∈ ps, p.1 < 4 ∧ p.2 < 4
  len4 : 4 ≤ ps.length
  len7 : ps.length ≤ 7
  ord : SOrd (fun i j => rlt (((List.range ps.length).map (rowOf ps)).getD i (0, 0, 0)) (((List.range ps.length).map (rowOf ps)).getD j (0, 0, 0))) ps.length
  rows : ∀ p, SP ps.length p → SUp (fun i j => rlt (((List.range ps.length).map (rowOf ps)).getD i (0, 0, 0)) (((List.range ps.length).map (rowOf ps)).getD j (0, 0, 0))) p ps.length → p.toList.map (fun i => ((List.range ps.length).map (rowOf ps)).getD i (0, 0, 0)) = rowsTo ps ps.length
  spans : ∀ k, k < (rowsTo ps ps.length).length → spanOf (rowsTo ps ps.length) k = wantOf (rowsTo ps ps.length) k
  places : ∀ k, k < (rowsTo ps ps.length).length → ∃ j, j < ps.length ∧ ((rowsTo ps ps.length).getD k (0, 0, 0)).2.2 = (j : Nat)
  some1 : 0 < (sgl ps (rowsTo ps ps.length)).length
  most : ∀ b, (((pilesP b (sgl ps (rowsTo ps ps.length))).length : Nat) : Int) = mxL (mostTo (sgl ps (rowsTo ps ps.length)) b (sgl ps (rowsTo ps ps.length)).length)
  pile1 : ∀ p ∈ pilesP true (sgl ps (rowsTo ps ps.length)), strB p = true
  pile2 : ∀ p ∈ pilesP false (sgl ps (rowsTo ps ps.length)), ladB p = true
  road1 : ladB (pilesR true (sgl ps (rowsTo ps ps.length))) = true
  road2 : strB (pilesR false (sgl ps (rowsTo ps ps.length))) = true

theorem sgl_len (ps : List (Nat × Nat)) (rs : List Row) : (sgl ps rs).length ≤ rs.length := mapf_len _ _ _
theorem pilesP_len (b : Bool) (qs : List (Nat × Nat)) : (pilesP b qs).length ≤ qs.length := by
  obtain ⟨h1, h2, h3, h4⟩ := pilesTo_len b qs qs.length
  unfold pilesP; lia
theorem pilesR_len (b : Bool) (qs : List (Nat × Nat)) : (pilesR b qs).length ≤ qs.length := getD_len (pilesTo_sm b qs qs.length).2 _

theorem law_spec {w : World} {A : Around} {E : Value → Shared → Prop} {s : Shared} {S : Addr} {sv : List Value} {ns : List Int} {Q : Value → Shared → Prop}
    (G : Glb w (hid (hid (hid s 144) 151) 180).heap) (r : Room A 7) (h144 : s.heap.get? 144 = some (tabObj #[])) (h151 : s.heap.get? 151 = some (tabObj #[])) (h180 : s.heap.get? 180 = some (tabObj #[]))
    (hS : (hid (hid (hid s 144) 151) 180).heap.IsList S sv.toArray) (hA : Al (IntV s.heap) sv ns) (hz : sv.length ≤ 1000) (P : PlainOk ((cellsOf ns).map partOf))
    (h : ∀ s', (∃ hh tk, s' = { s with heap := hh, toks := tk }) → (∀ b o, b ≠ 144 → b ≠ 151 → b ≠ 180 → s.heap.get? b = some o → s'.heap.get? b = some o) → GrownP 144 s'.heap → GrownP 151 s'.heap → GrownP 180 s'.heap → Q (.bool true) s') :
    wpAny (Md w) A (call (.ref 183) [.ref S]) Q E s := by
  refine call_fnC (G.keeps fun b o e => of_hid (of_hid (of_hid e))) r (kLaw _) (cLaw _) rfl (binds := [("script", .ref S)]) rfl (fun s₁ F r' => ?_) rfl rfl (by decide)
  have n5 : (151 : Addr) ≠ 144 := by decide
  have n8 : (180 : Addr) ≠ 144 := by decide
  have n9 : (180 : Addr) ≠ 151 := by decide
  have F1 := F.hideM (l := 144) (v := .obj (tabObj #[])) h144
  have F2 := F1.hideM (l := 151) (v := .obj (tabObj #[])) (hid_ne h151 n5)
  have F3 := F2.hideM (l := 180) (v := .obj (tabObj #[])) (hid_ne (hid_ne h180 n8) n9)
  clear F F1 F2
  have m1 : (fun x => List.lookup x [(("script" : Str), Value.ref S)].reverse) ("script" : Str) = some (.ref S) := rfl
  revert F3 m1
  generalize (fun x => List.lookup x [(("script" : Str), Value.ref S)].reverse) = m0
  intro F3 m1
  refine join (law0 G r' F3 m1 hS hz (hA.mono fun _ _ q => q)) fun s₂ hP => ?_
  obtain ⟨B1, c, cv, E1, F4, hc, hcA⟩ := hP
  have G1 := G.keeps E1.get
  have hcl := hcA.length
  have hpl' : ((cellsOf ns).map partOf).length = cv.length := by rw [List.length_map, hcl]
  generalize hps : (cellsOf ns).map partOf = ps at P hpl'
  have hn := P.len7
  refine join (law1 G1 r' F4 (by walk_at "lk") hc (by lia) hcA) fun s₃ hP => ?_
  obtain ⟨B2, a, pv, E2, F5, ha, haA⟩ := hP
  rw [hps] at haA
  have G2 := G1.keeps E2.get
  have hc2 := hc.at fun o => E2.get _ o
  have hpvl := haA.length
  refine join (law2 G2 (r'.le (by lia)) F5 (by walk_at "lk") ha (by lia) haA P.small) fun s₄ hP => ?_
  obtain ⟨B3, l, lv, E3, F6, hl, hlA⟩ := hP
  have G3 := G2.keeps E3.get
  have hc3 := hc2.at fun o => E3.get _ o
  have ha3 := ha.at fun o => E3.get _ o
  have haA3 := haA.mono fun _ _ q => q.keeps E3.get
  refine join (law3 G3 (r'.le (by lia)) F6 (by walk_at "lk") ha3 (by lia) haA3) fun s₅ hP => ?_
  obtain ⟨B4, co, cov, E4, F7, hco, hcoA⟩ := hP
  have G4 := G3.keeps E4.get
  have hc4 := hc3.at fun o => E4.get _ o
  have ha4 := ha3.at fun o => E4.get _ o
  have haA4 := haA3.mono fun _ _ q => q.keeps E4.get
  have hl4 := hl.at fun o => E4.get _ o
  have hlA4 := hlA.mono fun _ _ q => q.keeps E4.get
  refine join (law4 G4 r' F7 (by walk_at "lk") hc4 (by lia)) fun s₆ hP => ?_
  obtain ⟨B5, pl, E5, F8, hpl⟩ := hP
  rw [← hpl'] at hpl
  have G5 := G4.keeps E5.get
  have ha5 := ha4.at fun o => E5.get _ o
  have haA5 := haA4.mono fun _ _ q => q.keeps E5.get
  have hl5 := hl4.at fun o => E5.get _ o
  have hlA5 := hlA4.mono fun _ _ q => q.keeps E5.get
  have hco5 := hco.at fun o => E5.get _ o
  have hcoA5 := hcoA.mono fun _ _ q => q.keeps E5.get
  refine join (law5 G5 (r'.le (by lia)) F8 (by walk_at "lk") (by walk_at "lk") (by walk_at "lk") (by walk_at "lk") hl5 hlA5 hco5 hcoA5 hpl ha5 haA5 P.small (by lia)) fun s₇ hP => ?_
  obtain ⟨m5, F9, hm5⟩ := hP
  have k1 : m5 "parts" = some (.ref a) := (hm5 _ (by decide) (by decide) (by decide)).trans (by walk_at "lk")
  have k2 : m5 "leads" = some (.ref l) := (hm5 _ (by decide) (by decide) (by decide)).trans (by walk_at "lk")
  have k3 : m5 "places" = some (.ref pl) := (hm5 _ (by decide) (by decide) (by decide)).trans (by walk_at "lk")
  clear hm5 F8 F7 F6 F5 F4 F3
  refine join (law6 G5 (r'.le (by lia)) F9) fun s₈ hP => ?_
  obtain ⟨B6, o, E6, F10, ho⟩ := hP
  have G6 := G5.keeps E6.get
  have ha6 := ha5.at fun o => E6.get _ o
  have haA6 := haA5.mono fun _ _ q => q.keeps E6.get
  have hl6 := hl5.at fun o => E6.get _ o
  have hlA6 := hlA5.mono fun _ _ q => q.keeps E6.get
  have hpl6 := hpl.keeps E6.get
  refine join (law7 G6 r' F10 (by walk_at "lk") (by walk_at "lk") hl6 hlA6 ho (by lia) ((mup_ne (by decide)).trans ((mup_ne (by decide)).trans mup_same))) fun s₉ hP => ?_
  obtain ⟨B7, R, us, E7, F11, hR, hRA⟩ := hP
  have G7 := G6.keeps E7.get
  have ha7 := ha6.at fun o => E7.get _ o
  have haA7 := haA6.mono fun _ _ q => q.keeps E7.get
  have hl7 := hl6.at fun o => E7.get _ o
  have hlA7 := hlA6.mono fun _ _ q => q.keeps E7.get
  have hpl7 := hpl6.keeps E7.get
  have ho7 := ho.keeps E7.get
  refine join (law8 G7 r' F11 (by walk_at "lk") (by walk_at "lk") (by walk_at "lk") hR hRA ha7 haA7 hpl7 (by lia) (by have := P.len4; lia) ((mup_ne (by decide)).trans mup_same) P.ord P.rows) fun s₁₀ hP => ?_
  obtain ⟨B8, E8, F12⟩ := hP
  have G8 := G7.keeps E8.get
  have hl8 := hl7.at fun o => E8.get _ o
  have hlA8 := hlA7.mono fun _ _ q => q.keeps E8.get
  have hpl8 := hpl7.keeps E8.get
  have ho8 := ho7.keeps E8.get
  have hR8 := hR.at fun o => E8.get _ o
  have hRA8 := hRA.mono fun _ _ q => q.keeps E8.get
  have hrl : (rowsTo ps ps.length).length = ps.length := rowsTo_length ps _
  have husl := hRA.length
  obtain ⟨Psm, P4, P7, Pord, Prows, Psp, Ppc, Ps1, Pmo, Pp1, Pp2, Pr1, Pr2⟩ := P
  clear Pord Prows
  generalize hrs : rowsTo ps ps.length = rs at hRA8 hrl husl Psp Ppc Ps1 Pmo Pp1 Pp2 Pr1 Pr2
  have sl := sgl_len ps rs
  refine join (law9 G8 r' F12 (by walk_at "lk") hR8 hRA8 (by lia)) fun s₁₁ hP => ?_
  obtain ⟨B9, H, hv, E9, F13, hH, hHA⟩ := hP
  have G9 := G8.keeps E9.get
  have hl9 := hl8.at fun o => E9.get _ o
  have hlA9 := hlA8.mono fun _ _ q => q.keeps E9.get
  have hpl9 := hpl8.keeps E9.get
  rw [← hrl] at hpl9
  have ho9 := ho8.keeps E9.get
  have hR9 := hR8.at fun o => E9.get _ o
  have hRA9 := hRA8.mono fun _ _ q => q.keeps E9.get
  refine join (law10 G9 (r'.le (by lia)) F13 (by walk_at "lk") (by walk_at "lk") (by walk_at "lk") hR9 hRA9 ho9 hpl9 (by lia) ((mup_ne (by decide)).trans ((mup_ne (by decide)).trans ((mup_ne (by decide)).trans mup_same)))) fun s₁₂ hP => ?_
  obtain ⟨B10, SS, sv2, E10, F14, hSS, hSSA⟩ := hP
  have G10 := G9.keeps E10.get
  have hl10 := hl9.at fun o => E10.get _ o
  have hlA10 := hlA9.mono fun _ _ q => q.keeps E10.get
  have hpl10 := hpl9.keeps E10.get
  have hR10 := hR9.at fun o => E10.get _ o
  have hRA10 := hRA9.mono fun _ _ q => q.keeps E10.get
  have hH10 := hH.at fun o => E10.get _ o
  have hHA10 := hHA.mono fun _ _ q => q.keeps E10.get
  refine join (law11 G10 (r'.le (by lia)) F14 (by walk_at "lk") (by walk_at "lk") (by walk_at "lk") hH10 hHA10 hSS hSSA hpl10 (by lia) Psp) fun s₁₃ F15 => ?_
  refine join (law12 G10 (r'.le (by lia)) F15 (by walk_at "lk") (by walk_at "lk") (by walk_at "lk") (by walk_at "lk") hl10 hlA10 hR10 hRA10 hSS hSSA hpl10 (by lia) Ppc (by lia)) fun s₁₄ hP => ?_
  obtain ⟨B11, D, dv, E11, F16, hD, hDA⟩ := hP
  have G11 := G10.keeps E11.get
  generalize hqs : sgl ps rs = qs at hDA sl Ps1 Pmo Pp1 Pp2 Pr1 Pr2
  refine join (law13 G11 (r'.le (by lia)) F16 (by walk_at "lk") hD hDA (by lia) Ps1) fun s₁₅ hP => ?_
  obtain ⟨B12, ly, yv, rd, E12, F17, hy, hyA, hrd⟩ := hP
  have G12 := G11.keeps E12.get
  have hD12 := hD.at fun o => E12.get _ o
  have hDA12 := hDA.mono fun _ _ q => q.keeps E12.get
  refine join (law14 G12 (r'.le (by lia)) F17 (by walk_at "lk") hD12 hDA12 (by lia) Ps1) fun s₁₆ hP => ?_
  obtain ⟨B13, ld, ldv, rr, E13, F18, hd, hdA, hrr⟩ := hP
  have G13 := G12.keeps E13.get
  have hD13 := hD12.at fun o => E13.get _ o
  have hDA13 := hDA12.mono fun _ _ q => q.keeps E13.get
  have hy13 := hy.at fun o => E13.get _ o
  have hyA13 := hyA.mono fun _ _ q => q.keeps E13.get
  have hrd13 := hrd.keeps E13.get
  have y1 := hyA.length
  have y2 := hdA.length
  have z1 := pilesP_len true qs
  have z2 := pilesP_len false qs
  have z3 := pilesR_len true qs
  have z4 := pilesR_len false qs
  refine join (law15 G13 (r'.le (by lia)) F18 (by walk_at "lk") (by walk_at "lk") (by walk_at "lk") hD13 hDA13 hy13 y1 hd y2 (by lia) Ps1 (Pmo true) (Pmo false) (by lia) (by lia)) fun s₁₇ F19 => ?_
  refine join (law16 G13 (r'.le (by lia)) F19 (by walk_at "lk") (by walk_at "lk") hy13 hyA13 hd hdA (by lia) (by lia) (fun p hp => Nat.le_trans ((pilesTo_sm true qs qs.length).1 p hp) (by lia)) (fun p hp => Nat.le_trans ((pilesTo_sm false qs qs.length).1 p hp) (by lia)) Pp1 Pp2) fun s₁₈ F20 => ?_
  refine wpAny_execs_cons (wpAny_mono (law17 G13 (r'.le (by lia)) F20 (by walk_at "lk") (by walk_at "lk") hrd13 hrr (by lia) (by lia) Pr1 Pr2) (fun f s' ⟨e, F21⟩ => ?_) fun _ _ x => x)
  subst e
  show Q (.bool true) s'
  have EE := E1.trans (E2.trans (E3.trans (E4.trans (E5.trans (E6.trans (E7.trans (E8.trans (E9.trans (E10.trans (E11.trans (E12.trans E13)))))))))))
  have gr : ∀ P, mup (mup (mup (mup (mup (mup mu0 144 (.obj (tabObj #[]))) 151 (.obj (tabObj #[]))) 180 (.obj (tabObj #[]))) 144 gP) 180 gP) 151 gP P = some gP → GrownP P s'.heap := fun P e => by
    obtain ⟨⟨ob, z1, vs, z2⟩, _⟩ := F21.mus P _ e
    exact ⟨vs, z2 ▸ z1⟩
  refine h s' ?_ (fun b ob q1 q2 q3 e => F21.keep b ob (EE.get b ob (hid_ne (hid_ne (hid_ne e q1) q2) q3))) (gr 144 ?_) (gr 151 mup_same) (gr 180 ?_)
  · obtain ⟨h1, t1, e1⟩ := F21.same
    obtain ⟨h2, t2, e2⟩ := EE.same
    exact ⟨h1, t1, by rw [e1, e2]⟩
  · exact (mup_ne (by decide)).trans ((mup_ne (by decide)).trans mup_same)
  · exact (mup_ne (by decide)).trans mup_same

theorem mid_ok {lo hi : Nat} (q : lo < hi) : lo ≤ (lo + hi) / 2 ∧ (lo + hi) / 2 < hi := by lia
theorem fuel_ok {lo m hi f : Nat} (h : hi - lo ≤ f + 1) (a : lo ≤ m) (b : m < hi) : m - lo ≤ f ∧ hi - (m + 1) ≤ f :=
  ⟨Nat.le_of_lt_succ (Nat.lt_of_lt_of_le (Nat.sub_lt_sub_right a b) h), Nat.sub_le_of_le_add (Nat.le_trans (Nat.le_add_of_sub_le h) (by
    rw [Nat.add_assoc, Nat.add_comm 1 lo]; exact Nat.add_le_add_left (Nat.succ_le_succ a) f))⟩
theorem bs_cut {p : Nat → Bool} {n : Nat} (mono : ∀ i j, i ≤ j → j < n → p i = true → p j = true) : ∀ f lo hi, hi ≤ n → hi - lo ≤ f → (∀ j, lo ≤ j → j < bs p f lo hi → p j = false) ∧ ∀ j, bs p f lo hi ≤ j → j < hi → p j = true
  | 0, lo, hi, _, h2 =>
    have h3 : hi ≤ lo := Nat.le_of_sub_eq_zero (Nat.le_zero.mp h2)
    ⟨fun _ a b => absurd a (Nat.not_le.mpr b), fun _ a b => absurd (Nat.lt_of_lt_of_le b h3) (Nat.not_lt.mpr a)⟩
  | f + 1, lo, hi, h1, h2 => by
    by_cases q : lo < hi
    · obtain ⟨hm1, hm2⟩ := mid_ok q
      obtain ⟨hf1, hf2⟩ := fuel_ok h2 hm1 hm2
      rw [bs, if_pos q]
      cases e : p ((lo + hi) / 2) with
      | true =>
        rw [if_pos rfl]
        obtain ⟨a, b⟩ := bs_cut mono f lo ((lo + hi) / 2) (Nat.le_trans (Nat.le_of_lt hm2) h1) hf1
        refine ⟨a, fun j c d => ?_⟩
        rcases Nat.lt_or_ge j ((lo + hi) / 2) with z | z
        · exact b j c z
        · exact mono _ _ z (Nat.lt_of_lt_of_le d h1) e
      | false =>
        rw [if_neg (by decide)]
        obtain ⟨a, b⟩ := bs_cut mono f ((lo + hi) / 2 + 1) hi h1 hf2
        refine ⟨fun j c d => ?_, b⟩
        rcases Nat.lt_or_ge ((lo + hi) / 2) j with z | z
        · exact a j z d
        · cases e' : p j with
          | false => rfl
          | true => rw [mono _ _ z (Nat.lt_of_lt_of_le hm2 h1) e'] at e; cases e
    · rw [bs_end q]
      exact ⟨fun _ a b => absurd a (Nat.not_le.mpr b), fun _ a b => absurd (Nat.lt_of_le_of_lt a b) q⟩

theorem rlt_asym (a b : Row) (h : rlt a b = true) : rlt b a = false := by
  unfold rlt at *
  repeat' split at h
  all_goals (repeat' split) <;> simp at h ⊢ <;> lia
theorem rlt_trans (a b c : Row) (h : rlt a b = true) (h' : rlt b c = true) : rlt a c = true := by
  unfold rlt at *
  repeat' split at h
  all_goals (repeat' split at h') <;> (repeat' split) <;> simp at h h' ⊢ <;> lia
theorem rlt_tot (a b : Row) (h : a.2.2 ≠ b.2.2) : rlt a b = true ∨ rlt b a = true := by
  unfold rlt
  (repeat' split) <;> simp <;> lia
theorem rlt_irr (a : Row) : rlt a a = false := by unfold rlt; simp
theorem cmp_n (a x : Row) (h : a.1 < x.1) : cmpZ a x = -1 := if_pos h
theorem cmp_p (a x : Row) (h : x.1 < a.1) : cmpZ a x = 1 := (if_neg (Int.not_lt.mpr (Int.le_of_lt h))).trans (if_pos h)
theorem cmp_e (a x : Row) (h : a.1 = x.1) : cmpZ a x = if a.2.1 < x.2.1 then 1 else if x.2.1 < a.2.1 then -1 else 0 := by
  have h' : ¬ a.1 < x.1 := h ▸ Int.lt_irrefl _
  have h'' : ¬ x.1 < a.1 := h ▸ Int.lt_irrefl _
  exact (if_neg h').trans (if_neg h'')
theorem cmp_lo (a x : Row) : -1 ≤ cmpZ a x ∧ cmpZ a x ≤ 1 := by
  unfold cmpZ
  (repeat' split) <;> exact ⟨by decide, by decide⟩
theorem cmp_mono {a b : Row} (x : Row) (h : rlt a b = true) : cmpZ a x ≤ cmpZ b x := by
  unfold rlt at h
  rcases Int.lt_trichotomy a.1 x.1 with q | q | q
  · rw [cmp_n a x q]; exact (cmp_lo b x).1
  · split at h
    · rename_i e
      rw [cmp_e a x q, cmp_e b x (e ▸ q)]
      have h' : b.2.1 ≤ a.2.1 := by
        split at h
        · rename_i e'; exact Int.le_of_eq e'.symm
        · exact Int.le_of_lt (of_decide_eq_true h)
      (repeat' split) <;> first | decide | (exfalso; lia)
    · rw [cmp_p b x (q ▸ of_decide_eq_true h)]; exact (cmp_lo a x).2
  · have : x.1 < b.1 := by
      split at h
      · rename_i e; exact e ▸ q
      · exact Int.lt_trans q (of_decide_eq_true h)
    rw [cmp_p b x this]; exact (cmp_lo a x).2
theorem cmp_hq {a b : Row} (h : cmpZ a b = 0) : hq a b = true := by
  unfold cmpZ at h
  unfold hq
  repeat' split at h
  all_goals simp
  all_goals lia
theorem hq_cmp {a b : Row} (h : hq a b = true) : cmpZ a b = 0 := by
  unfold hq at h; simp at h
  unfold cmpZ
  rw [h.1, h.2]; simp
theorem hq_same {a b : Row} (x : Row) (h : hq a b = true) : cmpZ x a = cmpZ x b := by
  unfold hq at h; simp at h
  unfold cmpZ
  rw [h.1, h.2]
theorem cmp_rlt {a r : Row} (h : ¬ 0 < cmpZ a r) (q : a.2.2 < r.2.2) : rlt a r = true := by
  unfold cmpZ at h
  unfold rlt
  repeat' split at h
  all_goals (repeat' split) <;> simp <;> lia
theorem rlt_cmp {a r : Row} (h : 0 < cmpZ a r) : rlt r a = true := by
  unfold cmpZ at h
  unfold rlt
  repeat' split at h
  all_goals (repeat' split) <;> simp <;> lia

def RSrt (rs : List Row) : Prop := rs.Pairwise fun a b => rlt a b = true
theorem RSrt.ix {rs : List Row} (S : RSrt rs) {i j : Nat} (h : i < j) (hj : j < rs.length) : rlt (rs.getD i (0, 0, 0)) (rs.getD j (0, 0, 0)) = true := by
  rw [List.getD_eq_getElem?_getD, List.getD_eq_getElem?_getD, List.getElem?_eq_getElem hj, List.getElem?_eq_getElem (Nat.lt_trans h hj)]
  exact List.pairwise_iff_getElem.mp S i j (Nat.lt_trans h hj) hj h
theorem RSrt.mono {rs : List Row} (S : RSrt rs) (x : Row) {i j : Nat} (h : i ≤ j) (hj : j < rs.length) : cmpZ (rs.getD i (0, 0, 0)) x ≤ cmpZ (rs.getD j (0, 0, 0)) x := by
  rcases Nat.lt_or_ge i j with q | q
  · exact cmp_mono x (S.ix q hj)
  · have : i = j := by lia
    subst this; exact Int.le_refl _

theorem mem_take_ix {rs : List Row} {J : Nat} {a : Row} (h : a ∈ rs.take J) : ∃ i, i < J ∧ i < rs.length ∧ rs.getD i (0, 0, 0) = a := by
  obtain ⟨i, hi, e⟩ := List.mem_iff_getElem.mp h
  rw [List.length_take] at hi
  have hi' : i < rs.length := by lia
  refine ⟨i, by lia, hi', ?_⟩
  rw [List.getD_eq_getElem?_getD, List.getElem?_eq_getElem hi']
  rw [List.getElem_take] at e
  exact e
theorem mem_drop_ix {rs : List Row} {J : Nat} {a : Row} (h : a ∈ rs.drop J) : ∃ i, J ≤ i ∧ i < rs.length ∧ rs.getD i (0, 0, 0) = a := by
  obtain ⟨i, hi, e⟩ := List.mem_iff_getElem.mp h
  rw [List.length_drop] at hi
  have hi' : J + i < rs.length := by lia
  refine ⟨J + i, by lia, hi', ?_⟩
  rw [List.getD_eq_getElem?_getD, List.getElem?_eq_getElem hi']
  rw [List.getElem_drop] at e
  exact e

theorem insRow_srt {rs : List Row} {r : Row} (S : RSrt rs) (h : ∀ a ∈ rs, a.2.2 < r.2.2) : RSrt (insRow rs r) := by
  unfold insRow
  have C := bs_cut (p := fun j => decide (0 < cmpZ (rs.getD j (0, 0, 0)) r)) (n := rs.length) (fun i j hij hj e => by
    have := S.mono r hij hj
    simp only [decide_eq_true_eq] at e ⊢; lia) rs.length 0 rs.length (Nat.le_refl _) (by lia)
  generalize bs (fun j => decide (0 < cmpZ (rs.getD j (0, 0, 0)) r)) rs.length 0 rs.length = J at C
  have S2 : RSrt (rs.take J ++ rs.drop J) := by rw [List.take_append_drop]; exact S
  obtain ⟨p1, p2, p3⟩ := List.pairwise_append.mp S2
  have a1 : ∀ a ∈ rs.take J, rlt a r = true := fun a ha => by
    obtain ⟨i, i1, i2, e⟩ := mem_take_ix ha
    have := C.1 i (Nat.zero_le _) i1
    rw [e] at this
    simp only [decide_eq_false_iff_not] at this
    exact cmp_rlt this (h a (List.mem_of_mem_take ha))
  have a2 : ∀ a ∈ rs.drop J, rlt r a = true := fun a ha => by
    obtain ⟨i, i1, i2, e⟩ := mem_drop_ix ha
    have := C.2 i i1 i2
    rw [e] at this
    simp only [decide_eq_true_eq] at this
    exact rlt_cmp this
  refine List.pairwise_append.mpr ⟨p1, List.pairwise_cons.mpr ⟨a2, p2⟩, fun a ha b hb => ?_⟩
  rcases List.mem_cons.mp hb with rfl | hb
  · exact a1 a ha
  · exact p3 a ha b hb
theorem rowsTo_perm (ps : List (Nat × Nat)) : ∀ k, (rowsTo ps k).Perm ((List.range k).map (rowOf ps))
  | 0 => .refl _
  | k + 1 => by
    rw [rowsTo, List.range_succ, List.map_append]
    exact (insRow_perm _ _).trans ((List.Perm.cons _ (rowsTo_perm ps k)).trans (List.perm_append_comm (l₁ := [rowOf ps k])))
theorem rowsTo_mem {ps : List (Nat × Nat)} {k : Nat} {a : Row} (h : a ∈ rowsTo ps k) : ∃ i, i < k ∧ a = rowOf ps i := by
  have := (rowsTo_perm ps k).mem_iff.mp h
  obtain ⟨i, hi, e⟩ := List.mem_map.mp this
  exact ⟨i, List.mem_range.mp hi, e.symm⟩
theorem rowsTo_srt (ps : List (Nat × Nat)) : ∀ k, RSrt (rowsTo ps k)
  | 0 => List.Pairwise.nil
  | k + 1 => insRow_srt (rowsTo_srt ps k) fun a ha => by
    obtain ⟨i, hi, rfl⟩ := rowsTo_mem ha
    show ((i : Nat) : Int) < ((k : Nat) : Int)
    lia

theorem plain_ord (ps : List (Nat × Nat)) : SOrd (fun i j => rlt (((List.range ps.length).map (rowOf ps)).getD i (0, 0, 0)) (((List.range ps.length).map (rowOf ps)).getD j (0, 0, 0))) ps.length where
  asym := fun i j h => rlt_asym _ _ h
  trans := fun i j k h h' => rlt_trans _ _ _ h h'
  tot := fun i j hi hj hij => by
    refine rlt_tot _ _ ?_
    have e : ∀ x, x < ps.length → ((List.range ps.length).map (rowOf ps)).getD x (0, 0, 0) = rowOf ps x := fun x hx => by
      rw [List.getD_eq_getElem?_getD, List.getElem?_map, List.getElem?_range hx]; rfl
    rw [e i hi, e j hj]
    show ((i : Nat) : Int) ≠ ((j : Nat) : Int)
    lia
theorem plain_rows (ps : List (Nat × Nat)) (p : Array Nat) (hp : SP ps.length p) (hu : SUp (fun i j => rlt (((List.range ps.length).map (rowOf ps)).getD i (0, 0, 0)) (((List.range ps.length).map (rowOf ps)).getD j (0, 0, 0))) p ps.length) :
    p.toList.map (fun i => ((List.range ps.length).map (rowOf ps)).getD i (0, 0, 0)) = rowsTo ps ps.length := by
  have hl : p.toList.length = ps.length := by have := hp.length_eq; simpa using this
  have e1 : (List.range ps.length).map (fun i => ((List.range ps.length).map (rowOf ps)).getD i (0, 0, 0)) = (List.range ps.length).map (rowOf ps) := List.map_congr_left fun i hi => by
    rw [List.getD_eq_getElem?_getD, List.getElem?_map, List.getElem?_range (List.mem_range.mp hi)]; rfl
  have P : (p.toList.map (fun i => ((List.range ps.length).map (rowOf ps)).getD i (0, 0, 0))).Perm (rowsTo ps ps.length) := by
    have := hp.map (fun i => ((List.range ps.length).map (rowOf ps)).getD i (0, 0, 0))
    rw [e1] at this
    exact this.trans (rowsTo_perm ps _).symm
  refine P.eq_of_pairwise (le := fun a b => rlt a b = true) (fun a b _ _ h1 h2 => ?_) ?_ (rowsTo_srt ps _)
  · rw [rlt_asym _ _ h1] at h2; cases h2
  · refine List.pairwise_map.mpr (List.pairwise_iff_getElem.mpr fun i j hi hj hij => ?_)
    have := hu i j hij (by lia)
    unfold sg at this
    rw [Array.getD_eq_getD_getElem?, Array.getD_eq_getD_getElem?] at this
    have q : ∀ k (hk : k < p.toList.length), p[k]?.getD 0 = p.toList[k] := fun k hk => by
      rw [Array.getElem?_eq_getElem (by simpa using hk)]; simp
    rw [q i hi, q j hj] at this
    exact this

section
variable {rs : List Row}
theorem sp1 (S : RSrt rs) (x : Row) : (∀ j, j < bs (fun j => !decide (cmpZ (rs.getD j (0, 0, 0)) x < 0)) rs.length 0 rs.length → cmpZ (rs.getD j (0, 0, 0)) x < 0) ∧ ∀ j, bs (fun j => !decide (cmpZ (rs.getD j (0, 0, 0)) x < 0)) rs.length 0 rs.length ≤ j → j < rs.length → 0 ≤ cmpZ (rs.getD j (0, 0, 0)) x := by
  obtain ⟨a, b⟩ := bs_cut (p := fun j => !decide (cmpZ (rs.getD j (0, 0, 0)) x < 0)) (n := rs.length) (fun i j hij hj e => by
    have := S.mono x hij hj
    simp only [Bool.not_eq_true', Bool.not_eq_false', decide_eq_true_eq, decide_eq_false_iff_not] at e ⊢; lia) rs.length 0 rs.length (Nat.le_refl _) (by lia)
  exact ⟨fun j h => by have := a j (Nat.zero_le _) h; simp only [Bool.not_eq_true', Bool.not_eq_false', decide_eq_true_eq, decide_eq_false_iff_not] at this; lia, fun j h h' => by have := b j h h'; simp only [Bool.not_eq_true', Bool.not_eq_false', decide_eq_true_eq, decide_eq_false_iff_not] at this; lia⟩
theorem sp2 (S : RSrt rs) (x : Row) : (∀ j, j < bs (fun j => decide (0 < cmpZ (rs.getD j (0, 0, 0)) x)) rs.length 0 rs.length → cmpZ (rs.getD j (0, 0, 0)) x ≤ 0) ∧ ∀ j, bs (fun j => decide (0 < cmpZ (rs.getD j (0, 0, 0)) x)) rs.length 0 rs.length ≤ j → j < rs.length → 0 < cmpZ (rs.getD j (0, 0, 0)) x := by
  obtain ⟨a, b⟩ := bs_cut (p := fun j => decide (0 < cmpZ (rs.getD j (0, 0, 0)) x)) (n := rs.length) (fun i j hij hj e => by
    have := S.mono x hij hj
    simp only [Bool.not_eq_true', Bool.not_eq_false', decide_eq_true_eq, decide_eq_false_iff_not] at e ⊢; lia) rs.length 0 rs.length (Nat.le_refl _) (by lia)
  exact ⟨fun j h => by have := a j (Nat.zero_le _) h; simp only [Bool.not_eq_true', Bool.not_eq_false', decide_eq_true_eq, decide_eq_false_iff_not] at this; lia, fun j h h' => by have := b j h h'; simp only [Bool.not_eq_true', Bool.not_eq_false', decide_eq_true_eq, decide_eq_false_iff_not] at this; lia⟩
theorem getD_get {k : Nat} (hk : k < rs.length) : rs.getD k (0, 0, 0) = rs[k] := by
  rw [List.getD_eq_getElem?_getD, List.getElem?_eq_getElem hk]; rfl
theorem first_le (S : RSrt rs) {k : Nat} (hk : k < rs.length) : (spanOf rs k).1 ≤ k := by
  rcases Nat.lt_or_ge k (spanOf rs k).1 with q | q
  · have := (sp1 S (rs.getD k (0, 0, 0))).1 k q
    rw [cmpZ_self] at this; lia
  · exact q
theorem first_hq (S : RSrt rs) {k : Nat} (hk : k < rs.length) : hq (rs.getD (spanOf rs k).1 (0, 0, 0)) (rs.getD k (0, 0, 0)) = true := by
  have h1 := first_le S hk
  have h2 := (sp1 S (rs.getD k (0, 0, 0))).2 (spanOf rs k).1 (Nat.le_refl _) (by lia)
  have h3 := S.mono (rs.getD k (0, 0, 0)) h1 hk
  rw [cmpZ_self] at h3
  exact cmp_hq (by lia)
theorem span_want (S : RSrt rs) {k : Nat} (hk : k < rs.length) : spanOf rs k = wantOf rs k := by
  have f1 := first_le S hk
  have f2 := first_hq S hk
  have s1 := sp1 S (rs.getD k (0, 0, 0))
  have s2 := sp2 S (rs.getD k (0, 0, 0))
  have b2 := (bs_le (p := fun j => decide (0 < cmpZ (rs.getD j (0, 0, 0)) (rs.getD k (0, 0, 0)))) (f := rs.length) (lo := 0) (hi := rs.length) (Nat.zero_le _)).2
  have e1 : ixOf rs k = (spanOf rs k).1 := by
    unfold ixOf
    refine (List.findIdx_eq (by lia)).mpr ⟨?_, fun j hj => ?_⟩
    · rw [← getD_get (by lia)]; exact f2
    · rw [← getD_get (by lia)]
      have := s1.1 j hj
      cases q : hq (rs.getD j (0, 0, 0)) (rs.getD k (0, 0, 0)) with
      | false => rfl
      | true => have := hq_cmp q; lia
  have le : (spanOf rs k).1 ≤ (spanOf rs k).2.1 := by
    rcases Nat.lt_or_ge (spanOf rs k).2.1 (spanOf rs k).1 with q | q
    · have y1 := s1.1 _ q
      have y2 := s2.2 (spanOf rs k).2.1 (Nat.le_refl _) (by lia)
      lia
    · exact q
  have e2 : ctOf rs k = (spanOf rs k).2.1 - (spanOf rs k).1 := by
    unfold ctOf
    have sp : rs = rs.take (spanOf rs k).1 ++ ((rs.drop (spanOf rs k).1).take ((spanOf rs k).2.1 - (spanOf rs k).1) ++ rs.drop (spanOf rs k).2.1) := by
      conv => lhs; rw [← List.take_append_drop (spanOf rs k).1 rs, ← List.take_append_drop ((spanOf rs k).2.1 - (spanOf rs k).1) (rs.drop (spanOf rs k).1), List.drop_drop, Nat.add_sub_cancel' le]
    have lm : ((rs.drop (spanOf rs k).1).take ((spanOf rs k).2.1 - (spanOf rs k).1)).length = (spanOf rs k).2.1 - (spanOf rs k).1 := by
      rw [List.length_take, List.length_drop]; exact Nat.min_eq_left (Nat.sub_le_sub_right b2 _)
    have no : ∀ a, (cmpZ a (rs.getD k (0, 0, 0)) < 0 ∨ 0 < cmpZ a (rs.getD k (0, 0, 0))) → ¬ hq a (rs.getD k (0, 0, 0)) = true := fun a h q => by
      rw [hq_cmp q] at h; exact h.elim (Int.lt_irrefl _) (Int.lt_irrefl _)
    refine (congrArg (List.countP _) sp).trans ?_
    rw [List.countP_append, List.countP_append]
    have c1 : (rs.take (spanOf rs k).1).countP (fun a => hq a (rs.getD k (0, 0, 0))) = 0 := List.countP_eq_zero.mpr fun a ha => by
      obtain ⟨i, i1, i2, e⟩ := mem_take_ix ha
      exact no a (.inl (e ▸ s1.1 i i1))
    have c2 : ((rs.drop (spanOf rs k).1).take ((spanOf rs k).2.1 - (spanOf rs k).1)).countP (fun a => hq a (rs.getD k (0, 0, 0))) = (spanOf rs k).2.1 - (spanOf rs k).1 := (List.countP_eq_length.mpr fun a ha => by
      obtain ⟨i, i1, i2, e⟩ := mem_take_ix ha
      have hx : (spanOf rs k).1 + i < (spanOf rs k).2.1 := Nat.add_lt_of_lt_sub' i1
      have e' : rs.getD ((spanOf rs k).1 + i) (0, 0, 0) = a := by
        rw [← e, List.getD_eq_getElem?_getD, List.getD_eq_getElem?_getD, List.getElem?_drop]
      exact cmp_hq (Int.le_antisymm (e' ▸ s2.1 _ hx) (e' ▸ s1.2 _ (Nat.le_add_right _ _) (Nat.lt_of_lt_of_le hx b2)))).trans lm
    have c3 : (rs.drop (spanOf rs k).2.1).countP (fun a => hq a (rs.getD k (0, 0, 0))) = 0 := List.countP_eq_zero.mpr fun a ha => by
      obtain ⟨i, i1, i2, e⟩ := mem_drop_ix ha
      exact no a (.inr (e ▸ s2.2 i i1 i2))
    rw [c1, c2, c3, Nat.zero_add, Nat.add_zero]
  have e3 : (spanOf rs k).2.2.1 = k := by
    have l := (bs_le (p := fun j => !decide (cmpZ (rs.getD j (0, 0, 0)) (rs.getD k (0, 0, 0)) < 1)) (f := k) (lo := 0) (hi := k) (Nat.zero_le _)).2
    obtain ⟨_, b⟩ := bs_cut (p := fun j => !decide (cmpZ (rs.getD j (0, 0, 0)) (rs.getD k (0, 0, 0)) < 1)) (n := k) (fun i j hij hj e => by
      have := S.mono (rs.getD k (0, 0, 0)) hij (by lia)
      simp only [Bool.not_eq_true', Bool.not_eq_false', decide_eq_true_eq, decide_eq_false_iff_not] at e ⊢; lia) k 0 k (Nat.le_refl _) (by lia)
    rcases Nat.lt_or_ge (spanOf rs k).2.2.1 k with q | q
    · have := b _ (Nat.le_refl _) q
      have y := S.mono (rs.getD k (0, 0, 0)) (Nat.le_of_lt q) hk
      rw [cmpZ_self] at y
      simp only [Bool.not_eq_true', Bool.not_eq_false', decide_eq_true_eq, decide_eq_false_iff_not] at this
      change cmpZ (rs.getD (bs (fun j => !decide (cmpZ (rs.getD j (0, 0, 0)) (rs.getD k (0, 0, 0)) < 1)) k 0 k) (0, 0, 0)) (rs.getD k (0, 0, 0)) ≤ 0 at y
      exfalso; lia
    · exact Nat.le_antisymm l q
  have e4 : (spanOf rs k).2.2.2 = k := by
    have l := (bs_le (p := fun j => decide (-2 < cmpZ (rs.getD j (0, 0, 0)) (rs.getD k (0, 0, 0)))) (f := rs.length - k) (lo := k) (hi := rs.length) (by lia)).1
    obtain ⟨a, _⟩ := bs_cut (p := fun j => decide (-2 < cmpZ (rs.getD j (0, 0, 0)) (rs.getD k (0, 0, 0)))) (n := rs.length) (fun i j hij hj e => by
      simp only [Bool.not_eq_true', Bool.not_eq_false', decide_eq_true_eq, decide_eq_false_iff_not]; unfold cmpZ; (repeat' split) <;> lia) (rs.length - k) k rs.length (Nat.le_refl _) (by lia)
    rcases Nat.lt_or_ge k (spanOf rs k).2.2.2 with q | q
    · have := a k (Nat.le_refl _) q
      rw [cmpZ_self] at this
      simp at this
    · exact Nat.le_antisymm q l
  unfold wantOf
  rw [e1, e2]
  refine Prod.ext rfl (Prod.ext ?_ (Prod.ext e3 e4))
  show (spanOf rs k).2.1 = (spanOf rs k).1 + ((spanOf rs k).2.1 - (spanOf rs k).1)
  lia
end

theorem plain_places {ps : List (Nat × Nat)} {k : Nat} (hk : k < (rowsTo ps ps.length).length) : ∃ j, j < ps.length ∧ (rowsTo ps ps.length).getD k (0, 0, 0) = rowOf ps j := by
  rw [getD_get hk]
  exact rowsTo_mem (List.getElem_mem hk)

/-- the order of the heads -/
def hlt (p q : Nat × Nat) : Bool := if p.1 + p.2 = q.1 + q.2 then decide (q.1 < p.1) else decide (p.1 + p.2 < q.1 + q.2)
theorem hlt_of {ps : List (Nat × Nat)} {i j : Nat} (h : cmpZ (rowOf ps i) (rowOf ps j) < 0) : hlt (ps.getD i (0, 0)) (ps.getD j (0, 0)) = true := by
  unfold cmpZ rowOf at h
  unfold hlt
  generalize ps.getD i (0, 0) = p at h ⊢
  generalize ps.getD j (0, 0) = q at h ⊢
  simp only at h
  repeat' split at h
  all_goals (repeat' split) <;> simp only [decide_eq_true_eq] <;> lia
theorem same_of {ps : List (Nat × Nat)} {i j : Nat} (h : hq (rowOf ps i) (rowOf ps j) = true) : ps.getD i (0, 0) = ps.getD j (0, 0) := by
  unfold hq rowOf at h
  simp only [Bool.and_eq_true, decide_eq_true_eq] at h
  refine Prod.ext ?_ ?_ <;> lia
theorem sgl_srt (ps : List (Nat × Nat)) : (sgl ps (rowsTo ps ps.length)).Pairwise fun p q => hlt p q = true := by
  have S := rowsTo_srt ps ps.length
  unfold sgl mapf
  refine List.pairwise_map.mpr ?_
  refine List.Pairwise.imp_of_mem ?_ (List.pairwise_lt_range.filter _)
  intro i j hi hj hij
  obtain ⟨hi1, hi2⟩ := List.mem_filter.mp hi
  obtain ⟨hj1, hj2⟩ := List.mem_filter.mp hj
  have hi1 := List.mem_range.mp hi1
  have hj1 := List.mem_range.mp hj1
  simp only [decide_eq_true_eq] at hi2 hj2
  have := (sp1 S ((rowsTo ps ps.length).getD j (0, 0, 0))).1 i (by
    show i < (spanOf _ j).1
    lia)
  obtain ⟨a, ha, ea⟩ := plain_places hi1
  obtain ⟨b, hb, eb⟩ := plain_places hj1
  rw [ea, eb] at this ⊢
  exact hlt_of this
theorem sgl_sub {ps : List (Nat × Nat)} {p : Nat × Nat} (h : p ∈ sgl ps (rowsTo ps ps.length)) : p ∈ ps := by
  unfold sgl mapf at h
  obtain ⟨k, hk, rfl⟩ := List.mem_map.mp h
  have hk1 := List.mem_range.mp (List.mem_filter.mp hk).1
  obtain ⟨a, ha, ea⟩ := plain_places hk1
  rw [ea]
  show ps.getD ((a : Nat) : Int).toNat (0, 0) ∈ ps
  rw [Int.toNat_natCast, List.getD_eq_getElem?_getD, List.getElem?_eq_getElem ha]
  exact List.getElem_mem ha
theorem sgl_sup {ps : List (Nat × Nat)} {p : Nat × Nat} (h : p ∈ ps) : p ∈ sgl ps (rowsTo ps ps.length) := by
  have S := rowsTo_srt ps ps.length
  obtain ⟨j, hj, e⟩ := List.mem_iff_getElem.mp h
  have hr : rowOf ps j ∈ rowsTo ps ps.length := (rowsTo_perm ps ps.length).mem_iff.mpr (List.mem_map.mpr ⟨j, List.mem_range.mpr hj, rfl⟩)
  obtain ⟨k, hk, ek⟩ := List.mem_iff_getElem.mp hr
  have f1 := first_le S hk
  have f2 := first_hq S hk
  have hJ : (spanOf (rowsTo ps ps.length) k).1 < (rowsTo ps ps.length).length := by lia
  have f3 : (spanOf (rowsTo ps ps.length) (spanOf (rowsTo ps ps.length) k).1).1 = (spanOf (rowsTo ps ps.length) k).1 := by
    have : (fun j => !decide (cmpZ ((rowsTo ps ps.length).getD j (0, 0, 0)) ((rowsTo ps ps.length).getD (spanOf (rowsTo ps ps.length) k).1 (0, 0, 0)) < 0)) = (fun j => !decide (cmpZ ((rowsTo ps ps.length).getD j (0, 0, 0)) ((rowsTo ps ps.length).getD k (0, 0, 0)) < 0)) := funext fun j => by
      rw [hq_same _ f2]
    show bs (fun j => !decide (cmpZ ((rowsTo ps ps.length).getD j (0, 0, 0)) ((rowsTo ps ps.length).getD (spanOf (rowsTo ps ps.length) k).1 (0, 0, 0)) < 0)) _ 0 _ = _
    rw [this]; rfl
  unfold sgl mapf
  refine List.mem_map.mpr ⟨(spanOf (rowsTo ps ps.length) k).1, List.mem_filter.mpr ⟨List.mem_range.mpr hJ, decide_eq_true f3⟩, ?_⟩
  obtain ⟨a, ha, ea⟩ := plain_places hJ
  rw [ea, getD_get hk, ek] at f2
  rw [ea]
  show ps.getD ((a : Nat) : Int).toNat (0, 0) = p
  rw [Int.toNat_natCast, same_of f2, List.getD_eq_getElem?_getD, List.getElem?_eq_getElem hj, ← e]; rfl

theorem hlt_asym {p q : Nat × Nat} (h : hlt p q = true) : hlt q p = false := by
  unfold hlt at *
  repeat' split at h
  all_goals (repeat' split) <;> simp only [decide_eq_true_eq, decide_eq_false_iff_not] at h ⊢ <;> lia
theorem sub_of {α : Type} {R : α → α → Bool} (ha : ∀ a b, R a b = true → R b a = false) : ∀ (u l : List α), (u.Pairwise fun a b => R a b = true) → (l.Pairwise fun a b => R a b = true) → (∀ x ∈ l, x ∈ u) → l.Sublist u
  | [], [], _, _, _ => List.Sublist.slnil
  | [], a :: l, _, _, h => by have := h a (by simp); cases this
  | b :: u, [], _, _, _ => List.nil_sublist _
  | b :: u, a :: l, hu, hl, h => by
    obtain ⟨u1, u2⟩ := List.pairwise_cons.mp hu
    obtain ⟨l1, l2⟩ := List.pairwise_cons.mp hl
    rcases List.mem_cons.mp (h a (by simp)) with e | e
    · subst e
      refine (sub_of ha u l u2 l2 fun x hx => ?_).cons_cons a
      rcases List.mem_cons.mp (h x (List.mem_cons_of_mem _ hx)) with e | e
      · subst e
        have := l1 x hx
        rw [ha _ _ this] at this; cases this
      · exact e
    · refine (sub_of ha u (a :: l) u2 hl fun x hx => ?_).cons b
      rcases List.mem_cons.mp (h x hx) with z | z
      · subst z
        rcases List.mem_cons.mp hx with w | w
        · subst w; exact e
        · have z1 := l1 x w
          have z2 := u1 a e
          rw [ha _ _ z2] at z1; cases z1
      · exact z
def gen {α : Type} (c : α → Bool) : List α → Nat → List (List α)
  | [], _ => [[]]
  | x :: u, 0 => if c x = true then [] else gen c u 0
  | x :: u, k + 1 => if c x = true then (gen c u k).map (x :: ·) else gen c u (k + 1) ++ (gen c u k).map (x :: ·)
theorem gen_all {α : Type} {c : α → Bool} : ∀ (u : List α) (k : Nat) (l : List α), u.Nodup → l.Sublist u → l.length ≤ k → (∀ x ∈ u, c x = true → x ∈ l) → l ∈ gen c u k
  | [], k, l, _, hs, _, _ => by
    have : l = [] := List.eq_nil_of_sublist_nil hs
    subst this; rw [gen]; simp
  | x :: u, k, l, hn, hs, hk, hc => by
    obtain ⟨n1, n2⟩ := List.nodup_cons.mp hn
    cases hs with
    | cons _ hs =>
      have q : c x = false := by
        cases e : c x with
        | false => rfl
        | true => exact absurd (hs.subset (hc x (by simp) e)) n1
      have ih := gen_all u k l n2 hs hk fun y hy => hc y (List.mem_cons_of_mem _ hy)
      cases k with
      | zero => rw [gen, if_neg (by rw [q]; decide)]; exact ih
      | succ k => rw [gen, if_neg (by rw [q]; decide)]; exact List.mem_append_left _ ih
    | cons_cons _ hs =>
      rename_i l'
      cases k with
      | zero => simp at hk
      | succ k =>
        have ih := gen_all u k l' n2 hs (by simp at hk; exact hk) fun y hy e => by
          rcases List.mem_cons.mp (hc y (List.mem_cons_of_mem _ hy) e) with z | z
          · subst z; exact absurd hy n1
          · exact z
        rw [gen]
        split
        · exact List.mem_map.mpr ⟨_, ih, rfl⟩
        · exact List.mem_append_right _ (List.mem_map.mpr ⟨_, ih, rfl⟩)

def univ : List (Nat × Nat) := [(0, 0), (1, 0), (0, 1), (2, 0), (1, 1), (0, 2), (3, 0), (2, 1), (1, 2), (0, 3), (3, 1), (2, 2), (1, 3), (3, 2), (2, 3), (3, 3)]
def bas (p : Nat × Nat) : Bool := (p.1 == 2 && p.2 == 1) || (p.1 == 1 && p.2 == 0) || (p.1 == 1 && p.2 == 2) || (p.1 == 0 && p.2 == 1)
theorem univ_srt : univ.Pairwise fun p q => hlt p q = true := by decide +kernel
theorem univ_nd : univ.Nodup := by decide +kernel
theorem univ_all : ∀ a, a < 4 → ∀ b, b < 4 → (a, b) ∈ univ := by decide +kernel
def goodB (b : Bool) (qs : List (Nat × Nat)) : Bool := (((pilesP b qs).length : Nat) : Int) == mxL (mostTo qs b qs.length)
def good (qs : List (Nat × Nat)) : Bool :=
  goodB true qs && goodB false qs && ((pilesP true qs).all fun p => strB p) && ((pilesP false qs).all fun p => ladB p) && ladB (pilesR true qs) && strB (pilesR false qs) && decide (0 < qs.length)
theorem all_good : (gen bas univ 7).all good = true := by decide +kernel

theorem partOf_small (y : Int) : (partOf y).1 < 4 ∧ (partOf y).2 < 4 := by
  unfold partOf
  have h1 := Int.fmod_lt_of_pos y (show (0 : Int) < 4 by decide)
  have h2 := Int.fmod_nonneg_of_pos y (show (0 : Int) < 4 by decide)
  have h3 := Int.fmod_lt_of_pos (y.fdiv 4) (show (0 : Int) < 4 by decide)
  have h4 := Int.fmod_nonneg_of_pos (y.fdiv 4) (show (0 : Int) < 4 by decide)
  constructor <;> simp only <;> lia
theorem plain_ok (ns : List Int) : PlainOk ((cellsOf ns).map partOf) := by
  have hl : ((cellsOf ns).map partOf).length = 4 + min 3 ns.length := by
    unfold cellsOf; simp; lia
  have hsm : ∀ p ∈ (cellsOf ns).map partOf, p.1 < 4 ∧ p.2 < 4 := fun p hp => by
    obtain ⟨y, _, rfl⟩ := List.mem_map.mp hp
    exact partOf_small y
  have hb : ∀ p ∈ [((2 : Nat), (1 : Nat)), (1, 0), (1, 2), (0, 1)], p ∈ (cellsOf ns).map partOf := fun p hp => by
    unfold cellsOf
    rw [List.map_append]
    exact List.mem_append_left _ (by have : [(6 : Int), 1, 9, 4].map partOf = [((2 : Nat), (1 : Nat)), (1, 0), (1, 2), (0, 1)] := by decide +kernel
                                     rw [this]; exact hp)
  generalize (cellsOf ns).map partOf = ps at hl hsm hb
  have hrl := rowsTo_length ps ps.length
  have hsl := sgl_len ps (rowsTo ps ps.length)
  have hg : good (sgl ps (rowsTo ps ps.length)) = true := by
    refine List.all_eq_true.mp all_good _ (gen_all univ 7 _ univ_nd (sub_of (fun a b => hlt_asym) _ _ univ_srt (sgl_srt ps) fun x hx => ?_) (by lia) fun x hx hc => ?_)
    · have := hsm x (sgl_sub hx)
      exact univ_all _ this.1 _ this.2
    · refine sgl_sup (hb x ?_)
      have : ∀ x ∈ univ, bas x = true → x ∈ [((2 : Nat), (1 : Nat)), (1, 0), (1, 2), (0, 1)] := by decide +kernel
      exact this x hx hc
  unfold good at hg
  simp only [Bool.and_eq_true, List.all_eq_true, decide_eq_true_eq] at hg
  obtain ⟨⟨⟨⟨⟨⟨g1, g2⟩, g3⟩, g4⟩, g5⟩, g6⟩, g7⟩ := hg
  exact {
    small := hsm
    len4 := by lia
    len7 := by lia
    ord := plain_ord ps
    rows := plain_rows ps
    spans := fun k hk => span_want (rowsTo_srt ps ps.length) hk
    places := fun k hk => by
      obtain ⟨j, hj, e⟩ := plain_places hk
      exact ⟨j, hj, by rw [e]; rfl⟩
    some1 := g7
    most := fun b => by
      cases b with
      | true => unfold goodB at g1; simpa using g1
      | false => unfold goodB at g2; simpa using g2
    pile1 := g3
    pile2 := g4
    road1 := g5
    road2 := g6 }

theorem room_caller : Room callerA 7 := by
  unfold Room
  exact ⟨by decide, by decide, rfl⟩
section
variable {s : Shared}
theorem hid3 (h144 : s.heap.get? 144 = some (tabObj #[])) (h151 : s.heap.get? 151 = some (tabObj #[])) (h180 : s.heap.get? 180 = some (tabObj #[])) {b : Addr} {o : Obj} (e : s.heap.get? b = some o) (hne : o ≠ tabObj #[]) : (hid (hid (hid s 144) 151) 180).heap.get? b = some o := by
  refine hid_ne (hid_ne (hid_ne e ?_) ?_) ?_
  · rintro rfl; rw [h144] at e; exact hne (Option.some.inj e).symm
  · rintro rfl; rw [h151] at e; exact hne (Option.some.inj e).symm
  · rintro rfl; rw [h180] at e; exact hne (Option.some.inj e).symm
theorem k144 (P : Params) : (Kp P).lookup 144 = none := by kernel_rfl
theorem k151 (P : Params) : (Kp P).lookup 151 = none := by kernel_rfl
theorem k180 (P : Params) : (Kp P).lookup 180 = none := by kernel_rfl
theorem ns_hid3 (h144 : s.heap.get? 144 = some (tabObj #[])) (h151 : s.heap.get? 151 = some (tabObj #[])) (h180 : s.heap.get? 180 = some (tabObj #[])) {a : Addr} {m : Str → Option Value} (n : s.heap.Ns a m) : (hid (hid (hid s 144) 151) 180).heap.Ns a m := by
  obtain ⟨o, es, ep, ho, hd, r⟩ := n
  exact ⟨o, es, ep, hid3 h144 h151 h180 ho (fun q => by subst q; cases hd), hd, r⟩
end
theorem gLaw (P : Params) : nsIn (Kp P) mainGlobals "law" = some (some (.ref 183)) := rfl
theorem glb_of {p : Program} {loose : List Str} {mean : ExcName → Option Value} {w : World} {mg mb : Str → Option Value} {s : Shared} (T : Top p loose mean mg mb s.heap) (KX : (Kp w.params).In s.heap) (h144 : s.heap.get? 144 = some (tabObj #[])) (h151 : s.heap.get? 151 = some (tabObj #[])) (h180 : s.heap.get? 180 = some (tabObj #[])) : Glb w (hid (hid (hid s 144) 151) 180).heap where
  k := fun a o e => hid_ne (hid_ne (hid_ne (KX a o e) (fun q => by subst q; rw [k144] at e; cases e)) (fun q => by subst q; rw [k151] at e; cases e)) (fun q => by subst q; rw [k180] at e; cases e)
  g := by
    obtain ⟨bm, ob, a, b, c, d, e, f⟩ := T.bmain
    exact ⟨mg, ns_hid3 h144 h151 h180 T.g, bm, ob, a, b, hid3 h144 h151 h180 c (fun q => by subst q; cases d), d, e, f⟩
  b := ⟨mb, ns_hid3 h144 h151 h180 T.b, T.builtins⟩
  lim := by obtain ⟨mc, n, z⟩ := T.nolimit; exact ⟨mc, ns_hid3 h144 h151 h180 n, z⟩

theorem old_of {w : World} {s s' : Shared} (KX : (Kp w.params).In s.heap) (h144 : s.heap.get? 144 = some (tabObj #[])) (h151 : s.heap.get? 151 = some (tabObj #[])) (h180 : s.heap.get? 180 = some (tabObj #[]))
    (k : ∀ b o, b ≠ 144 → b ≠ 151 → b ≠ 180 → s.heap.get? b = some o → s'.heap.get? b = some o) (g1 : GrownP 144 s'.heap) (g2 : GrownP 151 s'.heap) (g3 : GrownP 180 s'.heap) : OldK s.heap s'.heap := by
  have t1 : isCodeTable s.heap 144 := ((codeHd_of_K KX (hd144 _)).tab h144).isCodeTable
  have t2 : isCodeTable s.heap 151 := ((codeHd_of_K KX (hd151 _)).tab h151).isCodeTable
  have t3 : isCodeTable s.heap 180 := ((codeHd_of_K KX (hd180 _)).tab h180).isCodeTable
  have one : ∀ P, isCodeTable s.heap P → s.heap.get? P = some (tabObj #[]) → GrownP P s'.heap → ∀ o, s.heap.get? P = some o → asItWas s.heap s'.heap P o ∧ ∃ o', s'.heap.get? P = some o' := fun P t e g o e' => by
    rw [e] at e'; cases e'
    obtain ⟨ps, hp⟩ := g
    exact ⟨.inr (.inl ⟨t, rfl, #[], ps, rfl, by rw [Array.empty_append]; exact hp⟩), _, hp⟩
  have all : ∀ b o, s.heap.get? b = some o → asItWas s.heap s'.heap b o ∧ ∃ o', s'.heap.get? b = some o' := fun b o e => by
    by_cases q1 : b = 144
    · subst q1; exact one _ t1 h144 g1 o e
    by_cases q2 : b = 151
    · subst q2; exact one _ t2 h151 g2 o e
    by_cases q3 : b = 180
    · subst q3; exact one _ t3 h180 g3 o e
    exact ⟨.inl (k b o q1 q2 q3 e), o, k b o q1 q2 q3 e⟩
  exact ⟨fun b o e => (all b o e).1, fun b o e => (all b o e).2⟩
theorem al_ints {H : Heap} {vs : List Value} {ns : List Int} (h : IntsAre vs ns) : Al (IntV H) vs ns := by
  induction h with
  | nil => exact .nil
  | cons t _ _ ih => exact .cons ⟨_, rfl⟩ ih

theorem all_of : PySem.Challenge.rw_pe0231_01.Holds := by
  refine hd fun d kwd hdef => ?_
  intro w s₀ s₁ mg mb G Y fa o pm cd doc dV kV ho hd' hcd hD hmg hg args vals as hpre hlay hrd hwl hlo
  rw [defOf_name hdef] at hmg
  have KX := km_in_of Y
  have KT := km_tabs_of Y
  have T := G.T
  have e := (mg_of KX T.g (gLaw _)).symm.trans hmg
  injection e with e
  injection e with e
  subst e
  have h144 := KT 144 (by decide)
  have h151 := KT 151 (by decide)
  have h180 := KT 180 (by decide)
  clear ho hd' hcd hD hmg Y KT
  wrow_args hpre hlay hrd hwl hlo
  rename_i ns _ _ _ _ _ _ _ S sv _ hL _ _ _ hI _ hn _
  have hal : Al (IntV s₁.heap) sv ns := al_ints hI
  have hlen := hal.length
  refine law_spec (glb_of T KX h144 h151 h180) room_caller h144 h151 h180 ?_ hal (by lia) (plain_ok ns) fun s' hsame keep g1 g2 g3 => ?_
  · obtain ⟨ob, z, c, r⟩ := hL
    exact ⟨ob, hid3 h144 h151 h180 z (fun q => by subst q; cases c), c, r⟩
  · obtain ⟨hh, tk, rfl⟩ := hsame
    refine ⟨.inl ⟨.bool true, .bool true, [], rfl, ?_, .bool true, ?_, fun _ => ⟨.nil, fun _ ha => nomatch ha⟩⟩, old_of KX h144 h151 h180 keep g1 g2 g3, rfl, .of_eq hg⟩
    · exact raisesW_false (by wrow_none_raised)
    · wrow_post

end Mine
set_option maxRecDepth 100000 in
theorem PySem.Challenge.cw_pe0231_01_holds : PySem.Challenge.rw_pe0231_01.Holds := by
  exact Mine.all_of
