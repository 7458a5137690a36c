import PyProof.Rows.All
import Wide.All
import OpenK.AllK
import Wide.FinOn
import PySem.Sre
import KE.KUnpack
import KE.KCallOwn
import KE.KNest
import KE.KNestM
import KE.KSuper
import Lean
import PySem.Challenge.RW_tc0023_01
set_option Elab.async false
section
open PySem PySem.W PyProof.Rows
set_option Elab.async false
set_option maxRecDepth 100000
set_option maxHeartbeats 0
namespace Mine
noncomputable def hdView : Program := view PySem.Challenge.rw_tc0023_01.prog [0, 1, 3, 4, 5, 7, 8, 10, 11, 12, 13, 15, 16, 17, 18, 19, 20, 21]
noncomputable def hdLoose : List Str := ["_name_disallowed_re", "_value_disallowed_re", "_Accumulator", "_twin_re_1", "_twin_re_2"]
noncomputable def hdTop (p : Program) (w : World) (N : Nat) (s₀ : Shared) : Option Shared :=
  match s₀.heap.isNs mainGlobals && s₀.gens.size == 0 with
  | true => (PySem.W.Fast.tw14082659384304107361 PySem.W.Fast.tw14364793385576792824 p w s₀.heap.objs.size (s₀.heap.nsMap mainGlobals "__annotations__") N s₀ (topStub p)).bind fun s₁ => match staticsOk (importedModules p.main.body) s₀.heap s₁.heap && namesBound p s₁.heap && gensDone s₁ && laidKept s₀.heap s₁.heap with
      | true => some s₁
      | false => none
  | false => none
noncomputable def hdEnds (p : Program) (w : World) (N : Nat) : Option Shared :=
  ((PySem.W.Fast.tw10274390034422433532 PySem.W.Fast.tw14364793385576792824 (opening p) w N (PySem.W.Fast.tw1435165496053646825 (opening p)).1 (PySem.W.Fast.tw1435165496053646825 (opening p)).2).bind (PySem.W.Fast.tw14289696077712309145 p)).bind (hdTop p w N)
theorem hdTop_eq (p : Program) (w : World) (N : Nat) : topFrom treeTable p w N = hdTop p w N := by
  funext s₀
  unfold topFrom hdTop
  rw [PySem.W.Fast.te14082659384304107361, PySem.W.Fast.te14364793385576792824]
  rfl
theorem hdEnds_eq (p : Program) (w : World) (N : Nat) : openEnds treeTable p w N = hdEnds p w N := by
  unfold openEnds fencedOpening hdEnds
  rw [hdTop_eq, PySem.W.Fast.te10274390034422433532, PySem.W.Fast.te14364793385576792824, PySem.W.Fast.te1435165496053646825, PySem.W.Fast.te14289696077712309145]
theorem hdSeen_eq : @openSeen = PySem.W.Fast.tw4187177175401517315 := PySem.W.Fast.te4187177175401517315
theorem hdLeft {p q : Program} {loose : List Str} {Xt : Shared → Bool} {α : Type} {Yf : Shared → α} {Ya : World → α} {N : Nat}
    (h : ∀ w, (hdEnds p w N).map (fun s => (PySem.W.Fast.tw4187177175401517315 q loose (importedModules p.main.body) Xt true s, Yf s)) = some (openGood q loose, Ya w)) : LeftO p q loose Xt Yf Ya N true := fun w => by
  rw [hdEnds_eq, hdSeen_eq]
  exact h w
theorem hdSaid : PySem.Challenge.rw_tc0023_01.wellSaid = true := by
  unfold OpenLaw.wellSaid OpenRow.wellSaid OpenRow.partSaid looksOpen
  repeat' (with_reducible refine look_both ?_ ?_)
  all_goals decide +kernel
local macro_rules | `(tactic| o_law) => `(tactic| refine holds_law (l := PySem.Challenge.rw_tc0023_01) hdSaid fun said => ?_)
local macro_rules | `(tactic| o_head ($_f $K $a $e)) => `(tactic| (
  refine holds_open (r := PySem.Challenge.rw_tc0023_01.row) (q := hdView) (loose := hdLoose) (Xt := fun s => xlAt hdView [] s && recOk (RowW.records (OpenRow.toRowW PySem.Challenge.rw_tc0023_01.row)) s) (XP := XL hdView []) (Yf := Hook.obs (kmHook $K $a $e [222])) (Ya := Hook.val (kmHook $K $a $e [222])) (YP := Hook.says (kmHook $K $a $e [222])) (N := 3814) ?hl (Hook.of _) (Hook.keeps _) (fun s e => xl_of s (Bool.and_eq_true_iff.mp e).1) XL.keeps (by rfl) (by rfl) (by rfl) (fun s e => recFacts_of (Bool.and_eq_true_iff.mp e).2) (by rfl) (by first | assumption | decide +kernel) (by decide +kernel) ⟨rfl, rfl, rfl, rfl, rfl, by decide +kernel⟩ ?hw ?hc
  (case hl => refine hdLeft ?_; intro w; kernel_rfl)))
open_top hd for PySem.Challenge.rw_tc0023_01
end Mine
end
section
open PySem PySem.W PySem.Spec PySem.Calls PyProof.Rows
set_option Elab.async false
set_option maxRecDepth 100000
set_option maxHeartbeats 4000000
namespace Mine
/-! the state: a view g that stays, the pieces pts that may change, the heap h -/
noncomputable abbrev PO := Addr × (Obj → Prop)
structure St (g : Heap) (pts : List PO) (h : Heap) : Prop where
  keep : ∀ b o, g.get? b = some o → h.get? b = some o
  own : ∀ p ∈ pts, (∃ o, h.get? p.1 = some o ∧ p.2 o) ∧ g.get? p.1 = none
  nd : (pts.map (·.1)).Nodup
inductive At : List PO → Addr → (Obj → Prop) → (Obj → Prop) → List PO → Prop
  | here {a P P' r} : At ((a, P) :: r) a P P' ((a, P') :: r)
  | there {x r a P P' r'} : At r a P P' r' → At (x :: r) a P P' (x :: r')
theorem At.mem {l a P P' l'} (h : At l a P P' l') : (a, P) ∈ l := by
  induction h with
  | here => exact .head _
  | there _ ih => exact .tail _ ih
theorem At.keys {l a P P' l'} (h : At l a P P' l') : l'.map (·.1) = l.map (·.1) := by
  induction h with
  | here => rfl
  | there _ ih => simp only [List.map_cons, ih]
theorem At.out {l a P P' l'} (h : At l a P P' l') (nd : (l.map (·.1)).Nodup) : ∀ p ∈ l', p = (a, P') ∨ (p ∈ l ∧ p.1 ≠ a) := by
  induction h with
  | here =>
    intro p hp
    rcases List.mem_cons.mp hp with e | hp
    · exact .inl e
    · refine .inr ⟨.tail _ hp, fun e => ?_⟩
      have := (List.nodup_cons.mp nd).1
      exact this (List.mem_map.mpr ⟨p, hp, e⟩)
  | there t ih =>
    intro p hp
    have nd' := List.nodup_cons.mp nd
    rcases List.mem_cons.mp hp with e | hp
    · subst e
      exact .inr ⟨.head _, fun e => nd'.1 (List.mem_map.mpr ⟨_, t.mem, e.symm⟩)⟩
    · rcases ih nd'.2 p hp with e | ⟨a1, a2⟩
      · exact .inl e
      · exact .inr ⟨.tail _ a1, a2⟩
noncomputable abbrev Le (g g' : Heap) : Prop := ∀ b o, g.get? b = some o → g'.get? b = some o
theorem Le.refl (g : Heap) : Le g g := fun _ _ e => e
theorem Le.trans {a b c : Heap} (x : Le a b) (y : Le b c) : Le a c := fun i o e => y i o (x i o e)
section
variable {g h h' : Heap} {pts pts' : List PO} {a : Addr} {P P' : Obj → Prop}
theorem St.at (S : St g pts h) (A : At pts a P P' pts') : ∃ o, h.get? a = some o ∧ P o := (S.own _ A.mem).1
theorem St.upd (S : St g pts h) (A : At pts a P P' pts') (hk : ∀ b o, b ≠ a → h.get? b = some o → h'.get? b = some o) (hn : ∃ o, h'.get? a = some o ∧ P' o) : St g pts' h' where
  keep b o e := hk b o (fun q => by subst q; rw [(S.own _ A.mem).2] at e; cases e) (S.keep b o e)
  own p hp := by
    rcases A.out S.nd p hp with rfl | ⟨hp, hne⟩
    · exact ⟨hn, (S.own _ A.mem).2⟩
    · obtain ⟨⟨o, ho, hP⟩, hg⟩ := S.own p hp
      exact ⟨⟨o, hk _ _ hne ho, hP⟩, hg⟩
  nd := by rw [A.keys]; exact S.nd
theorem St.grow (S : St g pts h) (hk : Le h h') : St g pts h' where
  keep b o e := hk _ _ (S.keep b o e)
  own p hp := let ⟨⟨o, ho, hP⟩, hg⟩ := S.own p hp; ⟨⟨o, hk _ _ ho, hP⟩, hg⟩
  nd := S.nd
theorem St.offg (S : St g pts h) {b : Addr} (hb : h.get? b = none) : g.get? b = none := by
  cases e : g.get? b with
  | none => rfl
  | some o => rw [S.keep _ _ e] at hb; cases hb
theorem St.new (S : St g pts h) (hk : Le h h') (hf : h.get? a = none) (hn : ∃ o, h'.get? a = some o ∧ P o) : St g ((a, P) :: pts) h' where
  keep b o e := hk _ _ (S.keep b o e)
  own p hp := by
    rcases List.mem_cons.mp hp with rfl | hp
    · exact ⟨hn, S.offg hf⟩
    · exact (S.grow hk).own p hp
  nd := by
    refine List.nodup_cons.mpr ⟨fun q => ?_, S.nd⟩
    obtain ⟨p, hp, e⟩ := List.mem_map.mp q
    obtain ⟨⟨o, ho, _⟩, _⟩ := S.own p hp
    rw [e] at ho
    have : h.get? a = some o := ho
    rw [hf] at this; cases this
theorem St.drop {x : PO} (S : St g (x :: pts) h) : St g pts h := ⟨S.keep, fun p hp => S.own p (.tail _ hp), (List.nodup_cons.mp S.nd).2⟩
theorem St.swap {x y : PO} (S : St g (x :: y :: pts) h) : St g (y :: x :: pts) h where
  keep := S.keep
  own p hp := by
    rcases List.mem_cons.mp hp with rfl | hp
    · exact S.own _ (.tail _ (.head _))
    · rcases List.mem_cons.mp hp with rfl | hp
      · exact S.own _ (.head _)
      · exact S.own _ (.tail _ (.tail _ hp))
  nd := by
    have := S.nd
    simp only [List.map_cons, List.nodup_cons, List.mem_cons, not_or] at this ⊢
    exact ⟨⟨fun e => this.1.1 e.symm, this.2.1⟩, this.1.2, this.2.2⟩
theorem St.perm (S : St g pts h) (p : pts.Perm pts') : St g pts' h :=
  ⟨S.keep, fun q hq => S.own q (p.mem_iff.mpr hq), (p.map _).nodup_iff.mp S.nd⟩
theorem St.freeze (S : St g ((a, P) :: pts) h) : ∃ g', Le g g' ∧ (∃ o, g'.get? a = some o ∧ P o ∧ h.get? a = some o) ∧ St g' pts h := by
  refine ⟨hideAll h (pts.map (·.1)), fun b o e => hideAll_get _ (S.keep _ _ e) fun q => ?_, ?_, fun b o e => of_hideAll _ e, fun p hp => ⟨(S.own p (.tail _ hp)).1, hideAll_none _ (List.mem_map_of_mem hp)⟩, (List.nodup_cons.mp S.nd).2⟩
  · obtain ⟨p, hp, rfl⟩ := List.mem_map.mp q
    rw [(S.own p (.tail _ hp)).2] at e; cases e
  · obtain ⟨o, ho, hP⟩ := (S.own _ (.head _)).1
    exact ⟨o, hideAll_get _ ho (List.nodup_cons.mp S.nd).1, hP, ho⟩
/-- all that is new in h' and not owned goes into the view -/
theorem St.rebase (S : St g pts h) : ∃ g', Le g g' ∧ (∀ b o, h.get? b = some o → b ∉ pts.map (·.1) → g'.get? b = some o) ∧ St g' pts h := by
  refine ⟨hideAll h (pts.map (·.1)), fun b o e => hideAll_get _ (S.keep _ _ e) fun q => ?_, fun b o e n => hideAll_get _ e n, fun b o e => of_hideAll _ e, fun p hp => ⟨(S.own p hp).1, hideAll_none _ (List.mem_map_of_mem hp)⟩, S.nd⟩
  obtain ⟨p, hp, rfl⟩ := List.mem_map.mp q
  rw [(S.own p hp).2] at e; cases e
end
theorem size_none (h : Heap) {a : Addr} (ha : h.objs.size ≤ a) : h.get? a = none := by
  cases e : h.get? a with
  | none => rfl
  | some o => exact absurd (Heap.lt_size e) (Nat.not_lt.mpr ha)
theorem le_push (h : Heap) (o : Obj) : Le h (h.push o) := fun _ _ e => Heap.get?_push_of_some o e
/-! the shapes of owned pieces -/
noncomputable def NsL (l : List (Str × Value)) (o : Obj) : Prop := ∃ es ep, o.data = .dict es ep ∧ StrKeys es ∧ ∀ n, nsFind es n = l.lookup n
noncomputable def LstP (items : List Value) (o : Obj) : Prop := ∃ n, o = { cls := .type "list", data := .seq items.toArray n }
theorem LstP.plain {h : Heap} {a : Addr} {items : List Value} (e : ∃ o, h.get? a = some o ∧ LstP items o) : h.PlainList a items.toArray := let ⟨_, ho, n, q⟩ := e; ⟨n, q ▸ ho⟩
theorem LstP.of {h : Heap} {a : Addr} {items : List Value} (e : h.PlainList a items.toArray) : ∃ o, h.get? a = some o ∧ LstP items o := let ⟨n, ho⟩ := e; ⟨_, ho, n, rfl⟩
noncomputable def CelP (v : Option Value) (o : Obj) : Prop := o.data = .cell v
noncomputable def RngP (x left step : Int) (o : Obj) : Prop := o.cls = .type "range_iterator" ∧ o.data = .fields #[rawInt x, rawInt left, rawInt step]
noncomputable def LitP (l : Addr) (i : Nat) (o : Obj) : Prop := o.cls = .type "list_iterator" ∧ o.data = .fields #[.ref l, .int i 0]
end Mine
end
section
open PySem PySem.W PySem.Spec PySem.Calls PyProof.Rows
set_option Elab.async false
set_option maxRecDepth 100000
set_option maxHeartbeats 4000000
namespace Mine
noncomputable def Sh (s s' : Shared) : Prop := s'.os = s.os ∧ (AllBare s.gens → AllBare s'.gens)
theorem Sh.refl (s : Shared) : Sh s s := ⟨rfl, id⟩
theorem Sh.trans {a b c : Shared} (x : Sh a b) (y : Sh b c) : Sh a c := ⟨y.1.trans x.1, fun h => y.2 (x.2 h)⟩
theorem Sh.mk' {s : Shared} {h : Heap} {t : Nat} : Sh s { s with heap := h, toks := t } := ⟨rfl, id⟩
theorem Sh.mk1 {s : Shared} {h : Heap} : Sh s { s with heap := h } := ⟨rfl, id⟩
theorem Sh.mk2 {s : Shared} {t : Nat} : Sh s { s with toks := t } := ⟨rfl, id⟩
noncomputable abbrev SS (s0 : Shared) (g : Heap) (pts : List PO) (s : Shared) : Prop := St g pts s.heap ∧ Sh s0 s
/-- what the world of the text is, in the view g -/
structure Wd (K : Frag) (g : Heap) : Prop where
  kin : ∀ a o, a ≠ 222 → K.lookup a = some o → g.get? a = some o
  lim : g.NoLimit
  glob : ∃ mg mb, g.Ns mainGlobals mg ∧ g.Ns builtinsNs mb ∧ (∀ x v, nsIn K mainGlobals x = some (some v) → mg x = some v) ∧ (∀ x, nsIn K mainGlobals x = some none → mg x = none) ∧
    ∀ x : Str, x ≠ "__name__" → mb x = bootBuiltins x
theorem Wd.le {K : Frag} {g g' : Heap} (x : Wd K g) (l : Le g g') : Wd K g' :=
  ⟨fun a o n e => l _ _ (x.kin a o n e), x.lim.keeps l, let ⟨mg, mb, a, b, c⟩ := x.glob; ⟨mg, mb, a.keeps l, b.keeps l, c⟩⟩
/-- room for n calls more -/
structure Rm (n : Nat) (A : Around) : Prop where
  hh : A.handled = none
  depth : A.depth + n < recursionLimit
  units : A.units + 8 * n + 8 < cLine
theorem Rm.deeper {n : Nat} {A : Around} (x : Rm (n + 1) A) (env : Env) : Rm n (A.deeper env) :=
  ⟨x.hh, by have := x.depth; show A.depth + 1 + n < _; omega, by have := x.units; show A.units + 3 + 8 * n + 8 < _; omega⟩
theorem Rm.room {n : Nat} {A : Around} (x : Rm n A) : A.depth < recursionLimit := by have := x.depth; omega
theorem Rm.cl {n : Nat} {A : Around} (x : Rm n A) : A.units + 8 < cLine := by have := x.units; omega
theorem Rm.in1 {n : Nat} {A : Around} (x : Rm (n + 1) A) : Rm n A.in1 :=
  ⟨x.hh, by have := x.depth; show A.depth + n < _; omega, by have := x.units; show A.units + 1 + 8 * n + 8 < _; omega⟩
theorem Rm.less {n : Nat} {A : Around} (x : Rm (n + 1) A) : Rm n A :=
  ⟨x.hh, by have := x.depth; omega, by have := x.units; omega⟩
section
variable {prog : Program} {w : World} {A : Around} {E : Value → Shared → Prop} {s0 s : Shared} {env : Env} {g : Heap} {pts pts' : List PO} {K : Frag} {x : Str} {pos : Pos} {v : Value} {l : List (Str × Value)}
theorem NsL.ns {h : Heap} {L : Addr} (e : ∃ o, h.get? L = some o ∧ NsL l o) : h.Ns L (fun n => l.lookup n) :=
  let ⟨o, ho, es, ep, a, b, c⟩ := e; ⟨o, es, ep, ho, a, b, c⟩
theorem NsL.of {h : Heap} {L : Addr} {m : Str → Option Value} (e : h.Ns L m) (hm : ∀ n, m n = l.lookup n) : ∃ o, h.get? L = some o ∧ NsL l o :=
  let ⟨o, es, ep, ho, a, b, c⟩ := e; ⟨o, ho, es, ep, a, b, fun n => (c n).trans (hm n)⟩
theorem nmL {Q : Value → Shared → Prop} (S : SS s0 g pts s) (hat : (env.locals, NsL l) ∈ pts) (hv : l.lookup x = some v) (h : Q v s) (hk : env.scope.kind = .function := by rfl) (hl : env.kindOf x = some .local := by rfl)
    (hd : (x == ("__debug__" : Str)) = false := by decide) : wpAny (model prog w) A (eval (.Name x pos) env) Q E s :=
  wpAny_Name (wpAny_loadName_local hk hl (NsL.ns (S.1.own _ hat).1) hv h) hd
theorem ldL {Q : Value → Shared → Prop} (S : SS s0 g pts s) (hat : (env.locals, NsL l) ∈ pts) (hv : l.lookup x = some v) (h : Q v s) (hk : env.scope.kind = .function := by rfl) (hl : env.kindOf x = some .local := by rfl) :
    wpAny (model prog w) A (loadName env x) Q E s := wpAny_loadName_local hk hl (NsL.ns (S.1.own _ hat).1) hv h
theorem CelP.is {h : Heap} {c : Addr} {v : Option Value} (e : ∃ o, h.get? c = some o ∧ CelP v o) : h.IsCell c v := e
theorem nmC {c : Addr} {Q : Value → Shared → Prop} (S : SS s0 g pts s) (hc : env.cells.lookup x = some c) (hat : (c, CelP (some v)) ∈ pts) (h : Q v s) (hk : env.scope.kind = .function := by rfl) (hl : env.kindOf x = some .cell := by rfl)
    (hd : (x == ("__debug__" : Str)) = false := by decide) : wpAny (model prog w) A (eval (.Name x pos) env) Q E s :=
  wpAny_Name (wpAny_loadName_cell hk hl hc (CelP.is (S.1.own _ hat).1) h) hd
theorem nmF {c : Addr} {Q : Value → Shared → Prop} (S : SS s0 g pts s) (hc : env.cells.lookup x = some c) (hat : (c, CelP (some v)) ∈ pts) (h : Q v s) (hk : env.scope.kind = .function := by rfl) (hl : env.kindOf x = some .free := by rfl)
    (hd : (x == ("__debug__" : Str)) = false := by decide) (hn : (x == ("__classdict__" : Str)) = false := by decide) : wpAny (model prog w) A (eval (.Name x pos) env) Q E s :=
  wpAny_Name (wpAny_loadName_free hk hl hc (CelP.is (S.1.own _ hat).1) h hn) hd
theorem nmG {Q : Value → Shared → Prop} (S : SS s0 g pts s) (W : Wd K g) (hv : nsIn K mainGlobals x = some (some v)) (h : Q v s) (hg : env.globals = mainGlobals := by rfl) (hk : env.scope.kind = .function := by rfl) (hl : env.kindOf x = some .globalImplicit := by rfl)
    (hd : (x == ("__debug__" : Str)) = false := by decide) : wpAny (model prog w) A (eval (.Name x pos) env) Q E s := by
  obtain ⟨mg, mb, a, b, c, d, e⟩ := W.glob
  exact Name_function_global hk hl (loadGlobal_global (hg ▸ a.keeps S.1.keep) (c _ _ hv) h) hd
theorem nmB {Q : Value → Shared → Prop} (S : SS s0 g pts s) (W : Wd K g) (hv : nsIn K mainGlobals x = some none) (hb : bootBuiltins x = some v) (h : Q v s) (hn : x ≠ ("__name__" : Str) := by decide) (hg : env.globals = mainGlobals := by rfl) (hbn : env.builtins = builtinsNs := by rfl)
    (hk : env.scope.kind = .function := by rfl) (hl : env.kindOf x = some .globalImplicit := by rfl)
    (hd : (x == ("__debug__" : Str)) = false := by decide) : wpAny (model prog w) A (eval (.Name x pos) env) Q E s := by
  obtain ⟨mg, mb, a, b, c, d, e⟩ := W.glob
  exact Name_function_global hk hl (loadGlobal_builtin (hg ▸ a.keeps S.1.keep) (d _ hv) (hbn ▸ b.keeps S.1.keep) ((e x hn).trans hb) h) hd
theorem lookup_put (l : List (Str × Value)) (x : Str) (v : Value) (n : Str) : (if n = x then some v else l.lookup n) = ((x, v) :: l).lookup n := by
  rw [List.lookup_cons]
  by_cases e : n = x
  · subst e; simp
  · have : (n == x) = false := by simpa using e
    rw [if_neg e, this]
theorem Wd.code {cd : Value} {q : Str} (W : Wd K g) (e : codeIn K cd q = true) (hn : cd ≠ .ref 222) : g.CodeRec cd q := by
  unfold codeIn at e
  split at e
  · rename_i c
    split at e
    · rename_i vs _ ho
      split at e
      · rename_i a n t r hv
        exact ⟨_, _, vs, t, rfl, W.kin _ _ (fun q => hn (q ▸ rfl)) ho, rfl, by rw [← Array.getElem?_toList, hv, ← beq_iff_eq.mp e]; rfl⟩
      · cases e
    · cases e
  · cases e
theorem stL {Q : Unit → Shared → Prop} (S : SS s0 g pts s) (hat : At pts env.locals (NsL l) (NsL ((x, v) :: l)) pts')
    (h : ∀ s', SS s0 g pts' s' → Q () s') (hk : env.scope.kind = .function := by rfl) (hl : env.kindOf x = some .local := by rfl) :
    wpAny (model prog w) A (storeName env x v) Q E s :=
  wpAny_storeName_local hl (NsL.ns (S.1.at hat)) (fun h' hn hs => h _ ⟨S.1.upd hat (fun b o hb e => hs.extBut b o hb e) (NsL.of hn (fun n => lookup_put l x v n)), S.2.trans ⟨rfl, id⟩⟩) (by rw [hk]; rfl)
theorem stC {c : Addr} {v₀ : Option Value} {Q : Unit → Shared → Prop} (S : SS s0 g pts s) (hc : env.cells.lookup x = some c) (hat : At pts c (CelP v₀) (CelP (some v)) pts')
    (h : ∀ s', SS s0 g pts' s' → Q () s') (hk : env.scope.kind = .function := by rfl) (hl : env.kindOf x = some .cell := by rfl) :
    wpAny (model prog w) A (storeName env x v) Q E s :=
  wpAny_storeName_cell hk hl hc (CelP.is (S.1.at hat)) (fun h' hn hs => h _ ⟨S.1.upd hat (fun b o hb e => hs.extBut b o hb e) hn, S.2.trans ⟨rfl, id⟩⟩)
end
end Mine
end
section
open PySem PySem.W PySem.Spec PySem.Calls PyProof.Rows
set_option Elab.async false
set_option maxRecDepth 100000
set_option maxHeartbeats 4000000
namespace Mine
/-- an iterator at I that gives n items -/
structure Src (prog : Program) (w : World) (A : Around) (I : Addr) (n : Nat) (X : Nat → Obj → Prop) (item : Nat → Value → Prop) (ok : Heap → Prop) : Prop where
  next : ∀ i (s : Shared) (Q : Option Value → Shared → Prop) (E : Value → Shared → Prop), i < n → (∃ o, s.heap.get? I = some o ∧ X i o) → ok s.heap →
    (∀ v h' tk, item i v → (∀ b o, b ≠ I → s.heap.get? b = some o → h'.get? b = some o) → (∃ o, h'.get? I = some o ∧ X (i + 1) o) → Q (some v) { s with heap := h', toks := tk }) → wpAny (model prog w) A (pyNext (.ref I)) Q E s
  stop : ∀ (s : Shared) (Q : Option Value → Shared → Prop) (E : Value → Shared → Prop), (∃ o, s.heap.get? I = some o ∧ X n o) → ok s.heap →
    (∀ h' tk, (∀ b o, b ≠ I → s.heap.get? b = some o → h'.get? b = some o) → Q none { s with heap := h', toks := tk }) → wpAny (model prog w) A (pyNext (.ref I)) Q E s
  own : ∀ i target v (s : Shared) (Q : Unit → Shared → Prop) (E : Value → Shared → Prop), (∃ o, s.heap.get? I = some o ∧ X i o) → Q () s → wpAny (model prog w) A (letOwnedTupleGo target (.ref I) v) Q E s
  self : ∀ i (s : Shared) (Q : Value → Shared → Prop) (E : Value → Shared → Prop), (∃ o, s.heap.get? I = some o ∧ X i o) → Q (.ref I) s → wpAny (model prog w) A (pyIter (.ref I)) Q E s
/-- an iterator that owns no tuple -/
theorem letOwn {M : Model} {A : Around} {E : Value → Shared → Prop} {s : Shared} {I : Addr} {target : Expr} {v : Value} {o : Obj} {n : String} {Q : Unit → Shared → Prop} (ho : s.heap.get? I = some o) (hc : o.cls = .type n)
    (hn : ["enumerate", "zip", "dict_itemiterator", "dict_reverseitemiterator", "odict_iterator", "itertools.zip_longest", "itertools.pairwise"].contains n = false) (h : Q () s) : wpAny M A (letOwnedTupleGo target (.ref I) v) Q E s := by
  have body : ∀ a, wpAny M A (load I >>= fun o => match o.cls, o.data with
    | .type n, .fields vs => if ["enumerate", "zip", "dict_itemiterator", "dict_reverseitemiterator", "odict_iterator", "itertools.zip_longest", "itertools.pairwise"].contains n && vs[0]? == some (rawInt a) then (rule "for.unpacks-the-owned-tuple" >>= fun _ => updateField I 0 .none) else pure ()
    | _, _ => pure ()) Q E s := fun a => by
    refine wpAny_bind (wpAny_load ho ?_)
    rw [hc]
    split
    · rename_i n' vs e _
      cases e
      rw [hn, Bool.false_and, if_neg (by decide)]
      exact wpAny_pure h
    · exact wpAny_pure h
  cases target <;> first | exact wpAny_pure h | (cases v <;> first | exact body _ | exact wpAny_pure h)
section
variable {prog : Program} {w : World} {A : Around} {E : Value → Shared → Prop} {s0 s : Shared} {env : Env} {g h h' : Heap} {pts pts' : List PO} {I : Addr}
theorem St.lose {P : Obj → Prop} (S : St g ((I, P) :: pts) h) (hk : ∀ b o, b ≠ I → h.get? b = some o → h'.get? b = some o) : St g pts h' where
  keep b o e := hk b o (fun q => by subst q; rw [(S.own _ (.head _)).2] at e; cases e) (S.keep b o e)
  own p hp := by
    have hn : p.1 ≠ I := fun e => (List.nodup_cons.mp S.nd).1 (List.mem_map.mpr ⟨p, hp, e⟩)
    obtain ⟨⟨o, ho, hP⟩, hg⟩ := S.own p (.tail _ hp)
    exact ⟨⟨o, hk _ _ hn ho, hP⟩, hg⟩
  nd := (List.nodup_cons.mp S.nd).2
/-- a for over any iterator -/
theorem forR {target iter : Expr} {body : List Stmt} {pos : Pos} {Q : Flow → Shared → Prop}
    (h : wpAny (model prog w) A (eval iter env) (fun xv s₁ => wpAny (model prog w) A (pyIter xv) (fun it s₂ =>
      ∃ (I : Addr) (g : Heap) (pts : List PO) (n : Nat) (X : Nat → Obj → Prop) (item : Nat → Value → Prop) (ok : Heap → Prop) (J : Nat → Heap → List PO → Prop),
        it = .ref I ∧ Src prog w A I n X item ok ∧ SS s0 g ((I, X 0) :: pts) s₂ ∧ J 0 g pts ∧ (∀ i g' pts' h, J i g' pts' → Le g g' → St g' ((I, X i) :: pts') h → ok h) ∧
        (∀ i g' pts' v s₃, i < n → J i g' pts' → item i v → Le g g' → SS s0 g' ((I, X (i + 1)) :: pts') s₃ →
          wpAny (model prog w) A (assign target env v) (fun _ s₄ => wpAny (model prog w) A (execs body env) (fun f s₅ => match f with
            | .next => ∃ g'' pts'', Le g' g'' ∧ SS s0 g'' ((I, X (i + 1)) :: pts'') s₅ ∧ J (i + 1) g'' pts''
            | .cont => ∃ g'' pts'', Le g' g'' ∧ SS s0 g'' ((I, X (i + 1)) :: pts'') s₅ ∧ J (i + 1) g'' pts''
            | .brk => Q .next s₅
            | .ret v => Q (.ret v) s₅) (fun _ _ => False) s₄) (fun _ _ => False) s₃) ∧
        (∀ g' pts' s₃, J n g' pts' → Le g g' → SS s0 g' pts' s₃ → Q .next s₃)) E s₁) E s)
    (hf : ∀ x, foldedSetIterable iter env x = pure x := by intro _; rfl) :
    wpAny (model prog w) A (exec (.For target iter body [] pos) env) Q E s := by
  refine wpAny_For (wpAny_mono h (fun xv s₁ h₁ => wpAny_mono h₁ (fun it s₂ h₂ => ?_) fun _ _ e => e) fun _ _ e => e) hf
  obtain ⟨I, g, pts, n, X, item, ok, J, rfl, C, S, hJ, hok, turn, fin⟩ := h₂
  refine codeAny_forLoop_any (fun k s => ∃ i g' pts', k = n - i ∧ i ≤ n ∧ J i g' pts' ∧ Le g g' ∧ SS s0 g' ((I, X i) :: pts') s) (fun k s hk => ?_) n ⟨0, g, pts, by omega, by omega, hJ, Le.refl _, S⟩
  obtain ⟨i, g', pts', rfl, hi, hJ, hle, S⟩ := hk
  have ho := hok i g' pts' _ hJ hle S.1
  by_cases e : i < n
  · refine C.next i s _ _ e (S.1.own _ (.head _)).1 ho (fun v h' tk hv hk hn => ?_)
    have S' : SS s0 g' ((I, X (i + 1)) :: pts') { s with heap := h', toks := tk } := ⟨S.1.upd (At.here (P := X i)) hk hn, S.2.trans Sh.mk'⟩
    refine C.own (i + 1) _ _ _ _ _ (S'.1.own _ (.head _)).1 ?_
    refine wpAny_mono (turn i g' pts' v _ e hJ hv hle S') (fun _ s₄ h₄ => wpAny_mono h₄ (fun f s₅ h₅ => ?_) fun _ _ z => z.elim) fun _ _ z => z.elim
    cases f with
    | next =>
      obtain ⟨g'', pts'', hle', S'', hJ''⟩ := h₅
      exact ⟨n - (i + 1), by omega, i + 1, g'', pts'', rfl, e, hJ'', hle.trans hle', S''⟩
    | cont =>
      obtain ⟨g'', pts'', hle', S'', hJ''⟩ := h₅
      exact ⟨n - (i + 1), by omega, i + 1, g'', pts'', rfl, e, hJ'', hle.trans hle', S''⟩
    | brk => exact h₅
    | ret v => exact h₅
  · obtain rfl : i = n := by omega
    exact C.stop s _ _ (S.1.own _ (.head _)).1 ho (fun h' tk hk => wpAny_execs_nil (fin g' pts' _ hJ hle ⟨S.1.lose hk, S.2.trans Sh.mk'⟩))
end
end Mine
end
section
open PySem PySem.W PySem.Spec PySem.Calls PyProof.Rows
set_option Elab.async false
set_option maxRecDepth 100000
set_option maxHeartbeats 4000000
namespace Mine
noncomputable def StitP (x : Str) (t : Tok) (i : Nat) (o : Obj) : Prop := o.cls = .type "str_ascii_iterator" ∧ o.data = .fields #[.str x t, .int i 0]
noncomputable def RngQ (x left step : Int) (o : Obj) : Prop := o = { cls := .type "range_iterator", dict := none, data := .fields #[rawInt x, rawInt left, rawInt step], slots := #[] }
section
variable {prog : Program} {w : World} {A : Around} {E : Value → Shared → Prop} {s0 s : Shared} {env : Env} {g h h' : Heap} {pts pts' : List PO} {I : Addr}
theorem src_range (hA : A.handled = none) (I : Addr) (a : Int) (n : Nat) : Src prog w A I n (fun i => RngQ (a + i) ((n : Int) - i) 1) (fun i v => ∃ t, v = .int (a + i) t) (fun _ => True) where
  next i s Q E hi hX _ hQ := by
    obtain ⟨o, ho, rfl⟩ := hX
    refine wpAny_pyNext_range_item ho (by omega) (fun h' hit hs => hQ _ _ _ ⟨_, rfl⟩ (fun b o hb e => hs.extBut b o hb e) ⟨_, hit, ?_⟩)
    have e1 : a + (i : Int) + 1 = a + ((i : Int) + 1) := by omega
    have e2 : (n : Int) - (i : Int) - 1 = (n : Int) - ((i : Int) + 1) := by omega
    rw [e1, e2]; rfl
  stop s Q E hX _ hQ := by
    obtain ⟨o, ho, rfl⟩ := hX
    exact wpAny_pyNext_range_end hA ho (by omega) (fun h' hs => hQ _ _ (fun b o hb e => hs b o hb e))
  own i target v s Q E hX hQ := by
    obtain ⟨o, ho, rfl⟩ := hX
    exact letOwn ho rfl (by decide) hQ
  self i s Q E hX hQ := by
    obtain ⟨o, ho, rfl⟩ := hX
    exact wpAny_pyIter_rangeiter ho hQ
theorem src_list (hA : A.handled = none) (I l : Addr) (items : List Value) : Src prog w A I items.length (fun i => LitP l i) (fun i v => items[i]? = some v) (fun h => h.IsList l items.toArray) where
  next i s Q E hi hX ok hQ := by
    obtain ⟨o, ho, hc, hd⟩ := hX
    refine wpAny_pyNext_list_item (x := items[i]) ⟨o, ho, hc, hd⟩ ok (by simp [hi]) (fun h' hit hs => hQ _ _ _ (by simp [hi]) (fun b o hb e => hs.extBut b o hb e) ?_)
    obtain ⟨o', a1, a2, a3⟩ := hit
    exact ⟨o', a1, a2, a3⟩
  stop s Q E hX ok hQ := by
    obtain ⟨o, ho, hc, hd⟩ := hX
    exact wpAny_pyNext_list_end hA ⟨o, ho, hc, hd⟩ ok (by simp) (fun h' hs => hQ _ _ (fun b o hb e => hs b o hb e))
  own i target v s Q E hX hQ := by
    obtain ⟨o, ho, hc, hd⟩ := hX
    exact letOwn ho hc (by decide) hQ
  self i s Q E hX hQ := by
    obtain ⟨o, ho, hc, hd⟩ := hX
    exact wpAny_pyIter_listiter ⟨o, ho, hc, hd⟩ hQ
theorem src_str (hA : A.handled = none) (I : Addr) (x : Str) (t : Tok) : Src prog w A I x.cps.size (fun i => StitP x t i) (fun i v => ∃ c u, x.cps[i]? = some c ∧ v = .str ⟨#[c]⟩ u) (fun _ => True) where
  next i s Q E hi hX _ hQ := by
    obtain ⟨o, ho, hc, hd⟩ := hX
    refine wpAny_pyNext_ascii_item (c := x.cps[i]) ⟨o, ho, hc, hd⟩ (by simp [hi]) (fun h' hit hs => hQ _ _ _ ⟨_, _, by simp [hi], rfl⟩ (fun b o hb e => hs.extBut b o hb e) ?_)
    obtain ⟨o', a1, a2, a3⟩ := hit
    exact ⟨o', a1, a2, a3⟩
  stop s Q E hX _ hQ := by
    obtain ⟨o, ho, hc, hd⟩ := hX
    exact wpAny_pyNext_ascii_end hA ⟨o, ho, hc, hd⟩ (by simp) (fun h' hs => hQ _ _ (fun b o hb e => hs b o hb e))
  own i target v s Q E hX hQ := by
    obtain ⟨o, ho, hc, hd⟩ := hX
    exact letOwn ho hc (by decide) hQ
  self i s Q E hX hQ := by
    obtain ⟨o, ho, hc, hd⟩ := hX
    exact wpAny_pyIter_striter_ascii ⟨o, ho, hc, hd⟩ hQ
/-- the tests of a comprehension, as the machine says them -/
noncomputable abbrev tests (ifs : List Expr) (cenv : Env) : Sem Bool := forIn ifs true fun c r => if r = true then do let ok ← isTrue c cenv (eval c cenv); pure (ForInStep.yield ok) else pure (ForInStep.yield r)
noncomputable abbrev cenvOf (scope : Scope) (cl : List (Str × Addr)) (C : Addr) (env : Env) : Env :=
  { scope := relabel scope env, locals := C, globals := env.globals, cells := cl, qual := env.qual, func := none, code := env.code, frame := env.frame, builtins := env.builtins }
/-- the loop of a list comprehension, whatever its target -/
theorem codeAny_compLoop_own {elt target iter : Expr} {ifs : List Expr} {scope : Scope} {pos : Pos} {it acc : Value} {env : Env} {R : Result → Shared → Prop} (I : Nat → Shared → Prop)
    (turn : ∀ n s, I n s → wpAny (model prog w) A (pyNext it) (fun r s₁ => match r with
      | none => R (.ok .next) s₁
      | some v => wpAny (model prog w) A (letOwnedTupleGo target it v) (fun _ s₁' => wpAny (model prog w) A (assign target env v) (fun _ s₂ =>
          wpAny (model prog w) A (tests ifs env) (fun ok s₃ =>
            if ok = true then wpAny (model prog w) A (eval elt env) (fun x s₄ =>
              wpAny (model prog w) A (call (.builtin "list.append") [acc, x]) (fun _ s₅ => ∃ m, m < n ∧ I m s₅) (notedBy (model prog w) A env fun e s' => R (.error e) s') s₄) (notedBy (model prog w) A env fun e s' => R (.error e) s') s₃
            else ∃ m, m < n ∧ I m s₃) (notedBy (model prog w) A env fun e s' => R (.error e) s') s₂) (notedBy (model prog w) A env fun e s' => R (.error e) s') s₁') (notedBy (model prog w) A env fun e s' => R (.error e) s') s₁) (notedBy (model prog w) A env fun e s' => R (.error e) s') s)
    (n : Nat) (h : I n s) :
    codeAny (model prog w) A (.compLoop (.ListComp elt [⟨target, iter, ifs, 0⟩] scope pos) 0 it acc env) R s := by
  refine codeAny_loop rfl I (fun n s hI => ?_) n h
  show wpAny _ A ((compTurn (.ListComp elt [⟨target, iter, ifs, 0⟩] scope pos) 0 it acc env).onRaise (fun x => do noteFrame x env; theTreesLotGoes x)) _ _ s
  refine wpAny_noted ?_
  rw [compTurn_list]
  refine wpAny_bind (wpAny_standAt (wpAny_bind (wpAny_mono (turn n s hI) (fun r s₁ h₁ => ?_) fun _ _ e => e)))
  match r with
  | none => exact wpAny_pure h₁
  | some v =>
    refine wpAny_bind (wpAny_mono h₁ (fun _ s₁' h₁' => wpAny_bind (wpAny_mono h₁' (fun _ s₂ h₂ => wpAny_bind (wpAny_mono h₂ (fun ok s₃ h₃ => ?_) fun _ _ e => e)) fun _ _ e => e)) fun _ _ e => e)
    match ok with
    | false => exact wpAny_pure ⟨rfl, h₃⟩
    | true => exact wpAny_bind (wpAny_bind (wpAny_mono h₃ (fun x s₄ h₄ => wpAny_bind (wpAny_mono h₄ (fun _ s₅ h₅ => wpAny_pure (wpAny_pure ⟨rfl, h₅⟩)) fun _ _ e => e)) fun _ _ e => e))
/-- the turn of a comprehension -/
noncomputable def Turn (prog : Program) (w : World) (A : Around) (target elt : Expr) (ifs : List Expr) (cenv : Env) (J : Nat → Heap → List PO → List Value → Prop) (mid : List PO → List PO) (D I : Addr) (X : Nat → Obj → Prop) (item : Nat → Value → Prop)
    (n : Nat) (g : Heap) (s0 : Shared) : Prop :=
  ∀ i g' pts' vs l v s₃, i < n → J i g' pts' vs → item i v → Le g g' → SS s0 g' ((cenv.locals, NsL l) :: (D, LstP vs) :: (I, X (i + 1)) :: mid pts') s₃ →
    wpAny (model prog w) A (assign target cenv v) (fun _ s₄ => wpAny (model prog w) A (tests ifs cenv) (fun ok s₅ =>
      if ok = true then wpAny (model prog w) A (eval elt cenv) (fun x s₆ => ∃ g'' pts'' l'', Le g' g'' ∧ SS s0 g'' ((cenv.locals, NsL l'') :: (D, LstP vs) :: (I, X (i + 1)) :: mid pts'') s₆ ∧ J (i + 1) g'' pts'' (vs ++ [x])) (fun _ _ => False) s₅
      else ∃ g'' pts'' l'', Le g' g'' ∧ SS s0 g'' ((cenv.locals, NsL l'') :: (D, LstP vs) :: (I, X (i + 1)) :: mid pts'') s₅ ∧ J (i + 1) g'' pts'' vs) (fun _ _ => False) s₄) (fun _ _ => False) s₃
theorem compLoop {target elt iter : Expr} {ifs : List Expr} {scope : Scope} {pos : Pos} {cenv : Env} {J : Nat → Heap → List PO → List Value → Prop} {mid : List PO → List PO} {D I : Addr} {X : Nat → Obj → Prop} {item : Nat → Value → Prop}
    {ok : Heap → Prop} {n : Nat} {s : Shared} {l : List (Str × Value)} {R : Result → Shared → Prop} (hsz : n ≤ sizeLine)
    (C : Src prog w A I n X item ok) (S : SS s0 g ((cenv.locals, NsL l) :: (D, LstP []) :: (I, X 0) :: mid pts) s) (hJ : J 0 g pts []) (hl : ∀ i g' pts' vs, J i g' pts' vs → vs.length ≤ i)
    (hok : ∀ i g' pts' vs h, J i g' pts' vs → Le g g' → St g' ((I, X i) :: mid pts') h → ok h) (turn : Turn prog w A target elt ifs cenv J mid D I X item n g s0)
    (fin : ∀ g' pts' vs l' s₃, J n g' pts' vs → Le g g' → SS s0 g' ((cenv.locals, NsL l') :: (D, LstP vs) :: mid pts') s₃ → R (.ok .next) s₃) :
    codeAny (model prog w) A (.compLoop (.ListComp elt [⟨target, iter, ifs, 0⟩] scope pos) 0 (.ref I) (.ref D) cenv) R s := by
  refine codeAny_compLoop_own (fun k s => ∃ i g' pts' vs l', k = n - i ∧ i ≤ n ∧ J i g' pts' vs ∧ Le g g' ∧ SS s0 g' ((cenv.locals, NsL l') :: (D, LstP vs) :: (I, X i) :: mid pts') s) (fun k s hk => ?_) n
    ⟨0, g, pts, [], l, by omega, by omega, hJ, Le.refl _, S⟩
  obtain ⟨i, g', pts', vs, l', rfl, hi, hJ, hle, S⟩ := hk
  have ho := hok i g' pts' vs _ hJ hle (S.1.drop.drop)
  have S3 := (S.1.perm (pts' := (I, X i) :: (cenv.locals, NsL l') :: (D, LstP vs) :: mid pts') (by
    refine .trans (.cons _ (.swap ..)) (.swap ..)))
  by_cases e : i < n
  · refine C.next i s _ _ e (S3.own _ (.head _)).1 ho (fun v h' tk hv hk hn => ?_)
    have S' : SS s0 g' ((cenv.locals, NsL l') :: (D, LstP vs) :: (I, X (i + 1)) :: mid pts') { s with heap := h', toks := tk } := ⟨S.1.upd (At.there (At.there (At.here (P := X i)))) hk hn, S.2.trans Sh.mk'⟩
    refine C.own (i + 1) _ _ _ _ _ (S'.1.own _ (.tail _ (.tail _ (.head _)))).1 ?_
    refine wpAny_mono (turn i g' pts' vs l' v { s with heap := h', toks := tk } e hJ hv hle S') (fun _ s₄ h₄ => wpAny_mono h₄ (fun b s₅ h₅ => ?_) fun _ _ z => z.elim) fun _ _ z => z.elim
    cases b with
    | false =>
      simp only [Bool.false_eq_true, if_false] at h₅ ⊢
      obtain ⟨g'', pts'', l'', hle', S'', hJ''⟩ := h₅
      exact ⟨n - (i + 1), by omega, i + 1, g'', pts'', vs, l'', rfl, e, hJ'', hle.trans hle', S''⟩
    | true =>
      simp only [if_true] at h₅ ⊢
      refine wpAny_mono h₅ (fun x s₆ h₆ => ?_) fun _ _ z => z.elim
      obtain ⟨g'', pts'', l'', hle', S'', hJ''⟩ := h₆
      refine wpAny_list_append_plain (l := D) (items := vs.toArray) (LstP.plain (S''.1.own (D, LstP vs) (.tail _ (.head _))).1) (fun h₇ hl₇ hs₇ => ?_) ?_
      · exact ⟨n - (i + 1), by omega, i + 1, g'', pts'', vs ++ [x], l'', rfl, e, hJ'', hle.trans hle', S''.1.upd (At.there (At.here (P := LstP vs))) (fun b o hb e => hs₇.extBut b o hb e) (LstP.of (by simpa using hl₇)), S''.2.trans Sh.mk1⟩
      · have := hl _ _ _ _ hJ
        simp only [List.size_toArray]; omega
  · obtain rfl : i = n := by omega
    exact C.stop s _ _ (S3.own _ (.head _)).1 ho (fun h' tk hk => fin g' pts' vs l' _ hJ hle ⟨S3.lose hk, S.2.trans Sh.mk'⟩)
/-- a list comprehension without cells of its own -/
theorem compR {target elt iter : Expr} {ifs : List Expr} {scope : Scope} {pos : Pos} {cl : List (Str × Addr)} {Q : Value → Shared → Prop}
    (hclos : closureFor scope env = pure cl) (hcell : ∀ y ∈ scope.names, y.2 ≠ .cell) (hkind : scope.kind = .function) (hnames : ∀ y ∈ scope.names, y.2 = .local → scope.names.lookup y.1 = some .local)
    (h : wpAny (model prog w) A (eval iter env) (fun xv s₁ => wpAny (model prog w) A (pyIter xv) (fun it s₂ =>
      ∃ (I : Addr) (g : Heap) (pts : List PO) (n : Nat) (X : Nat → Obj → Prop) (item : Nat → Value → Prop) (ok : Heap → Prop) (J : Nat → Heap → List PO → List Value → Prop),
        it = .ref I ∧ Src prog w A I n X item ok ∧ n ≤ sizeLine ∧ SS s0 g ((I, X 0) :: pts) s₂ ∧ J 0 g pts [] ∧ (∀ i g' pts' vs, J i g' pts' vs → vs.length ≤ i) ∧
        (∀ i g' pts' vs h, J i g' pts' vs → Le g g' → St g' ((I, X i) :: pts') h → ok h) ∧
        (∀ C D, Turn prog w A target elt ifs (cenvOf scope cl C env) J id D I X item n g s0) ∧
        (∀ D g' pts' vs s₃, s₂.heap.get? D = none → J n g' pts' vs → Le g g' → SS s0 g' ((D, LstP vs) :: pts') s₃ → Q (.ref D) s₃)) E s₁) E s)
    (hs : ∀ x, foldedSetIterable iter env x = pure x := by intro _; rfl) :
    wpAny (model prog w) A (eval (.ListComp elt [⟨target, iter, ifs, 0⟩] scope pos) env) Q E s := by
  rw [eval_ListComp]
  refine wpAny_comprehension_free (use := none) rfl hs hclos hkind hnames (wpAny_mono h (fun xv s₁ h₁ => wpAny_mono h₁ (fun it s₂ h₂ => ?_) fun _ _ e => e) fun _ _ e => e)
  obtain ⟨I, g, pts, n, X, item, ok, J, rfl, C, hsz, S, hJ, hl, hok, turn, fin⟩ := h₂
  refine wpAny_newObj_type (wpAny_newFunctionEnv hcell (by intro y hy; simp at hy) (fun h₁ hns₁ hsb₁ => ?_) hkind)
  dsimp only at hns₁ hsb₁ ⊢
  generalize hH2 : s₂.heap.push { cls := .type "list", dict := none, data := .seq ([] : List Value).toArray } = H2 at hns₁ hsb₁ ⊢
  have S1 : St g ((s₂.heap.objs.size, LstP []) :: (I, X 0) :: pts) H2 := S.1.new (hH2 ▸ le_push _ _) (size_none _ (Nat.le_refl _)) ⟨_, hH2 ▸ Heap.get?_push_size _ rfl, 0, rfl⟩
  have k2 : Le H2 h₁ := fun b o e => hsb₁.extBut b o (Nat.ne_of_lt (Heap.lt_size e)) (Heap.get?_push_of_some _ e)
  have S2 : St g ((H2.objs.size, NsL []) :: (s₂.heap.objs.size, LstP []) :: (I, X 0) :: pts) h₁ := S1.new k2 (size_none _ (Nat.le_refl _)) (NsL.of hns₁ fun _ => rfl)
  have loop : ∀ (s₃ : Shared) (_ : SS s0 g ((H2.objs.size, NsL []) :: (s₂.heap.objs.size, LstP []) :: (I, X 0) :: pts) s₃),
      codeAny (model prog w) A (.compLoop (.ListComp elt [⟨target, iter, ifs, 0⟩] scope pos) 0 (.ref I) (.ref s₂.heap.objs.size) (cenvOf scope cl H2.objs.size env))
        (compPost (model prog w) A E none Q (.ref s₂.heap.objs.size) H2.objs.size) s₃ := by
    intro s₃ S₃
    refine compLoop (cenv := cenvOf scope cl H2.objs.size env) (mid := id) hsz C S₃ hJ hl hok (turn _ _) (fun g' pts' vs l' s₄ hJ' hle S₄ => ?_)
    refine ⟨_, NsL.ns (S₄.1.own _ (.head _)).1, fun h' hsb => ?_⟩
    exact fin _ g' pts' vs _ (size_none _ (Nat.le_refl _)) hJ' hle ⟨S₄.1.lose fun b o hb e => hsb.extBut b o hb e, S₄.2.trans Sh.mk1⟩
  refine codeAny_compStart_list (loop _ ⟨S2, S.2.trans ⟨rfl, id⟩⟩) (C.self 0 _ _ _ (S2.own _ (.tail _ (.tail _ (.head _)))).1 (loop _ ⟨S2, S.2.trans ⟨rfl, id⟩⟩))
end
end Mine
end
section
open PySem PySem.W PySem.Spec PySem.Calls PyProof.Rows
set_option Elab.async false
set_option maxRecDepth 100000
set_option maxHeartbeats 4000000
set_option linter.unusedVariables false
namespace Mine
noncomputable def fv : Flow → Value
  | .ret v => v
  | _ => .none
section
variable {prog : Program} {w : World} {A : Around} {E : Value → Shared → Prop} {s0 s : Shared} {env : Env} {g h h' : Heap} {pts pts' : List PO} {K : Frag}
theorem lookup_of_mem : ∀ {l : List (Str × Addr)} {x : Str} {a : Addr}, (l.map (·.1)).Nodup → (x, a) ∈ l → l.lookup x = some a
  | (y, b) :: r, x, a, nd, h => by
    have nd' := List.nodup_cons.mp nd
    rcases List.mem_cons.mp h with e | h
    · cases e; simp
    · have : (x == y) = false := by
        simp only [beq_eq_false_iff_ne]
        intro e
        exact nd'.1 (List.mem_map.mpr ⟨_, h, e⟩)
      rw [List.lookup_cons, this]
      exact lookup_of_mem nd'.2 h
/-- a call of a def without cells, as a value -/
theorem callV {n : Nat} {f : Addr} {args : List Value} {kw : List (Str × Value)} {binds : List (Str × Value)} {fd : FuncData} {body : List Stmt} {c : Value} {d : Option Addr} {sl : Array (Option Value)} {Q : Value → Shared → Prop}
    (hA : Rm (n + 1) A) (S : SS s0 g pts s) (W : Wd K g) (ho : K.lookup f = some ⟨c, d, .func fd, sl⟩) (hcd : codeIn K fd.code fd.qualname = true) (hbody : fd.body = .stmts body) (hbind : BindsTo s fd ⟨args, kw⟩ binds)
    (hcell : ∀ x ∈ fd.scope.names, x.2 ≠ .cell) (hloc : ∀ y ∈ binds, fd.scope.names.lookup y.1 = some .local)
    (h : ∀ L s₁, SS s0 g ((L, NsL binds.reverse) :: pts) s₁ → Rm n (A.deeper (callEnv fd L f)) → s.heap.get? L = none → wpAny (model prog w) (A.deeper (callEnv fd L f)) (execs body (callEnv fd L f)) (fun fl s' => Q (fv fl) s') (fun _ _ => False) s₁)
    (hco : fd.scope.isCoroutine = false := by rfl) (hgen : fd.scope.isGenerator = false := by rfl) (hk : fd.scope.kind = .function := by rfl) (hf : f ≠ 222 := by decide) (hcn : fd.code ≠ .ref 222 := by decide) :
    wpAny (model prog w) A (call (.ref f) args kw) Q E s := by
  refine wpAny_call (codeAny_call_def (fd := fd) hA.room (S.1.keep _ _ (W.kin _ _ hf ho)) rfl (W.lim.keeps S.1.keep) ((W.code hcd hcn).keeps S.1.keep) hbody hbind hcell hloc (fun h₁ hns hk₁ => ?_) hco hgen hk)
  refine wpAny_mono (h _ _ ⟨S.1.new hk₁ (size_none _ (Nat.le_refl _)) (NsL.of hns fun _ => rfl), S.2.trans ⟨rfl, id⟩⟩ (hA.deeper _) (size_none _ (Nat.le_refl _))) (fun fl _ q => ?_) (fun _ _ q => q.elim)
  cases fl <;> exact q
/-- the locals and the cells that a call binds -/
noncomputable def locL (k : Str → Option NameKind) (binds : List (Str × Value)) : List (Str × Value) := (binds.filter fun p => decide (k p.1 = some .local)).reverse
noncomputable def celL (k : Str → Option NameKind) (binds : List (Str × Value)) : List (Str × Value) := (binds.filter fun p => !decide (k p.1 = some .local)).reverse
theorem bindL_is (k : Str → Option NameKind) : ∀ (binds l : List (Str × Value)) (n : Str), bindL k binds (fun y => l.lookup y) n = (locL k binds ++ l).lookup n
  | [], l, n => rfl
  | (x, v) :: r, l, n => by
    unfold bindL locL
    by_cases e : k x = some .local
    · have := bindL_is k r ((x, v) :: l) n
      rw [if_pos e, show (fun y => if y = x then some v else l.lookup y) = fun y => ((x, v) :: l).lookup y from funext fun y => lookup_put l x v y, this]
      simp [locL, e]
    · have := bindL_is k r l n
      rw [if_neg e, this]
      simp [locL, e]
theorem bindC_is (k : Str → Option NameKind) : ∀ (binds l : List (Str × Value)) (n : Str), bindC k binds (fun y => l.lookup y) n = (celL k binds ++ l).lookup n
  | [], l, n => rfl
  | (x, v) :: r, l, n => by
    unfold bindC celL
    by_cases e : k x = some .local
    · have := bindC_is k r l n
      rw [if_pos e, this]
      simp [celL, e]
    · have := bindC_is k r ((x, v) :: l) n
      rw [if_neg e, show (fun y => if y = x then some v else l.lookup y) = fun y => ((x, v) :: l).lookup y from funext fun y => lookup_put l x v y, this]
      simp [celL, e]
/-- a call of a def with cells, as a value -/
theorem callVC {n : Nat} {f : Addr} {args : List Value} {binds : List (Str × Value)} {fd : FuncData} {body : List Stmt} {c : Value} {d : Option Addr} {sl : Array (Option Value)} {Q : Value → Shared → Prop}
    (hA : Rm (n + 1) A) (S : SS s0 g pts s) (W : Wd K g) (ho : K.lookup f = some ⟨c, d, .func fd, sl⟩) (hcd : codeIn K fd.code fd.qualname = true) (hbody : fd.body = .stmts body) (hbind : bindArgs fd ⟨args, []⟩ = pure binds)
    (hclo : fd.closure = []) (hkind : ∀ x ∈ binds, fd.scope.names.lookup x.1 = some .local ∨ (fd.scope.names.lookup x.1 = some .cell ∧ ((cellsFrom (s.heap.objs.size + 1) fd.scope.names []).lookup x.1).isSome = true))
    (hnd : ((cellsFrom (s.heap.objs.size + 1) fd.scope.names []).map (·.1)).Nodup)
    (h : ∀ L s₁, L = s.heap.objs.size → SS s0 g ((L, NsL (locL (callEnvC fd L f).kindOf binds)) :: ((callEnvC fd L f).cells.map fun p => (p.2, CelP ((celL (callEnvC fd L f).kindOf binds).lookup p.1))) ++ pts) s₁ → Rm n (A.deeper (callEnvC fd L f)) →
      wpAny (model prog w) (A.deeper (callEnvC fd L f)) (execs body (callEnvC fd L f)) (fun fl s' => Q (fv fl) s') (fun _ _ => False) s₁)
    (hco : fd.scope.isCoroutine = false := by rfl) (hgen : fd.scope.isGenerator = false := by rfl) (hk : fd.scope.kind = .function := by rfl) (hf : f ≠ 222 := by decide) (hcn : fd.code ≠ .ref 222 := by decide) :
    wpAny (model prog w) A (call (.ref f) args) Q E s := by
  refine wpAny_call (codeAny_call_cells (fd := fd) hA.room (S.1.keep _ _ (W.kin _ _ hf ho)) rfl (W.lim.keeps S.1.keep) ((W.code hcd hcn).keeps S.1.keep) hbody hbind hclo hkind (fun s₁ X => ?_) hco hgen hk)
  have X' := X
  obtain ⟨hc, hcell, hap, hab⟩ := X
  obtain ⟨⟨h₁, tk, rfl⟩, hns, hkeep, hfr⟩ := hc
  have hL : (callEnvC fd s.heap.objs.size f).locals = s.heap.objs.size := rfl
  have hcells : (callEnvC fd s.heap.objs.size f).cells = cellsFrom (s.heap.objs.size + 1) fd.scope.names [] := rfl
  have off : ∀ a, s.heap.objs.size ≤ a → ∀ p ∈ pts, p.1 ≠ a := fun a ha p hp e => by
    obtain ⟨⟨o, ho, _⟩, _⟩ := S.1.own p hp
    have := Heap.lt_size ho
    rw [e] at this
    exact absurd (Nat.lt_of_lt_of_le this ha) (Nat.lt_irrefl _)
  have S1 : SS s0 g ((s.heap.objs.size, NsL (locL (callEnvC fd s.heap.objs.size f).kindOf binds)) :: ((callEnvC fd s.heap.objs.size f).cells.map fun p => (p.2, CelP ((celL (callEnvC fd s.heap.objs.size f).kindOf binds).lookup p.1))) ++ pts) { s with heap := h₁, toks := tk } := by
    refine ⟨⟨fun b o e => hkeep _ _ (S.1.keep b o e), fun p hp => ?_, ?_⟩, S.2.trans Sh.mk'⟩
    · rcases List.mem_append.mp hp with hp | hp
      · rcases List.mem_cons.mp hp with rfl | hp
        · exact ⟨NsL.of hns fun n => by simpa using bindL_is _ binds [] n, S.1.offg (size_none _ (Nat.le_refl _))⟩
        · obtain ⟨q, hq, rfl⟩ := List.mem_map.mp hp
          have lk : (callEnvC fd s.heap.objs.size f).cells.lookup q.1 = some q.2 := by
            rw [hcells]
            exact lookup_of_mem hnd (hcells ▸ hq)
          have z := hcell q.1 q.2 lk
          rw [show bindC (callEnvC fd s.heap.objs.size f).kindOf binds (fun _ => none) q.1 = (celL (callEnvC fd s.heap.objs.size f).kindOf binds).lookup q.1 by simpa using bindC_is _ binds [] q.1] at z
          exact ⟨z, S.1.offg (size_none _ (Nat.le_of_lt (hab q.1 q.2 hq)))⟩
      · exact (S.1.grow hkeep).own p hp
    · rw [List.map_append, List.map_cons, List.map_map]
      refine List.nodup_append.mpr ⟨List.nodup_cons.mpr ⟨fun q => ?_, ?_⟩, S.1.nd, fun a ha b hb e => ?_⟩
      · obtain ⟨q, hq, e⟩ := List.mem_map.mp q
        have := hab q.1 q.2 hq
        have e' : q.2 = s.heap.objs.size := e
        rw [e'] at this
        exact Nat.lt_irrefl _ this
      · exact List.pairwise_map.mpr hap
      · subst e
        obtain ⟨p, hp, rfl⟩ := List.mem_map.mp hb
        rcases List.mem_cons.mp ha with e | ha
        · exact off _ (Nat.le_refl _) p hp e
        · obtain ⟨q, hq, e⟩ := List.mem_map.mp ha
          have := hab q.1 q.2 hq
          exact off _ (Nat.le_of_lt this) p hp e.symm
  refine wpAny_mono (h _ _ rfl S1 (hA.deeper _)) (fun fl _ q => ?_) (fun _ _ q => q.elim)
  cases fl <;> exact q
theorem execs_cut {st : Stmt} {rest : List Stmt} {Q : Flow → Shared → Prop} (M : Shared → Prop) (h1 : wpAny (model prog w) A (exec st env) (fun f s' => f = .next ∧ M s') E s)
    (h2 : ∀ s', M s' → wpAny (model prog w) A (execs rest env) Q E s') : wpAny (model prog w) A (execs (st :: rest) env) Q E s :=
  wpAny_execs_cons (wpAny_mono h1 (fun f s' h => by obtain ⟨rfl, h⟩ := h; exact h2 s' h) fun _ _ e => e)
theorem cwDef {pos : Pos} {f : Addr} {o : Obj} {fd : FuncData} {e : Expr} {rest : List Expr} {Q : Value → Shared → Prop} (W : Wd K g) (ho : K.lookup f = some o) (hd : o.data = .func fd)
    (h : wpAny (model prog w) A (spliced (backTo pos (starEach (e :: rest) env))) (fun vs s₁ => Le g s₁.heap ∧ wpAny (model prog w) A (call (.ref f) vs) Q E s₁) E s)
    (hf : f ≠ 222 := by decide) (he : starEach (e :: rest) env = (false, eval e env) :: starEach rest env := by rfl) :
    wpAny (model prog w) A (callWith pos (.ref f) [] (backTo pos (starEach (e :: rest) env)) []) Q E s :=
  callWith_def hd (wpAny_mono h (fun vs s₁ h₁ => ⟨h₁.1 _ _ (W.kin _ _ hf ho), h₁.2⟩) fun _ _ e => e) he
/-- a new list of one's own -/
theorem newL {vs : List Value} {Q : Value → Shared → Prop} (S : SS s0 g pts s) (h : ∀ D s', s.heap.get? D = none → SS s0 g ((D, LstP vs) :: pts) s' → Q (.ref D) s') (hsz : vs.length ≤ sizeLine := by size_fits) :
    wpAny (model prog w) A (newList vs) Q E s :=
  wpAny_newList (h _ { s with heap := s.heap.push _ } (size_none _ (Nat.le_refl _)) ⟨S.1.new (le_push _ _) (size_none _ (Nat.le_refl _)) ⟨_, Heap.get?_push_size _ rfl, 0, rfl⟩, S.2.trans Sh.mk1⟩) hsz
noncomputable def TupP (vs : List Value) (o : Obj) : Prop := o = { cls := .type "tuple", data := .seq vs.toArray }
theorem newT {vs : List Value} {Q : Value → Shared → Prop} (S : SS s0 g pts s) (h : ∀ D s', s.heap.get? D = none → SS s0 g ((D, TupP vs) :: pts) s' → Q (.ref D) s') (hsz : vs.length ≤ sizeLine := by size_fits) :
    wpAny (model prog w) A (newTuple vs) Q E s :=
  wpAny_newTuple (h _ { s with heap := s.heap.push _ } (size_none _ (Nat.le_refl _)) ⟨S.1.new (le_push _ _) (size_none _ (Nat.le_refl _)) ⟨_, Heap.get?_push_size _ rfl, rfl⟩, S.2.trans Sh.mk1⟩) hsz
theorem empty_get (b : Addr) : (Heap.mk #[] {}).get? b = none := size_none _ (Nat.zero_le _)
theorem fr0 {L : Addr} {l : List (Str × Value)} (S : St g pts h) (hat : (L, NsL l) ∈ pts) : Fr (Heap.mk #[] {}) L h (fun n => l.lookup n) :=
  ⟨NsL.ns (S.own _ hat).1, fun b o e => (by rw [empty_get] at e; cases e), Nat.zero_le _⟩
theorem callRange {n : Int} {t : Tok} {L : Addr} {l : List (Str × Value)} {Q : Value → Shared → Prop} (S : SS s0 g pts s) (hat : (L, NsL l) ∈ pts) (h : ∀ r t₁ u₁ v₁ s', IsRange s'.heap r 0 n 1 t₁ u₁ v₁ → SS s0 g pts s' → Q (.ref r) s') :
    wpAny (model prog w) A (call (.type "range") [.int n t]) Q E s :=
  range1_rows (fr0 S.1 hat) News.nil fun h' tk t₁ u₁ v₁ hr _ _ hk => h _ _ _ _ _ hr ⟨S.1.grow hk, S.2.trans Sh.mk'⟩
theorem iterRange {n : Nat} {r : Addr} {t u v : Tok} {Q : Value → Shared → Prop} (S : SS s0 g pts s) (hr : IsRange s.heap r 0 n 1 t u v) (hn : n < 1000000) (h : ∀ I s', s.heap.get? I = none → SS s0 g ((I, RngQ 0 (n : Int) 1) :: pts) s' → Q (.ref I) s') :
    wpAny (model prog w) A (pyIter (.ref r)) Q E s := by
  have hsz : Builtin.Range.rangeSize 0 n 1 = n := by
    unfold Builtin.Range.rangeSize
    simp
    omega
  refine wpAny_pyIter_range hr ?_ ?_
  · unfold Builtin.Range.small Builtin.Range.rangeFitsLong
    rw [hsz]
    simp only [Bool.and_eq_true, decide_eq_true_eq, Bool.or_eq_true, beq_iff_eq]
    refine ⟨⟨⟨⟨?_, ?_⟩, ?_⟩, ?_⟩, .inr ?_⟩ <;> simp <;> omega
  · rw [hsz]
    exact h _ { s with heap := s.heap.push _ } (size_none _ (Nat.le_refl _)) ⟨S.1.new (le_push _ _) (size_none _ (Nat.le_refl _)) ⟨_, Heap.get?_push_size _ rfl, rfl⟩, S.2.trans Sh.mk1⟩
theorem unpackT {vs : List Value} {t : Addr} {n : Nat} {Q : List Value → Shared → Prop} (hh : A.handled = none) (S : SS s0 g pts s) (hat : (t, TupP vs) ∈ pts) (hn : n = vs.length) (h : ∀ s', SS s0 g pts s' → Q vs s') :
    wpAny (model prog w) A (unpackItems (.ref t) n none) Q E s := by
  obtain ⟨o, ho, rfl⟩ := (S.1.own _ hat).1
  have ht : s.heap.IsTuple t vs.toArray := ⟨_, ho, rfl, 0, rfl⟩
  have := wpAny_unpackItems_tuple (prog := prog) (w := w) (E := E) (Q := Q) hh ht (fun h' hk => h { s with heap := h' } ⟨S.1.grow fun b o e => hk b o (Nat.ne_of_lt (Heap.lt_size e)) e, S.2.trans Sh.mk1⟩)
  rw [hn]
  simpa using this
/-- a method of a built-in type -/
theorem mth0 {T id : String} {o : Expr} {name : Str} {apos pos : Pos} {Q : Value → Shared → Prop} (hp : PlainAttrs T) (hs : Slot T name id) (ht : typeOf (.builtin id) = pure (.type "method_descriptor"))
    (h : wpAny (model prog w) A (eval o env) (fun ov s₁ => s₁.TypeIs ov T ∧ (∀ a, ov = .ref a → ∃ ob, s₁.heap.get? a = some ob ∧ ob.dict = none) ∧ wpAny (model prog w) A (call (.builtin id) [ov]) Q E s₁) E s)
    (h1 : attributeBase o name env (eval o env) = eval o env := by rfl) (h3 : (apos.endLine == pos.line) = true := by rfl) :
    wpAny (model prog w) A (eval (.Call (.Attribute o name apos) [] [] pos) env) Q E s := by
  refine wpAny_Call_method h1 rfl h3 hp hs ht (wpAny_mono h (fun ov s₁ h₁ => ⟨h₁.1, h₁.2.1, ?_⟩) fun _ _ e => e)
  exact callWith_builtin rfl (PyProof.Rows.evalArgs_none (by simpa using h₁.2.2))
theorem mth1 {T id : String} {o e : Expr} {rest : List Expr} {name : Str} {apos pos : Pos} {Q : Value → Shared → Prop} (hp : PlainAttrs T) (hs : Slot T name id) (ht : typeOf (.builtin id) = pure (.type "method_descriptor"))
    (h : wpAny (model prog w) A (eval o env) (fun ov s₁ => s₁.TypeIs ov T ∧ (∀ a, ov = .ref a → ∃ ob, s₁.heap.get? a = some ob ∧ ob.dict = none) ∧
      wpAny (model prog w) A (spliced (backTo pos (starEach (e :: rest) env))) (fun vs s₂ => wpAny (model prog w) A (call (.builtin id) (ov :: vs)) Q E s₂) E s₁) E s)
    (h1 : attributeBase o name env (eval o env) = eval o env := by rfl) (h2 : (((backTo pos (starEach (e :: rest) env)).all fun x => !x.1) && ((backToKw pos (keywordEach [] env)).all fun x => x.1.isSome) && decide (((e :: rest).length + ([] : List Keyword).length + if ([] : List Keyword).isEmpty = true then 0 else 1) < 30)) = true := by rfl)
    (h3 : (apos.endLine == pos.line) = true := by rfl) (h4 : starEach (e :: rest) env = (false, eval e env) :: starEach rest env := by rfl) (h5 : ((backTo pos (starEach rest env)).any (·.1)) = false := by rfl) :
    wpAny (model prog w) A (eval (.Call (.Attribute o name apos) (e :: rest) [] pos) env) Q E s := by
  refine wpAny_Call_method h1 h2 h3 hp hs ht (wpAny_mono h (fun ov s₁ h₁ => ⟨h₁.1, h₁.2.1, ?_⟩) fun _ _ e => e)
  have h₁' := h₁.2.2
  rw [h4] at h₁' ⊢
  exact callWith_builtin (by show (false || (backTo pos (starEach rest env)).any (·.1)) = false; rw [h5]; rfl) (evalArgs_plain h₁')
/-- append to a list of one's own -/
theorem appendL {D : Addr} {vs : List Value} {x : Value} {Q : Value → Shared → Prop} (S : SS s0 g pts s) (hat : At pts D (LstP vs) (LstP (vs ++ [x])) pts') (h : ∀ s', SS s0 g pts' s' → Q .none s') (hsz : vs.length ≤ sizeLine := by size_fits) :
    wpAny (model prog w) A (call (.builtin "list.append") [.ref D, x]) Q E s :=
  wpAny_list_append_plain (LstP.plain (S.1.at hat)) (fun h' hl hs => h _ ⟨S.1.upd hat (fun b o hb e => hs.extBut b o hb e) (LstP.of (by simpa using hl)), S.2.trans Sh.mk1⟩) (by simpa using hsz)
theorem mAppend {o e : Expr} {apos pos : Pos} {Q : Value → Shared → Prop} {D : Addr} 
    (h : wpAny (model prog w) A (eval o env) (fun ov s₁ => ov = .ref D ∧ (∃ vs, s₁.heap.PlainList D vs) ∧ wpAny (model prog w) A (eval e env) (fun x s₂ => wpAny (model prog w) A (call (.builtin "list.append") [.ref D, x]) Q E s₂) E s₁) E s)
    (h1 : attributeBase o "append" env (eval o env) = eval o env := by rfl) (h2 : (((backTo pos (starEach [e] env)).all fun x => !x.1) && ((backToKw pos (keywordEach [] env)).all fun x => x.1.isSome) && decide (([e].length + ([] : List Keyword).length + if ([] : List Keyword).isEmpty = true then 0 else 1) < 30)) = true := by rfl)
    (h3 : (apos.endLine == pos.line) = true := by rfl) (h4 : starEach [e] env = [(false, eval e env)] := by rfl) :
    wpAny (model prog w) A (eval (.Call (.Attribute o "append" apos) [e] [] pos) env) Q E s := by
  refine mth1 PySem.F.plainAttrs_list slot_list_append type_list_append (wpAny_mono h (fun ov s₁ h₁ => ?_) fun _ _ e => e) h1 h2 h3 h4 rfl
  obtain ⟨rfl, ⟨vs, n, ho⟩, hw⟩ := h₁
  exact ⟨⟨_, ho, rfl⟩, fun a e => (by cases e; exact ⟨_, ho, rfl⟩), args_cons (wpAny_mono hw (fun x s₂ h₂ => args_nil h₂) fun _ _ e => e) h4⟩
end
end Mine
end
local macro_rules | `(tactic| walk_at "mem") => `(tactic| (repeat (first | exact List.Mem.head _ | apply List.Mem.tail)))
local macro_rules | `(tactic| walk_at "at") => `(tactic| (repeat (first | exact Mine.At.here | apply Mine.At.there)))
local macro_rules | `(tactic| walk_at "lk") => `(tactic| (first | rfl | assumption))
section
open PySem PySem.W PySem.Spec PySem.Calls PyProof.Rows
set_option Elab.async false
set_option maxRecDepth 100000
set_option maxHeartbeats 4000000
set_option linter.unusedVariables false
namespace Mine
noncomputable abbrev KK (w : World) : Frag := Mine.hd.heap_1 w.params
noncomputable abbrev PR : Program := (PySem.Challenge.rw_tc0023_01.row.toRowW).prog
noncomputable abbrev Has (l : List (Str × Value)) (x : Str) (v : Value) : Prop := l.lookup x = some v
noncomputable def IsInts (g : Heap) (v : Value) (ns : List Int) : Prop := ∃ l vs, v = .ref l ∧ g.PlainList l vs.toArray ∧ IntsAre vs ns
theorem IsInts.le {g g' : Heap} {v : Value} {ns : List Int} (x : IsInts g v ns) (l : Le g g') : IsInts g' v ns := let ⟨a, vs, e, ⟨n, h⟩, i⟩ := x; ⟨a, vs, e, ⟨n, l _ _ h⟩, i⟩
noncomputable def totS (e l : List Int) (h : Int) : Nat → Int
  | 0 => 0
  | i + 1 => totS e l h i + ((e.count (Int.fmod (h - i) 6) : Int) - (l.count (Int.fmod (h - i) 6) : Int))
noncomputable def sumS (e l : List Int) (h : Int) (n : Nat) : List Int := (List.range n).map fun i => totS e l h (i + 1)
theorem sumS_succ (e l : List Int) (h : Int) (n : Nat) : sumS e l h (n + 1) = sumS e l h n ++ [totS e l h (n + 1)] := by
  simp [sumS, List.range_succ]
theorem IntsAre.snoc {vs : List Value} {ns : List Int} {n : Int} {t : Tok} (h : IntsAre vs ns) : IntsAre (vs ++ [.int n t]) (ns ++ [n]) := by
  induction h with
  | nil => exact .cons _ _ .nil
  | cons a b _ ih => exact .cons _ _ ih
section
variable {w : World} {A : Around} {E : Value → Shared → Prop} {s0 s : Shared} {g : Heap} {pts : List PO}
theorem sums_c {v1 v2 : Value} {e1 e2 : List Int} {i : Int} {t : Tok} {Q : Value → Shared → Prop} (hA : Rm 3 A) (S : SS s0 g pts s) (W : Wd (KK w) g) (h1 : IsInts g v1 e1) (h2 : IsInts g v2 e2)
    (hQ : ∀ g' v s', Le g g' → SS s0 g' pts s' → IsInts g' v (sumS e1 e2 i 6) → Q v s') : wpAny (model PR w) A (call (.ref 281) [v1, v2, .int i t]) Q E s := by
  obtain ⟨a1, vs1, rfl, hl1, hi1⟩ := h1
  obtain ⟨a2, vs2, rfl, hl2, hi2⟩ := h2
  refine callV hA S W rfl (by kernel_rfl) rfl (BindsTo.of_eq rfl) (by decide) (locs rfl) (fun L s S hA₁ _ => ?_)
  refine wpAny_execs_cons (Assign_Tuple_swapped (Tuple_ (args_cons (List_ (args_nil ?_)))))
  refine newL S (fun D s hD S => ?_)
  refine args_cons (wpAny_Constant_int (args_nil ?_))
  refine newT S (fun T s hT S => ?_)
  refine unpackT hA₁.hh S (by walk_at "mem") rfl (fun s S => ?_)
  have S : SS _ _ _ _ := ⟨S.1.drop, S.2⟩
  refine assignInOrder_cons (bindName_ (stL S (by walk_at "at") (fun s S => ?_)))
  refine assignInOrder_cons (bindName_ (stL S (by walk_at "at") (fun s S => assignInOrder_nil ?_)))
  dsimp only
  refine wpAny_execs_cons (forR (s0 := s0) (Call_ ?_))
  refine nmB (v := .type "range") S W (by kernel_rfl) boot_range ?_
  refine Pv.callWith_type1 (args_cons (wpAny_Constant_int (args_nil ?_)))
  refine callRange S (by walk_at "mem") (fun r t1 u1 v1' s hr S => ?_)
  refine iterRange (n := 6) S hr (by decide) (fun I s hI S => ?_)
  refine ⟨I, g, _, 6, _, _, _, fun j g' p => ∃ l vs t u, p = (D, LstP vs) :: (L, NsL l) :: pts ∧ Has l "early" (.ref a1) ∧ Has l "late" (.ref a2) ∧ Has l "hour" (.int i u) ∧
    Has l "sums" (.ref D) ∧ Has l "total" (.int (totS e1 e2 i j) t) ∧ IntsAre vs (sumS e1 e2 i j) ∧ j ≤ 6, rfl, src_range hA₁.hh I 0 6, S, ⟨_, _, _, _, rfl, by rfl, by rfl, by rfl, by rfl, by rfl, .nil, by decide⟩, fun _ _ _ _ _ _ _ => trivial, ?_, ?_⟩
  · rintro j g' _ v s hj ⟨l, vs, t1, u1, rfl, q1, q2, q3, q4, q5, q6, q7⟩ ⟨t2, hv⟩ hle S
    rw [Int.zero_add] at hv; subst hv
    have hlen : vs.length ≤ 6 := by rw [q6.length]; simp [sumS]; exact q7
    refine wpAny_assign_Name (stL S (by walk_at "at") (fun s S => ?_))
    refine wpAny_execs_cons (wpAny_Assign_Name (wpAny_BinOp (wpAny_BinOp ?_)))
    refine nmL S (by walk_at "mem") (by walk_at "lk") (nmL S (by walk_at "mem") (by walk_at "lk") ?_)
    refine sub_int (wpAny_Constant_int (mod_int' (by decide) ?_))
    refine stL S (by walk_at "at") (fun s S => ?_)
    refine wpAny_execs_cons (wpAny_AugAssign_Name ?_)
    refine ldL S (by walk_at "mem") (by walk_at "lk") (wpAny_BinOp ?_)
    refine mth1 PySem.F.plainAttrs_list PySem.F.slot_list_count PySem.F.type_list_count ?_
    refine nmL S (by walk_at "mem") (by walk_at "lk") ?_
    have hl1' := hl1.at (h' := s.heap) (fun o e => S.1.keep _ _ (hle _ _ e))
    have hl2' := hl2.at (h' := s.heap) (fun o e => S.1.keep _ _ (hle _ _ e))
    refine ⟨let ⟨n, e⟩ := hl1'; ⟨_, e, rfl⟩, fun a e => (by cases e; obtain ⟨n, e⟩ := hl1'; exact ⟨_, e, rfl⟩), ?_⟩
    refine args_cons (nmL S (by walk_at "mem") (by walk_at "lk") (args_nil ?_))
    refine count_list_ints hl1'.isList hi1 ?_
    refine mth1 PySem.F.plainAttrs_list PySem.F.slot_list_count PySem.F.type_list_count ?_
    refine nmL S (by walk_at "mem") (by walk_at "lk") ?_
    refine ⟨let ⟨n, e⟩ := hl2'; ⟨_, e, rfl⟩, fun a e => (by cases e; obtain ⟨n, e⟩ := hl2'; exact ⟨_, e, rfl⟩), ?_⟩
    refine args_cons (nmL S (by walk_at "mem") (by walk_at "lk") (args_nil ?_))
    refine count_list_ints hl2'.isList hi2 ?_
    refine sub_int (wpAny_iadd_int (stL S (by walk_at "at") (fun s S => ?_)))
    refine wpAny_execs_cons (wpAny_Expr_any (mAppend (D := D) ?_))
    refine nmL S (by walk_at "mem") (by walk_at "lk") ⟨rfl, ⟨_, LstP.plain (S.1.own (D, LstP vs) (by walk_at "mem")).1⟩, ?_⟩
    refine nmL S (by walk_at "mem") (by walk_at "lk") ?_
    refine appendL S (by walk_at "at") (fun s S => wpAny_execs_nil ?_) (by rw [sizeLine_eq]; omega)
    refine ⟨g', _, Le.refl _, S, _, _, _, _, rfl, by walk_at "lk", by walk_at "lk", by walk_at "lk", by walk_at "lk", by rfl, ?_, by omega⟩
    rw [sumS_succ]
    exact Mine.IntsAre.snoc q6
  · rintro g' _ s ⟨l, vs, t1, u1, rfl, q1, q2, q3, q4, q5, q6, q7⟩ hle S
    refine wpAny_execs_cons (wpAny_Return_some (nmL S (by walk_at "mem") (by walk_at "lk") ?_))
    obtain ⟨g'', hle', ho, S₁₁⟩ := S.1.swap.drop.freeze
    exact hQ g'' _ _ (hle.trans hle') ⟨S₁₁, S.2⟩ ⟨_, _, rfl, LstP.plain (let ⟨o, a, b, _⟩ := ho; ⟨o, a, b⟩), q6⟩
end
end Mine
end
section
open PySem PySem.W PySem.Spec PySem.Calls PyProof.Rows
set_option Elab.async false
set_option maxRecDepth 100000
set_option maxHeartbeats 4000000
set_option linter.unusedVariables false
namespace Mine
noncomputable def rungF (ln : List Int) (i : Int) : List Int := ln.map fun p => if p = i ∧ ¬ Int.fmod (i - 1) 6 ∈ ln then Int.fmod (i - 1) 6 else p
theorem ints_get {vs : List Value} {ns : List Int} (h : IntsAre vs ns) : ∀ {i : Nat} {v : Value}, vs[i]? = some v → ∃ n t, ns[i]? = some n ∧ v = .int n t := by
  induction h with
  | nil => intro i v e; simp at e
  | cons n t _ ih =>
    intro i v e
    cases i with
    | zero => simp at e; exact ⟨n, t, rfl, e.symm⟩
    | succ i => simpa using ih (by simpa using e)
theorem iterList {prog : Program} {w : World} {A : Around} {E : Value → Shared → Prop} {s0 s : Shared} {g : Heap} {pts : List PO} {l : Addr} {items : List Value} {Q : Value → Shared → Prop} (S : SS s0 g pts s) (hl : s.heap.IsList l items.toArray)
    (h : ∀ I s', s.heap.get? I = none → SS s0 g ((I, LitP l 0) :: pts) s' → Q (.ref I) s') : wpAny (model prog w) A (pyIter (.ref l)) Q E s :=
  wpAny_pyIter_list hl (h _ { s with heap := s.heap.push _ } (size_none _ (Nat.le_refl _)) ⟨S.1.new (le_push _ _) (size_none _ (Nat.le_refl _)) ⟨_, Heap.get?_push_size _ rfl, rfl, rfl⟩, S.2.trans Sh.mk1⟩)
section
variable {w : World} {A : Around} {E : Value → Shared → Prop} {s0 s : Shared} {g : Heap} {pts : List PO}
theorem rung_c {v1 : Value} {ln : List Int} {i : Int} {t : Tok} {Q : Value → Shared → Prop} (hA : Rm 3 A) (S : SS s0 g pts s) (W : Wd (KK w) g) (h1 : IsInts g v1 ln) (hlen : ln.length ≤ 100)
    (hQ : ∀ g' v s', Le g g' → SS s0 g' pts s' → IsInts g' v (rungF ln i) → Q v s') : wpAny (model PR w) A (call (.ref 305) [v1, .int i t]) Q E s := by
  obtain ⟨a1, vs1, rfl, hl1, hi1⟩ := h1
  have hvl : vs1.length ≤ 100 := by rw [hi1.length]; exact hlen
  refine callVC hA S W rfl (by kernel_rfl) rfl rfl rfl (fun x hx => ?_) (by show List.Nodup [("ahead" : Str), "hour", "line"]; decide) (fun L s hL S hA₁ => ?_)
  · rcases List.mem_cons.mp hx with rfl | hx
    · exact .inr ⟨rfl, rfl⟩
    · rcases List.mem_cons.mp hx with rfl | hx
      · exact .inr ⟨rfl, rfl⟩
      · cases hx
  change SS s0 g ((L, NsL []) :: (L + 1 + 1 + 1, CelP none) :: (L + 1 + 1, CelP (some (.int i t))) :: (L + 1, CelP (some (.ref a1))) :: pts) s at S
  refine wpAny_execs_cons (wpAny_Assign_Name (wpAny_BinOp (wpAny_BinOp ?_)))
  refine nmC S rfl (by walk_at "mem") (wpAny_Constant_int (sub_int (wpAny_Constant_int (mod_int' (by decide) ?_))))
  refine stC S rfl (by walk_at "at") (fun s S => ?_)
  refine wpAny_execs_cons (wpAny_Return_some ?_)
  refine compR (s0 := s0) rfl (by decide) rfl (by decide) ?_
  refine nmC S rfl (by walk_at "mem") ?_
  refine iterList S (hl1.at (h' := s.heap) (fun o e => S.1.keep _ _ e)).isList (fun I s hI S => ?_)
  refine ⟨I, g, _, vs1.length, _, _, _, fun j g' p us => ∃ u, p = (L, NsL []) :: (L + 1 + 1 + 1, CelP (some (.int (Int.fmod (i - 1) 6) u))) :: (L + 1 + 1, CelP (some (.int i t))) :: (L + 1, CelP (some (.ref a1))) :: pts ∧
    IntsAre us ((rungF ln i).take j) ∧ us.length = j, rfl, src_list hA₁.hh I a1 vs1, by rw [sizeLine_eq]; omega, S, ⟨_, rfl, .nil, rfl⟩, fun j g' p us h => (by omega), fun j g' p us h hJ hle S => (hl1.at (h' := h) (fun o e => S.keep _ _ (hle _ _ e))).isList, fun C D => ?_, ?_⟩
  · rintro j g' _ us l v s hj ⟨u, rfl, hu, hul⟩ hv hle S
    obtain ⟨n, tn, hn, rfl⟩ := ints_get hi1 hv
    refine wpAny_assign_Name (stL S (by walk_at "at") (fun s S => ?_) rfl rfl)
    refine wpAny_tests_nil ?_
    rw [if_pos rfl]
    have hl : s.heap.IsList a1 vs1.toArray := (hl1.at (h' := s.heap) (fun o e => S.1.keep _ _ (hle _ _ e))).isList
    have hrt : (rungF ln i).take (j + 1) = (rungF ln i).take j ++ [if n = i ∧ ¬ Int.fmod (i - 1) 6 ∈ ln then Int.fmod (i - 1) 6 else n] := by
      rw [List.take_add_one]
      simp [rungF, hn]
    have fin : ∀ (x : Int) (tx : Tok) (s' : Shared), SS s0 g' ((C, NsL (("place", .int n tn) :: l)) :: (D, LstP us) :: (I, LitP a1 (j + 1)) :: (L, NsL []) :: (L + 1 + 1 + 1, CelP (some (.int (Int.fmod (i - 1) 6) u))) :: (L + 1 + 1, CelP (some (.int i t))) :: (L + 1, CelP (some (.ref a1))) :: pts) s' →
        x = (if n = i ∧ ¬ Int.fmod (i - 1) 6 ∈ ln then Int.fmod (i - 1) 6 else n) → ∃ g'' pts'' l'', Le g' g'' ∧ SS s0 g'' ((C, NsL l'') :: (D, LstP us) :: (I, LitP a1 (j + 1)) :: pts'') s' ∧
          ∃ u, pts'' = (L, NsL []) :: (L + 1 + 1 + 1, CelP (some (.int (Int.fmod (i - 1) 6) u))) :: (L + 1 + 1, CelP (some (.int i t))) :: (L + 1, CelP (some (.ref a1))) :: pts ∧ IntsAre (us ++ [.int x tx]) ((rungF ln i).take (j + 1)) ∧ (us ++ [Value.int x tx]).length = j + 1 := by
      intro x tx s' S' hx
      exact ⟨g', _, _, Le.refl _, S', u, rfl, by rw [hrt, ← hx]; exact Mine.IntsAre.snoc hu, by simp [hul]⟩
    refine wpAny_IfExp (wpAny_isTrue_BoolOp (wpAny_allTrue_And_cons (wpAny_isTrue_Compare1 ?_)))
    refine nmL S (by walk_at "mem") rfl (nmC S rfl (by walk_at "mem") (eq_int (wpAny_truthy_bool ?_)) rfl rfl) rfl rfl
    by_cases e1 : n = i
    · rw [if_pos (by simpa using e1)]
      refine wpAny_allTrue_And_cons (wpAny_isTrue_Compare1 ?_)
      refine nmC S rfl (by walk_at "mem") (nmC S rfl (by walk_at "mem") (notin_list_ints hl hi1 (wpAny_truthy_bool ?_)) rfl rfl) rfl rfl
      by_cases e2 : Int.fmod (i - 1) 6 ∈ ln
      · rw [if_neg (by simpa using e2), if_neg (by simp)]
        exact nmL S (by walk_at "mem") rfl (fin _ _ _ S (by rw [if_neg (fun h => h.2 e2)])) rfl rfl
      · rw [if_pos (by simp only [Bool.not_eq_true', List.any_eq_false, decide_eq_true_eq, beq_iff_eq]; intro x hx e; exact e2 (e ▸ hx))]
        refine wpAny_allTrue_And_nil ?_
        rw [if_pos rfl]
        exact nmC S rfl (by walk_at "mem") (fin _ _ _ S (by rw [if_pos ⟨e1, e2⟩])) rfl rfl
    · rw [if_neg (by simpa using e1), if_neg (by simp)]
      exact nmL S (by walk_at "mem") rfl (fin _ _ _ S (by rw [if_neg (fun h => e1 h.1)])) rfl rfl
  · rintro D g' _ us s hD ⟨u, rfl, hu, hul⟩ hle S
    obtain ⟨g'', hle', ⟨o, ho, hP, _⟩, S₁₁⟩ := S.1.freeze
    refine hQ g'' _ _ (hle.trans hle') ⟨S₁₁.drop.drop.drop.drop, S.2⟩ ⟨_, _, rfl, LstP.plain ⟨o, ho, hP⟩, ?_⟩
    have : (rungF ln i).take vs1.length = rungF ln i := List.take_of_length_le (by rw [hi1.length]; simp [rungF])
    rw [this] at hu
    exact hu
end
end Mine
end
section
open PySem PySem.W PySem.Spec PySem.Calls PyProof.Rows
set_option Elab.async false
set_option maxRecDepth 100000
set_option maxHeartbeats 4000000
set_option linter.unusedVariables false
namespace Mine
noncomputable def nextF (l : List Int) : Nat → Int → Int
  | 0, p => p
  | k + 1, p => if p ∈ l then p else nextF l k (Int.fmod (p + 1) 6)
noncomputable def Reach (l : List Int) : Nat → Int → Prop
  | 0, p => p ∈ l
  | k + 1, p => p ∈ l ∨ Reach l k (Int.fmod (p + 1) 6)
noncomputable def placeF (l : List Int) (h : Int) : Int := if Int.fmod (h - 1) 6 ∈ l then nextF l 5 h else h
theorem reach5 (l : List Int) (h : Int) (h0 : 0 ≤ h) (h6 : h < 6) (e : Int.fmod (h - 1) 6 ∈ l) : Reach l 5 h := by
  have : h = 0 ∨ h = 1 ∨ h = 2 ∨ h = 3 ∨ h = 4 ∨ h = 5 := by omega
  rcases this with rfl | rfl | rfl | rfl | rfl | rfl <;> simp [Reach] at * <;> simp_all
theorem nextF_in (l : List Int) (k : Nat) (p : Int) (h : p ∈ l) : nextF l k p = p := by
  cases k <;> simp [nextF, h]
section
variable {w : World} {A : Around} {E : Value → Shared → Prop} {s0 s : Shared} {g : Heap} {pts : List PO}
theorem lines_c {v1 v2 : Value} {e1 e2 : List Int} {i : Int} {t : Tok} {Q : Value → Shared → Prop} (hA : Rm 4 A) (S : SS s0 g pts s) (W : Wd (KK w) g) (h1 : IsInts g v1 e1) (h2 : IsInts g v2 e2) (hl1 : e1.length ≤ 100) (hl2 : e2.length ≤ 100)
    (h0 : 0 ≤ i) (h6 : i < 6)
    (hQ : ∀ g' T r1 r2 s', Le g g' → SS s0 g' pts s' → (∃ o, g'.get? T = some o ∧ TupP [r1, r2] o) → IsInts g' r1 (rungF e1 (placeF e2 i)) → IsInts g' r2 (rungF e2 i) → Q (.ref T) s') :
    wpAny (model PR w) A (call (.ref 312) [v1, v2, .int i t]) Q E s := by
  have h1' := h1
  have h2' := h2
  obtain ⟨a1, vs1, rfl, hp1, hi1⟩ := h1
  obtain ⟨a2, vs2, rfl, hp2, hi2⟩ := h2
  refine callV hA S W rfl (by kernel_rfl) rfl (BindsTo.of_eq rfl) (by decide) (locs rfl) (fun L s S hA₁ _ => ?_)
  refine wpAny_execs_cons (wpAny_Assign_Name (nmL S (by walk_at "mem") (by walk_at "lk") (stL S (by walk_at "at") (fun s S => ?_))))
  have hl : ∀ {s : Shared} {p : List PO} {g' : Heap}, Le g g' → SS s0 g' p s → s.heap.IsList a2 vs2.toArray := fun hle S => (hp2.at (fun o e => S.1.keep _ _ (hle _ _ e))).isList
  refine execs_cut (fun s' => ∃ l tp, SS s0 g ((L, NsL l) :: pts) s' ∧ Has l "early" (.ref a1) ∧ Has l "late" (.ref a2) ∧ Has l "hour" (.int i t) ∧ Has l "place" (.int (placeF e2 i) tp)) ?_ ?_
  · refine wpAny_If (wpAny_isTrue_Compare1 (wpAny_BinOp (wpAny_BinOp (nmL S (by walk_at "mem") (by walk_at "lk") (wpAny_Constant_int (sub_int (wpAny_Constant_int (mod_int' (by decide) ?_))))))))
    refine nmL S (by walk_at "mem") (by walk_at "lk") (in_list_ints (hl (Le.refl _) S) hi2 (wpAny_truthy_bool ?_))
    by_cases e : Int.fmod (i - 1) 6 ∈ e2
    · rw [if_pos (by simpa using e)]
      refine wpAny_execs_cons (wpAny_While ?_)
      refine codeAny_whileLoop (fun k s => ∃ l p tp, SS s0 g ((L, NsL l) :: pts) s ∧ Has l "early" (.ref a1) ∧ Has l "late" (.ref a2) ∧ Has l "hour" (.int i t) ∧ Has l "place" (.int p tp) ∧ Reach e2 k p ∧ nextF e2 k p = placeF e2 i) (fun k s hk => ?_) 5
        ⟨_, i, t, S, by rfl, by rfl, by rfl, by rfl, reach5 _ _ h0 h6 e, by rw [placeF, if_pos e]⟩
      obtain ⟨l, p, tp, S, q1, q2, q3, q4, q5, q6⟩ := hk
      refine wpAny_isTrue_Compare1 (nmL S (by walk_at "mem") (by walk_at "lk") (nmL S (by walk_at "mem") (by walk_at "lk") (notin_list_ints (hl (Le.refl _) S) hi2 (wpAny_truthy_bool ?_))))
      by_cases e' : p ∈ e2
      · rw [if_neg (by simpa using e')]
        refine wpAny_execs_nil (wpAny_execs_nil ⟨rfl, l, tp, S, q1, q2, q3, ?_⟩)
        rw [← q6, nextF_in _ _ _ e']; exact q4
      · rw [if_pos (by simp only [Bool.not_eq_true', List.any_eq_false, decide_eq_true_eq, beq_iff_eq]; intro x hx e; exact e' (e ▸ hx))]
        cases k with
        | zero => exact absurd q5 e'
        | succ k =>
          refine wpAny_execs_cons (wpAny_Assign_Name (wpAny_BinOp (wpAny_BinOp (nmL S (by walk_at "mem") (by walk_at "lk") (wpAny_Constant_int (add_int (wpAny_Constant_int (mod_int' (by decide) ?_))))))))
          refine stL S (by walk_at "at") (fun s S => ?_)
          refine wpAny_execs_nil (⟨k, Nat.lt_succ_self _, _, _, _, S, q1, q2, q3, by rfl, q5.resolve_left e', ?_⟩)
          rw [← q6, nextF, if_neg e']
    · rw [if_neg (by simpa using e)]
      refine wpAny_execs_nil ⟨rfl, _, t, S, by rfl, by rfl, by rfl, ?_⟩
      rw [placeF, if_neg e]
      rfl
  · rintro s ⟨l, tp, S, q1, q2, q3, q4⟩
    refine wpAny_execs_cons (wpAny_Return_some (Tuple_ (args_cons (Call_ ?_))))
    refine nmG (v := .ref 305) S W (by kernel_rfl) ?_
    refine cwDef W rfl rfl ?_
    refine args_cons (nmL S (by walk_at "mem") (by walk_at "lk") (args_cons (nmL S (by walk_at "mem") (by walk_at "lk") (args_nil ⟨S.1.keep, ?_⟩))))
    refine rung_c hA₁ S W h1' hl1 (fun g1 r1 s hle1 S hr1 => ?_)
    refine args_cons (Call_ ?_)
    refine nmG (v := .ref 305) S (W.le hle1) (by kernel_rfl) ?_
    refine cwDef (W.le hle1) rfl rfl ?_
    refine args_cons (nmL S (by walk_at "mem") (by walk_at "lk") (args_cons (nmL S (by walk_at "mem") (by walk_at "lk") (args_nil ⟨S.1.keep, ?_⟩))))
    refine rung_c hA₁ S (W.le hle1) (h2'.le hle1) hl2 (fun g2 r2 s hle2 S hr2 => args_nil ?_)
    refine newT S (fun T s hT S => ?_)
    obtain ⟨g3, hle3, ⟨o, ho, hP, _⟩, S3⟩ := S.1.freeze
    exact hQ g3 T _ _ _ (hle1.trans (hle2.trans hle3)) ⟨S3.drop, S.2⟩ ⟨o, ho, hP⟩ (hr1.le (hle2.trans hle3)) (hr2.le hle3)
end
end Mine
end
section
open PySem PySem.W PySem.Spec PySem.Calls PyProof.Rows
set_option Elab.async false
set_option maxRecDepth 100000
set_option maxHeartbeats 4000000
set_option linter.unusedVariables false
namespace Mine
theorem paired_get {α β : Type} {F : α → β → Prop} : ∀ {l₁ : List α} {l₂ : List β}, Paired F l₁ l₂ → ∀ {i : Nat} {b : β}, l₂[i]? = some b → ∃ a, l₁[i]? = some a ∧ F a b
  | _, _, .nil, i, b, e => by simp at e
  | _, _, .cons h t, 0, b, e => by simp at e; subst e; exact ⟨_, rfl, h⟩
  | _, _, .cons h t, i + 1, b, e => by simpa using paired_get t (i := i) (by simpa using e)
theorem paired_get' {α β : Type} {F : α → β → Prop} : ∀ {l₁ : List α} {l₂ : List β}, Paired F l₁ l₂ → ∀ {i : Nat} {a : α}, l₁[i]? = some a → ∃ b, l₂[i]? = some b ∧ F a b
  | _, _, .nil, i, b, e => by simp at e
  | _, _, .cons h t, 0, b, e => by simp at e; subst e; exact ⟨_, rfl, h⟩
  | _, _, .cons h t, i + 1, b, e => by simpa using paired_get' t (i := i) (by simpa using e)
theorem paired_mono {α β : Type} {F G : α → β → Prop} (h : ∀ a b, F a b → G a b) : ∀ {l₁ : List α} {l₂ : List β}, Paired F l₁ l₂ → Paired G l₁ l₂
  | _, _, .nil => .nil
  | _, _, .cons x t => .cons (h _ _ x) (paired_mono h t)
noncomputable def IsIntss (g : Heap) (v : Value) (ss : List (List Int)) : Prop := ∃ l vs, v = .ref l ∧ g.PlainList l vs.toArray ∧ Paired (IsInts g) vs ss
theorem IsIntss.le {g g' : Heap} {v : Value} {ss : List (List Int)} (x : IsIntss g v ss) (l : Le g g') : IsIntss g' v ss :=
  let ⟨a, vs, e, ⟨n, h⟩, i⟩ := x; ⟨a, vs, e, ⟨n, l _ _ h⟩, paired_mono (fun _ _ x => x.le l) i⟩
/-- a row: a tuple of two texts -/
noncomputable def RowIs (g : Heap) (v : Value) (r : Str × Str) : Prop := ∃ T t1 t2, v = .ref T ∧ ∃ o, g.get? T = some o ∧ TupP [.str r.1 t1, .str r.2 t2] o
theorem RowIs.le {g g' : Heap} {v : Value} {r : Str × Str} (x : RowIs g v r) (l : Le g g') : RowIs g' v r := let ⟨T, t1, t2, e, o, h, p⟩ := x; ⟨T, t1, t2, e, o, l _ _ h, p⟩
noncomputable def IsRows (g : Heap) (v : Value) (rs : List (Str × Str)) : Prop := ∃ l vs, v = .ref l ∧ g.PlainList l vs.toArray ∧ Paired (RowIs g) vs rs
theorem IsRows.le {g g' : Heap} {v : Value} {ss : List (Str × Str)} (x : IsRows g v ss) (l : Le g g') : IsRows g' v ss :=
  let ⟨a, vs, e, ⟨n, h⟩, i⟩ := x; ⟨a, vs, e, ⟨n, l _ _ h⟩, paired_mono (fun _ _ x => x.le l) i⟩
noncomputable abbrev abc : Str := Str.ofString "abcdef"
noncomputable def rowT (sm : List Int) (h : Int) : Str := if 0 ∈ sm then Txt.mul (Str.ofString ".") ((sm.idxOf 0 : Int) + 1) ++ Txt.item abc (h + 1 - ((sm.idxOf 0 : Int) + 1)) else Str.ofString ""
noncomputable def toldF (ss : List (List Int)) (l : List Int) (st : Int) (n : Nat) : List (Str × Str) :=
  (List.range n).flatMap fun (j : Nat) => let h := Int.fmod (st + (j : Int)) 6; if h ∈ l then [(Txt.item abc h, rowT (ss.getD h.toNat []) h)] else []
theorem toldF_succ (ss : List (List Int)) (l : List Int) (st : Int) (n : Nat) : toldF ss l st (n + 1) = toldF ss l st n ++
    (if Int.fmod (st + (n : Int)) 6 ∈ l then [(Txt.item abc (Int.fmod (st + (n : Int)) 6), rowT (ss.getD (Int.fmod (st + (n : Int)) 6).toNat []) (Int.fmod (st + (n : Int)) 6))] else []) := by
  simp [toldF, List.range_succ]
theorem toldF_len (ss : List (List Int)) (l : List Int) (st : Int) (n : Nat) : (toldF ss l st n).length ≤ n := by
  induction n with
  | zero => simp [toldF]
  | succ n ih => rw [toldF_succ, List.length_append]; split <;> simp <;> omega
theorem mulOk6 : ∀ (k : Nat), k < 6 → MulOk (Str.ofString ".") ((k : Int) + 1)
  | 0, _ => by unfold MulOk; decide +kernel
  | 1, _ => by unfold MulOk; decide +kernel
  | 2, _ => by unfold MulOk; decide +kernel
  | 3, _ => by unfold MulOk; decide +kernel
  | 4, _ => by unfold MulOk; decide +kernel
  | 5, _ => by unfold MulOk; decide +kernel
  | n + 6, h => by omega
theorem abc_len : (Str.ofString "abcdef").length = 6 := by decide +kernel
theorem dot_len : (Str.ofString ".").length = 1 := by decide +kernel
theorem fit6 {i : Int} (h1 : -100 < i) (h2 : i < 100) : fitsSsize i = true := fitsSsize_of h1 h2 (by decide)
section
variable {w : World} {A : Around} {E : Value → Shared → Prop} {s0 s : Shared} {g : Heap} {pts : List PO}
theorem told_c {v1 v2 : Value} {ss : List (List Int)} {e2 : List Int} {i : Int} {t : Tok} {Q : Value → Shared → Prop} (hA : Rm 3 A) (S : SS s0 g pts s) (W : Wd (KK w) g) (h1 : IsIntss g v1 ss) (h2 : IsInts g v2 e2)
    (hss : ss.length = 6) (hs6 : ∀ x ∈ ss, x.length ≤ 6) (hlay : ∀ x ∈ ss, PyData.layable0 (PyData.list (x.map PyData.int)) = true)
    (hQ : ∀ g' v s', Le g g' → SS s0 g' pts s' → IsRows g' v (toldF ss e2 i 6) → Q v s') : wpAny (model PR w) A (call (.ref 293) [v1, v2, .int i t]) Q E s := by
  obtain ⟨a1, vs1, rfl, hl1, hi1⟩ := h1
  obtain ⟨a2, vs2, rfl, hl2, hi2⟩ := h2
  refine callV hA S W rfl (by kernel_rfl) rfl (BindsTo.of_eq rfl) (by decide) (locs rfl) (fun L s S hA₁ _ => ?_)
  refine wpAny_execs_cons (wpAny_Assign_Name (List_ (args_nil (newL S (fun D s hD S => ?_)))))
  refine stL S (by walk_at "at") (fun s S => ?_)
  refine wpAny_execs_cons (forR (s0 := s0) (Call_ ?_))
  refine nmB (v := .type "range") S W (by kernel_rfl) boot_range ?_
  refine Pv.callWith_type1 (args_cons (wpAny_Constant_int (args_nil ?_)))
  refine callRange S (by walk_at "mem") (fun r t1 u1 v1' s hr S => ?_)
  refine iterRange (n := 6) S hr (by decide) (fun I s hI S => ?_)
  refine ⟨I, g, _, 6, _, _, _, fun j g' p => ∃ l vs u, p = (D, LstP vs) :: (L, NsL l) :: pts ∧ Has l "sums" (.ref a1) ∧ Has l "late" (.ref a2) ∧ Has l "start" (.int i u) ∧
    Has l "told" (.ref D) ∧ Paired (RowIs g') vs (toldF ss e2 i j) ∧ j ≤ 6, rfl, src_range hA₁.hh I 0 6, S, ⟨_, _, _, rfl, by rfl, by rfl, by rfl, by rfl, .nil, by decide⟩, fun _ _ _ _ _ _ _ => trivial, ?_, ?_⟩
  · rintro j g' _ v s hj ⟨l, vs, u1, rfl, q1, q2, q3, q4, q5, q6⟩ ⟨t2, hv⟩ hle S
    rw [Int.zero_add] at hv; subst hv
    have hlen : vs.length ≤ 6 := by rw [q5.length]; have := toldF_len ss e2 i j; omega
    refine wpAny_assign_Name (stL S (by walk_at "at") (fun s S => ?_))
    refine wpAny_execs_cons (wpAny_Assign_Name (wpAny_BinOp (wpAny_BinOp ?_)))
    refine nmL S (by walk_at "mem") (by walk_at "lk") (nmL S (by walk_at "mem") (by walk_at "lk") ?_)
    refine add_int (wpAny_Constant_int (mod_int' (by decide) ?_))
    have hf0 := Int.fmod_nonneg_of_pos (i + (j : Int)) (show (0 : Int) < 6 by decide)
    have hf6 := Int.fmod_lt_of_pos (i + (j : Int)) (show (0 : Int) < 6 by decide)
    generalize hh : Int.fmod (i + (j : Int)) 6 = hour at hf0 hf6 ⊢
    refine stL S (by walk_at "at") (fun s S => ?_)
    refine wpAny_execs_cons (wpAny_Assign_Name (wpAny_Constant_str ?_))
    refine stL S (by walk_at "at") (fun s S => ?_)
    obtain ⟨sm, hsm⟩ : ∃ sm, ss[hour.toNat]? = some sm := ⟨_, List.getElem?_eq_getElem (by omega)⟩
    obtain ⟨sv, hsv, am, vm, rfl, hlm, him⟩ := paired_get hi1 hsm
    have hsmem : sm ∈ ss := List.mem_of_getElem? hsm
    have hgd : ss.getD hour.toNat [] = sm := by simp [List.getD, hsm]
    have ls : ∀ {s : Shared} {p : List PO} {g'' : Heap}, Le g g'' → SS s0 g'' p s → s.heap.IsList a1 vs1.toArray ∧ s.heap.IsList am vm.toArray ∧ s.heap.IsList a2 vs2.toArray ∧ s.heap.PlainList am vm.toArray := fun hle S =>
      ⟨(hl1.at (fun o e => S.1.keep _ _ (hle _ _ e))).isList, (hlm.at (fun o e => S.1.keep _ _ (hle _ _ e))).isList, (hl2.at (fun o e => S.1.keep _ _ (hle _ _ e))).isList, (hlm.at (fun o e => S.1.keep _ _ (hle _ _ e)))⟩
    refine execs_cut (fun s' => ∃ l' u' t', SS s0 g' ((I, RngQ (0 + ((j + 1 : Nat) : Int)) (((6 : Nat) : Int) - ((j + 1 : Nat) : Int)) 1) :: (D, LstP vs) :: (L, NsL l') :: pts) s' ∧ Has l' "sums" (.ref a1) ∧ Has l' "late" (.ref a2) ∧ Has l' "start" (.int i u1) ∧
      Has l' "told" (.ref D) ∧ Has l' "hour" (.int hour u') ∧ Has l' "row" (.str (rowT sm hour) t')) ?_ ?_
    · refine wpAny_If (wpAny_isTrue_Compare1 (wpAny_Constant_int (Subscript_ (nmL S (by walk_at "mem") (by walk_at "lk") (nmL S (by walk_at "mem") (by walk_at "lk") ?_)))))
      refine tail_any (ls hle S).1.typeIs slot_list_getitem.lookup (wpAny_getItem_list (ls hle S).1 hf0 (by omega) (by simpa using hsv) ?_) (by with_unfolding_all rfl)
      refine in_list_ints (ls hle S).2.1 him (wpAny_truthy_bool ?_)
      by_cases e : (0 : Int) ∈ sm
      · rw [if_pos (by simpa using e)]
        refine wpAny_execs_cons (wpAny_Assign_Name (wpAny_BinOp ?_))
        refine mth1 PySem.F.plainAttrs_list PySem.F.slot_list_index PySem.F.type_list_index (Subscript_ (nmL S (by walk_at "mem") (by walk_at "lk") (nmL S (by walk_at "mem") (by walk_at "lk") ?_)))
        refine tail_any (ls hle S).1.typeIs slot_list_getitem.lookup (wpAny_getItem_list (ls hle S).1 hf0 (by omega) (by simpa using hsv) ?_) (by with_unfolding_all rfl)
        refine ⟨(ls hle S).2.1.typeIs, fun a e => (by cases e; obtain ⟨n, e⟩ := (ls hle S).2.2.2; exact ⟨_, e, rfl⟩), args_cons (wpAny_Constant_int (args_nil ?_))⟩
        refine index_list_ints (ls hle S).2.1 him (hlay _ hsmem) e (wpAny_Constant_int (add_int ?_))
        refine stL S (by walk_at "at") (fun s S => ?_)
        refine wpAny_execs_cons (wpAny_Assign_Name (wpAny_BinOp (wpAny_BinOp (wpAny_Constant_str (nmL S (by walk_at "mem") (by walk_at "lk") ?_)))))
        have hidx : sm.idxOf 0 < 6 := Nat.lt_of_lt_of_le (List.idxOf_lt_length_iff.mpr e) (hs6 _ hsmem)
        refine SB.mul (mulOk6 _ hidx) (fun t3 k3 => ?_)
        refine Subscript_ (wpAny_Constant_str (wpAny_BinOp (wpAny_BinOp (nmL S (by walk_at "mem") (by walk_at "lk") (wpAny_Constant_int (add_int (nmL S (by walk_at "mem") (by walk_at "lk") (sub_int ?_))))))))
        refine item_str (fit6 (by omega) (by omega)) (by rw [abc_len]; omega) (by rw [abc_len]; omega) (fun hlen1 => ?_)
        refine add_str (fun t4 k4 => ?_) ?_
        · refine stL S (by walk_at "at") (fun s S => ?_)
          refine wpAny_execs_nil ⟨rfl, _, _, _, S, by walk_at "lk", by walk_at "lk", by walk_at "lk", by walk_at "lk", by walk_at "lk", (by rw [rowT, if_pos e]; rfl)⟩
        · have := len_mul_k1 (n := (sm.idxOf 0 : Int) + 1) dot_len
          rw [if_neg (by omega)] at this
          rw [sizeLine_eq]
          have h1 := hlen1.2
          omega
      · rw [if_neg (by simpa using e)]
        refine wpAny_execs_nil ⟨rfl, _, _, _, S, by walk_at "lk", by walk_at "lk", by walk_at "lk", by walk_at "lk", by walk_at "lk", (by rw [rowT, if_neg e]; rfl)⟩
    rintro s ⟨l', u', t', S, r1, r2, r3, r4, r5, r6⟩
    refine wpAny_execs_cons (wpAny_If (wpAny_isTrue_Compare1 (nmL S (by walk_at "mem") (by walk_at "lk") (nmL S (by walk_at "mem") (by walk_at "lk") (in_list_ints (ls hle S).2.2.1 hi2 (wpAny_truthy_bool ?_))))))
    have hsucc := toldF_succ ss e2 i j
    rw [hh, hgd] at hsucc
    by_cases e : hour ∈ e2
    · rw [if_pos (by simpa using e)]
      rw [if_pos e] at hsucc
      refine wpAny_execs_cons (wpAny_Expr_any (mAppend (D := D) ?_))
      refine nmL S (by walk_at "mem") (by walk_at "lk") ⟨rfl, ⟨_, LstP.plain (S.1.own (D, LstP vs) (by walk_at "mem")).1⟩, ?_⟩
      refine Tuple_ (args_cons (Subscript_ (wpAny_Constant_str (nmL S (by walk_at "mem") (by walk_at "lk") ?_))))
      refine item_str (fit6 (by omega) (by omega)) (by rw [abc_len]; omega) (by rw [abc_len]; omega) (fun hlen1 => ?_)
      refine args_cons (nmL S (by walk_at "mem") (by walk_at "lk") (args_nil ?_))
      refine newT S (fun T s hT S => ?_)
      obtain ⟨g'', hle', ⟨o, ho, hP, _⟩, S₁₁⟩ := S.1.freeze
      have S : SS s0 g'' _ s := ⟨S₁₁, S.2⟩
      refine appendL S (by walk_at "at") (fun s S => ?_) (by rw [sizeLine_eq]; omega)
      refine wpAny_execs_nil (wpAny_execs_nil ⟨g'', _, hle', S, _, _, _, rfl, r1, r2, r3, r4, ?_, by omega⟩)
      rw [hsucc]
      exact Paired.snoc (paired_mono (fun _ _ x => x.le hle') q5) ⟨T, _, _, rfl, o, ho, hP⟩
    · rw [if_neg (by simpa using e)]
      rw [if_neg e, List.append_nil] at hsucc
      refine wpAny_execs_nil (wpAny_execs_nil ⟨g', _, Le.refl _, S, _, _, _, rfl, r1, r2, r3, r4, ?_, by omega⟩)
      rw [hsucc]; exact q5
  · rintro g' _ s ⟨l, vs, u1, rfl, q1, q2, q3, q4, q5, q6⟩ hle S
    refine wpAny_execs_cons (wpAny_Return_some (nmL S (by walk_at "mem") (by walk_at "lk") ?_))
    obtain ⟨g'', hle', ⟨o, a, b, _⟩, S₁₁⟩ := S.1.swap.drop.freeze
    exact hQ g'' _ _ (hle.trans hle') ⟨S₁₁, S.2⟩ ⟨_, _, rfl, LstP.plain ⟨o, a, b⟩, paired_mono (fun _ _ x => x.le hle') q5⟩
end
end Mine
end
section
set_option Elab.async false
set_option maxRecDepth 100000
set_option maxHeartbeats 4000000
set_option linter.unusedVariables false
namespace Mine
open PySem PySem.Sre
noncomputable def code1 : Array Nat := #[14, 4, 0, 1, 1, 6, 1, 16, 46, 1]
noncomputable def code2 : Array Nat := #[14, 9, 4, 1, 2, 16, 10, 16, 13, 0, 7, 7, 16, 13, 16, 10, 15, 18, 5, 16, 10, 15, 13, 11, 16, 13, 5, 5, 0, 16, 10, 1, 15, 2, 0, 1]
theorem runFor_done (n : Nat) (m : M) (h : m.outcome.isSome = true) : m.runFor n = m := by
  cases n with
  | zero => rfl
  | succ n => rw [M.runFor, if_pos h]
theorem runFor_add (a b : Nat) (m : M) : m.runFor (a + b) = (m.runFor a).runFor b := by
  induction a generalizing m with
  | zero => rw [Nat.zero_add]; rfl
  | succ a ih =>
    rw [Nat.succ_add, M.runFor, M.runFor]
    by_cases h : m.outcome.isSome = true
    · rw [if_pos h, if_pos h, runFor_done _ _ h]
    · rw [if_neg h, if_neg h, ih]
/-- the machine as it stands at a start s -/
noncomputable def at1 (text : Array Nat) (s : Nat) (first : Bool) (seen : Seen) : M :=
  { code := code1, text, lim := text.size, start := s, lastStart := text.size, wholeText := false, mustAdvance := false, pc := 5, pos := s, handed := s, outermost := first, marks := #[],
    lastmark := -1, lastindex := -1, loops := #[], inner := none, frames := [{ wait := .nextStart, pc := 5, pos := s, outermost := first }], weight := 1, answer := none, seen, outcome := none }
theorem search1 (text : Array Nat) (s : Nat) (hs : s < text.size) : forSearch code1 text 0 s text.size false = at1 text s true (({} : Seen).add 14) := by
  unfold forSearch
  have h : ¬ ((decide (s > text.size) || decide (text.size - s < (header code1).1)) = true) := by
    have h0 : (header code1).1 = 1 := by decide
    rw [h0]; simp; omega
  exact (if_neg h).trans rfl
theorem runFor_step (n : Nat) (m : M) (h : m.outcome = none) : m.runFor (n + 1) = (m.step).runFor n := by
  rw [M.runFor, if_neg (by rw [h]; decide)]
theorem at1_no (text : Array Nat) (s : Nat) (f : Bool) (seen : Seen) (hne : ¬ (s = 0 ∨ text.getD (s - 1) 0 = 10)) :
    (at1 text s f seen).step = { at1 text s f ((seen.add 6).add 44) with answer := some false } := by
  have e : (s == 0 || text.getD (s - 1) 0 == 10) = false := by
    rw [Bool.or_eq_false_iff]; simp only [beq_eq_false_iff_ne]; exact ⟨fun e => hne (.inl e), fun e => hne (.inr e)⟩
  have : (at1 text s f seen).isAt 1 = .ok false := by
    show (Except.ok (s == 0 || text.getD (s - 1) 0 == 10) : Except String Bool) = _
    rw [e]
  show (match (at1 text s f seen).isAt 1 with
    | .error why => (({ at1 text s f (seen.add 6) with } : M)).stick why
    | .ok yes => let m := ({ at1 text s f ((seen.add 6).add 44) with } : M); if yes then { m with pc := m.pc + 2 } else m.say false) = _
  rw [this]; rfl
theorem at1_yes (text : Array Nat) (s : Nat) (f : Bool) (seen : Seen) (h : s = 0 ∨ text.getD (s - 1) 0 = 10) :
    (at1 text s f seen).step = { at1 text s f ((seen.add 6).add 44) with pc := 7 } := by
  have e : (s == 0 || text.getD (s - 1) 0 == 10) = true := by
    rw [Bool.or_eq_true]; simpa using h
  have : (at1 text s f seen).isAt 1 = .ok true := by
    show (Except.ok (s == 0 || text.getD (s - 1) 0 == 10) : Except String Bool) = _
    rw [e]
  show (match (at1 text s f seen).isAt 1 with
    | .error why => (({ at1 text s f (seen.add 6) with } : M)).stick why
    | .ok yes => let m := ({ at1 text s f ((seen.add 6).add 44) with } : M); if yes then { m with pc := m.pc + 2 } else m.say false) = _
  rw [this]; rfl
/-- the answer no at a start: on to the next, or the end -/
theorem no1_next (text : Array Nat) (s : Nat) (f : Bool) (seen : Seen) (pc : Nat) (hs : s < text.size) : ({ at1 text s f seen with pc, answer := some false } : M).step = at1 text (s + 1) false seen := by
  show (if s < text.size then _ else _) = _
  rw [if_pos hs]; rfl
theorem no1_end (text : Array Nat) (s : Nat) (f : Bool) (seen : Seen) (pc : Nat) (hs : ¬ s < text.size) : (({ at1 text s f seen with pc, answer := some false } : M).runFor 2).outcome = some .failed := by
  rw [runFor_step _ _ rfl]
  have : ({ at1 text s f seen with pc, answer := some false } : M).step = { at1 text s f seen with pc := 5, answer := some false, frames := [], weight := 0 } := by
    show (if s < text.size then _ else _) = _
    rw [if_neg hs]; rfl
  rw [this, runFor_step _ _ rfl]
  rfl
theorem lit1_end (text : Array Nat) (s : Nat) (f : Bool) (seen : Seen) (hs : ¬ s < text.size) : ({ at1 text s f seen with pc := 7 } : M).step = { at1 text s f (seen.add 16) with pc := 7, answer := some false } := by
  show (if s ≥ text.size then _ else _) = _
  rw [if_pos (by omega)]; rfl
theorem lit1_no (text : Array Nat) (s : Nat) (f : Bool) (seen : Seen) (hs : s < text.size) (hc : text.getD s 0 ≠ 46) : ({ at1 text s f seen with pc := 7 } : M).step = { at1 text s f (seen.add 16) with pc := 7, answer := some false } := by
  show (if s ≥ text.size then _ else match (Except.ok (text.getD s 0 == 46, seen.add 16) : Except String (Bool × Seen)) with
    | .error why => _
    | .ok (false, seen') => _
    | .ok (true, seen') => _) = _
  rw [if_neg (by omega), show (text.getD s 0 == 46) = false by simpa using hc]; rfl
theorem lit1_yes (text : Array Nat) (s : Nat) (f : Bool) (seen : Seen) (hs : s < text.size) (hc : text.getD s 0 = 46) : ({ at1 text s f seen with pc := 7 } : M).step = { at1 text s f (seen.add 16) with pc := 9, pos := s + 1 } := by
  show (if s ≥ text.size then _ else match (Except.ok (text.getD s 0 == 46, seen.add 16) : Except String (Bool × Seen)) with
    | .error why => _
    | .ok (false, seen') => _
    | .ok (true, seen') => _) = _
  rw [if_neg (by omega), hc]; rfl
/-- what a search comes to -/
structure Hit (m : M) (s e : Nat) : Prop where
  out : ∃ o, m.outcome = some o ∧ (match o with | .matched => True | _ => False)
  start : m.start = s
  handed : m.handed = e
  lm : m.lastmark = -1
  li : m.lastindex = -1
structure Miss (m : M) : Prop where
  out : ∃ o, m.outcome = some o ∧ (match o with | .failed => True | _ => False)
noncomputable def Dot (text : Array Nat) (s : Nat) : Prop := (s = 0 ∨ text.getD (s - 1) 0 = 10) ∧ s < text.size ∧ text.getD s 0 = 46
theorem at1_hit (text : Array Nat) (s : Nat) (f : Bool) (seen : Seen) (h : Dot text s) : Hit ((at1 text s f seen).runFor 5) s (s + 1) := by
  rw [runFor_step _ _ rfl, at1_yes _ _ _ _ h.1, runFor_step _ _ rfl, lit1_yes _ _ _ _ h.2.1 h.2.2, runFor_step _ _ rfl]
  have : ({ at1 text s f (((seen.add 6).add 44).add 16) with pc := 9, pos := s + 1 } : M).step = { at1 text s f ((((seen.add 6).add 44).add 16).add 1) with pc := 9, pos := s + 1, handed := s + 1, answer := some true } := by
    show (if (f && ((false && (s + 1) != text.size) || (false && (s + 1) == s))) = true then _ else _) = _
    rw [if_neg (by simp)]; rfl
  rw [this]
  exact ⟨⟨_, rfl, trivial⟩, rfl, rfl, rfl, rfl⟩
theorem at1_miss (text : Array Nat) (s : Nat) (f : Bool) (seen : Seen) (h : ¬ Dot text s) (hs : s < text.size) : ∃ k seen', k ≤ 3 ∧ (at1 text s f seen).runFor k = at1 text (s + 1) false seen' := by
  by_cases h1 : s = 0 ∨ text.getD (s - 1) 0 = 10
  · have h2 : text.getD s 0 ≠ 46 := fun e => h ⟨h1, hs, e⟩
    refine ⟨3, ((seen.add 6).add 44).add 16, by omega, ?_⟩
    rw [runFor_step _ _ rfl, at1_yes _ _ _ _ h1, runFor_step _ _ rfl, lit1_no _ _ _ _ hs h2, runFor_step _ _ rfl, no1_next _ _ _ _ _ hs]
    rfl
  · refine ⟨2, (seen.add 6).add 44, by omega, ?_⟩
    rw [runFor_step _ _ rfl, at1_no _ _ _ _ h1, runFor_step _ _ rfl]
    exact congrArg (M.runFor 0) (no1_next _ _ _ _ _ hs)
theorem at1_last (text : Array Nat) (s : Nat) (f : Bool) (seen : Seen) (hs : ¬ s < text.size) : Miss ((at1 text s f seen).runFor 4) := by
  by_cases h1 : s = 0 ∨ text.getD (s - 1) 0 = 10
  · rw [runFor_step _ _ rfl, at1_yes _ _ _ _ h1, runFor_step _ _ rfl, lit1_end _ _ _ _ hs]
    exact ⟨⟨_, no1_end _ _ _ _ _ hs, trivial⟩⟩
  · rw [runFor_step _ _ rfl, at1_no _ _ _ _ h1]
    rw [show (3 : Nat) = 2 + 1 from rfl, runFor_add]
    have := no1_end text s f ((seen.add 6).add 44) 5 hs
    rw [runFor_done _ _ (by rw [show ({ at1 text s f ((seen.add 6).add 44) with answer := some false } : M) = { at1 text s f ((seen.add 6).add 44) with pc := 5, answer := some false } from rfl, this]; rfl)]
    exact ⟨⟨_, this, trivial⟩⟩
/-- the next dot that opens a line, at s or behind it -/
theorem search1_at (text : Array Nat) : ∀ (n s : Nat) (f : Bool) (seen : Seen), text.size - s ≤ n → s ≤ text.size →
    (∃ e k, s ≤ e ∧ (∀ i, s ≤ i → i < e → ¬ Dot text i) ∧ Dot text e ∧ k ≤ 3 * n + 5 ∧ Hit ((at1 text s f seen).runFor k) e (e + 1)) ∨
    ((∀ i, s ≤ i → ¬ Dot text i) ∧ ∃ k, k ≤ 3 * n + 5 ∧ Miss ((at1 text s f seen).runFor k)) := by
  intro n
  induction n with
  | zero =>
    intro s f seen hn hs
    exact .inr ⟨fun i hi h => by have := h.2.1; omega, 4, by omega, at1_last _ _ _ _ (by omega)⟩
  | succ n ih =>
    intro s f seen hn hs
    by_cases h : Dot text s
    · exact .inl ⟨s, 5, Nat.le_refl _, fun i h1 h2 => by omega, h, by omega, at1_hit _ _ _ _ h⟩
    · by_cases hlt : s < text.size
      · obtain ⟨k, seen', hk, e⟩ := at1_miss text s f seen h hlt
        have step : ∀ k', (at1 text s f seen).runFor (k + k') = (at1 text (s + 1) false seen').runFor k' := fun k' => by rw [runFor_add, e]
        rcases ih (s + 1) false seen' (by omega) (by omega) with ⟨e', k', h1, h2, h3, h4, h5⟩ | ⟨h1, k', h4, h5⟩
        · exact .inl ⟨e', k + k', by omega, fun i a b => by
            by_cases q : i = s
            · subst q; exact h
            · exact h2 i (by omega) b, h3, by omega, by rw [step]; exact h5⟩
        · exact .inr ⟨fun i a => by
            by_cases q : i = s
            · subst q; exact h
            · exact h1 i (by omega), k + k', by omega, by rw [step]; exact h5⟩
      · exact .inr ⟨fun i hi h => by have := h.2.1; omega, 4, by omega, at1_last _ _ _ _ hlt⟩
/-! the second pattern -/
noncomputable def S2 (text : Array Nat) (s : Nat) (frames : List Sre.Frame) (weight pc pos handed : Nat) (om : Bool) (answer : Option Bool) (seen : Seen) : M :=
  { code := code2, text, lim := text.size, start := s, lastStart := text.size, wholeText := false, mustAdvance := false, pc, pos, handed, outermost := om, marks := #[],
    lastmark := -1, lastindex := -1, loops := #[], inner := none, frames, weight, answer, seen, outcome := none }
section
variable {text : Array Nat} {s : Nat} {fr : List Sre.Frame} {wt pc pos hd : Nat} {om : Bool} {seen : Seen}
theorem lit2_ok (c : Nat) (hpc : (pc = 12 ∧ c = 13) ∨ (pc = 14 ∧ c = 10) ∨ (pc = 19 ∧ c = 10) ∨ (pc = 24 ∧ c = 13) ∨ (pc = 29 ∧ c = 10)) (hs : pos < text.size) (hc : text.getD pos 0 = c) :
    (S2 text s fr wt pc pos hd om none seen).step = S2 text s fr wt (pc + 2) (pos + 1) hd om none (seen.add 16) := by
  rcases hpc with ⟨rfl, rfl⟩ | ⟨rfl, rfl⟩ | ⟨rfl, rfl⟩ | ⟨rfl, rfl⟩ | ⟨rfl, rfl⟩
  all_goals
    show (if pos ≥ text.size then _ else match (Except.ok (text.getD pos 0 == _, seen.add 16) : Except String (Bool × Seen)) with
      | .error why => _
      | .ok (false, seen') => _
      | .ok (true, seen') => _) = _
    rw [if_neg (by omega), hc]; rfl
theorem lit2_no13 (hpc : pc = 12 ∨ pc = 24) (hs : ¬ (pos < text.size ∧ text.getD pos 0 = 13)) :
    (S2 text s fr wt pc pos hd om none seen).step = S2 text s fr wt pc pos hd om (some false) (seen.add 16) := by
  by_cases hlt : pos < text.size
  · have hc : text.getD pos 0 ≠ 13 := fun e => hs ⟨hlt, e⟩
    rcases hpc with rfl | rfl
    all_goals
      show (if pos ≥ text.size then _ else match (Except.ok (text.getD pos 0 == 13, seen.add 16) : Except String (Bool × Seen)) with
        | .error why => _
        | .ok (false, seen') => _
        | .ok (true, seen') => _) = _
      rw [if_neg (by omega), beq_eq_false_iff_ne.mpr hc]; rfl
  · rcases hpc with rfl | rfl
    all_goals
      show (if pos ≥ text.size then _ else _) = _
      rw [if_pos (by omega)]; rfl
theorem lit2_no10 (hpc : pc = 14 ∨ pc = 19 ∨ pc = 29) (hs : ¬ (pos < text.size ∧ text.getD pos 0 = 10)) :
    (S2 text s fr wt pc pos hd om none seen).step = S2 text s fr wt pc pos hd om (some false) (seen.add 16) := by
  by_cases hlt : pos < text.size
  · have hc : text.getD pos 0 ≠ 10 := fun e => hs ⟨hlt, e⟩
    rcases hpc with rfl | rfl | rfl
    all_goals
      show (if pos ≥ text.size then _ else match (Except.ok (text.getD pos 0 == 10, seen.add 16) : Except String (Bool × Seen)) with
        | .error why => _
        | .ok (false, seen') => _
        | .ok (true, seen') => _) = _
      rw [if_neg (by omega), beq_eq_false_iff_ne.mpr hc]; rfl
  · rcases hpc with rfl | rfl | rfl
    all_goals
      show (if pos ≥ text.size then _ else _) = _
      rw [if_pos (by omega)]; rfl
theorem jump2 (hpc : pc = 16 ∨ pc = 21 ∨ pc = 32) : (S2 text s fr wt pc pos hd om none seen).step = S2 text s fr wt 35 pos hd om none (seen.add 15) := by
  rcases hpc with rfl | rfl | rfl <;> rfl
theorem succ2 : (S2 text s fr wt 35 pos hd om none seen).step = S2 text s fr wt 35 pos pos om (some true) (seen.add 1) := by
  show (if (om && ((false && pos != text.size) || (false && pos == s))) = true then _ else _) = _
  rw [if_neg (by simp)]; rfl
end
noncomputable def fS (s : Nat) (om : Bool) : Sre.Frame := { wait := .nextStart, pc := 10, pos := s, outermost := om }
noncomputable def fB (s pc : Nat) (om : Bool) : Sre.Frame := { wait := .nextBranch, pc, pos := s, outermost := om, kept := { lastmark := -1, lastindex := -1, whole := false, marks := #[] } }
noncomputable def fN (s : Nat) (om : Bool) : Sre.Frame := { wait := .lookNot, pc := 26, pos := s, outermost := om, kept := { lastmark := -1, lastindex := -1, whole := false, marks := #[] } }
section
variable {text : Array Nat} {s : Nat} {om : Bool} {seen : Seen}
theorem br2 : (S2 text s [fS s om] 1 10 s s om none seen).step = S2 text s [fB s 11 om, fS s om] 2 12 s s om none (seen.add 7) := rfl
theorem alt2a {pc hd pos : Nat} {om' : Bool} : (S2 text s [fB s 11 om, fS s om] 2 pc pos hd om' (some false) seen).step = S2 text s [fB s 18 om, fS s om] 2 19 s s om none seen := rfl
theorem alt2b {pc hd pos : Nat} {om' : Bool} : (S2 text s [fB s 18 om, fS s om] 2 pc pos hd om' (some false) seen).step = S2 text s [fB s 23 om, fS s om] 2 24 s s om none seen := rfl
theorem asn2 {pos hd : Nat} : (S2 text s [fB s 23 om, fS s om] 2 26 pos hd om none seen).step = S2 text s [fN pos om, fB s 23 om, fS s om] 3 29 pos pos false none (seen.add 5) := rfl
theorem asn2' {pos pos' pc hd : Nat} {om' : Bool} : (S2 text s [fN pos om, fB s 23 om, fS s om] 3 pc pos' hd om' (some false) seen).step = S2 text s [fB s 23 om, fS s om] 2 32 pos hd om none seen := rfl
theorem end2 {b pc pos hd : Nat} {om' : Bool} : Hit ((S2 text s [fB s b om, fS s om] 2 pc pos hd om' (some true) seen).runFor 3) s hd := ⟨⟨_, rfl, trivial⟩, rfl, rfl, rfl, rfl⟩
end
noncomputable def len2 (text : Array Nat) (s : Nat) : Nat := if text.getD s 0 = 13 ∧ s + 1 < text.size ∧ text.getD (s + 1) 0 = 10 then 2 else 1
noncomputable def Brk (text : Array Nat) (s : Nat) : Prop := s < text.size ∧ (text.getD s 0 = 10 ∨ text.getD s 0 = 13)
theorem at2_hit (text : Array Nat) (s : Nat) (om : Bool) (seen : Seen) (h : Brk text s) : ∃ k, k ≤ 20 ∧ Hit ((S2 text s [fS s om] 1 10 s s om none seen).runFor k) s (s + len2 text s) := by
  obtain ⟨hs, hc⟩ := h
  by_cases h13 : text.getD s 0 = 13
  · by_cases hn : s + 1 < text.size ∧ text.getD (s + 1) 0 = 10
    · refine ⟨5 + 3, by omega, ?_⟩
      rw [len2, if_pos ⟨h13, hn⟩, runFor_step _ _ rfl, br2, runFor_step _ _ rfl, lit2_ok 13 (by simp) hs h13, runFor_step _ _ rfl, lit2_ok 10 (by simp) hn.1 hn.2, runFor_step _ _ rfl, jump2 (by simp), runFor_step _ _ rfl, succ2]
      exact end2
    · refine ⟨12 + 3, by omega, ?_⟩
      rw [len2, if_neg (fun q => hn q.2), runFor_step _ _ rfl, br2, runFor_step _ _ rfl, lit2_ok 13 (by simp) hs h13, runFor_step _ _ rfl, lit2_no10 (by simp) hn, runFor_step _ _ rfl, alt2a,
        runFor_step _ _ rfl, lit2_no10 (by simp) (fun q => by rw [h13] at q; exact absurd q.2 (by decide)), runFor_step _ _ rfl, alt2b, runFor_step _ _ rfl, lit2_ok 13 (by simp) hs h13,
        runFor_step _ _ rfl, asn2, runFor_step _ _ rfl, lit2_no10 (by simp) hn, runFor_step _ _ rfl, asn2', runFor_step _ _ rfl, jump2 (by simp), runFor_step _ _ rfl, succ2]
      exact end2
  · have h10 : text.getD s 0 = 10 := hc.resolve_right h13
    refine ⟨6 + 3, by omega, ?_⟩
    rw [len2, if_neg (fun q => h13 q.1), runFor_step _ _ rfl, br2, runFor_step _ _ rfl, lit2_no13 (by simp) (fun q => h13 q.2), runFor_step _ _ rfl, alt2a, runFor_step _ _ rfl, lit2_ok 10 (by simp) hs h10,
      runFor_step _ _ rfl, jump2 (by simp), runFor_step _ _ rfl, succ2]
    exact end2
/-! the search of the second pattern -/
theorem inSet2 (c : Nat) (seen : Seen) : ∃ seen', inSet code2 c code2.size 5 true seen = .ok (c == 10 || c == 13, seen') := by
  show ∃ seen', (if (c == 10) = true then (Except.ok (true, seen.add 16) : Except String (Bool × Seen)) else (if (c == 13) = true then .ok (true, (seen.add 16).add 16) else .ok (false, ((seen.add 16).add 16).add 0))) = _
  cases c == 10 <;> cases c == 13 <;> exact ⟨_, rfl⟩
noncomputable def m2 (text : Array Nat) (s s0 : Nat) (seen : Seen) : M :=
  { code := code2, text, lim := text.size, start := s, lastStart := text.size, wholeText := false, mustAdvance := false, pc := 10, pos := s0, handed := s0, outermost := true, marks := #[],
    lastmark := -1, lastindex := -1, loops := #[], inner := none, frames := [], weight := 0, answer := none, seen, outcome := none }
theorem admitted2 (text : Array Nat) (m : M) (hc : m.code = code2) (ht : m.text = text) (hl : m.lim = text.size) : ∀ (fuel s : Nat) (seen : Seen), text.size < s + fuel →
    (∃ e seen', s ≤ e ∧ (∀ i, s ≤ i → i < e → ¬ Brk text i) ∧ Brk text e ∧ m.admitted fuel s seen = .ok (some e, seen')) ∨ ((∀ i, s ≤ i → ¬ Brk text i) ∧ ∃ seen', m.admitted fuel s seen = .ok (none, seen')) := by
  intro fuel
  induction fuel with
  | zero => intro s seen h; exact .inr ⟨fun i hi b => by have := b.1; omega, seen, rfl⟩
  | succ n ih =>
    intro s seen h
    by_cases hs : s < text.size
    · obtain ⟨seen', e⟩ := inSet2 (text.getD s 0) seen
      by_cases hb : text.getD s 0 = 10 ∨ text.getD s 0 = 13
      · have hq : (text.getD s 0 == 10 || text.getD s 0 == 13) = true := by simpa using hb
        have step : m.admitted (n + 1) s seen = .ok (some s, seen') := by rw [M.admitted, if_neg (by rw [hl]; omega), hc, ht, e, hq]
        rw [step]
        exact .inl ⟨s, seen', Nat.le_refl _, fun i a b => by omega, ⟨hs, hb⟩, rfl⟩
      · have hq : (text.getD s 0 == 10 || text.getD s 0 == 13) = false := by simpa using hb
        have step : m.admitted (n + 1) s seen = m.admitted n (s + 1) seen' := by rw [M.admitted, if_neg (by rw [hl]; omega), hc, ht, e, hq]
        rw [step]
        have hno : ∀ i, s ≤ i → i < s + 1 → ¬ Brk text i := fun i a b q => by
          obtain rfl : i = s := by omega
          exact hb q.2
        rcases ih (s + 1) seen' (by omega) with ⟨e', seen'', h1, h2, h3, h4⟩ | ⟨h1, seen'', h4⟩
        · exact .inl ⟨e', seen'', by omega, fun i a b => by
            by_cases q : i < s + 1
            · exact hno i a q
            · exact h2 i (by omega) b, h3, h4⟩
        · exact .inr ⟨fun i a => by
            by_cases q : i < s + 1
            · exact hno i a q
            · exact h1 i (by omega), seen'', h4⟩
    · refine .inr ⟨fun i hi b => by have := b.1; omega, seen, ?_⟩
      rw [M.admitted, if_pos (by rw [hl]; omega)]
theorem search2 (text : Array Nat) (s : Nat) (hs : s ≤ text.size) :
    (∃ e k, s ≤ e ∧ (∀ i, s ≤ i → i < e → ¬ Brk text i) ∧ Brk text e ∧ k ≤ 20 ∧ Hit ((forSearch code2 text 0 s text.size false).runFor k) e (e + len2 text e)) ∨
    ((∀ i, s ≤ i → ¬ Brk text i) ∧ Miss ((forSearch code2 text 0 s text.size false).runFor 1)) := by
  by_cases hlt : s < text.size
  · have e0 : forSearch code2 text 0 s text.size false = (m2 text s s (({} : Seen).add 14)).attemptFrom s true := by
      unfold forSearch
      have h : ¬ ((decide (s > text.size) || decide (text.size - s < (header code2).1)) = true) := by
        have h0 : (header code2).1 = 1 := by decide
        rw [h0]; simp; omega
      exact (if_neg h).trans rfl
    have e1 : (m2 text s s (({} : Seen).add 14)).attemptFrom s true = match (m2 text s s (({} : Seen).add 14)).admitted (text.size + 1 - s) s (({} : Seen).add 14) with
        | .ok (some s', seen) => ({ m2 text s s seen with mustAdvance := false } : M).attemptAt s' true
        | .ok (none, seen) => ({ m2 text s s seen with } : M).say false
        | .error why => (m2 text s s (({} : Seen).add 14)).stick why := rfl
    rcases admitted2 text (m2 text s s (({} : Seen).add 14)) rfl rfl rfl (text.size + 1 - s) s (({} : Seen).add 14) (by omega) with ⟨e, seen', h1, h2, h3, h4⟩ | ⟨h1, seen', h4⟩
    · rw [h4] at e1
      have e2 : ({ m2 text s s seen' with mustAdvance := false } : M).attemptAt e true = S2 text e [fS e true] 1 10 e e true none seen' := rfl
      obtain ⟨k, hk, hh⟩ := at2_hit text e true seen' h3
      exact .inl ⟨e, k, h1, h2, h3, hk, by rw [e0, e1]; exact hh⟩
    · rw [h4] at e1
      refine .inr ⟨h1, ?_⟩
      rw [e0, e1]
      exact ⟨⟨_, rfl, trivial⟩⟩
  · refine .inr ⟨fun i hi b => by have := b.1; omega, ?_⟩
    have e0 : forSearch code2 text 0 s text.size false = ({ m2 text s s (({} : Seen).add 14) with lastStart := 0 } : M).say false := by
      unfold forSearch
      have h : ((decide (s > text.size) || decide (text.size - s < (header code2).1)) = true) := by
        have h0 : (header code2).1 = 1 := by decide
        rw [h0]; simp; omega
      exact (if_pos h).trans rfl
    rw [e0]
    exact ⟨⟨_, rfl, trivial⟩⟩
theorem search1' (text : Array Nat) (s : Nat) (hs : s ≤ text.size) :
    (∃ e k, s ≤ e ∧ (∀ i, s ≤ i → i < e → ¬ Dot text i) ∧ Dot text e ∧ k ≤ 3 * text.size + 5 ∧ Hit ((forSearch code1 text 0 s text.size false).runFor k) e (e + 1)) ∨
    ((∀ i, s ≤ i → ¬ Dot text i) ∧ ∃ k, k ≤ 3 * text.size + 5 ∧ Miss ((forSearch code1 text 0 s text.size false).runFor k)) := by
  by_cases hlt : s < text.size
  · rw [search1 text s hlt]
    exact search1_at text text.size s true _ (by omega) hs
  · refine .inr ⟨fun i hi b => by have := b.2.1; omega, 1, by omega, ?_⟩
    have e0 : forSearch code1 text 0 s text.size false = ({ at1 text s true (({} : Seen).add 14) with lastStart := 0, frames := [], weight := 0 } : M).say false := by
      unfold forSearch
      have h : ((decide (s > text.size) || decide (text.size - s < (header code1).1)) = true) := by
        have h0 : (header code1).1 = 1 := by decide
        rw [h0]; simp; omega
      exact (if_pos h).trans rfl
    rw [e0]
    exact ⟨⟨_, rfl, trivial⟩⟩
end Mine
end
section
open PySem PySem.W PySem.Spec PySem.Calls PyProof.Rows
open PySem.Builtin.Re
set_option Elab.async false
set_option maxRecDepth 100000
set_option maxHeartbeats 4000000
set_option linter.unusedVariables false
namespace Mine
theorem slot_re_search : Slot "re.Pattern" "search" "re.Pattern.search" :=
  .of (owner := "re.Pattern") (n := "search") (by rw [typeLookup_type, builtinLookup_eq_fast]; kernel_rfl) (by decide +kernel) (by decide +kernel) (by decide +kernel)
    (by first | exact .inl (by decide +kernel) | exact .inr (by decide +kernel)) (by rw [isSubtype_type]; kernel_rfl)
theorem type_re_search : typeOf (.builtin "re.Pattern.search") = pure (.type "method_descriptor") := by show builtinType _ = _; rw [builtinType_eq_fast]; kernel_rfl
theorem entry_re_search : entryFor table "re.Pattern.search" = some Builtin.«re.Pattern.search» := entryFor_of_tree (by kernel_rfl)
theorem args_re_search (a b : Value) : argsOk "re.Pattern.search" ⟨[a, b], []⟩ := by unfold argsOk; kernel_rfl
theorem slot_re_sub : Slot "re.Pattern" "sub" "re.Pattern.sub" :=
  .of (owner := "re.Pattern") (n := "sub") (by rw [typeLookup_type, builtinLookup_eq_fast]; kernel_rfl) (by decide +kernel) (by decide +kernel) (by decide +kernel)
    (by first | exact .inl (by decide +kernel) | exact .inr (by decide +kernel)) (by rw [isSubtype_type]; kernel_rfl)
theorem type_re_sub : typeOf (.builtin "re.Pattern.sub") = pure (.type "method_descriptor") := by show builtinType _ = _; rw [builtinType_eq_fast]; kernel_rfl
theorem entry_re_sub : entryFor table "re.Pattern.sub" = some Builtin.«re.Pattern.sub» := entryFor_of_tree (by kernel_rfl)
theorem entry_re_loop : entryFor table "re.Pattern.sub.loop" = some Builtin.«re.Pattern.sub.loop» := entryFor_of_tree (by kernel_rfl)
theorem args_re_sub (a b c : Value) : argsOk "re.Pattern.sub" ⟨[a, b, c], []⟩ := by unfold argsOk; kernel_rfl
theorem plain_re : PlainAttrs "re.Pattern" :=
  ⟨⟨"object.__getattribute__", by rw [typeLookup_type, builtinLookup_eq_fast]; kernel_rfl, by decide +kernel⟩, by rw [typeLookup_type, builtinLookup_eq_fast]; kernel_rfl⟩
theorem plain_re_loop : plainId "re.Pattern.sub.loop" = true := by decide +kernel
end Mine
end
section
open PySem PySem.W PySem.Spec PySem.Calls PyProof.Rows
open PySem.Builtin.Re
set_option Elab.async false
set_option maxRecDepth 100000
set_option maxHeartbeats 4000000
set_option linter.unusedVariables false
namespace Mine
section
variable {M : Model} {A : Around} {E : Value → Shared → Prop} {s : Shared}
theorem wp_drive : ∀ (n turns : Nat) (m : Sre.M) {Q : Sre.M → Shared → Prop}, n < turns → (m.runFor (4 * n)).outcome.isSome = true → Q (m.runFor (4 * n)) s → wpAny M A (reDrive turns m) Q E s := by
  intro n
  induction n with
  | zero =>
    intro turns m Q ht hd h
    cases turns with
    | zero => omega
    | succ t =>
      have e : m.runFor 4 = m := runFor_done _ _ hd
      unfold reDrive
      show wpAny M A (if (m.runFor 4).outcome.isSome = true then pure (m.runFor 4) else _) Q E s
      rw [e]
      have hd' : m.outcome.isSome = true := hd
      rw [if_pos hd']
      exact wpAny_pure h
  | succ n ih =>
    intro turns m Q ht hd h
    cases turns with
    | zero => omega
    | succ t =>
      have e : m.runFor (4 * (n + 1)) = (m.runFor 4).runFor (4 * n) := by rw [← runFor_add]; congr 1; omega
      unfold reDrive
      show wpAny M A (if (m.runFor 4).outcome.isSome = true then pure (m.runFor 4) else (rule "sre.turn" >>= fun _ => reDrive t (m.runFor 4))) Q E s
      by_cases q : (m.runFor 4).outcome.isSome = true
      · rw [if_pos q]
        rw [e, runFor_done _ _ q] at h
        exact wpAny_pure h
      · rw [if_neg q]
        exact wpAny_bind (wpAny_rule (ih t (m.runFor 4) (by omega) (by rw [← e]; exact hd) (by rw [← e]; exact h)))
theorem wp_seen {c : Nat → Bool} {t : Nat → String} : ∀ (l : List Nat) {Q : PUnit → Shared → Prop}, Q ⟨⟩ s → wpAny M A (forIn l PUnit.unit fun i r => if c i = true then (do rule (t i); pure (ForInStep.yield PUnit.unit)) else pure (ForInStep.yield PUnit.unit)) Q E s := by
  intro l Q h
  refine wpAny_forIn_list _ (fun _ _ s' => s' = s) _ (fun x rest b s' e => ?_) (fun b s' e => ?_) l _ rfl
  · subst e
    by_cases q : c x = true
    · rw [if_pos q]; exact wpAny_bind (wpAny_rule (wpAny_pure rfl))
    · rw [if_neg q]; exact wpAny_pure rfl
  · subst e; exact h
theorem wp_hit {m : Sre.M} {k b e : Nat} {Q : Option Sre.M → Shared → Prop} (hk : k < 2 ^ 60) (h : Hit (m.runFor k) b e) (hQ : ∀ m', Hit m' b e → Q (some m') s) : wpAny M A (reRunToEnd m) Q E s := by
  have e4 : m.runFor (4 * k) = m.runFor k := by
    have : 4 * k = k + 3 * k := by omega
    rw [this, runFor_add, runFor_done]
    obtain ⟨o, ho, _⟩ := h.out; rw [ho]; rfl
  unfold reRunToEnd
  refine wpAny_bind (wp_drive k (2 ^ 64) m (by omega) (by rw [e4]; obtain ⟨o, ho, _⟩ := h.out; rw [ho]; rfl) ?_)
  rw [e4]
  refine wpAny_bind ?_
  refine wp_seen (c := fun i => (m.runFor k).seen.has i) (t := fun i => Sre.names.getD i "") _ ?_
  obtain ⟨o, ho, hm⟩ := h.out
  rw [ho]
  cases o with
  | matched => exact wpAny_pure (hQ _ h)
  | failed => cases hm
  | stuck => cases hm
theorem wp_miss {m : Sre.M} {k : Nat} {Q : Option Sre.M → Shared → Prop} (hk : k < 2 ^ 60) (h : Miss (m.runFor k)) (hQ : Q none s) : wpAny M A (reRunToEnd m) Q E s := by
  have e4 : m.runFor (4 * k) = m.runFor k := by
    have : 4 * k = k + 3 * k := by omega
    rw [this, runFor_add, runFor_done]
    obtain ⟨o, ho, _⟩ := h.out; rw [ho]; rfl
  unfold reRunToEnd
  refine wpAny_bind (wp_drive k (2 ^ 64) m (by omega) (by rw [e4]; obtain ⟨o, ho, _⟩ := h.out; rw [ho]; rfl) ?_)
  rw [e4]
  refine wpAny_bind ?_
  refine wp_seen (c := fun i => (m.runFor k).seen.has i) (t := fun i => Sre.names.getD i "") _ ?_
  obtain ⟨o, ho, hm⟩ := h.out
  rw [ho]
  cases o with
  | matched => cases hm
  | failed => exact wpAny_pure hQ
  | stuck => cases hm
/-- a compiled pattern of the text -/
structure Pat (h : Heap) (a : Addr) (code : Array Nat) : Prop where
  obj : ∃ o p f c, h.get? a = some o ∧ o.cls = .type "re.Pattern" ∧ o.dict = none ∧ o.data = .fields #[p, f, .int 0 0, .none, .none, .ref c, .int 0 0] ∧ ∃ oc items n, h.get? c = some oc ∧ oc.data = .seq items n ∧ (items.map reRawOf).map (·.toNat) = code
theorem Pat.le {h h' : Heap} {a : Addr} {code : Array Nat} (x : Pat h a code) (l : Le h h') : Pat h' a code :=
  let ⟨o, p, f, c, a1, a2, a3, a4, oc, it, n, b1, b2, b3⟩ := x.obj; ⟨⟨o, p, f, c, l _ _ a1, a2, a3, a4, oc, it, n, l _ _ b1, b2, b3⟩⟩
theorem wp_whole {a : Addr} {code : Array Nat} {x : Str} {t : Tok} {Q : ReTarget → Shared → Prop} (P : Pat s.heap a code)
    (h : Q { pattern := .ref a, string := .str x t, code, text := x.cps, kind := 0, groups := 0, pos := 0, lim := x.cps.size } s) : wpAny M A (reWholeTarget (.ref a) (.str x t)) Q E s := by
  obtain ⟨o, p, f, c, a1, a2, a3, a4, oc, it, n, b1, b2, b3⟩ := P.obj
  unfold reWholeTarget
  refine wpAny_bind (wpAny_fieldsOf a1 a4 ?_)
  refine wpAny_bind (m := reTextOf (.str x t)) (wpAny_pure ?_)
  show wpAny M A (reNoCollectionInside (.str x t) 0 >>= fun _ => reRawItems (.ref c) >>= fun r => pure ({ pattern := .ref a, string := .str x t, code := r.map (·.toNat), text := x.cps, kind := 0, groups := 0, pos := 0, lim := x.cps.size } : ReTarget)) Q E s
  refine wpAny_bind (m := reNoCollectionInside (.str x t) 0) (wpAny_pure ?_)
  unfold reRawItems
  refine wpAny_bind (wpAny_bind (wpAny_seqItems b1 b2 (wpAny_pure (wpAny_pure ?_))))
  show Q { pattern := .ref a, string := .str x t, code := ((it.map reRawOf).map (·.toNat)), text := x.cps, kind := 0, groups := 0, pos := 0, lim := x.cps.size } s
  rw [b3]; exact h
/-- the search of a pattern: what must be so of its code -/
noncomputable def Srch (code text : Array Nat) (P : Nat → Prop) (ln : Nat → Nat) : Prop := ∀ s, s ≤ text.size →
  (∃ e k, s ≤ e ∧ (∀ i, s ≤ i → i < e → ¬ P i) ∧ P e ∧ e + ln e ≤ text.size ∧ 0 < ln e ∧ k < 2 ^ 60 ∧ Hit ((Sre.forSearch code text 0 s text.size false).runFor k) e (e + ln e)) ∨
  ((∀ i, s ≤ i → i < text.size → ¬ P i) ∧ ∃ k, k < 2 ^ 60 ∧ Miss ((Sre.forSearch code text 0 s text.size false).runFor k))
theorem srch1 (text : Array Nat) (hsz : text.size < 2 ^ 50) : Srch code1 text (Dot text) (fun _ => 1) := fun s hs => by
  rcases search1' text s hs with ⟨e, k, h1, h2, h3, h4, h5⟩ | ⟨h1, k, h2, h3⟩
  · exact .inl ⟨e, k, h1, h2, h3, h3.2.1, Nat.one_pos, by omega, h5⟩
  · exact .inr ⟨fun i a _ => h1 i a, k, by omega, h3⟩
theorem srch2 (text : Array Nat) : Srch code2 text (Brk text) (len2 text) := fun s hs => by
  rcases search2 text s hs with ⟨e, k, h1, h2, h3, h4, h5⟩ | ⟨h1, h3⟩
  · refine .inl ⟨e, k, h1, h2, h3, ?_, ?_, by omega, h5⟩
    · unfold len2; split
      · rename_i q; omega
      · exact h3.1
    · unfold len2; split <;> omega
  · exact .inr ⟨fun i a _ => h1 i a, 1, by omega, h3⟩
end
/-- what the substitution makes of the text from i on -/
noncomputable def subF (P : Nat → Bool) (ln : Nat → Nat) (text repl : List Nat) : Nat → Nat → List Nat
  | 0, _ => []
  | fuel + 1, i => if i < text.length then (if P i then repl ++ subF P ln text repl fuel (i + ln i) else text.getD i 0 :: subF P ln text repl fuel (i + 1)) else []
section
variable {P : Nat → Bool} {ln : Nat → Nat} {T R : List Nat}
theorem subF_fuel (hln : ∀ i, 0 < ln i) : ∀ (f1 f2 i : Nat), T.length < i + f1 → T.length < i + f2 → subF P ln T R f1 i = subF P ln T R f2 i := by
  intro f1
  induction f1 with
  | zero =>
    intro f2 i h1 h2
    cases f2 with
    | zero => rfl
    | succ f2 => rw [subF, subF, if_neg (by omega)]
  | succ f1 ih =>
    intro f2 i h1 h2
    cases f2 with
    | zero => rw [subF, subF, if_neg (by omega)]
    | succ f2 =>
      have := hln i
      rw [subF, subF, ih f2 (i + ln i) (by omega) (by omega), ih f2 (i + 1) (by omega) (by omega)]
theorem subF_skip (hln : ∀ i, 0 < ln i) : ∀ (n i : Nat), (∀ j, i ≤ j → j < i + n → P j = false) → i + n ≤ T.length → subF P ln T R (T.length + 1 - i) i = (T.drop i).take n ++ subF P ln T R (T.length + 1 - (i + n)) (i + n) := by
  intro n
  induction n with
  | zero => intro i _ _; simp
  | succ n ih =>
    intro i hP hl
    have e1 : T.length + 1 - i = (T.length - i) + 1 := by omega
    rw [e1, subF, if_pos (by omega), hP i (Nat.le_refl _) (by omega)]
    simp only [Bool.false_eq_true, if_false]
    rw [subF_fuel hln (T.length - i) (T.length + 1 - (i + 1)) (i + 1) (by omega) (by omega), ih (i + 1) (fun j a b => hP j (by omega) (by omega)) (by omega)]
    have e2 : i + 1 + n = i + (n + 1) := by omega
    rw [e2, List.drop_eq_getElem_cons (show i < T.length by omega), List.take_succ_cons, List.cons_append]
    congr 1
    simp [List.getD, List.getElem?_eq_getElem (show i < T.length by omega)]
theorem subF_hit (hln : ∀ i, 0 < ln i) (i : Nat) (hP : P i = true) (hi : i < T.length) : subF P ln T R (T.length + 1 - i) i = R ++ subF P ln T R (T.length + 1 - (i + ln i)) (i + ln i) := by
  have e1 : T.length + 1 - i = (T.length - i) + 1 := by omega
  have := hln i
  rw [e1, subF, if_pos hi, hP]
  simp only [if_true]
  by_cases q : T.length < i + ln i
  · rw [subF_fuel hln (T.length - i) (T.length + 1 - (i + ln i)) (i + ln i) (by omega) (by omega)]
  · rw [subF_fuel hln (T.length - i) (T.length + 1 - (i + ln i)) (i + ln i) (by omega) (by omega)]
theorem subF_end : subF P ln T R (T.length + 1 - T.length) T.length = [] := by
  rw [show T.length + 1 - T.length = 0 + 1 by omega, subF, if_neg (by omega)]
end
theorem join_flat (sep : Str) (h : sep.cps = #[]) : ∀ ys : List Str, (Str.join sep ys).cps.toList = (ys.map (·.cps.toList)).flatten
  | [] => rfl
  | [x] => by simp [Str.join]
  | x :: y :: r => by
    rw [Str.join, Str.cps_append, Str.cps_append, h]
    have := join_flat sep h (y :: r)
    simp only [Array.append_empty, Array.toList_append, this, List.map_cons, List.flatten_cons]
    simp
theorem strs_snoc {vs : List Value} {zs : List Str} {z : Str} {t : Tok} (h : StrsAre vs zs) : StrsAre (vs ++ [.str z t]) (zs ++ [z]) := by
  induction h with
  | nil => exact .cons _ _ .nil
  | cons a b _ ih => exact .cons _ _ ih
noncomputable def subTail (x : Str) (D : Addr) (cnt : Int) : Sem Fin := do
  let joiner ← reSlice x.cps 0 0 0
  let text ← if ((← seqItems? (.ref D)).getD #[]).isEmpty then pure joiner else call (.builtin (if (0 : Nat) == 0 then "str.join" else "bytes.join")) [joiner, .ref D]
  if false then ret (← holding [text] do newTuple [text, ← mkInt cnt]) else ret text
noncomputable abbrev loopArgs (a D : Addr) (x rp : Str) (t u : Tok) (cnt : Int) (start : Nat) : Args :=
  ⟨[.ref a, .str x t, .str rp u, rawInt 0, rawInt 0, rawInt cnt, rawInt start, rawInt start, .bool false, .ref D, .bool false], []⟩
section
variable {prog : Program} {w : World} {A : Around} {E : Value → Shared → Prop} {s0 s : Shared} {g : Heap} {pts : List PO}
theorem pushL {D : Addr} {vs : List Value} {v : Value} {Q : Unit → Shared → Prop} (S : SS s0 g ((D, LstP vs) :: pts) s) (hsz : vs.length ≤ 1000000) (h : ∀ s', SS s0 g ((D, LstP (vs ++ [v])) :: pts) s' → Q () s') :
    wpAny (model prog w) A (updateSeq D (·.push v)) Q E s := by
  obtain ⟨o, ho, n, rfl⟩ := (S.1.own _ (.head _)).1
  refine wpAny_updateSeq ho rfl (h _ ⟨S.1.upd (At.here (P := LstP vs)) (fun b o hb e => (Heap.SameBut.update s.heap D _).extBut b o hb e) ⟨_, Heap.get?_update_self _ ho (by rw [Obj.mapSeq_push_plain]; rfl), n + 1, ?_⟩, S.2.trans Sh.mk1⟩) (by rw [sizeLine_eq]; simp; omega) (by rw [sizeLine_eq]; simp; omega)
  rw [Obj.mapSeq_push_plain]; simp
theorem slice_str {x : Str} {b e : Nat} {Q : Value → Shared → Prop} (hx : x.cps.size ≤ 1000) (S : SS s0 g pts s) (h : ∀ t s', SS s0 g pts s' → Q (.str ⟨x.cps.extract b e⟩ t) s') : wpAny (model prog w) A (reSlice x.cps 0 b e) Q E s := by
  refine wpAny_mkStr (h _ _ S) ?_
  rw [sizeLine_eq]
  show (x.cps.extract b e).size ≤ _
  rw [Array.size_extract]
  omega
theorem tail_sub {D : Addr} {x : Str} {cnt : Int} {vs : List Value} {zs : List Str} {fin : List Nat} {Q : Fin → Shared → Prop} (hx : x.cps.size ≤ 1000) (S : SS s0 g ((D, LstP vs) :: pts) s) (hz : StrsAre vs zs) (hsz : (zs.map (·.length)).sum ≤ 10000000)
    (hf : (zs.map (·.cps.toList)).flatten = fin) (h : ∀ s' t, SS s0 g pts s' → Q (.done (.ret (.str ⟨fin.toArray⟩ t))) s') : wpAny (model prog w) A (subTail x D cnt) Q E s := by
  unfold subTail
  refine wpAny_bind (slice_str hx S (fun t s S => ?_))
  obtain ⟨o, ho, n, rfl⟩ := (S.1.own _ (.head _)).1
  have e0 : x.cps.extract 0 0 = #[] := by simp
  refine wpAny_bind (wpAny_seqItems ho rfl ?_)
  have back : wpAny (model prog w) A (ret (.str ⟨fin.toArray⟩ t)) Q E s := wpAny_pure (h _ _ ⟨S.1.drop, S.2⟩)
  cases hvs : vs with
  | nil =>
    subst hvs
    cases hz
    refine wpAny_bind (m := (pure (Value.str ⟨x.cps.extract 0 0⟩ t) : Sem Value)) (wpAny_pure ?_)
    rw [e0]
    have : fin = [] := by rw [← hf]; rfl
    subst this
    exact back
  | cons v r =>
    refine wpAny_bind ?_
    have hl : s.heap.IsList D vs.toArray := (LstP.plain (S.1.own (D, LstP vs) (.head _)).1).isList
    show wpAny (model prog w) A (call (.builtin "str.join") [.str ⟨x.cps.extract 0 0⟩ t, .ref D]) _ E s
    refine join_list hl (by simpa using hz) ?_ (fun t' k => ?_)
    · have : (Str.mk (x.cps.extract 0 0)).length = 0 := by rw [e0]; rfl
      rw [this]; omega
    · refine wpAny_pure ?_
      have := h { s with toks := k } t' ⟨S.1.drop, S.2⟩
      have e : (⟨fin.toArray⟩ : Str) = Txt.join ⟨x.cps.extract 0 0⟩ zs := by
        unfold Txt.join
        rw [StrLaws.glued_eq_join]
        have q := join_flat ⟨x.cps.extract 0 0⟩ e0 zs
        rw [hf] at q
        rw [← q]
      rw [e] at this
      exact this
end
section
variable {prog : Program} {w : World} {A : Around} {E : Value → Shared → Prop} {s0 s : Shared} {g : Heap} {pts : List PO}
theorem sub_loop {a D : Addr} {code : Array Nat} {x rp : Str} {t u : Tok} {P : Nat → Bool} {ln : Nat → Nat} {R : Result → Shared → Prop} (hS : Srch code x.cps (fun i => P i = true) ln) (hP : ∀ h, Le g h → Pat h a code) (hx : x.cps.size ≤ 1000) (hln : ∀ i, 0 < ln i) (hrp : rp.cps.size ≤ 2)
    (hR : ∀ s' t', SS s0 g pts s' → R (.ok (.ret (.str ⟨(subF P ln x.cps.toList rp.cps.toList (x.cps.size + 1) 0).toArray⟩ t'))) s') :
    ∀ (n start : Nat) (cnt : Int) (vs : List Value) (zs : List Str) (s : Shared), x.cps.size - start < n → start ≤ x.cps.size → SS s0 g ((D, LstP vs) :: pts) s → StrsAre vs zs → vs.length ≤ 2 * start → (zs.map (·.length)).sum ≤ 1000000 - 1000 * (x.cps.size - start) →
      (zs.map (·.cps.toList)).flatten ++ subF P ln x.cps.toList rp.cps.toList (x.cps.size + 1 - start) start = subF P ln x.cps.toList rp.cps.toList (x.cps.size + 1) 0 →
      codeAny (model prog w) A (.builtin "re.Pattern.sub.loop" (loopArgs a D x rp t u cnt start)) R s := by
  intro n
  induction n with
  | zero => intro start cnt vs zs s hn; omega
  | succ n ih =>
    intro start cnt vs zs s hn hs S hz hvl hzl heq
    refine codeAny_builtin entry_re_loop ?_
    rw [Around.under_plainId plain_re_loop]
    unfold Builtin.«re.Pattern.sub.loop»
    dsimp only
    refine wpAny_bind (wp_whole (hP _ S.1.keep) ?_)
    rw [if_pos (by decide)]
    refine wpAny_bind (m := reLiteralCannotBeTurned (.str rp u)) (wpAny_pure ?_)
    dsimp only
    refine wpAny_bind ?_
    rw [if_neg (by simp), Int.toNat_natCast]
    unfold reNextFound
    rcases hS start hs with ⟨e, k, h1, h2, h3, h4, h5, h6, h7⟩ | ⟨h1, k, h2, h3⟩
    · refine wp_hit h6 h7 (fun m hm => ?_)
      dsimp only
      rw [hm.start, hm.handed]
      have hlne := hln e
      have hb : (e + ln e == e) = false := by simpa using (by omega : ¬ e + ln e = e)
      rw [hb]
      have hsk := subF_skip (P := P) (ln := ln) (T := x.cps.toList) (R := rp.cps.toList) hln (e - start) start (fun j a b => by
        cases q : P j with
        | false => rfl
        | true => exact absurd q (h2 j a (by omega))) (by simp; omega)
      rw [show start + (e - start) = e by omega, subF_hit hln e h3 (by simp; omega)] at hsk
      simp only [Array.length_toList] at hsk
      have rest : ∀ (vs' : List Value) (zs' : List Str) (s' : Shared), SS s0 g ((D, LstP (vs' ++ [.str rp u])) :: pts) s' → StrsAre vs' zs' → vs'.length ≤ 2 * e + 1 → (zs'.map (·.length)).sum ≤ (zs.map (·.length)).sum + 998 * (e - start) →
          (zs'.map (·.cps.toList)).flatten = (zs.map (·.cps.toList)).flatten ++ (x.cps.toList.drop start).take (e - start) →
          codeAny (model prog w) A (.builtin "re.Pattern.sub.loop" (loopArgs a D x rp t u (cnt + 1) (e + ln e))) R s' := by
        intro vs' zs' s' S' hz' hv' hs' hf'
        refine ih (e + ln e) (cnt + 1) (vs' ++ [.str rp u]) (zs' ++ [rp]) s' (by omega) h4 S' (strs_snoc hz') (by simp; omega) ?_ ?_
        · have : rp.length ≤ 2 := hrp
          rw [List.map_append, List.sum_append]; simp; omega
        · rw [← heq, hsk, List.map_append, List.flatten_append, hf']
          simp
      have fin : ∀ (vs' : List Value) (zs' : List Str) (s' : Shared), SS s0 g ((D, LstP vs') :: pts) s' → StrsAre vs' zs' → vs'.length ≤ 2 * e + 1 → (zs'.map (·.length)).sum ≤ (zs.map (·.length)).sum + 998 * (e - start) →
          (zs'.map (·.cps.toList)).flatten = (zs.map (·.cps.toList)).flatten ++ (x.cps.toList.drop start).take (e - start) →
          wpAny (model prog w) A.in1 (updateSeq D (·.push (.str rp u)) >>= fun _ => again (.builtin "re.Pattern.sub.loop" (loopArgs a D x rp t u (cnt + 1) (e + ln e))))
            (fun fin s' => match fin with | .done f => R (.ok f) s' | .again c' => c'.quiet = true ∧ codeAny (model prog w) A c' R s') (fun e s' => R (.error e) s') s' := by
        intro vs' zs' s' S' hz' hv' hs' hf'
        refine wpAny_bind (pushL S' (by omega) (fun s'' S'' => wpAny_pure ⟨plainId_quiet plain_re_loop _, rest vs' zs' s'' S'' hz' hv' hs' hf'⟩))
      by_cases hlt : start < e
      · rw [if_pos hlt]
        refine wpAny_bind (slice_str hx S (fun t1 s S => wpAny_bind (pushL S (by omega) (fun s S => ?_))))
        have hxl : (Str.mk (x.cps.extract start e)).length = e - start := by show (x.cps.extract _ _).size = _; rw [Array.size_extract]; omega
        refine fin _ (zs ++ [⟨x.cps.extract start e⟩]) s S (strs_snoc hz) (by simp; omega) ?_ ?_
        · rw [List.map_append, List.sum_append]; simp only [List.map_cons, List.map_nil, List.sum_cons, List.sum_nil, hxl]; omega
        · simp
      · rw [if_neg hlt]
        refine fin vs zs s S hz (by omega) (by omega) ?_
        rw [show e - start = 0 by omega]; simp
    · refine wp_miss h2 h3 ?_
      show wpAny (model prog w) A.in1 (if start < x.cps.size then (reSlice x.cps 0 start x.cps.size >>= fun v => updateSeq D (·.push v) >>= fun _ => subTail x D cnt) else subTail x D cnt) _ _ s
      have hsk := subF_skip (P := P) (ln := ln) (T := x.cps.toList) (R := rp.cps.toList) hln (x.cps.size - start) start (fun j a b => by
        cases q : P j with
        | false => rfl
        | true => exact absurd q (h1 j a (by omega))) (by simp; omega)
      rw [show start + (x.cps.size - start) = x.cps.toList.length by simp; omega, subF_end, List.append_nil] at hsk
      rw [show x.cps.toList.length + 1 - start = x.cps.size + 1 - start by simp] at hsk
      by_cases hlt : start < x.cps.size
      · rw [if_pos hlt]
        refine wpAny_bind (slice_str hx S (fun t1 s S => wpAny_bind (pushL S (by omega) (fun s S => ?_))))
        refine tail_sub hx S (strs_snoc hz) ?_ ?_ (fun s' t' S => hR s' t' S)
        · rw [List.map_append, List.sum_append]
          have : (Str.mk (x.cps.extract start x.cps.size)).length ≤ 1000 := by show (x.cps.extract _ _).size ≤ _; rw [Array.size_extract]; omega
          simp; omega
        · rw [← heq, hsk]
          simp
      · rw [if_neg hlt]
        refine tail_sub hx S hz (by omega) ?_ (fun s' t' S => hR s' t' S)
        rw [← heq, hsk]
        rw [show x.cps.size - start = 0 by omega]; simp
end
end Mine
end
section
open PySem PySem.W PySem.Spec PySem.Calls PyProof.Rows
open PySem.Builtin.Re
set_option Elab.async false
set_option maxRecDepth 100000
set_option maxHeartbeats 400000
set_option linter.unusedVariables false
namespace Mine
theorem named_sub (a b : Value) : reNamed "re.Pattern.sub" "sub" ["repl", "string", "count"] 2 [a, b] [] = pure [some a, some b, none] := by rfl
theorem named_search (a : Value) : reNamed "re.Pattern.search" "search" ["string", "pos", "endpos"] 1 [a] [] = pure [some a, none, none] := by rfl
theorem str_nocall : typeLookup (.type "str") "__call__" = pure none := by rw [typeLookup_type, builtinLookup_eq_fast]; kernel_rfl
section
variable {prog : Program} {w : World} {A : Around} {E : Value → Shared → Prop} {s0 s : Shared} {g : Heap} {pts : List PO}
theorem Pat.typ {s : Shared} {a : Addr} {code : Array Nat} (x : Pat s.heap a code) : s.TypeIs (.ref a) "re.Pattern" := let ⟨o, p, f, c, a1, a2, a3, a4, _⟩ := x.obj; ⟨o, a1, a2⟩
theorem sub_c {a : Addr} {code : Array Nat} {x rp : Str} {t u : Tok} {P : Nat → Bool} {ln : Nat → Nat} {Q : Value → Shared → Prop} (hS : Srch code x.cps (fun i => P i = true) ln) (hP : Pat g a code) (hx : x.cps.size ≤ 1000) (hln : ∀ i, 0 < ln i) (hrp : rp.cps.size ≤ 2)
    (h92 : rp.cps.contains 92 = false) (S : SS s0 g pts s) (h : ∀ s' t', SS s0 g pts s' → Q (.str ⟨(subF P ln x.cps.toList rp.cps.toList (x.cps.size + 1) 0).toArray⟩ t') s') :
    wpAny (model prog w) A (call (.builtin "re.Pattern.sub") [.ref a, .str rp u, .str x t]) Q E s := by
  have hPs : ∀ h, Le g h → Pat h a code := fun h l => hP.le l
  refine wpAny_call (codeAny_call_builtin slot_re_sub.plain entry_re_sub (slot_re_sub.check _ _ _ _ _ _ _ _ (hPs _ S.1.keep).typ (args_re_sub _ _ _) ?_))
  unfold Builtin.«re.Pattern.sub» reSubstitute
  dsimp only
  rw [named_sub]
  refine wpAny_bind (wpAny_pure ?_)
  dsimp only
  refine wpAny_bind (wpAny_pure ?_)
  refine wpAny_bind (wpAny_specialOf_val (T := "str") rfl str_nocall ?_)
  simp only [Option.isSome_none, Bool.false_eq_true, if_false]
  refine wpAny_bind (m := asStr? (.str rp u)) (wpAny_pure ?_)
  dsimp only
  refine wpAny_bind (wpAny_pure ?_)
  rw [h92]
  simp only [Bool.not_false, if_true]
  refine wpAny_bind (wpAny_pure ?_)
  dsimp only
  refine wpAny_bind (wpAny_holding (wp_whole (hPs _ S.1.keep) ?_))
  rw [if_neg (by decide)]
  refine wpAny_bind (newL S (fun D s hD S => ?_) (by decide))
  refine wpAny_pure ⟨plainId_quiet plain_re_loop _, ?_⟩
  refine sub_loop (s0 := s0) (g := g) (pts := pts) (P := P) (ln := ln) hS hPs hx hln hrp (fun s' t' S' => h s' t' S') (x.cps.size + 1) 0 0 [] [] s (by omega) (by omega) S .nil (by simp) (by simp) (by simp)
theorem wp_answer {M : Model} {t : ReTarget} {m : Sre.M} {k : Nat} {Q : PySem.Fin → Shared → Prop} (hk : k < 2 ^ 60) (hm : Miss (m.runFor k)) (h : Q (.done (.ret .none)) s) : wpAny M A (reAnswer t m) Q E s := by
  unfold reAnswer
  exact wpAny_bind (wp_miss hk hm (wpAny_pure h))
theorem search_c {a : Addr} {code : Array Nat} {x : Str} {t : Tok} {Q : Value → Shared → Prop} (hP : Pat g a code) (k : Nat) (hk : k < 2 ^ 60) (hm : Miss ((Sre.forSearch code x.cps 0 0 x.cps.size false).runFor k)) (hx : x.cps.size ≤ 1000)
    (S : SS s0 g pts s) (h : Q .none s) :
    wpAny (model prog w) A (call (.builtin "re.Pattern.search") [.ref a, .str x t]) Q E s := by
  have hPs : ∀ h, Le g h → Pat h a code := fun h l => hP.le l
  refine wpAny_call (codeAny_call_builtin slot_re_search.plain entry_re_search (slot_re_search.check _ _ _ _ _ _ _ _ (hPs _ S.1.keep).typ (args_re_search _ _) ?_))
  unfold Builtin.«re.Pattern.search» reTarget
  dsimp only
  rw [named_search]
  refine wpAny_bind (wpAny_bind (wpAny_pure ?_))
  dsimp only
  refine wpAny_bind (wpAny_pure ?_)
  refine wpAny_bind (wpAny_pure ?_)
  have hL : min ((2 : Int) ^ 63 - 1).toNat x.cps.size = x.cps.size := by
    have : ((2 : Int) ^ 63 - 1).toNat = 9223372036854775807 := by decide
    rw [this]; omega
  generalize ((2 : Int) ^ 63 - 1) = L at hL ⊢
  obtain ⟨o, p, f, c, a1, a2, a3, a4, oc, it, n, b1, b2, b3⟩ := (hPs _ S.1.keep).obj
  refine wpAny_bind (wpAny_fieldsOf a1 a4 ?_)
  refine wpAny_bind (m := reTextOf (.str x t)) (wpAny_pure ?_)
  show wpAny (model prog w) A.in1 (reNoCollectionInside (.str x t) 0 >>= fun _ => reRawItems (.ref c) >>= fun r => pure ({ pattern := .ref a, string := .str x t, code := r.map (·.toNat), text := x.cps, kind := 0, groups := 0, pos := min 0 x.cps.size, lim := min L.toNat x.cps.size } : ReTarget)) _ _ s
  refine wpAny_bind (m := reNoCollectionInside (.str x t) 0) (wpAny_pure ?_)
  unfold reRawItems
  refine wpAny_bind (wpAny_bind (wpAny_seqItems b1 b2 (wpAny_pure (wpAny_pure ?_))))
  refine wp_answer (k := k) hk ?_ h
  dsimp only
  rw [Option.getD_some, b3, Nat.zero_min, hL]
  exact hm
end
end Mine
end
section
open PySem PySem.W PySem.Spec PySem.Calls PyProof.Rows
open PySem.Builtin.Re
set_option Elab.async false
set_option maxRecDepth 100000
set_option maxHeartbeats 4000000
set_option linter.unusedVariables false
namespace Mine
section
variable {w : World} {A : Around} {E : Value → Shared → Prop} {s0 s : Shared} {g : Heap} {pts : List PO}
theorem pat1 (W : Wd (KK w) g) : Pat g 262 code1 := ⟨_, _, _, 261, W.kin 262 _ (by decide) rfl, rfl, rfl, rfl, _, _, _, W.kin 261 _ (by decide) rfl, rfl, by decide +kernel⟩
theorem pat2 (W : Wd (KK w) g) : Pat g 267 code2 := ⟨_, _, _, 266, W.kin 267 _ (by decide) rfl, rfl, rfl, rfl, _, _, _, W.kin 266 _ (by decide) rfl, rfl, by decide +kernel⟩
noncomputable def code3 : Array Nat := #[14, 10, 4, 1, 1, 22, 0, 31, 16, 127, 0, 13, 7, 22, 0, 31, 16, 127, 0, 1]
noncomputable def code4 : Array Nat := #[14, 14, 4, 1, 1, 9, 4294966783, 0, 0, 2147483648, 0, 0, 0, 0, 0, 13, 11, 9, 4294966783, 0, 0, 2147483648, 0, 0, 0, 0, 0, 1]
theorem pat3 (W : Wd (KK w) g) : Pat g 43 code3 := ⟨_, _, _, 42, W.kin 43 _ (by decide) rfl, rfl, rfl, rfl, _, _, _, W.kin 42 _ (by decide) rfl, rfl, by decide +kernel⟩
theorem pat4 (W : Wd (KK w) g) : Pat g 48 code4 := ⟨_, _, _, 47, W.kin 48 _ (by decide) rfl, rfl, rfl, rfl, _, _, _, W.kin 47 _ (by decide) rfl, rfl, by decide +kernel⟩
noncomputable def dotB (T : List Nat) (i : Nat) : Bool := (decide (i = 0) || T.getD (i - 1) 0 == 10) && decide (i < T.length) && T.getD i 0 == 46
noncomputable def brkB (T : List Nat) (i : Nat) : Bool := decide (i < T.length) && (T.getD i 0 == 10 || T.getD i 0 == 13)
noncomputable def lenB (T : List Nat) (i : Nat) : Nat := if T.getD i 0 = 13 ∧ i + 1 < T.length ∧ T.getD (i + 1) 0 = 10 then 2 else 1
/-- what quotedata makes of a text -/
noncomputable def nlF (T : List Nat) : List Nat := subF (brkB T) (lenB T) T [13, 10] (T.length + 1) 0
noncomputable def dotF (T : List Nat) : List Nat := subF (dotB T) (fun _ => 1) T [46, 46] (T.length + 1) 0
theorem getD_toList (a : Array Nat) (i d : Nat) : a.toList.getD i d = a.getD i d := by simp [List.getD, Array.getD_eq_getD_getElem?]
theorem srchD (x : Array Nat) (hx : x.size < 2 ^ 50) : Srch code1 x (fun i => dotB x.toList i = true) (fun _ => 1) := by
  have e : (fun i => dotB x.toList i = true) = Dot x := by
    funext i; simp only [dotB, Dot, getD_toList, Bool.and_eq_true, Bool.or_eq_true, decide_eq_true_eq, beq_iff_eq, eq_iff_iff, Array.length_toList]
    exact ⟨fun h => ⟨h.1.1, h.1.2, h.2⟩, fun h => ⟨⟨h.1, h.2.1⟩, h.2.2⟩⟩
  rw [e]; exact srch1 x hx
theorem srchB (x : Array Nat) : Srch code2 x (fun i => brkB x.toList i = true) (lenB x.toList) := by
  have e : (fun i => brkB x.toList i = true) = Brk x := by
    funext i; simp only [brkB, Brk, getD_toList, Bool.and_eq_true, Bool.or_eq_true, decide_eq_true_eq, beq_iff_eq, eq_iff_iff, Array.length_toList]
  have e2 : lenB x.toList = len2 x := by
    funext i; simp only [lenB, len2, getD_toList, Array.length_toList]
  rw [e, e2]; exact srch2 x
theorem lenB_pos (T : List Nat) (i : Nat) : 0 < lenB T i := by unfold lenB; split <;> omega
theorem subF_len {P : Nat → Bool} {ln : Nat → Nat} {T R : List Nat} (hR : R.length ≤ 2) (hln : ∀ i, 0 < ln i) : ∀ (f i : Nat), (subF P ln T R f i).length ≤ 2 * (T.length - i) := by
  intro f
  induction f with
  | zero => intro i; simp [subF]
  | succ f ih =>
    intro i
    rw [subF]
    split
    · split
      · have := ih (i + ln i); have := hln i; simp; omega
      · have := ih (i + 1); simp; omega
    · simp
theorem nlF_len (T : List Nat) : (nlF T).length ≤ 2 * T.length := by have := subF_len (P := brkB T) (T := T) (R := [13, 10]) (by decide) (lenB_pos T) (T.length + 1) 0; simpa [nlF] using this
theorem quote_c {x : Str} {t : Tok} {Q : Value → Shared → Prop} (hA : Rm 3 A) (S : SS s0 g pts s) (W : Wd (KK w) g) (hx : x.cps.size ≤ 500)
    (hQ : ∀ g' s' t', Le g g' → SS s0 g' pts s' → Q (.str ⟨(dotF (nlF x.cps.toList)).toArray⟩ t') s') : wpAny (model PR w) A (call (.ref 274) [.str x t]) Q E s := by
  refine callV hA S W rfl (by kernel_rfl) rfl (BindsTo.of_eq rfl) (by decide) (locs rfl) (fun L s S hA₁ _ => ?_)
  refine wpAny_execs_cons (wpAny_Return_some ?_)
  refine mth1 plain_re slot_re_sub type_re_sub ?_
  refine nmG (v := .ref 262) S W (by kernel_rfl) ?_
  refine ⟨((pat1 W).le S.1.keep).typ, fun a e => (by cases e; obtain ⟨o, p, f, c, a1, a2, a3, a4, _⟩ := ((pat1 W).le S.1.keep).obj; exact ⟨o, a1, a3⟩), ?_⟩
  refine args_cons (wpAny_Constant_str ?_)
  refine args_cons ?_
  refine mth1 plain_re slot_re_sub type_re_sub ?_
  refine nmG (v := .ref 267) S W (by kernel_rfl) ?_
  refine ⟨((pat2 W).le S.1.keep).typ, fun a e => (by cases e; obtain ⟨o, p, f, c, a1, a2, a3, a4, _⟩ := ((pat2 W).le S.1.keep).obj; exact ⟨o, a1, a3⟩), ?_⟩
  refine args_cons (nmG (v := .str "\r\n" 665) S W (by kernel_rfl) (args_cons (nmL S (by walk_at "mem") rfl (args_nil ?_))))
  refine sub_c (srchB x.cps) (pat2 W) (by omega) (lenB_pos _) (by decide) (by decide +kernel) S (fun s t S => args_nil ?_)
  have hl := nlF_len x.cps.toList
  simp only [Array.length_toList] at hl
  have e1 : (Str.mk ((subF (brkB x.cps.toList) (lenB x.cps.toList) x.cps.toList [13, 10] (x.cps.size + 1) 0).toArray)).cps.toList = nlF x.cps.toList := by simp [nlF]
  change wpAny _ _ (call _ [_, _, .str (Str.mk ((subF (brkB x.cps.toList) (lenB x.cps.toList) x.cps.toList [13, 10] (x.cps.size + 1) 0).toArray)) t]) _ _ _
  generalize (Str.mk ((subF (brkB x.cps.toList) (lenB x.cps.toList) x.cps.toList [13, 10] (x.cps.size + 1) 0).toArray)) = y at e1 ⊢
  have e2 : y.cps.size = (nlF x.cps.toList).length := by rw [← e1]; simp
  refine sub_c (srchD _ (by omega)) (pat1 W) (by omega) (fun _ => Nat.one_pos) (by decide) (by decide +kernel) S (fun s t S => ?_)
  have e3 : subF (dotB y.cps.toList) (fun _ => 1) y.cps.toList (Str.ofString "..").cps.toList (y.cps.size + 1) 0 = dotF (nlF x.cps.toList) := by rw [e2, e1]; rfl
  rw [e3]
  exact hQ _ _ _ (Le.refl _) ⟨S.1.drop, S.2⟩
end
end Mine
end
section
open PySem PySem.W PySem.Spec PySem.Calls PyProof.Rows
open PySem.Builtin.Re
set_option Elab.async false
set_option maxRecDepth 100000
set_option maxHeartbeats 4000000
set_option linter.unusedVariables false
namespace Mine
/-- the heap of the text but for the code table that grows -/
noncomputable abbrev KF (w : World) : Frag := (KK w).filter fun p => !Nat.beq p.1 222
theorem lookup_filter {α : Type} {q : Addr → Bool} {a : Addr} {o : α} : ∀ {l : List (Addr × α)}, (l.filter fun p => q p.1).lookup a = some o → q a = true ∧ l.lookup a = some o := by
  intro l
  induction l with
  | nil => intro h; cases h
  | cons p r ih =>
    intro h
    obtain ⟨b, x⟩ := p
    rw [List.filter_cons] at h
    by_cases e : a = b
    · subst e
      cases hq : q a with
      | true => rw [hq, if_pos rfl] at h; exact ⟨rfl, by simpa [List.lookup] using h⟩
      | false =>
        rw [hq] at h
        have := ih (by simpa using h)
        rw [hq] at this; exact absurd this.1 (by decide)
    · have e' : (a == b) = false := by simpa using e
      cases hq : q b with
      | true => rw [hq, if_pos rfl, List.lookup_cons, e'] at h; rw [List.lookup_cons, e']; exact ih h
      | false => rw [hq] at h; rw [List.lookup_cons, e']; exact ih (by simpa using h)
theorem Wd.kf {w : World} {g : Heap} (W : Wd (KK w) g) : (KF w).In g := fun a o e => by
  obtain ⟨a1, a2⟩ := lookup_filter (q := fun a => !Nat.beq a 222) e
  exact W.kin a o (fun q => by subst q; exact absurd a1 (by decide)) a2
noncomputable def isFailed : Option Sre.Outcome → Bool | some .failed => true | _ => false
/-- a text without a control sign -/
noncomputable def Clean (v : Str) : Prop := v.cps.size ≤ 1000 ∧ (∃ k, k < 2 ^ 60 ∧ Miss ((Sre.forSearch code3 v.cps 0 0 v.cps.size false).runFor k)) ∧ (∃ k, k < 2 ^ 60 ∧ Miss ((Sre.forSearch code4 v.cps 0 0 v.cps.size false).runFor k))
noncomputable def cleanB (v : Str) : Bool := v.cps.size ≤ 1000 && isFailed ((Sre.forSearch code3 v.cps 0 0 v.cps.size false).runFor 100).outcome && isFailed ((Sre.forSearch code4 v.cps 0 0 v.cps.size false).runFor 100).outcome
theorem miss_of {m : Sre.M} (h : isFailed m.outcome = true) : Miss m := by
  unfold isFailed at h
  split at h
  · rename_i e; exact ⟨⟨_, e, trivial⟩⟩
  · cases h
theorem clean_of {v : Str} (h : cleanB v = true) : Clean v := by
  unfold cleanB at h
  simp only [Bool.and_eq_true, decide_eq_true_eq] at h
  exact ⟨h.1.1, ⟨100, by decide, miss_of h.1.2⟩, ⟨100, by decide, miss_of h.2⟩⟩
theorem clean_all : ["", ".", "a", "b", "c", "d", "e", "f", "A", "B", "C", "D", "E", "F"].all (fun s => cleanB (Str.ofString s)) = true := by decide +kernel
section
variable {w : World} {A : Around} {E : Value → Shared → Prop} {s0 s : Shared} {g : Heap} {pts : List PO}
theorem conv_c {x : Value} {v : Str} {t : Tok} {b : Bool} {Q : Value → Shared → Prop} (hA : Rm 3 A) (S : SS s0 g pts s) (W : Wd (KK w) g) (hv : Clean v)
    (hQ : ∀ s', SS s0 g pts s' → Q (.str v t) s') : wpAny (model PR w) A (call (.ref 70) [x, .str v t] [("name", .bool b)]) Q E s := by
  refine callV hA S W rfl (by kernel_rfl) rfl (BindsTo.of_eq (binds := [("self", x), ("value", .str v t), ("name", .bool b)]) (by kernel_rfl)) (by decide) (locs rfl) (fun L s S hA₁ _ => ?_)
  refine wpAny_execs_cons (wpAny_If (wpAny_isTrue_Compare1 (Call_ ?_)))
  refine nmB (v := .type "type") S W (by kernel_rfl) Pv.boot_type ?_
  refine Pv.callWith_type1 (args_cons (nmL S (by walk_at "mem") rfl (args_nil ?_)))
  refine call_type_of (Tx := "str") rfl (by decide) ?_
  refine nmB (v := .type "str") S W (by kernel_rfl) Pv.boot_str ?_
  refine wpAny_is_self rfl (wpAny_truthy_bool ?_)
  rw [if_pos rfl]
  refine execs_cut (fun s' => ∃ a code, SS s0 g ((L, NsL [("regex", .ref a), ("name", .bool b), ("value", .str v t), ("self", x)]) :: pts) s' ∧ Pat g a code ∧ ∃ k, k < 2 ^ 60 ∧ Miss ((Sre.forSearch code v.cps 0 0 v.cps.size false).runFor k)) ?_ ?_
  · refine wpAny_Assign_Name (wpAny_IfExp (wpAny_isTrue_value (nmL S (by walk_at "mem") rfl (wpAny_truthy_bool ?_))))
    cases b with
    | true =>
      rw [if_pos rfl]
      refine nmG (v := .ref 43) S W (by kernel_rfl) ?_
      exact stL S (by walk_at "at") (fun s S => ⟨rfl, _, _, S, pat3 W, hv.2.1⟩)
    | false =>
      rw [if_neg (by decide)]
      refine nmG (v := .ref 48) S W (by kernel_rfl) ?_
      exact stL S (by walk_at "at") (fun s S => ⟨rfl, _, _, S, pat4 W, hv.2.2⟩)
  · rintro s ⟨a, code, S, P, k, hk, hm⟩
    refine wpAny_execs_cons (wpAny_If (wpAny_isTrue_value ?_))
    refine mth1 plain_re slot_re_search type_re_search ?_
    refine nmL S (by walk_at "mem") rfl ?_
    refine ⟨(P.le S.1.keep).typ, fun a' e => (by cases e; obtain ⟨o, p, f, c, a1, a2, a3, a4, _⟩ := (P.le S.1.keep).obj; exact ⟨o, a1, a3⟩), ?_⟩
    refine args_cons (nmL S (by walk_at "mem") rfl (args_nil ?_))
    refine search_c P k hk hm hv.1 S (truthy_none ?_)
    rw [if_neg (by decide)]
    refine wpAny_execs_nil ?_
    refine wpAny_execs_cons (wpAny_Return_some (nmL S (by walk_at "mem") rfl ?_))
    exact hQ _ ⟨S.1.drop, S.2⟩
end
end Mine
end
section
open PySem PySem.W PySem.Spec PySem.Calls PyProof.Rows
set_option Elab.async false
set_option maxRecDepth 100000
set_option maxHeartbeats 4000000
set_option linter.unusedVariables false
namespace Mine
/-- the dictionary of an object -/
noncomputable def DctP (es : List DictEntry) (o : Obj) : Prop := ∃ n, o = dictOf es n
section
variable {prog : Program} {w : World} {A : Around} {E : Value → Shared → Prop} {s0 s : Shared} {g : Heap} {pts pts' : List PO} {K : Frag}
/-- an attribute of one's own is written -/
theorem setA {ptt : Tok → List PO} {x dx C : Addr} {ox : Obj} {es : List DictEntry} {name : Str} {v : Value} {Q : Unit → Shared → Prop} (S : SS s0 g pts s) (X : K.In s.heap) (hx : s.heap.get? x = some ox) (hcl : ox.cls = .ref C) (hno : notCls ox = true) (hd : ox.dict = some dx)
    (hs : findIn K (.ref C) "__setattr__" = some (some (.builtin "object.__setattr__"))) (hp : plainOver K C = true) (ht : takerIn K C name = some none) (hh : hasDictIn K C = true)
    (hl : (getL name es).isSome = true) (hz : es.length ≤ 10)
    (hat : ∀ tk, At pts dx (DctP es) (DctP (putL name (PyData.keyHash w.params name) (.str name tk) v es)) (ptt tk))
    (h : ∀ tk s', SS s0 g (ptt tk) s' → Q () s') : wpAny (model prog w) A (setAttr (.ref x) name v) Q E s := by
  obtain ⟨o, ho, n, rfl⟩ := S.1.at (hat 0)
  have I : InstAt s.heap x ox C (some (dictOf es n)) := ⟨hx, hcl, hno, by rw [hd]; exact ho⟩
  refine set_plain X I hs ?_
  refine osa_open (s := { s with toks := s.toks + 1 }) X I hp ht fun b => ?_
  obtain ⟨cd, hc, hd'⟩ := any_some hh
  obtain ⟨oc, odi, oda, osl⟩ := ox
  dsimp only at hcl hd
  subst hcl hd
  refine wpAny_bind (wpAny_pure (wpAny_bind (wpAny_bind (wpAny_loadPart hx (wpAny_bind (looks_clsIn (h := s.heap) X hc _ _ _ _ (fun _ _ e => e) ?_))))))
  rw [hd']
  refine wpAny_pure (a := some dx) (wpAny_bind (wpAny_pure (wpAny_bind ?_)))
  unfold nsSet
  refine wpAny_bind (wpAny_bind (wpAny_askSetting (wpAny_pure (wpAny_bind (wpAny_mkText (wpAny_bind (wpAny_loadPart ho ?_)))))))
  have c : (!es.toArray.any (·.key.isStr name) && es.toArray.any (·.refKey)) = false := by
    unfold getL at hl
    rw [List.any_toArray, List.any_toArray]
    split at hl
    · rename_i en he
      rw [List.any_eq_true.mpr ⟨en, List.mem_of_find?_eq_some he, List.find?_some he⟩]; rfl
    · split at hl
      · cases hl
      · rename_i z; rw [Bool.not_eq_true] at z; rw [z, Bool.and_false]
  dsimp only
  rw [aRefKeyMayBeTheName_at, c]
  refine wpAny_updatePart ho ?_
  have hput := putName_dict name (PyData.keyHash w.params name) (.str name (s.toks + 1)) v es n
  have hlen : ∀ (es : List DictEntry) hsh k, (putL name hsh k v es).length ≤ es.length + 1 := by
    intro es hsh k
    induction es with
    | nil => simp [putL]
    | cons e r ih => unfold putL; split <;> simp <;> omega
  have hg : (s.heap.update dx (Obj.putName name (PyData.keyHash w.params name) (.str name (s.toks + 1)) v)).get? dx = some (dictOf (putL name (PyData.keyHash w.params name) (.str name (s.toks + 1)) v es) (putN name es n)) := by
    rw [← hput]
    exact Heap.get?_update_self _ ho (by rw [hput]; rfl)
  have hl2 := hlen es (PyData.keyHash w.params name) (.str name (s.toks + 1))
  have hz' : (dictOf (putL name (PyData.keyHash w.params name) (.str name (s.toks + 1)) v es) (putN name es n)).data.pastItsLine = none := pastItsLine_dict (es := (putL name (PyData.keyHash w.params name) (.str name (s.toks + 1)) v es).toArray) (by rw [List.size_toArray, sizeLine_eq]; omega)
  have S' : SS s0 g (ptt (s.toks + 1)) { s with heap := s.heap.update dx (Obj.putName name (PyData.keyHash w.params name) (.str name (s.toks + 1)) v), toks := s.toks + 1 + 1 } :=
    ⟨S.1.upd (hat (s.toks + 1)) (fun b o hb e => (Heap.SameBut.update s.heap dx _).extBut b o hb e) ⟨_, hg, _, rfl⟩, S.2.trans ⟨rfl, id⟩⟩
  refine wpAny_bind (wpAny_lookBehind (s := { s with heap := s.heap.update dx (Obj.putName name (PyData.keyHash w.params name) (.str name (s.toks + 1)) v), toks := s.toks + 1 + 1 }) hg hz' ?_)
  exact wpAny_pure (h _ _ S')
end
end Mine
end
section
open PySem PySem.W PySem.Spec PySem.Calls PyProof.Rows
set_option Elab.async false
set_option maxRecDepth 100000
set_option maxHeartbeats 4000000
set_option linter.unusedVariables false
namespace Mine
noncomputable def IsTown (g : Heap) (x H : Addr) : Prop := ∃ dx h tk n, g.get? x = some (instObj 169 dx) ∧ g.get? dx = some (dictOf [⟨h, .str "_headers" tk, .ref H⟩] n)
theorem IsTown.le {g g' : Heap} {x H : Addr} (T : IsTown g x H) (l : Le g g') : IsTown g' x H := let ⟨a, b, c, d, e, f⟩ := T; ⟨a, b, c, d, l _ _ e, l _ _ f⟩
section
variable {w : World} {A : Around} {E : Value → Shared → Prop} {s0 s : Shared} {g : Heap} {pts pts' : List PO} {env : Env} {x H : Addr}
theorem f_hasDict (w : World) : hasDictIn (KF w) 169 = true := by kernel_rfl
theorem f_plain (w : World) : plainGet (KF w) 169 "_headers" = true := by kernel_rfl
theorem f_plain2 (w : World) : findIn (KF w) (.ref 169) "__getattribute__" = some (some (.builtin "object.__getattribute__")) ∧ findIn (KF w) (.ref 169) "__getattr__" = some none := ⟨by kernel_rfl, by kernel_rfl⟩
theorem IsTown.inst {s : Shared} (T : IsTown g x H) (l : Le g s.heap) : ∃ h tk n dx, InstAt s.heap x (instObj 169 dx) 169 (some (dictOf [⟨h, .str "_headers" tk, .ref H⟩] n)) :=
  let ⟨dx, h, tk, n, a, b⟩ := T; ⟨h, tk, n, dx, l _ _ a, rfl, rfl, l _ _ b⟩
theorem getH {b : Bool} {Q : Value → Shared → Prop} (S : SS s0 g pts s) (W : Wd (KK w) g) (T : IsTown g x H) (h : ∀ s', SS s0 g pts s' → Q (.ref H) s') :
    wpAny (model PR w) A (getAttr (.ref x) "_headers" b) Q E s := by
  obtain ⟨hh, tk, n, dx, I⟩ := T.inst S.1.keep
  exact get_value (K := KF w) (W.kf.keeps S.1.keep) I (f_plain2 w).1 (findObj_own (attr := none) (f_hasDict w) (by kernel_rfl) rfl rfl) rfl (h _ ⟨S.1, S.2.trans ⟨rfl, id⟩⟩)
theorem mthT {name : Str} {f : Addr} {pl : Sem Bool} {Q : Value × List Value → Shared → Prop} (S : SS s0 g pts s) (W : Wd (KK w) g) (T : IsTown g x H) (hf : findIn (KF w) (.ref 169) name = some (some (.ref f))) (ht : typeIn (KF w) (.ref f) = some (.type "function"))
    (h : Q (.ref f, [.ref x]) s) (hl : ∀ h tk, getL name [⟨h, .str "_headers" tk, .ref H⟩] = some none := by intros; rfl) : wpAny (model PR w) A (getMethod (.ref x) name pl) Q E s := by
  obtain ⟨hh, tk, n, dx, I⟩ := T.inst S.1.keep
  exact method_fn (K := KF w) (W.kf.keeps S.1.keep) I (f_plain2 w).1 (f_plain2 w).2 hf ht (by show (lookIn name (dictOf _ n)).map _ = _; rw [lookIn_dict, hl]; rfl) h
theorem conv_e {o e : Expr} {b : Bool} {k : Nat} {p p2 apos pos : Pos} {v : Str} {t : Tok} {pl : Sem Bool} {Q : Value → Shared → Prop} (hA : Rm 3 A) (W : Wd (KK w) g) (T : IsTown g x H) (hv : Clean v)
    (h : wpAny (model PR w) A (eval o env) (fun ov s₁ => ov = .ref x ∧ SS s0 g pts s₁ ∧ wpAny (model PR w) A (eval e env) (fun vv s₂ => vv = .str v t ∧ SS s0 g pts s₂ ∧ ∀ s₃, SS s0 g pts s₃ → Q (.str v t) s₃) E s₁) E s)
    (he : eval (.Call (.Attribute o "_convert_string_type" apos) [e] [⟨some "name", .Constant (.bool b) k p, p2⟩] pos) env = (do
      let ov ← eval o env
      standAt apos.atName
      let (f, first) ← holding [ov] (getMethod ov "_convert_string_type" pl)
      callWith pos f first (backTo pos (starEach [e] env)) (backToKw pos (keywordEach [⟨some "name", .Constant (.bool b) k p, p2⟩] env))) := by rfl)
    (h4 : starEach [e] env = (false, eval e env) :: starEach [] env := by rfl) :
    wpAny (model PR w) A (eval (.Call (.Attribute o "_convert_string_type" apos) [e] [⟨some "name", .Constant (.bool b) k p, p2⟩] pos) env) Q E s := by
  refine methodCall_KW (wpAny_mono h (fun ov s₁ h₁ => ?_) fun _ _ e => e) he
  obtain ⟨rfl, S, h₁⟩ := h₁
  refine mthT S W T (f := 70) (by kernel_rfl) (by kernel_rfl) ?_
  refine callWith_KW (h₀ := g) W.kf (by kernel_rfl) rfl ?_ (by rw [h4]; rfl) h4
  refine args_cons (wpAny_mono h₁ (fun vv s₂ h₂ => ?_) fun _ _ e => e) h4
  obtain ⟨rfl, S, h₂⟩ := h₂
  refine args_nil ?_
  refine evalAll_cons (wpAny_bind (wpAny_Constant_bool (wpAny_bind (wpAny_standAt (wpAny_pure ?_)))))
  refine evalAll_nil ⟨W.kf.keeps S.1.keep, ?_⟩
  exact conv_c hA S W hv (fun s S => h₂ s S)
end
end Mine
end
section
open PySem PySem.W PySem.Spec PySem.Calls PyProof.Rows
set_option Elab.async false
set_option maxRecDepth 100000
set_option maxHeartbeats 4000000
set_option linter.unusedVariables false
namespace Mine
noncomputable def LowOk (k : Str) : Prop := PySem.Builtin.Str.tooLong (Txt.lower k).length = false ∧ Clean (Txt.lower k) ∧ Clean k
noncomputable def RowsOk (rs : List (Str × Str)) : Prop := rs.length ≤ 100 ∧ ∀ r ∈ rs, LowOk r.1
noncomputable def getF (rs : List (Str × Str)) (nm : Str) : Option Str := (rs.find? fun r => Txt.lower r.1 == Txt.lower nm).map (·.2)
theorem St.sub {g g' h : Heap} {pts : List PO} (S : St g' pts h) (l : Le g g') : St g pts h where
  keep b o e := S.keep _ _ (l _ _ e)
  own p hp := ⟨(S.own p hp).1, by
    cases e : g.get? p.1 with
    | none => rfl
    | some o => have := l _ _ e; rw [(S.own p hp).2] at this; cases this⟩
  nd := S.nd
section
variable {w : World} {A : Around} {E : Value → Shared → Prop} {s0 s : Shared} {g : Heap} {pts pts' : List PO} {env : Env} {x H : Addr}
theorem none1 (W : Wd (KK w) g) {s : Shared} (l : Le g s.heap) : ∃ o n, s.heap.get? 109 = some o ∧ o.data = .seq #[.none] n := ⟨_, _, l _ _ (W.kin 109 _ (by decide) rfl), rfl⟩
theorem get_c {vs : List Value} {rs : List (Str × Str)} {nm : Str} {t : Tok} {Q : Value → Shared → Prop} (hA : Rm 6 A) (S : SS s0 g pts s) (hat : (H, LstP vs) ∈ pts) (W : Wd (KK w) g) (T : IsTown g x H) (hr : Paired (RowIs g) vs rs) (hrs : RowsOk rs) (hn : LowOk nm)
    (hQ : ∀ v s', SS s0 g pts s' → (match getF rs nm with | none => v = .none | some r => ∃ t, v = .str r t) → Q v s') :
    wpAny (model PR w) A (call (.ref 116) [.ref x, .str nm t]) Q E s := by
  obtain ⟨o, n, ho, hd⟩ := none1 W S.1.keep
  refine callV hA S W rfl (by kernel_rfl) rfl (BindsTo.of_defaults (binds := [("self", .ref x), ("name", .str nm t), ("default", .none)]) rfl ho hd rfl (by kernel_rfl)) (by decide) (locs rfl) (fun L s S hA₁ _ => ?_)
  refine wpAny_execs_cons (wpAny_Assign_Name ?_)
  refine conv_e (s0 := s0) (g := g) (pts := (L, NsL [("default", .none), ("name", .str nm t), ("self", .ref x)]) :: pts) (x := x) (H := H) (v := Txt.lower nm) (t := s.toks) hA₁.less.less W T hn.2.1 ?_
  refine nmL S (by walk_at "mem") rfl ⟨rfl, S, ?_⟩
  refine mth0 PySem.F.plainAttrs_str PySem.F.slot_str_lower PySem.F.type_str_lower (nmL S (by walk_at "mem") rfl ?_)
  refine ⟨typeIs_str _ _ _, fun a e => (by cases e), ?_⟩
  refine SC.lower hn.1 ⟨rfl, ⟨S.1, S.2.trans ⟨rfl, id⟩⟩, fun s S => ?_⟩
  refine stL S (by walk_at "at") (fun s S => ?_)
  refine wpAny_execs_cons (forR (s0 := s0) (Attribute_any_ ?_))
  refine nmL S (by walk_at "mem") rfl (getH S W T (fun s S => ?_))
  have hl : ∀ {h : Heap} {g' : Heap} {p : List PO}, St g' p h → (H, LstP vs) ∈ p → h.IsList H vs.toArray := fun {h g' p} S' hm => (LstP.plain (S'.own (H, LstP vs) hm).1).isList
  refine iterList S (hl S.1 (.tail _ hat)) (fun I s hI S => ?_)
  refine ⟨I, g, _, vs.length, _, _, _, fun j g' p => ∃ l tn, p = (L, NsL l) :: pts ∧ Has l "name" (.str (Txt.lower nm) tn) ∧ Has l "default" .none ∧ (rs.take j).find? (fun r => Txt.lower r.1 == Txt.lower nm) = none, rfl, src_list hA₁.hh I H vs, S,
    ⟨_, _, rfl, by rfl, by rfl, rfl⟩, fun j g' p h hJ hle S => ?_, ?_, ?_⟩
  · obtain ⟨l, tn, rfl, _⟩ := hJ
    exact hl S (.tail _ (.tail _ hat))
  · rintro j g' _ v s hj ⟨l, tn, rfl, q1, q2, q3⟩ hv hle S
    obtain ⟨r, hrj, hrow⟩ := paired_get' hr hv
    obtain ⟨TT, t1, t2, rfl, o, ho, hTo⟩ := hrow
    have hT : s.heap.IsTuple TT [.str r.1 t1, .str r.2 t2].toArray := ⟨o, S.1.keep _ _ (hle _ _ ho), by rw [hTo], 0, by rw [hTo]⟩
    have hmem : r ∈ rs := List.mem_of_getElem? hrj
    refine wpAny_assign_Tuple hA₁.hh hT rfl rfl (fun h' hk => ?_)
    have S : SS s0 g' ((I, LitP H (j + 1)) :: (L, NsL l) :: pts) { s with heap := h' } := ⟨S.1.grow fun b o e => hk b o (Nat.ne_of_lt (Heap.lt_size e)) e, S.2.trans Sh.mk1⟩
    refine assignInOrder_cons (wpAny_assign_Name (stL S (by walk_at "at") (fun s S => ?_)))
    refine assignInOrder_cons (wpAny_assign_Name (stL S (by walk_at "at") (fun s S => assignInOrder_nil ?_)))
    refine wpAny_execs_cons (wpAny_If (wpAny_isTrue_Compare1 ?_))
    refine mth0 PySem.F.plainAttrs_str PySem.F.slot_str_lower PySem.F.type_str_lower (nmL S (by walk_at "mem") rfl ?_)
    refine ⟨typeIs_str _ _ _, fun a e => (by cases e), ?_⟩
    refine SC.lower (hrs.2 r hmem).1 ?_
    have S : SS s0 g' _ _ := ⟨S.1, S.2.trans (Sh.mk2 (t := _))⟩
    refine nmL S (by walk_at "mem") (by walk_at "lk") (eq_str (wpAny_truthy_bool ?_))
    have ht : rs.take (j + 1) = rs.take j ++ [r] := by rw [List.take_add_one, hrj]; rfl
    by_cases e : Txt.lower r.1 == Txt.lower nm
    · rw [if_pos e]
      refine wpAny_execs_cons (wpAny_Return_some (nmL S (by walk_at "mem") rfl ?_))
      refine hQ _ _ ⟨(St.drop (S.1.drop)).sub hle, S.2⟩ ?_
      · have : getF rs nm = some r.2 := by
          unfold getF
          rw [← List.take_append_drop (j + 1) rs, ht, List.append_assoc, List.find?_append, q3]
          simp [e]
        rw [this]; exact ⟨_, rfl⟩
    · rw [if_neg e]
      refine wpAny_execs_nil (wpAny_execs_nil ?_)
      exact ⟨g', _, Le.refl _, S, _, _, rfl, by walk_at "lk", by walk_at "lk", by rw [ht, List.find?_append, q3]; simp [e]⟩
  · rintro g' _ s ⟨l, tn, rfl, q1, q2, q3⟩ hle S
    refine wpAny_execs_cons (wpAny_Return_some (nmL S (by walk_at "mem") (by walk_at "lk") ?_))
    refine hQ _ _ ⟨S.1.drop.sub hle, S.2⟩ ?_
    have : getF rs nm = none := by
      unfold getF
      rw [← List.take_of_length_le (l := rs) (Nat.le_of_eq hr.length.symm), q3]; rfl
    rw [this]; rfl
end
end Mine
end
section
open PySem PySem.W PySem.Spec PySem.Calls PyProof.Rows
set_option Elab.async false
set_option maxRecDepth 100000
set_option maxHeartbeats 4000000
set_option linter.unusedVariables false
namespace Mine
noncomputable def getAllF (rs : List (Str × Str)) (nm : Str) : List Str := (rs.filter fun r => Txt.lower r.1 == Txt.lower nm).map (·.2)
noncomputable def IsStrs (g : Heap) (v : Value) (ys : List Str) : Prop := ∃ l vs, v = .ref l ∧ g.PlainList l vs.toArray ∧ StrsAre vs ys
theorem IsStrs.le {g g' : Heap} {v : Value} {ys : List Str} (x : IsStrs g v ys) (l : Le g g') : IsStrs g' v ys := let ⟨a, vs, e, ⟨n, h⟩, i⟩ := x; ⟨a, vs, e, ⟨n, l _ _ h⟩, i⟩
theorem StrsAre.len {vs : List Value} {ys : List Str} (h : StrsAre vs ys) : vs.length = ys.length := by induction h <;> simp [*]
theorem RowIs.tup {g h : Heap} {v : Value} {r : Str × Str} (x : RowIs g v r) (l : Le g h) : ∃ T t1 t2, v = .ref T ∧ IsTup h T [.str r.1 t1, .str r.2 t2].toArray := by
  obtain ⟨T, t1, t2, e, o, ho, hT⟩ := x
  exact ⟨T, t1, t2, e, o, l _ _ ho, by rw [hT], 0, by rw [hT]⟩
section
variable {w : World} {A : Around} {E : Value → Shared → Prop} {s0 s : Shared} {g : Heap} {pts pts' : List PO} {env : Env} {x H : Addr}
theorem get_all_c {vs : List Value} {rs : List (Str × Str)} {nm : Str} {t : Tok} {Q : Value → Shared → Prop} (hA : Rm 6 A) (S : SS s0 g pts s) (hat : (H, LstP vs) ∈ pts) (W : Wd (KK w) g) (T : IsTown g x H) (hr : Paired (RowIs g) vs rs) (hrs : RowsOk rs) (hn : LowOk nm)
    (hQ : ∀ g' v s', Le g g' → SS s0 g' pts s' → IsStrs g' v (getAllF rs nm) → Q v s') :
    wpAny (model PR w) A (call (.ref 108) [.ref x, .str nm t]) Q E s := by
  refine callVC hA S W rfl (by kernel_rfl) rfl rfl rfl (fun y hy => ?_) (by show List.Nodup [("name" : Str)]; decide) (fun L s hL S hA₁ => ?_)
  · rcases List.mem_cons.mp hy with rfl | hy
    · exact .inl rfl
    · rcases List.mem_cons.mp hy with rfl | hy
      · exact .inr ⟨rfl, rfl⟩
      · cases hy
  change SS s0 g ((L, NsL [("self", .ref x)]) :: (L + 1, CelP (some (.str nm t))) :: pts) s at S
  refine wpAny_execs_cons (wpAny_Assign_Name ?_)
  refine conv_e (s0 := s0) (g := g) (pts := (L, NsL [("self", .ref x)]) :: (L + 1, CelP (some (.str nm t))) :: pts) (x := x) (H := H) (v := Txt.lower nm) (t := s.toks) hA₁.less.less W T hn.2.1 ?_
  refine nmL S (by walk_at "mem") rfl ⟨rfl, S, ?_⟩
  refine mth0 PySem.F.plainAttrs_str PySem.F.slot_str_lower PySem.F.type_str_lower (nmC S rfl (by walk_at "mem") ?_)
  refine ⟨typeIs_str _ _ _, fun a e => (by cases e), ?_⟩
  refine SC.lower hn.1 ⟨rfl, ⟨S.1, S.2.trans ⟨rfl, id⟩⟩, fun s S => ?_⟩
  refine stC S rfl (by walk_at "at") (fun s S => ?_)
  refine wpAny_execs_cons (wpAny_Return_some ?_)
  refine compR (s0 := s0) rfl (by decide) rfl (by decide) (Attribute_any_ ?_)
  refine nmL S (by walk_at "mem") rfl (getH S W T (fun s S => ?_))
  have hl : ∀ {h : Heap} {g' : Heap} {p : List PO}, St g' p h → (H, LstP vs) ∈ p → h.IsList H vs.toArray := fun {h g' p} S' hm => (LstP.plain (S'.own (H, LstP vs) hm).1).isList
  refine iterList S (hl S.1 (.tail _ (.tail _ hat))) (fun I s hI S => ?_)
  refine ⟨I, g, _, vs.length, _, _, _, fun j g' p us => ∃ tn, p = (L, NsL [("self", .ref x)]) :: (L + 1, CelP (some (.str (Txt.lower nm) tn))) :: pts ∧ StrsAre us (getAllF (rs.take j) nm) ∧ us.length ≤ j, rfl, src_list hA₁.hh I H vs, ?_, S,
    ⟨_, rfl, .nil, Nat.le_refl _⟩, fun j g' p us h => ?_, fun j g' p us h hJ hle S => ?_, fun C D => ?_, ?_⟩
  · have := hr.length; have := hrs.1; rw [sizeLine_eq]; omega
  · obtain ⟨_, _, _, h⟩ := h; exact h
  · obtain ⟨tn, rfl, _⟩ := hJ
    exact hl S (.tail _ (.tail _ (.tail _ hat)))
  · rintro j g' _ us l v s hj ⟨tn, rfl, hu, hul⟩ hv hle S
    obtain ⟨r, hrj, hrow⟩ := paired_get' hr hv
    obtain ⟨TT, t1, t2, rfl, hT⟩ := (hrow.le hle).tup (Le.refl g')
    have hmem : r ∈ rs := List.mem_of_getElem? hrj
    have hg : getAllF (rs.take (j + 1)) nm = getAllF (rs.take j) nm ++ (if Txt.lower r.1 == Txt.lower nm then [r.2] else []) := by
      unfold getAllF; rw [List.take_add_one, hrj, List.filter_append, List.map_append]
      by_cases e : Txt.lower r.1 == Txt.lower nm <;> simp [e]
    refine wpAny_assign_Name (stL S (by walk_at "at") (fun s S => ?_) rfl rfl)
    refine wpAny_tests_one (wpAny_isTrue_Compare1 ?_)
    refine mth0 PySem.F.plainAttrs_str PySem.F.slot_str_lower PySem.F.type_str_lower (Subscript_ (nmL S (by walk_at "mem") rfl (wpAny_Constant_int ?_) rfl rfl))
    refine item_tupleT (hT.keeps (fun b o e => S.1.keep _ _ e)) (by decide) (by decide) (j := 0) rfl rfl ?_
    refine ⟨typeIs_str _ _ _, fun a e => (by cases e), ?_⟩
    refine SC.lower (hrs.2 r hmem).1 ?_
    have S : SS s0 g' _ _ := ⟨S.1, S.2.trans (Sh.mk2 (t := _))⟩
    refine nmC S rfl (by walk_at "mem") (eq_str (wpAny_truthy_bool ?_)) rfl rfl
    by_cases e : Txt.lower r.1 == Txt.lower nm
    · rw [if_pos e]
      refine Subscript_ (nmL S (by walk_at "mem") rfl (wpAny_Constant_int ?_) rfl rfl)
      refine item_tupleT (hT.keeps (fun b o e => S.1.keep _ _ e)) (by decide) (by decide) (j := 1) rfl rfl ?_
      refine ⟨g', _, _, Le.refl _, S, tn, rfl, by rw [hg, if_pos e]; exact strs_snoc hu, by simp; omega⟩
    · rw [if_neg e]
      refine ⟨g', _, _, Le.refl _, S, tn, rfl, by rw [hg, if_neg e, List.append_nil]; exact hu, by omega⟩
  · rintro D g' _ us s hD ⟨tn, rfl, hu, hul⟩ hle S
    obtain ⟨g'', hle', ⟨o, ho, hP, _⟩, S₁₁⟩ := S.1.freeze
    refine hQ g'' _ _ (hle.trans hle') ⟨S₁₁.drop.drop, S.2⟩ ⟨_, _, rfl, LstP.plain ⟨o, ho, hP⟩, ?_⟩
    rwa [List.take_of_length_le (l := rs) (Nat.le_of_eq hr.length.symm)] at hu
end
end Mine
end
section
open PySem PySem.W PySem.Spec PySem.Calls PyProof.Rows
set_option Elab.async false
set_option maxRecDepth 100000
set_option maxHeartbeats 4000000
set_option linter.unusedVariables false
namespace Mine
section
variable {prog : Program} {w : World} {A : Around} {E : Value → Shared → Prop} {s0 s : Shared} {g : Heap} {pts pts' : List PO} {env : Env}
/-- l[:] = D, at the built-in -/
theorem setSlice_core {l sl D : Addr} {o : Obj} {xs ys : List Value} {n : Nat} {Q : PySem.Fin → Shared → Prop} (ho : s.heap.get? l = some o) (hd : o.data = .seq xs.toArray n) (hs : s.heap.IsSliceOf sl .none .none .none) (hD : s.heap.PlainList D ys.toArray)
    (hne : l ≠ D) (hx : xs.length ≤ 1000) (hy : ys.length ≤ 1000) (h : ∀ h' n', Heap.SameBut l s.heap h' → h'.get? l = some { o with data := .seq ys.toArray n' } → Q (.done (.ret .none)) { s with heap := h' }) (hfr : o.isFreed = false) :
    wpAny (model prog w) A (Builtin.«list.__setitem__» ⟨[.ref l, .ref sl, .ref D], []⟩) Q E s := by
  obtain ⟨os, hos, hcs, hds⟩ := id hs
  have hTs : s.TypeIs (.ref sl) "slice" := ⟨os, hos, hcs⟩
  obtain ⟨m, hDo⟩ := hD
  unfold Builtin.«list.__setitem__»
  show wpAny _ _ (Builtin.List.listSubscript? (.ref sl) >>= _) _ _ s
  refine wpAny_bind ?_
  unfold Builtin.List.listSubscript?
  refine wpAny_bind (wpAny_specialOf hTs slice_no_index ?_)
  simp only [Option.isNone_none, if_true]
  refine wpAny_pure ?_
  show wpAny _ _ (typeOf (.ref sl) >>= _) _ _ s
  refine wpAny_bind (wpAny_typeOf hTs ?_)
  rw [if_neg (by decide)]
  rw [listSliceParts_eq]
  refine wpAny_bind (wpAny_bind (wpAny_field hos hds (x := .none) rfl (wpAny_bind (wpAny_listPart .none ?_))))
  rw [if_neg (by decide)]
  refine wpAny_bind (wpAny_field hos hds (x := .none) rfl (wpAny_bind (wpAny_listPart .none ?_)))
  refine wpAny_bind (wpAny_field hos hds (x := .none) rfl (wpAny_bind (wpAny_listPart .none (wpAny_pure ?_))))
  have hsr : Builtin.List.listSameRef (.ref l) (.ref D) = false := by show (l == D) = false; simpa using hne
  rw [hsr]
  simp only [Bool.false_eq_true, if_false]
  unfold Builtin.List.listAllItems
  refine wpAny_bind (wpAny_bind (wpAny_typeOf (T := "list") ⟨_, hDo, rfl⟩ ?_))
  rw [if_pos (by decide)]
  unfold Builtin.List.listItems
  refine wpAny_bind (wpAny_seqItems hDo rfl (wpAny_pure ?_))
  refine wpAny_bind (wpAny_bind (wpAny_seqItems ho hd (wpAny_pure ?_)))
  refine wpAny_bind (wpAny_of_eq (sliceIndices_raw none none none xs.toArray.size (by decide)) ?_)
  rw [sliceBounds_plain]
  dsimp only [Option.elim]
  rw [if_pos (by decide)]
  refine wpAny_bind (wpAny_rule ?_)
  rw [if_neg (by
    show ¬ (decide _ = true)
    rw [decide_eq_true_eq]
    have := sizeLine_eq
    simp only [List.size_toArray]
    omega)]
  have hf : (fun xs' : Array Value => xs'.extract 0 (Int.toNat ((0 : Nat) : Int)) ++ ys.toArray ++ xs'.extract (Int.toNat (max ((0 : Nat) : Int) ((xs.toArray.size : Nat) : Int))) xs.toArray.size) xs.toArray = ys.toArray := by
    simp
  refine wpAny_bind ?_
  show wpAny _ _ (updateSeq l _) _ _ _
  refine wpAny_updateSeq ho hd ?_ (by rw [sizeLine_eq]; simp; omega) (Nat.le_trans (Nat.le_of_eq (congrArg Array.size hf)) (by rw [sizeLine_eq]; simp; omega))
  refine wpAny_bind (wpAny_letGo ?_)
  refine wpAny_pure (h _ (if (ys.toArray.size == xs.toArray.size) = true then n else n + 1) (Heap.SameBut.update s.heap l _) ?_)
  rw [Heap.get?_update_self _ ho]
  · obtain ⟨a, b, c, d⟩ := o
    cases hd
    show some (Obj.mk _ _ (Data.seq _ _) _) = _
    rw [hf]
  · obtain ⟨a, b, c, d⟩ := o
    cases hd
    rfl
theorem setSlice_list {l sl D : Addr} {xs ys : List Value} {Q : Unit → Shared → Prop} (S : SS s0 g pts s) (hat : At pts l (LstP xs) (LstP ys) pts') (hs : s.heap.IsSliceOf sl .none .none .none) (hD : s.heap.PlainList D ys.toArray)
    (hne : l ≠ D) (hx : xs.length ≤ 1000) (hy : ys.length ≤ 1000) (h : ∀ s', SS s0 g pts' s' → Q () s') : wpAny (model prog w) A (setItem (.ref l) (.ref sl) (.ref D)) Q E s := by
  obtain ⟨o, ho, n, rfl⟩ := S.1.at hat
  have hl : s.heap.IsList l xs.toArray := (show s.heap.PlainList l xs.toArray from ⟨n, ho⟩).isList
  unfold setItem
  try with_reducible refine wpAny_holding ?_
  refine wpAny_bind (wpAny_sequenceKey hl.typeIs (by decide) ?_)
  refine wpAny_bind (wpAny_callSpecial?_slot (name := Str.ofString "__setitem__") hl.typeIs slot_list_setitem
    (wpAny_call_entry slot_list_setitem hl.typeIs entry_list_setitem ?_ (args_list_setitem _ _ _)))
  refine setSlice_core ho rfl hs hD hne hx hy (fun h' n' hs' hg => ⟨_, rfl, wpAny_pure (h _ ⟨S.1.upd hat (fun b o hb e => hs'.extBut b o hb e) ⟨_, hg, n', rfl⟩, S.2.trans Sh.mk1⟩)⟩) rfl
end
end Mine
end
section
open PySem PySem.W PySem.Spec PySem.Calls PyProof.Rows
set_option Elab.async false
set_option maxRecDepth 100000
set_option maxHeartbeats 4000000
set_option linter.unusedVariables false
namespace Mine
noncomputable def delF (rs : List (Str × Str)) (nm : Str) : List (Str × Str) := rs.filter fun r => !(Txt.lower r.1 == Txt.lower nm)
section
variable {w : World} {A : Around} {E : Value → Shared → Prop} {s0 s : Shared} {g : Heap} {pts pts' : List PO} {env : Env} {x H : Addr}
theorem del_c {vs : List Value} {rs : List (Str × Str)} {nm : Str} {t : Tok} {Q : Value → Shared → Prop} (hA : Rm 6 A) (S : SS s0 g ((H, LstP vs) :: pts) s) (W : Wd (KK w) g) (T : IsTown g x H) (hr : Paired (RowIs g) vs rs) (hrs : RowsOk rs) (hn : LowOk nm)
    (hQ : ∀ vs' s', SS s0 g ((H, LstP vs') :: pts) s' → Paired (RowIs g) vs' (delF rs nm) → Q .none s') :
    wpAny (model PR w) A (call (.ref 89) [.ref x, .str nm t]) Q E s := by
  refine callVC hA S W rfl (by kernel_rfl) rfl rfl rfl (fun y hy => ?_) (by show List.Nodup [("name" : Str)]; decide) (fun L s hL S hA₁ => ?_)
  · rcases List.mem_cons.mp hy with rfl | hy
    · exact .inl rfl
    · rcases List.mem_cons.mp hy with rfl | hy
      · exact .inr ⟨rfl, rfl⟩
      · cases hy
  change SS s0 g ((L, NsL [("self", .ref x)]) :: (L + 1, CelP (some (.str nm t))) :: (H, LstP vs) :: pts) s at S
  refine wpAny_execs_cons (wpAny_Assign_Name ?_)
  refine conv_e (s0 := s0) (g := g) (pts := (L, NsL [("self", .ref x)]) :: (L + 1, CelP (some (.str nm t))) :: (H, LstP vs) :: pts) (x := x) (H := H) (v := Txt.lower nm) (t := s.toks) hA₁.less.less W T hn.2.1 ?_
  refine nmL S (by walk_at "mem") rfl ⟨rfl, S, ?_⟩
  refine mth0 PySem.F.plainAttrs_str PySem.F.slot_str_lower PySem.F.type_str_lower (nmC S rfl (by walk_at "mem") ?_)
  refine ⟨typeIs_str _ _ _, fun a e => (by cases e), ?_⟩
  refine SC.lower hn.1 ⟨rfl, ⟨S.1, S.2.trans ⟨rfl, id⟩⟩, fun s S => ?_⟩
  refine stC S rfl (by walk_at "at") (fun s S => ?_)
  have hl : ∀ {h : Heap} {g' : Heap} {p : List PO}, St g' p h → (H, LstP vs) ∈ p → h.IsList H vs.toArray := fun {h g' p} S' hm => (LstP.plain (S'.own (H, LstP vs) hm).1).isList
  refine wpAny_execs_cons (wpAny_Assign_Subscript ?_)
  refine compR (s0 := s0) rfl (by decide) rfl (by decide) (Attribute_any_ ?_)
  refine nmL S (by walk_at "mem") rfl (getH S W T (fun s S => ?_))
  refine iterList S (hl S.1 (by walk_at "mem")) (fun I s hI S => ?_)
  refine ⟨I, g, _, vs.length, _, _, _, fun j g' p us => ∃ tn, p = (L, NsL [("self", .ref x)]) :: (L + 1, CelP (some (.str (Txt.lower nm) tn))) :: (H, LstP vs) :: pts ∧ Paired (RowIs g) us (delF (rs.take j) nm) ∧ us.length ≤ j, rfl, src_list hA₁.hh I H vs, ?_, S,
    ⟨_, rfl, .nil, Nat.le_refl _⟩, fun j g' p us h => ?_, fun j g' p us h hJ hle S => ?_, fun C D => ?_, ?_⟩
  · have := hr.length; have := hrs.1; rw [sizeLine_eq]; omega
  · obtain ⟨_, _, _, h⟩ := h; exact h
  · obtain ⟨tn, rfl, _⟩ := hJ
    exact hl S (by walk_at "mem")
  · rintro j g' _ us l v s hj ⟨tn, rfl, hu, hul⟩ hv hle S
    obtain ⟨r, hrj, hrow⟩ := paired_get' hr hv
    obtain ⟨TT, t1, t2, rfl, hT⟩ := (hrow.le hle).tup (Le.refl g')
    have hmem : r ∈ rs := List.mem_of_getElem? hrj
    have hg : delF (rs.take (j + 1)) nm = delF (rs.take j) nm ++ (if Txt.lower r.1 == Txt.lower nm then [] else [r]) := by
      unfold delF; rw [List.take_add_one, hrj, List.filter_append]
      by_cases e : Txt.lower r.1 == Txt.lower nm <;> simp [e]
    refine wpAny_assign_Name (stL S (by walk_at "at") (fun s S => ?_) rfl rfl)
    refine wpAny_tests_one (wpAny_isTrue_Compare1 ?_)
    refine mth0 PySem.F.plainAttrs_str PySem.F.slot_str_lower PySem.F.type_str_lower (Subscript_ (nmL S (by walk_at "mem") rfl (wpAny_Constant_int ?_) rfl rfl))
    refine item_tupleT (hT.keeps (fun b o e => S.1.keep _ _ e)) (by decide) (by decide) (j := 0) rfl rfl ?_
    refine ⟨typeIs_str _ _ _, fun a e => (by cases e), ?_⟩
    refine SC.lower (hrs.2 r hmem).1 ?_
    have S : SS s0 g' _ _ := ⟨S.1, S.2.trans (Sh.mk2 (t := _))⟩
    refine nmC S rfl (by walk_at "mem") (ne_str (wpAny_truthy_bool ?_)) rfl rfl
    by_cases e : Txt.lower r.1 == Txt.lower nm
    · rw [if_neg (by simpa using e)]
      refine ⟨g', _, _, Le.refl _, S, tn, rfl, by rw [hg, if_pos e, List.append_nil]; exact hu, by omega⟩
    · rw [if_pos (by simpa using e)]
      refine nmL S (by walk_at "mem") rfl ?_ rfl rfl
      refine ⟨g', _, _, Le.refl _, S, tn, rfl, by rw [hg, if_neg e]; exact hu.snoc hrow, by simp; omega⟩
  · rintro D g' _ us s hD ⟨tn, rfl, hu, hul⟩ hle S
    rw [List.take_of_length_le (l := rs) (Nat.le_of_eq hr.length.symm)] at hu
    refine Attribute_any_ ?_
    refine nmL S (by walk_at "mem") rfl ?_
    refine getH S (W.le hle) (T.le hle) (fun s S => ?_)
    refine wpAny_Slice (wpAny_pure (wpAny_pure (wpAny_pure ?_)))
    have hgD := fun b o (e : s.heap.get? b = some o) => Heap.get?_push_of_some { cls := .type "slice", data := .fields #[.none, .none, .none] } e
    have S' : SS s0 g' ((D, LstP us) :: (L, NsL [("self", .ref x)]) :: (L + 1, CelP (some (.str (Txt.lower nm) tn))) :: (H, LstP vs) :: pts) { s with heap := s.heap.push { cls := .type "slice", data := .fields #[.none, .none, .none] } } := ⟨S.1.grow hgD, S.2.trans Sh.mk1⟩
    have hvl : vs.length ≤ 100 := by rw [hr.length]; exact hrs.1
    refine setSlice_list S' (l := H) (xs := vs) (ys := us) (by walk_at "at") (Heap.IsSliceOf.new _ _ _ _) (LstP.plain (S'.1.own (D, LstP us) (by walk_at "mem")).1) ?_ (by omega) (by omega) (fun s S => ?_)
    · have := S.1.nd
      simp only [List.map_cons, List.nodup_cons, List.mem_cons, not_or] at this
      exact fun e => this.1.2.2.1 e.symm
    · refine wpAny_execs_nil ?_
      exact hQ us _ ⟨S.1.drop.drop.drop.sub hle, S.2⟩ hu
end
end Mine
end
section
open PySem PySem.W PySem.Spec PySem.Calls PyProof.Rows
set_option Elab.async false
set_option maxRecDepth 100000
set_option maxHeartbeats 4000000
set_option linter.unusedVariables false
namespace Mine
noncomputable def setF (rs : List (Str × Str)) (nm v : Str) : List (Str × Str) := delF rs nm ++ [(nm, v)]
section
variable {w : World} {A : Around} {E : Value → Shared → Prop} {s0 s : Shared} {g : Heap} {pts pts' : List PO} {env : Env} {x H : Addr}
theorem townSeq {i : Value} {name : Str} {Q : Value → Shared → Prop} (S : SS s0 g pts s) (W : Wd (KK w) g) (T : IsTown g x H) (h : Q i s) : wpAny (model PR w) A (sequenceKey (.ref x) i name) Q E s := by
  obtain ⟨hh, tk, n, dx, I⟩ := T.inst S.1.keep
  have X : (KF w).In s.heap := W.kf.keeps S.1.keep
  unfold sequenceKey
  refine wpAny_bind (I.type.here ?_)
  refine wpAny_bind ((anyM_none X (by kernel_rfl)).here ?_)
  rw [if_pos (show (!false) = true from rfl)]
  exact wpAny_pure h
theorem townDel {i : Value} {Q : Unit → Shared → Prop} (S : SS s0 g pts s) (W : Wd (KK w) g) (T : IsTown g x H) (h : wpAny (model PR w) A (call (.ref 89) [.ref x, i]) (fun _ => Q ()) E s) : wpAny (model PR w) A (delItem (.ref x) i) Q E s := by
  obtain ⟨hh, tk, n, dx, I⟩ := T.inst S.1.keep
  have X : (KF w).In s.heap := W.kf.keeps S.1.keep
  unfold delItem
  refine wpAny_holding (wpAny_bind (townSeq S W T ?_))
  exact wpAny_bind (special_fn X I (f := 89) (by kernel_rfl) (by kernel_rfl) (wpAny_mono h (fun _ _ z => wpAny_pure z) fun _ _ z => z))
theorem townSet {i v : Value} {Q : Unit → Shared → Prop} (S : SS s0 g pts s) (W : Wd (KK w) g) (T : IsTown g x H) (h : wpAny (model PR w) A (call (.ref 84) [.ref x, i, v]) (fun _ => Q ()) E s) : wpAny (model PR w) A (setItem (.ref x) i v) Q E s := by
  obtain ⟨hh, tk, n, dx, I⟩ := T.inst S.1.keep
  have X : (KF w).In s.heap := W.kf.keeps S.1.keep
  unfold setItem
  refine wpAny_holding (wpAny_bind (townSeq S W T ?_))
  exact wpAny_bind (special_fn X I (f := 84) (by kernel_rfl) (by kernel_rfl) (wpAny_mono h (fun _ _ z => wpAny_pure z) fun _ _ z => z))
theorem delF_ok {rs : List (Str × Str)} {nm : Str} (h : RowsOk rs) : RowsOk (delF rs nm) := ⟨Nat.le_trans (List.length_filter_le _ _) h.1, fun r hr => h.2 r ((List.mem_filter.mp hr).1)⟩
theorem setitem_c {vs : List Value} {rs : List (Str × Str)} {nm v : Str} {t u : Tok} {Q : Value → Shared → Prop} (hA : Rm 8 A) (S : SS s0 g ((H, LstP vs) :: pts) s) (W : Wd (KK w) g) (T : IsTown g x H) (hr : Paired (RowIs g) vs rs) (hrs : RowsOk rs) (hn : LowOk nm) (hv : Clean v)
    (hQ : ∀ g' vs' s', Le g g' → SS s0 g' ((H, LstP vs') :: pts) s' → Paired (RowIs g') vs' (setF rs nm v) → Q .none s') :
    wpAny (model PR w) A (call (.ref 84) [.ref x, .str nm t, .str v u]) Q E s := by
  refine callV hA S W rfl (by kernel_rfl) rfl (BindsTo.of_eq (binds := [("self", .ref x), ("name", .str nm t), ("val", .str v u)]) (by kernel_rfl)) (by decide) (locs rfl) (fun L s S hA₁ hLf => ?_)
  refine wpAny_execs_cons (wpAny_Delete (wpAny_deleteEach_cons (wpAny_delete_Subscript (nmL S (by walk_at "mem") rfl (nmL S (by walk_at "mem") rfl ?_)))))
  refine townDel S W T (del_c hA₁.less ⟨S.1.swap, S.2⟩ W T hr hrs hn (fun vs' s' S hr' => ?_))
  refine wpAny_deleteEach_nil ?_
  have hvl : vs'.length ≤ 100 := by rw [hr'.length]; exact (delF_ok hrs).1
  refine wpAny_execs_cons (wpAny_Expr_any (mAppend (D := H) (Attribute_any_ ?_)))
  refine nmL S (by walk_at "mem") rfl (getH S W T (fun s S => ?_))
  refine ⟨rfl, ⟨_, LstP.plain (S.1.own (H, LstP vs') (by walk_at "mem")).1⟩, ?_⟩
  refine Tuple_ (args_cons ?_)
  refine conv_e (s0 := s0) (g := g) (pts := (H, LstP vs') :: (L, NsL [("val", .str v u), ("name", .str nm t), ("self", .ref x)]) :: pts) (x := x) (H := H) (v := nm) (t := t) hA₁.less.less.less.less W T hn.2.2 ?_
  refine nmL S (by walk_at "mem") rfl ⟨rfl, S, nmL S (by walk_at "mem") rfl ⟨rfl, S, fun s S => ?_⟩⟩
  refine args_cons ?_
  refine conv_e (s0 := s0) (g := g) (pts := (H, LstP vs') :: (L, NsL [("val", .str v u), ("name", .str nm t), ("self", .ref x)]) :: pts) (x := x) (H := H) (v := v) (t := u) hA₁.less.less.less.less W T hv ?_
  refine nmL S (by walk_at "mem") rfl ⟨rfl, S, nmL S (by walk_at "mem") rfl ⟨rfl, S, fun s S => ?_⟩⟩
  refine args_nil (newT S (fun TT s hT S => ?_))
  obtain ⟨g', hle, ⟨o, ho, hP, _⟩, S'⟩ := S.1.freeze
  have S : SS s0 g' _ s := ⟨S', S.2⟩
  refine appendL S (by walk_at "at") (fun s S => wpAny_execs_nil ?_) (by rw [sizeLine_eq]; omega)
  refine hQ g' _ _ hle ⟨S.1.swap.drop, S.2⟩ ?_
  exact (paired_mono (fun _ _ r => r.le hle) hr').snoc ⟨TT, _, _, rfl, o, ho, hP⟩
end
end Mine
end
section
open PySem PySem.W PySem.Spec PySem.Calls PyProof.Rows
set_option Elab.async false
set_option maxRecDepth 100000
set_option maxHeartbeats 4000000
set_option linter.unusedVariables false
namespace Mine
noncomputable def sdF (rs : List (Str × Str)) (nm v : Str) : List (Str × Str) := match getF rs nm with | none => rs ++ [(nm, v)] | some _ => rs
section
variable {w : World} {A : Around} {E : Value → Shared → Prop} {s0 s : Shared} {g : Heap} {pts pts' : List PO} {env : Env} {x H : Addr}
/-- a method of the town with one argument -/
theorem town1 {o e : Expr} {name : Str} {f : Addr} {apos pos : Pos} {pl : Sem Bool} {Q : Value → Shared → Prop} (W : Wd (KK w) g) (T : IsTown g x H)
    (h : wpAny (model PR w) A (eval o env) (fun ov s₁ => ov = .ref x ∧ SS s0 g pts s₁ ∧ wpAny (model PR w) A (eval e env) (fun v s₂ => Le g s₂.heap ∧ wpAny (model PR w) A (call (.ref f) [.ref x, v]) Q E s₂) E s₁) E s)
    (hf : findIn (KF w) (.ref 169) name = some (some (.ref f))) (ht : typeIn (KF w) (.ref f) = some (.type "function")) (hk : keepIn (KF w) (.ref f) = true)
    (hl : ∀ h tk, getL name [⟨h, .str "_headers" tk, .ref H⟩] = some none := by intros; rfl)
    (he : eval (.Call (.Attribute o name apos) [e] [] pos) env = (do
      let ov ← eval o env
      standAt apos.atName
      let (f, first) ← holding [ov] (getMethod ov name pl)
      callWith pos f first (backTo pos (starEach [e] env)) []) := by rfl) (h4 : starEach [e] env = (false, eval e env) :: starEach [] env := by rfl) :
    wpAny (model PR w) A (eval (.Call (.Attribute o name apos) [e] [] pos) env) Q E s := by
  refine MethodCall_ (wpAny_mono h (fun ov s₁ h₁ => ?_) fun _ _ e => e) he
  obtain ⟨rfl, S, h₁⟩ := h₁
  refine mthT S W T hf ht ?_ hl
  refine callWith_K (h₀ := g) (K := KF w) W.kf hk ?_ h4 rfl
  refine args_cons (wpAny_mono h₁ (fun vv s₂ h₂ => ?_) fun _ _ e => e) h4
  exact args_nil ⟨W.kf.keeps h₂.1, h₂.2⟩
theorem setdefault_c {vs : List Value} {rs : List (Str × Str)} {nm v : Str} {t u : Tok} {Q : Value → Shared → Prop} (hA : Rm 8 A) (S : SS s0 g ((H, LstP vs) :: pts) s) (W : Wd (KK w) g) (T : IsTown g x H) (hr : Paired (RowIs g) vs rs) (hrs : RowsOk rs) (hn : LowOk nm) (hv : Clean v)
    (hQ : ∀ g' vs' r s', Le g g' → SS s0 g' ((H, LstP vs') :: pts) s' → Paired (RowIs g') vs' (sdF rs nm v) → Q r s') :
    wpAny (model PR w) A (call (.ref 159) [.ref x, .str nm t, .str v u]) Q E s := by
  refine callV hA S W rfl (by kernel_rfl) rfl (BindsTo.of_eq (binds := [("self", .ref x), ("name", .str nm t), ("value", .str v u)]) (by kernel_rfl)) (by decide) (locs rfl) (fun L s S hA₁ hLf => ?_)
  refine wpAny_execs_cons (wpAny_Assign_Name (town1 (s0 := s0) (pts := (L, NsL [("value", .str v u), ("name", .str nm t), ("self", .ref x)]) :: (H, LstP vs) :: pts) (f := 116) W T ?_ (by kernel_rfl) (by kernel_rfl) (by kernel_rfl)))
  refine nmL S (by walk_at "mem") rfl ⟨rfl, S, nmL S (by walk_at "mem") rfl ⟨S.1.keep, ?_⟩⟩
  refine get_c hA₁.less S (by walk_at "mem") W T hr hrs hn (fun r s S hres => ?_)
  have S : SS s0 g ((L, NsL [("value", .str v u), ("name", .str nm t), ("self", .ref x)]) :: (H, LstP vs) :: pts) s := S
  refine stL S (by walk_at "at") (fun s S => ?_)
  have hvl : vs.length ≤ 100 := by rw [hr.length]; exact hrs.1
  refine wpAny_execs_cons (wpAny_If (wpAny_isTrue_Compare1 (nmL S (by walk_at "mem") rfl (wpAny_Constant_none ?_))))
  cases hg : getF rs nm with
  | none =>
    rw [hg] at hres
    obtain rfl : r = .none := hres
    refine wpAny_is_self rfl (wpAny_truthy_bool ?_)
    rw [if_pos rfl]
    refine wpAny_execs_cons (wpAny_Expr_any (mAppend (D := H) (Attribute_any_ ?_)))
    refine nmL S (by walk_at "mem") rfl (getH S W T (fun s S => ?_))
    refine ⟨rfl, ⟨_, LstP.plain (S.1.own (H, LstP vs) (by walk_at "mem")).1⟩, ?_⟩
    refine Tuple_ (args_cons ?_)
    refine conv_e (s0 := s0) (g := g) (pts := (L, NsL [("result", .none), ("value", .str v u), ("name", .str nm t), ("self", .ref x)]) :: (H, LstP vs) :: pts) (x := x) (H := H) (v := nm) (t := t) hA₁.less.less.less.less W T hn.2.2 ?_
    refine nmL S (by walk_at "mem") rfl ⟨rfl, S, nmL S (by walk_at "mem") rfl ⟨rfl, S, fun s S => ?_⟩⟩
    refine args_cons ?_
    refine conv_e (s0 := s0) (g := g) (pts := (L, NsL [("result", .none), ("value", .str v u), ("name", .str nm t), ("self", .ref x)]) :: (H, LstP vs) :: pts) (x := x) (H := H) (v := v) (t := u) hA₁.less.less.less.less W T hv ?_
    refine nmL S (by walk_at "mem") rfl ⟨rfl, S, nmL S (by walk_at "mem") rfl ⟨rfl, S, fun s S => ?_⟩⟩
    refine args_nil (newT S (fun TT s hT S => ?_))
    obtain ⟨g', hle, ⟨o, ho, hP, _⟩, S'⟩ := S.1.freeze
    have S : SS s0 g' _ s := ⟨S', S.2⟩
    refine appendL S (by walk_at "at") (fun s S => ?_) (by rw [sizeLine_eq]; omega)
    refine wpAny_execs_cons (wpAny_Return_some (nmL S (by walk_at "mem") rfl ?_))
    refine hQ g' _ _ _ hle ⟨S.1.drop, S.2⟩ ?_
    rw [sdF, hg]
    exact (paired_mono (fun _ _ r => r.le hle) hr).snoc ⟨TT, _, _, rfl, o, ho, hP⟩
  | some y =>
    rw [hg] at hres
    obtain ⟨ty, rfl⟩ := hres
    refine wpAny_is_other rfl (by intro e; cases e) (wpAny_truthy_bool ?_)
    rw [if_neg (by decide)]
    refine wpAny_execs_cons (wpAny_Return_some (nmL S (by walk_at "mem") rfl ?_))
    refine hQ g _ _ _ (Le.refl g) ⟨S.1.drop, S.2⟩ ?_
    rw [sdF, hg]
    exact hr
end
end Mine
end
section
open PySem PySem.W PySem.Spec PySem.Calls PyProof.Rows
set_option Elab.async false
set_option maxRecDepth 100000
set_option maxHeartbeats 4000000
set_option linter.unusedVariables false
namespace Mine
noncomputable abbrev namesF (b : Int) : Str := if Int.fmod b 2 = 0 then Str.ofString "abcdef" else Str.ofString "ABCDEF"
noncomputable abbrev nmF' (b i : Int) : Str := Txt.item (namesF b) i
noncomputable def lowB (k : Str) : Bool := !(PySem.Builtin.Str.tooLong (Txt.lower k).length) && cleanB (Txt.lower k) && cleanB k
theorem low_of {k : Str} (h : lowB k = true) : LowOk k := by
  unfold lowB at h
  simp only [Bool.and_eq_true, Bool.not_eq_true'] at h
  exact ⟨h.1.1, clean_of h.1.2, clean_of h.2⟩
theorem low_all : ((List.range 7).all fun i => lowB (Txt.item (Str.ofString "abcdef") ((i : Int) - 1)) && lowB (Txt.item (Str.ofString "ABCDEF") ((i : Int) - 1))) = true := by decide +kernel
theorem nm_low {b i : Int} (h1 : -1 ≤ i) (h2 : i < 6) : LowOk (nmF' b i) := by
  have h := List.all_eq_true.mp low_all (i + 1).toNat (List.mem_range.mpr (by omega))
  rw [Bool.and_eq_true] at h
  have e : (((i + 1).toNat : Nat) : Int) - 1 = i := by omega
  rw [e] at h
  unfold nmF' namesF
  split
  · exact low_of h.1
  · exact low_of h.2
noncomputable def trF (rs : List (Str × Str)) (h b : Int) : List (Str × Str) :=
  match getF rs (nmF' b h) with
  | none => rs
  | some y => match getF rs (nmF' b (h - 1)) with
    | none => delF (setF rs (nmF' b (h - 1)) y) (nmF' b h)
    | some z => if z.cps.toList < y.cps.toList then setF (setF rs (nmF' b (h - 1)) y) (nmF' b h) z else rs
noncomputable def RowsV (rs : List (Str × Str)) : Prop := ∀ r ∈ rs, Clean r.2
theorem getF_clean {rs : List (Str × Str)} {nm y : Str} (h : RowsV rs) (e : getF rs nm = some y) : Clean y := by
  unfold getF at e
  obtain ⟨r, hr, rfl⟩ := Option.map_eq_some_iff.mp e
  exact h r (List.mem_of_find?_eq_some hr)
theorem setF_ok {rs : List (Str × Str)} {nm v : Str} (h : RowsOk rs) (h2 : rs.length < 100) (hn : LowOk nm) : RowsOk (setF rs nm v) := by
  have := delF_ok (nm := nm) h
  have hl : (delF rs nm).length ≤ rs.length := List.length_filter_le _ _
  refine ⟨by unfold setF; rw [List.length_append, List.length_singleton]; omega, fun r hr => ?_⟩
  rcases List.mem_append.mp hr with hr | hr
  · exact this.2 r hr
  · rw [List.mem_singleton.mp hr]; exact hn
theorem two_names {b : Int} (t1 t2 : Tok) (h0 : 0 ≤ Int.fmod b 2) (h2 : Int.fmod b 2 < 2) : ∃ tn, ([Value.str (Str.ofString "abcdef") t1, Value.str (Str.ofString "ABCDEF") t2].toArray)[(Int.fmod b 2).toNat]? = some (.str (namesF b) tn) := by
  rcases (show Int.fmod b 2 = 0 ∨ Int.fmod b 2 = 1 by omega) with e | e <;> rw [namesF, e] <;> exact ⟨_, rfl⟩
section
variable {w : World} {A : Around} {E : Value → Shared → Prop} {s0 s : Shared} {g : Heap} {pts pts' : List PO} {env : Env} {x H : Addr}
theorem town_rung_c {vs : List Value} {rs : List (Str × Str)} {h b : Int} {t u : Tok} {Q : Value → Shared → Prop} (hA : Rm 12 A) (S : SS s0 g ((H, LstP vs) :: pts) s) (W : Wd (KK w) g) (T : IsTown g x H) (hr : Paired (RowIs g) vs rs) (hrs : RowsOk rs) (hlen : rs.length < 90) (hrv : RowsV rs)
    (h0 : 0 ≤ h) (h6 : h < 6) (hb0 : 0 ≤ b) (hb : b < 100)
    (hQ : ∀ g' vs' s', Le g g' → SS s0 g' ((H, LstP vs') :: pts) s' → Paired (RowIs g') vs' (trF rs h b) → Q .none s') :
    wpAny (model PR w) A (call (.ref 300) [.ref x, .int h t, .int b u]) Q E s := by
  refine callV hA S W rfl (by kernel_rfl) rfl (BindsTo.of_eq (binds := [("town", .ref x), ("hour", .int h t), ("bell", .int b u)]) (by kernel_rfl)) (by decide) (locs rfl) (fun L s S hA₁ hLf => ?_)
  refine execs_cut (fun s' => ∃ l tn, SS s0 g ((L, NsL l) :: (H, LstP vs) :: pts) s' ∧ Has l "town" (.ref x) ∧ Has l "hour" (.int h t) ∧ Has l "names" (.str (namesF b) tn)) ?_ ?_
  · refine wpAny_Assign_Name (Subscript_ (List_ (args_cons (wpAny_Constant_str (args_cons (wpAny_Constant_str (args_nil ?_)))))))
    have hm0 : 0 ≤ Int.fmod b 2 := Int.fmod_nonneg_of_pos _ (by decide)
    have hm2 : Int.fmod b 2 < 2 := Int.fmod_lt_of_pos _ (by decide)
    refine newL ⟨S.1, S.2.trans (Sh.mk2 (t := _))⟩ (fun D s hD S => ?_)
    refine wpAny_BinOp (nmL S (by walk_at "mem") rfl (wpAny_Constant_int (mod_int' (by decide) ?_)))
    have hl := (LstP.plain (S.1.own (D, LstP _) (.head _)).1).isList
    refine Exists.elim (two_names _ _ hm0 hm2) (fun tn hx => tail_any hl.typeIs slot_list_getitem.lookup (wpAny_getItem_list hl hm0 (by omega) hx ?_) (by with_unfolding_all rfl))
    refine stL S (by walk_at "at") (fun s S => ?_)
    exact ⟨rfl, _, tn, ⟨S.1.drop, S.2⟩, rfl, rfl, rfl⟩
  rintro s ⟨l, tn, S, q1, q2, q3⟩
  have hnl : (namesF b).length = 6 := by unfold namesF; split <;> decide +kernel
  have base : RowsOk rs := hrs
  have hn1 : LowOk (nmF' b (h - 1)) := nm_low (by omega) (by omega)
  have hn0 : LowOk (nmF' b h) := nm_low (by omega) (by omega)
  refine wpAny_execs_cons (Assign_Tuple_swapped (Tuple_ (args_cons (town1 (s0 := s0) (pts := (L, NsL l) :: (H, LstP vs) :: pts) (f := 116) W T ?_ (by kernel_rfl) (by kernel_rfl) (by kernel_rfl)))))
  refine nmL S (by walk_at "mem") (by walk_at "lk") ⟨rfl, S, Subscript_ (nmL S (by walk_at "mem") (by walk_at "lk") (wpAny_BinOp (nmL S (by walk_at "mem") (by walk_at "lk") (wpAny_Constant_int (sub_int ?_)))))⟩
  refine item_str (fit6 (by omega) (by omega)) (by omega) (by omega) (fun hlen1 => ?_)
  have S : SS s0 g ((L, NsL l) :: (H, LstP vs) :: pts) _ := ⟨S.1, S.2.trans (Sh.mk2 (t := _))⟩
  refine ⟨S.1.keep, ?_⟩
  refine get_c hA₁.less.less.less.less.less S (by walk_at "mem") W T hr hrs hn1 (fun r1 s S hres1 => ?_)
  have S : SS s0 g ((L, NsL l) :: (H, LstP vs) :: pts) s := S
  refine args_cons (town1 (s0 := s0) (pts := (L, NsL l) :: (H, LstP vs) :: pts) (f := 116) W T ?_ (by kernel_rfl) (by kernel_rfl) (by kernel_rfl))
  refine nmL S (by walk_at "mem") (by walk_at "lk") ⟨rfl, S, Subscript_ (nmL S (by walk_at "mem") (by walk_at "lk") (nmL S (by walk_at "mem") (by walk_at "lk") ?_))⟩
  refine item_str (fit6 (by omega) (by omega)) (by omega) (by omega) (fun hlen2 => ?_)
  have S : SS s0 g ((L, NsL l) :: (H, LstP vs) :: pts) _ := ⟨S.1, S.2.trans (Sh.mk2 (t := _))⟩
  refine ⟨S.1.keep, ?_⟩
  refine get_c hA₁.less.less.less.less.less S (by walk_at "mem") W T hr hrs hn0 (fun r2 s S hres2 => ?_)
  have S : SS s0 g ((L, NsL l) :: (H, LstP vs) :: pts) s := S
  refine args_nil (newT S (fun TT s hT S => ?_))
  refine unpackT hA₁.hh S (by walk_at "mem") rfl (fun s S => ?_)
  have S : SS _ _ _ _ := ⟨S.1.drop, S.2⟩
  refine assignInOrder_cons (bindName_ (stL S (by walk_at "at") (fun s S => ?_)))
  refine assignInOrder_cons (bindName_ (stL S (by walk_at "at") (fun s S => assignInOrder_nil ?_)))
  dsimp only
  have hs1 : RowsOk (setF rs (nmF' b (h - 1)) Str.empty) := setF_ok hrs (by omega) hn1
  have hs2 : ∀ y, RowsOk (setF rs (nmF' b (h - 1)) y) := fun y => setF_ok hrs (by omega) hn1
  refine wpAny_execs_cons (wpAny_If (wpAny_isTrue_BoolOp (wpAny_allTrue_And_cons (wpAny_isTrue_Compare1 (nmL S (by walk_at "mem") rfl (wpAny_Constant_none ?_))))))
  have done : ∀ s', SS s0 g ((L, NsL (("ahead", r1) :: ("here", r2) :: l)) :: (H, LstP vs) :: pts) s' → trF rs h b = rs → Q .none s' := fun s' S e => hQ g vs s' (Le.refl g) ⟨S.1.drop, S.2⟩ (by rw [e]; exact hr)
  cases hg2 : getF rs (nmF' b h) with
  | none =>
    rw [hg2] at hres2
    obtain rfl : r2 = .none := hres2
    refine wpAny_isNot_self rfl (wpAny_truthy_bool ?_)
    rw [if_neg (by decide), if_neg (by decide)]
    refine wpAny_execs_nil (wpAny_execs_nil ?_)
    exact done _ S (by rw [trF, hg2])
  | some y =>
    rw [hg2] at hres2
    obtain ⟨ty, rfl⟩ := hres2
    have hyc := getF_clean hrv hg2
    refine wpAny_isNot_other rfl (by intro e; cases e) (wpAny_truthy_bool ?_)
    rw [if_pos rfl]
    refine wpAny_allTrue_And_cons (wpAny_isTrue_BoolOp (wpAny_allTrue_Or_cons (wpAny_isTrue_Compare1 (nmL S (by walk_at "mem") rfl (wpAny_Constant_none ?_)))))
    cases hg1 : getF rs (nmF' b (h - 1)) with
    | none =>
      rw [hg1] at hres1
      obtain rfl : r1 = .none := hres1
      refine wpAny_is_self rfl (wpAny_truthy_bool ?_)
      rw [if_pos rfl, if_pos rfl]
      refine wpAny_allTrue_And_nil ?_
      rw [if_pos rfl]
      refine execs_cut (fun s' => ∃ g' vs', Le g g' ∧ SS s0 g' ((L, NsL (("ahead", .none) :: ("here", .str y ty) :: l)) :: (H, LstP vs') :: pts) s' ∧ Paired (RowIs g') vs' (setF rs (nmF' b (h - 1)) y)) ?_ ?_
      · refine wpAny_Assign_Subscript (nmL S (by walk_at "mem") rfl (nmL S (by walk_at "mem") (by walk_at "lk") (Subscript_ (nmL S (by walk_at "mem") (by walk_at "lk") (wpAny_BinOp (nmL S (by walk_at "mem") (by walk_at "lk") (wpAny_Constant_int (sub_int ?_))))))))
        refine item_str (fit6 (by omega) (by omega)) (by omega) (by omega) (fun hlen1 => ?_)
        have S : SS s0 g ((L, NsL (("ahead", .none) :: ("here", .str y ty) :: l)) :: (H, LstP vs) :: pts) _ := ⟨S.1, S.2.trans (Sh.mk2 (t := _))⟩
        refine townSet S W T (setitem_c hA₁.less.less.less ⟨S.1.swap, S.2⟩ W T hr hrs hn1 hyc (fun g' vs' s hle S hr' => ?_))
        exact ⟨rfl, g', vs', hle, ⟨S.1.swap, S.2⟩, hr'⟩
      rintro s ⟨g', vs', hle, S, hr'⟩
      refine wpAny_execs_cons (wpAny_If (wpAny_isTrue_Compare1 (nmL S (by walk_at "mem") rfl (wpAny_Constant_none ?_))))
      refine wpAny_is_self rfl (wpAny_truthy_bool ?_)
      rw [if_pos rfl]
      refine wpAny_execs_cons (wpAny_Delete (wpAny_deleteEach_cons (wpAny_delete_Subscript (nmL S (by walk_at "mem") (by walk_at "lk") (Subscript_ (nmL S (by walk_at "mem") (by walk_at "lk") (nmL S (by walk_at "mem") (by walk_at "lk") ?_)))))))
      refine item_str (fit6 (by omega) (by omega)) (by omega) (by omega) (fun hlen1 => ?_)
      have S : SS s0 g' ((L, NsL (("ahead", .none) :: ("here", .str y ty) :: l)) :: (H, LstP vs') :: pts) _ := ⟨S.1, S.2.trans (Sh.mk2 (t := _))⟩
      refine townDel S (W.le hle) (T.le hle) (del_c hA₁.less.less.less.less.less ⟨S.1.swap, S.2⟩ (W.le hle) (T.le hle) hr' (hs2 y) hn0 (fun vs'' s S hr'' => ?_))
      refine wpAny_deleteEach_nil (wpAny_execs_nil (wpAny_execs_nil (wpAny_execs_nil ?_)))
      refine hQ g' vs'' _ hle ⟨S.1.swap.drop, S.2⟩ ?_
      rw [trF, hg2, hg1]
      exact hr''
    | some z =>
      rw [hg1] at hres1
      obtain ⟨tz, rfl⟩ := hres1
      have hzc := getF_clean hrv hg1
      refine wpAny_is_other rfl (by intro e; cases e) (wpAny_truthy_bool ?_)
      rw [if_neg (by decide)]
      refine wpAny_allTrue_Or_cons (wpAny_isTrue_Compare1 (nmL S (by walk_at "mem") rfl (nmL S (by walk_at "mem") rfl (P.gt_str (wpAny_truthy_bool ?_)))))
      by_cases e : z.cps.toList < y.cps.toList
      · rw [if_pos (by simpa using e), if_pos rfl]
        refine wpAny_allTrue_And_nil ?_
        rw [if_pos rfl]
        refine execs_cut (fun s' => ∃ g' vs', Le g g' ∧ SS s0 g' ((L, NsL (("ahead", .str z tz) :: ("here", .str y ty) :: l)) :: (H, LstP vs') :: pts) s' ∧ Paired (RowIs g') vs' (setF rs (nmF' b (h - 1)) y)) ?_ ?_
        · refine wpAny_Assign_Subscript (nmL S (by walk_at "mem") rfl (nmL S (by walk_at "mem") (by walk_at "lk") (Subscript_ (nmL S (by walk_at "mem") (by walk_at "lk") (wpAny_BinOp (nmL S (by walk_at "mem") (by walk_at "lk") (wpAny_Constant_int (sub_int ?_))))))))
          refine item_str (fit6 (by omega) (by omega)) (by omega) (by omega) (fun hlen1 => ?_)
          have S : SS s0 g ((L, NsL (("ahead", .str z tz) :: ("here", .str y ty) :: l)) :: (H, LstP vs) :: pts) _ := ⟨S.1, S.2.trans (Sh.mk2 (t := _))⟩
          refine townSet S W T (setitem_c hA₁.less.less.less ⟨S.1.swap, S.2⟩ W T hr hrs hn1 hyc (fun g' vs' s hle S hr' => ?_))
          exact ⟨rfl, g', vs', hle, ⟨S.1.swap, S.2⟩, hr'⟩
        rintro s ⟨g', vs', hle, S, hr'⟩
        refine wpAny_execs_cons (wpAny_If (wpAny_isTrue_Compare1 (nmL S (by walk_at "mem") rfl (wpAny_Constant_none ?_))))
        refine wpAny_is_other rfl (by intro e; cases e) (wpAny_truthy_bool ?_)
        rw [if_neg (by decide)]
        refine wpAny_execs_cons (wpAny_Assign_Subscript (nmL S (by walk_at "mem") rfl (nmL S (by walk_at "mem") (by walk_at "lk") (Subscript_ (nmL S (by walk_at "mem") (by walk_at "lk") (nmL S (by walk_at "mem") (by walk_at "lk") ?_))))))
        refine item_str (fit6 (by omega) (by omega)) (by omega) (by omega) (fun hlen1 => ?_)
        have S : SS s0 g' ((L, NsL (("ahead", .str z tz) :: ("here", .str y ty) :: l)) :: (H, LstP vs') :: pts) _ := ⟨S.1, S.2.trans (Sh.mk2 (t := _))⟩
        refine townSet S (W.le hle) (T.le hle) (setitem_c hA₁.less.less.less ⟨S.1.swap, S.2⟩ (W.le hle) (T.le hle) hr' (hs2 y) hn0 hzc (fun g'' vs'' s hle' S hr'' => ?_))
        refine wpAny_execs_nil (wpAny_execs_nil (wpAny_execs_nil ?_))
        refine hQ g'' vs'' _ (hle.trans hle') ⟨S.1.swap.drop, S.2⟩ ?_
        rw [trF, hg2, hg1]
        simp only [if_pos e]
        exact hr''
      · rw [if_neg (by simpa using e)]
        refine wpAny_allTrue_Or_nil ?_
        rw [if_neg (by decide), if_neg (by decide)]
        refine wpAny_execs_nil (wpAny_execs_nil ?_)
        exact done _ S (by rw [trF, hg2, hg1]; simp only [if_neg e])
end
end Mine
end
section
open PySem PySem.W PySem.Spec PySem.Calls PyProof.Rows
set_option Elab.async false
set_option maxRecDepth 100000
set_option maxHeartbeats 4000000
set_option linter.unusedVariables false
namespace Mine
theorem Rm.under {n : Nat} {A : Around} {C : Addr} {vals : List Value} {kw : List (Str × Value)} (x : Rm (n + 1) A) : Rm n (A.under (.builtin "type.__call__" ⟨.ref C :: vals, kw⟩)) := by
  refine ⟨x.hh, ?_, ?_⟩
  · have := x.depth
    have e : (A.under (.builtin "type.__call__" ⟨.ref C :: vals, kw⟩)).depth = A.depth + 1 := rfl
    rw [e]; omega
  · have := x.units
    have e : (A.under (.builtin "type.__call__" ⟨.ref C :: vals, kw⟩)).units = A.units + 1 := rfl
    rw [e]; omega
section
variable {prog : Program} {w : World} {A : Around} {E : Value → Shared → Prop} {s0 s : Shared} {g : Heap} {pts pts' : List PO} {env : Env} {x H : Addr} {K : Frag}
/-- a call of a def, as a code -/
theorem callD {n : Nat} {f : Addr} {args : List Value} {kw : List (Str × Value)} {binds : List (Str × Value)} {fd : FuncData} {body : List Stmt} {c : Value} {d : Option Addr} {sl : Array (Option Value)} {R : Result → Shared → Prop}
    (hA : Rm (n + 1) A) (S : SS s0 g pts s) (W : Wd K g) (ho : K.lookup f = some ⟨c, d, .func fd, sl⟩) (hcd : codeIn K fd.code fd.qualname = true) (hbody : fd.body = .stmts body) (hbind : BindsTo s fd ⟨args, kw⟩ binds)
    (hcell : ∀ x ∈ fd.scope.names, x.2 ≠ .cell) (hloc : ∀ y ∈ binds, fd.scope.names.lookup y.1 = some .local)
    (h : ∀ L s₁, SS s0 g ((L, NsL binds.reverse) :: pts) s₁ → Rm n (A.deeper (callEnv fd L f)) → s.heap.get? L = none → wpAny (model prog w) (A.deeper (callEnv fd L f)) (execs body (callEnv fd L f)) (fun fl s' => R (.ok (.ret (fv fl))) s') (fun _ _ => False) s₁)
    (hco : fd.scope.isCoroutine = false := by rfl) (hgen : fd.scope.isGenerator = false := by rfl) (hk : fd.scope.kind = .function := by rfl) (hf : f ≠ 222 := by decide) (hcn : fd.code ≠ .ref 222 := by decide) :
    codeAny (model prog w) A (.call (.ref f) ⟨args, kw⟩) R s := by
  refine codeAny_call_def (fd := fd) hA.room (S.1.keep _ _ (W.kin _ _ hf ho)) rfl (W.lim.keeps S.1.keep) ((W.code hcd hcn).keeps S.1.keep) hbody hbind hcell hloc (fun h₁ hns hk₁ => ?_) hco hgen hk
  refine wpAny_mono (h _ _ ⟨S.1.new hk₁ (size_none _ (Nat.le_refl _)) (NsL.of hns fun _ => rfl), S.2.trans ⟨rfl, id⟩⟩ (hA.deeper _) (size_none _ (Nat.le_refl _))) (fun fl _ q => ?_) (fun _ _ q => q.elim)
  cases fl <;> exact q
end
section
variable {w : World} {A : Around} {E : Value → Shared → Prop} {s0 s : Shared} {g : Heap} {pts pts' : List PO} {env : Env} {x H : Addr}
noncomputable def InsP (C dx : Addr) (o : Obj) : Prop := o = instObj C dx
theorem init_c {x dx D : Addr} {R : Result → Shared → Prop} (hA : Rm 3 A) (S : SS s0 g ((x, InsP 169 dx) :: (dx, DctP []) :: (D, LstP []) :: pts) s) (W : Wd (KK w) g)
    (hQ : ∀ s' h tk, SS s0 g ((x, InsP 169 dx) :: (dx, DctP [⟨h, .str "_headers" tk, .ref D⟩]) :: (D, LstP []) :: pts) s' → R (.ok (.ret .none)) s') :
    codeAny (model PR w) A (.call (.ref 63) ⟨[.ref x, .ref D], []⟩) R s := by
  have h56 : ∃ o n, s.heap.get? 56 = some o ∧ o.data = .seq #[.none] n := ⟨_, _, S.1.keep _ _ (W.kin 56 _ (by decide) rfl), rfl⟩
  obtain ⟨o56, n56, ho56, hd56⟩ := h56
  refine callD hA S W rfl (by kernel_rfl) rfl (BindsTo.of_defaults (binds := [("self", .ref x), ("headers", .ref D)]) rfl ho56 hd56 rfl (by kernel_rfl)) (by decide) (locs rfl) (fun L s S hA₁ hLf => ?_)
  refine wpAny_execs_cons (wpAny_Assign_Name (wpAny_IfExp (wpAny_isTrue_Compare1 (nmL S (by walk_at "mem") rfl (wpAny_Constant_none (wpAny_isNot_other rfl (by intro e; cases e) (wpAny_truthy_bool ?_)))))))
  rw [if_pos rfl]
  refine nmL S (by walk_at "mem") rfl (stL S (by walk_at "at") (fun s S => ?_))
  refine wpAny_execs_cons (wpAny_If (wpAny_isTrue_Compare1 (Call_ ?_)))
  refine nmB (v := .type "type") S W (by kernel_rfl) Pv.boot_type ?_
  refine Pv.callWith_type1 (args_cons (nmL S (by walk_at "mem") rfl (args_nil ?_)))
  refine call_type_of (Tx := "list") (LstP.plain (S.1.own (D, LstP []) (by walk_at "mem")).1).isList.typeIs (by decide) ?_
  refine nmB (v := .type "list") S W (by kernel_rfl) Pv.boot_list ?_
  refine isnot_type_same (wpAny_truthy_bool ?_)
  rw [if_neg (by decide)]
  refine wpAny_execs_nil ?_
  refine wpAny_execs_cons (plainObj_wpAny_Assign_Attribute (nmL S (by walk_at "mem") rfl (nmL S (by walk_at "mem") rfl ?_)))
  obtain ⟨o, ho, hP⟩ := (S.1.own (x, InsP 169 dx) (by walk_at "mem")).1
  refine setA (K := KF w) (x := x) (dx := dx) (C := 169) (ox := o) (es := []) S (W.kf.keeps S.1.keep) ho (by rw [hP]) (by rw [hP]; rfl) (by rw [hP]) (by kernel_rfl) (by kernel_rfl) (by kernel_rfl) (by kernel_rfl) rfl (by decide) (fun tk => by walk_at "at") (fun tk s S => ?_)
  refine wpAny_execs_cons (wpAny_If (wpAny_isTrue_value (wpAny_Constant_bool (wpAny_truthy_bool ?_))))
  rw [if_pos rfl]
  refine wpAny_execs_cons (forR (s0 := s0) (nmL S (by walk_at "mem") rfl ?_))
  refine iterList (items := []) S (LstP.plain (S.1.own (D, LstP []) (by walk_at "mem")).1).isList (fun I s hI S => ?_)
  refine ⟨I, g, _, 0, _, _, _, fun j g' p => p = (L, NsL [("headers", .ref D), ("headers", .ref D), ("self", .ref x)]) :: (x, InsP 169 dx) :: (dx, DctP (putL "_headers" (PyData.keyHash w.params "_headers") (.str "_headers" tk) (.ref D) [])) :: (D, LstP []) :: pts, rfl, src_list hA₁.hh I D [], S, rfl, fun j g' p h hJ hle S => ?_, ?_, ?_⟩
  · subst hJ
    exact (LstP.plain (S.own (D, LstP []) (by walk_at "mem")).1).isList
  · intro j g' p v s hj; omega
  · rintro g' _ s rfl hle S
    refine wpAny_execs_nil (wpAny_execs_nil ?_)
    exact hQ _ _ tk ⟨S.1.drop.sub hle, S.2⟩
theorem newTown {D : Addr} {Q : Value → Shared → Prop} (hA : Rm 4 A) (S : SS s0 g ((D, LstP []) :: pts) s) (W : Wd (KK w) g)
    (hQ : ∀ g' x s', Le g g' → SS s0 g' ((D, LstP []) :: pts) s' → IsTown g' x D → Q (.ref x) s') :
    wpAny (model PR w) A (call (.ref 169) [.ref D]) Q E s := by
  have X : (KF w).In s.heap := W.kf.keeps S.1.keep
  obtain ⟨h, gg, dd, tk, os⟩ := s
  refine wpAny_call (make_core (makes_of X (by kernel_rfl)) (looks_findIn X (r := some (.ref 63)) (by kernel_rfl)) (fun self => bind_fn X self (by kernel_rfl)) (.inl rfl) ?_)
  have S1 : SS s0 g ((h.objs.size, DctP []) :: (D, LstP []) :: pts) ⟨h.push emptyDict, gg, dd, tk, os⟩ := ⟨S.1.new (le_push _ _) (size_none _ (Nat.le_refl _)) ⟨_, Heap.get?_push_size _ rfl, 0, rfl⟩, S.2.trans ⟨rfl, id⟩⟩
  have S2 : SS s0 g ((h.objs.size + 1, InsP 169 h.objs.size) :: (h.objs.size, DctP []) :: (D, LstP []) :: pts) ⟨(h.push emptyDict).push (instObj 169 h.objs.size), gg, dd, tk, os⟩ := by
    have e : h.objs.size + 1 = (h.push emptyDict).objs.size := by rw [Heap.size_push]
    rw [e]
    exact ⟨S1.1.new (le_push _ _) (size_none _ (Nat.le_refl _)) ⟨_, Heap.get?_push_size _ rfl, rfl⟩, S1.2.trans ⟨rfl, id⟩⟩
  refine init_c hA.under S2 W (fun s' hh tk S => ⟨rfl, ?_⟩)
  obtain ⟨g1, hle1, ⟨o1, ho1, hP1, _⟩, S'⟩ := S.1.freeze
  obtain ⟨g2, hle2, ⟨o2, ho2, ⟨n, hP2⟩, _⟩, S''⟩ := S'.freeze
  refine hQ g2 _ _ (hle1.trans hle2) ⟨S'', S.2⟩ ⟨_, hh, tk, n, by rw [hle2 _ _ ho1, hP1], by rw [ho2, hP2]⟩
end
end Mine
end
section
open PySem PySem.W PySem.Spec PySem.Calls PyProof.Rows
set_option Elab.async false
set_option maxRecDepth 100000
set_option maxHeartbeats 4000000
set_option linter.unusedVariables false
namespace Mine
/-- the pile: a list of a class of its own -/
noncomputable def PilP (dx : Addr) (vs : List Value) (o : Obj) : Prop := ∃ n, o = { cls := .ref 253, dict := some dx, data := .seq vs.toArray n }
noncomputable def IniP (o : Obj) : Prop := ∃ h tk k t, DctP [⟨h, .str "_initial_size" tk, .int k t⟩] o
theorem canon_list_ga : Manifest.canonical "list.__getattribute__" = "object.__getattribute__" := by decide +kernel
section
variable {w : World} {A : Around} {E : Value → Shared → Prop} {s0 s : Shared} {g : Heap} {pts pts' : List PO} {env : Env} {P dx : Addr} {vs : List Value}
theorem pileI (S : SS s0 g pts s) (h1 : (P, PilP dx vs) ∈ pts) (h2 : (dx, IniP) ∈ pts) : ∃ n h tk k t m, InstAt s.heap P { cls := .ref 253, dict := some dx, data := .seq vs.toArray n } 253 (some (dictOf [⟨h, .str "_initial_size" tk, .int k t⟩] m)) := by
  obtain ⟨o, ho, n, rfl⟩ := (S.1.own _ h1).1
  obtain ⟨o', ho', h, tk, k, t, m, rfl⟩ := (S.1.own _ h2).1
  exact ⟨n, h, tk, k, t, m, ho, rfl, rfl, ho'⟩
/-- the check ahead of a built-in of list, at the pile -/
theorem check_pile {id n : String} {rest : List Value} {Q : Unit → Shared → Prop} (S : SS s0 g pts s) (W : Wd (KK w) g) (h1 : (P, PilP dx vs) ∈ pts) (h2 : (dx, IniP) ∈ pts) (hk : builtinKind id = some .method ∨ builtinKind id = some .slot) (hs : splitId id = some ("list", n)) (ha : argsOk id ⟨.ref P :: rest, []⟩) (h : Q () s) :
    wpAny (model PR w) A (checkBuiltinCall id ⟨.ref P :: rest, []⟩) Q E s := by
  obtain ⟨n', hh, tk, k, t, m, I⟩ := pileI S h1 h2
  have X : (KF w).In s.heap := W.kf.keeps S.1.keep
  have hi : Looks (model PR w) s.heap (isInstance (.ref P) (.type "list")) true := I.type.andThen (looks_mroIn X (by kernel_rfl))
  rcases hk with hk | hk
  · simp only [checkBuiltinCall, hk, hs]
    refine wpAny_bind (hi.here ?_)
    simp only [Bool.not_true, Bool.false_eq_true, if_false]
    cases hsig : Manifest.signature? id with
    | none => exact wpAny_pure h
    | some sig =>
      simp only [argsOk, hsig] at ha
      have h2 : Bind.checkArgs id sig ⟨.ref P :: rest, []⟩ = pure () := ha
      show wpAny _ A (Bind.checkArgs id sig ⟨.ref P :: rest, []⟩) Q E s
      rw [h2]; exact wpAny_pure h
  · simp only [checkBuiltinCall, hk, hs]
    refine wpAny_bind (hi.here ?_)
    simp only [Bool.not_true, Bool.false_eq_true, if_false]
    cases hsig : Manifest.signature? id with
    | none => exact wpAny_pure h
    | some sig =>
      simp only [argsOk, hsig] at ha
      have h2 : Bind.checkArgs id sig ⟨.ref P :: rest, []⟩ = pure () := ha
      show wpAny _ A (Bind.checkArgs id sig ⟨.ref P :: rest, []⟩) Q E s
      rw [h2]; exact wpAny_pure h
/-- a call of a built-in of list, at the pile -/
theorem call_pile {id n : String} {b : Builtin} {rest : List Value} {Q : Value → Shared → Prop} (S : SS s0 g pts s) (W : Wd (KK w) g) (h1 : (P, PilP dx vs) ∈ pts) (h2 : (dx, IniP) ∈ pts) (hk : builtinKind id = some .method ∨ builtinKind id = some .slot) (hs : splitId id = some ("list", n))
    (hp : plainId id = true) (hb : entryFor table id = some b) (ha : argsOk id ⟨.ref P :: rest, []⟩)
    (h : wpAny (model PR w) A.in1 (b ⟨.ref P :: rest, []⟩) (fun fin s' => ∃ v, fin = .done (.ret v) ∧ Q v s') E s) : wpAny (model PR w) A (call (.builtin id) (.ref P :: rest)) Q E s := by
  refine wpAny_call (codeAny_call_builtin hp hb (check_pile S W h1 h2 hk hs ha ?_))
  refine wpAny_mono h (fun fin s' h' => ?_) fun _ _ h' => h'
  obtain ⟨v, rfl, hv⟩ := h'
  exact hv
/-- a method of list, asked of the pile -/
theorem mthP {name : Str} {id : String} {pl : Sem Bool} {Q : Value × List Value → Shared → Prop} (S : SS s0 g pts s) (W : Wd (KK w) g) (h1 : (P, PilP dx vs) ∈ pts) (h2 : (dx, IniP) ∈ pts)
    (hf : findIn (KF w) (.ref 253) name = some (some (.builtin id))) (ht : typeOf (.builtin id) = pure (.type "method_descriptor"))
    (h : Q (.builtin id, [.ref P]) s) (hl : ∀ h tk k t, getL name [⟨h, .str "_initial_size" tk, .int k t⟩] = some none := by intros; rfl) : wpAny (model PR w) A (getMethod (.ref P) name pl) Q E s := by
  obtain ⟨n', hh, tk, k, t, m, I⟩ := pileI S h1 h2
  have X : (KF w).In s.heap := W.kf.keeps S.1.keep
  have hga : findIn (KF w) (.ref 253) "__getattribute__" = some (some (.builtin "list.__getattribute__")) := by kernel_rfl
  have hgk : findIn (KF w) (.ref 253) "__getattr__" = some none := by kernel_rfl
  unfold getMethod specialOf
  refine wpAny_bind (wpAny_bind (I.type.here ((looks_findIn X hga).here ?_)))
  dsimp only
  rw [canon_list_ga, if_neg (by decide)]
  refine wpAny_bind (wpAny_bind (I.type.here ((looks_findIn X hgk).here ?_)))
  refine wpAny_bind (wpAny_bind (I.type.here ((looks_findIn X hf).here (wpAny_bind (wpAny_of_eq ht ?_)))))
  rw [if_neg (by decide +kernel)]
  refine wpAny_bind (wpAny_loadPart I.at_ ?_)
  refine wpAny_bind (wpAny_bind (wpAny_loadPart I.dict ?_))
  rw [nsLook_of (show lookIn name (dictOf _ _) = some none by rw [lookIn_dict, hl])]
  exact wpAny_pure (wpAny_bind (wpAny_rule (wpAny_pure h)))
theorem mthPf {name : Str} {f : Addr} {pl : Sem Bool} {Q : Value × List Value → Shared → Prop} (S : SS s0 g pts s) (W : Wd (KK w) g) (h1 : (P, PilP dx vs) ∈ pts) (h2 : (dx, IniP) ∈ pts)
    (hf : findIn (KF w) (.ref 253) name = some (some (.ref f))) (ht : typeIn (KF w) (.ref f) = some (.type "function"))
    (h : Q (.ref f, [.ref P]) s) (hl : ∀ h tk k t, getL name [⟨h, .str "_initial_size" tk, .int k t⟩] = some none := by intros; rfl) : wpAny (model PR w) A (getMethod (.ref P) name pl) Q E s := by
  obtain ⟨n', hh, tk, k, t, m, I⟩ := pileI S h1 h2
  have X : (KF w).In s.heap := W.kf.keeps S.1.keep
  have hga : findIn (KF w) (.ref 253) "__getattribute__" = some (some (.builtin "list.__getattribute__")) := by kernel_rfl
  have hgk : findIn (KF w) (.ref 253) "__getattr__" = some none := by kernel_rfl
  unfold getMethod specialOf
  refine wpAny_bind (wpAny_bind (I.type.here ((looks_findIn X hga).here ?_)))
  dsimp only
  rw [canon_list_ga, if_neg (by decide)]
  refine wpAny_bind (wpAny_bind (I.type.here ((looks_findIn X hgk).here ?_)))
  refine wpAny_bind (wpAny_bind (I.type.here ((looks_findIn X hf).here (wpAny_bind ((looks_typeIn X ht).here ?_)))))
  rw [if_neg (by decide +kernel)]
  refine wpAny_bind (wpAny_loadPart I.at_ ?_)
  refine wpAny_bind (wpAny_bind (wpAny_loadPart I.dict ?_))
  rw [nsLook_of (show lookIn name (dictOf _ _) = some none by rw [lookIn_dict, hl])]
  exact wpAny_pure (wpAny_bind (wpAny_rule (wpAny_pure h)))
/-- list.append at the pile -/
theorem appendP {v : Value} {Q : Value → Shared → Prop} (S : SS s0 g pts s) (W : Wd (KK w) g) (hat : At pts P (PilP dx vs) (PilP dx (vs ++ [v])) pts') (h2 : (dx, IniP) ∈ pts) (hsz : vs.length ≤ 1000) (h : ∀ s', SS s0 g pts' s' → Q .none s') :
    wpAny (model PR w) A (call (.builtin "list.append") [.ref P, v]) Q E s := by
  refine call_pile S W hat.mem h2 (.inl (by decide +kernel)) (n := "append") (by decide +kernel) (by decide +kernel) entry_list_append (args_list_append _ _) ?_
  obtain ⟨o, ho, n, rfl⟩ := S.1.at hat
  unfold Builtin.«list.append»
  refine wpAny_bind (m := selfAndOne "list.append" _) (wpAny_pure ?_)
  refine wpAny_bind ?_
  show wpAny _ _ (updateSeq P _) _ _ _
  refine wpAny_updateSeq ho rfl ?_ (by rw [sizeLine_eq]; simp; omega) (by rw [sizeLine_eq]; simp; omega)
  refine wpAny_pure ⟨_, rfl, h _ ⟨S.1.upd hat (fun b o hb e => (Heap.SameBut.update s.heap P _).extBut b o hb e) ⟨_, Heap.get?_update_self _ ho rfl, ?_⟩, S.2.trans Sh.mk1⟩⟩
  exact ⟨_, by show Obj.mk _ _ (Data.seq (vs.toArray.push v) _) _ = _; rw [List.push_toArray]⟩
end
end Mine
end
section
open PySem PySem.W PySem.Spec PySem.Calls PyProof.Rows
set_option Elab.async false
set_option maxRecDepth 100000
set_option maxHeartbeats 4000000
set_option linter.unusedVariables false
namespace Mine
section
variable {prog : Program} {w : World} {M : Model} {A : Around} {E : Value → Shared → Prop} {h : Heap} {g : Array GenState} {d : Drawn} {t : Nat} {os : OsState}
theorem md_get {P : Addr} {Q : PySem.Fin → Shared → Prop} (hi : Looks M h (isInstance (.ref P) (.type "list")) true)
    (hq : Q (.done (.ret (.ref h.objs.size))) ⟨h.push { cls := .type "builtin_function_or_method", data := .fields #[.builtin "list.pop", .ref P] }, g, d, t, os⟩) :
    wpAny M A (Builtin.«method_descriptor.__get__» ⟨[.builtin "list.pop", .ref P, .ref 253], []⟩) Q E ⟨h, g, d, t, os⟩ := by
  unfold Builtin.«method_descriptor.__get__»
  refine wpAny_bind (wpAny_pure ?_)
  dsimp only
  refine wpAny_bind ?_
  refine wpAny_bind (wpAny_pure ?_)
  refine wpAny_bind ?_
  show wpAny M A (isInstance (.ref P) (.type "list")) _ _ _
  refine Looks.at hi ?_
  rw [if_neg (by decide)]
  refine wpAny_pure ?_
  refine wpAny_bind (wpAny_newObj_type ?_)
  exact wpAny_pure hq
theorem wd_get {id : String} {P : Addr} {Q : PySem.Fin → Shared → Prop} (hid : id = "list.__len__" ∨ id = "list.__init__") (hi : Looks M h (isInstance (.ref P) (.type "list")) true)
    (hq : Q (.done (.ret (.ref h.objs.size))) ⟨h.push { cls := .type "method-wrapper", data := .fields #[.builtin id, .ref P] }, g, d, t, os⟩) :
    wpAny M A (Builtin.«wrapper_descriptor.__get__» ⟨[.builtin id, .ref P, .ref 253], []⟩) Q E ⟨h, g, d, t, os⟩ := by
  rcases hid with rfl | rfl
  all_goals
    unfold Builtin.«wrapper_descriptor.__get__»
    refine wpAny_bind (wpAny_pure ?_)
    refine wpAny_bind ?_
    refine wpAny_bind (wpAny_pure ?_)
    refine wpAny_bind ?_
    show wpAny M A (isInstance (.ref P) (.type "list")) _ _ _
    refine Looks.at hi ?_
    rw [if_neg (by decide)]
    refine wpAny_pure ?_
    refine wpAny_bind (wpAny_newObj_type ?_)
    exact wpAny_pure hq
theorem slot_md_get : Slot "method_descriptor" "__get__" "method_descriptor.__get__" := .of (owner := "method_descriptor") (n := "__get__") (by rw [typeLookup_type, builtinLookup_eq_fast]; kernel_rfl) (by decide +kernel) (by decide +kernel) (by decide +kernel)
  (by first | exact .inl (by decide +kernel) | exact .inr (by decide +kernel)) (by rw [isSubtype_type]; kernel_rfl)
theorem entry_md_get : entryFor table "method_descriptor.__get__" = some Builtin.«method_descriptor.__get__» := entryFor_of_tree (by kernel_rfl)
theorem args_md_get (a b c : Value) : argsOk "method_descriptor.__get__" ⟨[a, b, c], []⟩ := by unfold argsOk; kernel_rfl
theorem slot_wd_get : Slot "wrapper_descriptor" "__get__" "wrapper_descriptor.__get__" := .of (owner := "wrapper_descriptor") (n := "__get__") (by rw [typeLookup_type, builtinLookup_eq_fast]; kernel_rfl) (by decide +kernel) (by decide +kernel) (by decide +kernel)
  (by first | exact .inl (by decide +kernel) | exact .inr (by decide +kernel)) (by rw [isSubtype_type]; kernel_rfl)
theorem entry_wd_get : entryFor table "wrapper_descriptor.__get__" = some Builtin.«wrapper_descriptor.__get__» := entryFor_of_tree (by kernel_rfl)
theorem args_wd_get (a b c : Value) : argsOk "wrapper_descriptor.__get__" ⟨[a, b, c], []⟩ := by unfold argsOk; kernel_rfl
theorem ty_pop : typeOf (.builtin "list.pop") = pure (.type "method_descriptor") := by show builtinType _ = _; rw [builtinType_eq_fast]; kernel_rfl
theorem ty_len : typeOf (.builtin "list.__len__") = pure (.type "wrapper_descriptor") := by show builtinType _ = _; rw [builtinType_eq_fast]; kernel_rfl
theorem ty_init : typeOf (.builtin "list.__init__") = pure (.type "wrapper_descriptor") := by show builtinType _ = _; rw [builtinType_eq_fast]; kernel_rfl
end
end Mine
end
section
open PySem PySem.W PySem.Spec PySem.Calls PyProof.Rows
set_option Elab.async false
set_option maxRecDepth 100000
set_option maxHeartbeats 4000000
set_option linter.unusedVariables false
namespace Mine
section
variable {w : World} {A : Around} {E : Value → Shared → Prop} {h : Heap} {g : Array GenState} {d : Drawn} {t : Nat} {os : OsState} {P so : Addr}
noncomputable abbrev supObj (P : Addr) : Obj := { cls := .type "super", dict := none, data := .fields #[.ref 253, .ref P, .ref 253], slots := #[] }
/-- what super() of the pile gives for a method of list -/
theorem sup_ga {name : Str} {tk : Tok} {id T gid : String} {B : Obj} {Q : PySem.Fin → Shared → Prop}
    (hso : h.get? so = some (supObj P)) (X : (KF w).In h) (hP : P ≠ 253) (hf : alongIn (KF w) name [.type "list", .type "object"] = some (some (.builtin id))) (hn : (name == ("__class__" : Str)) = false)
    (hT : typeOf (.builtin id) = pure (.type T)) (hG : typeLookup (.type T) "__get__" = pure (some (.builtin gid)))
    (hcall : ∀ (A : Around) (Q : Value → Shared → Prop) (E : Value → Shared → Prop), Q (.ref h.objs.size) ⟨h.push B, g, d, t, os⟩ → wpAny (model PR w) A (call (.builtin gid) [.builtin id, .ref P, .ref 253]) Q E ⟨h, g, d, t, os⟩)
    (hq : Q (.done (.ret (.ref h.objs.size))) ⟨h.push B, g, d, t, os⟩) :
    wpAny (model PR w) A (Builtin.«super.__getattribute__» ⟨[.ref so, .str name tk], []⟩) Q E ⟨h, g, d, t, os⟩ := by
  have hno : Looks (model PR w) h (opaqueClassAbove (.ref 253)) none := looks_opaque X (by kernel_rfl)
  obtain ⟨cd, hcd, hmro⟩ : ∃ cd, clsIn (KF w) 253 = some cd ∧ cd.mro = [.ref 253, .type "list", .type "object"] := ⟨_, rfl, rfl⟩
  have hC : Looks (model PR w) h (mroOf (.ref 253)) [.ref 253, .type "list", .type "object"] := fun A Q E s k q => wpAny_bind ((looks_clsIn X hcd) A _ E s k (wpAny_pure (hmro ▸ q)))
  have hne : (Value.ref P == Value.ref 253) = false := by simpa using hP
  have hl : (([.ref 253, .type "list", .type "object"] : List Value).dropWhile (· != .ref 253)).drop 1 = [.type "list", .type "object"] := by decide +kernel
  have hdt : (supObj P).data = .fields #[.ref 253, .ref P, .ref 253] := rfl
  have f0 : (#[.ref 253, .ref P, .ref 253] : Array Value)[0]? = some (.ref 253) := rfl
  have f1 : (#[.ref 253, .ref P, .ref 253] : Array Value)[1]? = some (.ref P) := rfl
  have f2 : (#[.ref 253, .ref P, .ref 253] : Array Value)[2]? = some (.ref 253) := rfl
  unfold Builtin.«super.__getattribute__»
  repeat (first
    | (with_reducible refine wpAny_field hso hdt f0 ?_) | (with_reducible refine wpAny_field hso hdt f1 ?_) | (with_reducible refine wpAny_field hso hdt f2 ?_)
    | (with_reducible refine ks_wpAny_notOpaque hno ?_)
    | (with_reducible refine Looks.at hC ?_; rw [hl])
    | (refine ks_forIn_along X (fun _ _ => rfl) rfl ?_ hf)
    | (refine wpAny_of_eq hT ?_)
    | (refine wpAny_of_eq hG ?_)
    | (refine hcall _ _ _ ?_)
    | (with_reducible refine ⟨_, rfl, ?_⟩)
    | (simp only [hn, hne, Bool.or_false, Bool.false_eq_true, if_false])
    | wp_step
    | dsimp only)
  all_goals exact hq
theorem sup_method {name : Str} {pl : Sem Bool} {id T gid : String} {B : Obj} {Q : Value × List Value → Shared → Prop}
    (hso : h.get? so = some (supObj P)) (X : (KF w).In h) (hP : P ≠ 253) (hf : alongIn (KF w) name [.type "list", .type "object"] = some (some (.builtin id))) (hn : (name == ("__class__" : Str)) = false)
    (hT : typeOf (.builtin id) = pure (.type T)) (hG : typeLookup (.type T) "__get__" = pure (some (.builtin gid)))
    (hcall : ∀ (t : Nat) (A : Around) (Q : Value → Shared → Prop) (E : Value → Shared → Prop), Q (.ref h.objs.size) ⟨h.push B, g, d, t, os⟩ → wpAny (model PR w) A (call (.builtin gid) [.builtin id, .ref P, .ref 253]) Q E ⟨h, g, d, t, os⟩)
    (hq : Q (.ref h.objs.size, []) ⟨h.push B, g, d, t + 1, os⟩) :
    wpAny (model PR w) A (getMethod (.ref so) name pl) Q E ⟨h, g, d, t, os⟩ := by
  have hlk := F.ks_slot_super_ga.lookup
  have hT' : ∀ t', (⟨h, g, d, t', os⟩ : Shared).TypeIs (.ref so) "super" := fun _ => ⟨_, hso, rfl⟩
  unfold getMethod
  refine wpAny_bind (wpAny_specialOf (hT' _) hlk ?_)
  show wpAny _ _ (if (Manifest.canonical "super.__getattribute__" != "object.__getattribute__") = true then _ else _) _ _ _
  rw [if_pos F.ks_canon_super_ga]
  unfold getAttr getAttrBy
  refine wpAny_bind (wpAny_bind (wpAny_mkText (wpAny_holding (wpAny_bind (wpAny_typeOf (hT' _) (wpAny_bind (wpAny_of_eq hlk ?_)))))))
  show wpAny _ _ (getAttrByItsOwn (.ref so) (.str name t) (.type "super") (.builtin "super.__getattribute__") true false) _ _ _
  unfold getAttrByItsOwn hookBefore callGetattribute boundAndCalled
  refine wpAny_bind (wpAny_of_eq (show (if onTheHeap (.type "super") then typeLookup (.type "super") "__getattr__" else pure none) = pure none from rfl) ?_)
  refine wpAny_bind (wpAny_attempt (wpAny_holding ?_))
  show wpAny _ _ (bindSpecial (.builtin "super.__getattribute__") (.ref so) >>= _) _ _ _
  refine wpAny_bind (wpAny_of_eq (F.ks_slot_super_ga.bind _) ?_)
  refine wpAny_mono (Q := fun v s' => v = .ref h.objs.size ∧ s' = ⟨h.push B, g, d, t + 1, os⟩) (E := fun _ _ => False)
    (wpAny_call_entry F.ks_slot_super_ga (hT' _) F.ks_entry_super_ga (sup_ga hso X hP hf hn hT hG (hcall (t + 1)) ⟨_, rfl, rfl, rfl⟩) (F.ks_gaArgs_super _ _)) (fun v s' hv => ?_) fun _ _ z => z.elim
  obtain ⟨rfl, rfl⟩ := hv
  exact wpAny_pure (wpAny_pure hq)
/-- the call of a bound method of a built-in type -/
theorem call_bound {b : Addr} {T id : String} {v : Value} {f : Builtin} {args : List Value} {s : Shared} {Q : Value → Shared → Prop} (hb : s.heap.get? b = some { cls := .type T, data := .fields #[.builtin id, v] }) (hT : T = "builtin_function_or_method" ∨ T = "method-wrapper")
    (hp : plainId id = true) (hf : entryFor table id = some f)
    (hc : wpAny (model PR w) A.in1 (checkBoundCall id ⟨v :: args, []⟩) (fun _ s' => s' = s) E s)
    (h : wpAny (model PR w) A.in1 (f ⟨v :: args, []⟩) (fun fin s' => ∃ r, fin = .done (.ret r) ∧ Q r s') E s) : wpAny (model PR w) A (call (.ref b) args) Q E s := by
  refine wpAny_call (codeAny_of_tree ?_)
  show wpAny _ A.in1 (callAny (.ref b) ⟨args, []⟩) _ _ _
  unfold callAny
  refine wpAny_bind (wpAny_load hb ?_)
  dsimp only
  have hcl : ((Value.type T == .type "method") || (Value.type T == .type "builtin_function_or_method") || (Value.type T == .type "method-wrapper")) = true := by rcases hT with rfl | rfl <;> decide +kernel
  have hcm : (Value.type T != .type "method") = true := by rcases hT with rfl | rfl <;> decide +kernel
  rw [if_pos hcl]
  simp only [hcm, if_true]
  refine wpAny_bind (wpAny_mono hc (fun _ s' e => ?_) fun _ _ e => e)
  subst e
  refine wpAny_pure ⟨plainId_quiet hp _, codeAny_builtin hf ?_⟩
  rw [Around.under_plainId hp]
  refine wpAny_mono h (fun fin s' h' => ?_) fun _ _ h' => h'
  obtain ⟨v, rfl, hv⟩ := h'
  exact hv
end
end Mine
end
section
open PySem PySem.W PySem.Spec PySem.Calls PyProof.Rows
set_option Elab.async false
set_option maxRecDepth 100000
set_option maxHeartbeats 4000000
set_option linter.unusedVariables false
namespace Mine
noncomputable def ObP (B : Obj) (o : Obj) : Prop := o = B
section
variable {w : World} {A : Around} {E : Value → Shared → Prop} {s0 s : Shared} {g : Heap} {pts pts' : List PO} {env : Env} {P dx : Addr} {vs : List Value}
theorem pile_ne (S : SS s0 g pts s) (W : Wd (KK w) g) (h1 : (P, PilP dx vs) ∈ pts) : P ≠ 253 := fun e => by
  have := (S.1.own _ h1).2
  obtain ⟨cd, hcd⟩ : ∃ cd, (KK w).lookup 253 = some cd := ⟨_, rfl⟩
  have h2 := W.kin 253 _ (by decide) hcd
  rw [e] at this
  have h3 : g.get? 253 = none := this
  rw [h2] at h3; cases h3
/-- super() in a method of the pile -/
theorem sup_base {body : List Stmt} {p0 p1 : Pos} {attr : Str} {whole : Sem Value} {f cc : Addr} {of oc : Obj} {fd : FuncData} {ar : Arg} {cvs : Array Value} {file : Str} {tf : Tok} {l : List (Str × Value)} {Q : Value → Shared → Prop}
    (S : SS s0 g pts s) (W : Wd (KK w) g) (h1 : (P, PilP dx vs) ∈ pts) (hL : (env.locals, NsL l) ∈ pts) (hself : l.lookup ar.arg = some (.ref P))
    (hf : (KK w).lookup f = some of) (hf2 : f ≠ 222) (hcode : (KK w).lookup cc = some oc) (hc2 : cc ≠ 222)
    (hks : env.kindOf "super" = some .globalImplicit) (hkc : env.kindOf "__class__" = some .free) (hat : (attr == ("__class__" : Str)) = false) (hfu : env.func = some f) (hfd : of.data = .func fd)
    (hp : (fd.params.posonlyargs ++ fd.params.args).head? = some ar) (hco : env.code = .ref cc) (hoc : oc.data = .fields cvs) (hvs : cvs[2]? = some (.str file tf))
    (hfile : ((PR.main.file : Str) == file) = true) (htop : (PR.main.scope.names.lookup ("super" : Str)).isSome = false)
    (hk : env.scope.kind = .function) (hcl : env.cells.lookup ("__class__" : Str) = some 177) (hka : env.kindOf ar.arg = some .local) (hg : env.globals = mainGlobals) (hb : env.builtins = builtinsNs)
    (h : ∀ so s', SS s0 g ((so, ObP (supObj P)) :: pts) s' → Q (.ref so) s') :
    _root_.PySem.wpAt (model PR w) A (.func body env) (attributeBase (.Call (.Name "super" p0) [] [] p1) attr env whole) Q E s := by
  have X : (KF w).In s.heap := W.kf.keeps S.1.keep
  have get : ∀ a o, a ≠ 222 → (KK w).lookup a = some o → s.heap.get? a = some o := fun a o n e => S.1.keep _ _ (W.kin a o n e)
  have hne := pile_ne S W h1
  refine ks_wpAt_super_base (fd := fd) hks hkc hat hfu (get _ _ hf2 hf) hfd hp hco (get _ _ hc2 hcode) hoc hvs hfile htop ?_
  obtain ⟨mg, mb, ga, gb, gc, gd, ge⟩ := W.glob
  refine ks_loadName_global hk hks (loadGlobal_builtin (env := env) (hg ▸ ga.keeps S.1.keep) (gd _ (by kernel_rfl)) (hb ▸ gb.keeps S.1.keep) ((ge _ (by decide +kernel)).trans (show bootBuiltins "super" = some (.type "super") by decide +kernel)) ⟨rfl, ?_⟩)
  obtain ⟨oc177, h177, hd177⟩ : ∃ o, (KK w).lookup 177 = some o ∧ o.data = .cell (some (.ref 253)) := ⟨_, rfl, rfl⟩
  refine wpAny_loadName_free hk hkc hcl ⟨_, get _ _ (by decide) h177, hd177⟩ ?_
  refine ldL S hL hself ?_ hk hka
  obtain ⟨oD, hD, cdD, hDd⟩ : ∃ o, (KK w).lookup 253 = some o ∧ ∃ cd, o.data = .cls cd := ⟨_, rfl, _, rfl⟩
  have hD' := get _ _ (by decide) hD
  obtain ⟨o, ho, n, hPo⟩ := (S.1.own _ h1).1
  obtain ⟨hh, gg, dd, tk, os⟩ := s
  refine ks_wpAny_isType_cls hD' hDd ⟨rfl, ?_⟩
  refine ks_wpAny_call_super hD' hDd ho (by rw [hPo]) (fun c e => by rw [hPo] at e; cases e) (looks_mroIn X (by kernel_rfl)) (fun h' e k => ?_)
  exact h _ _ ⟨S.1.new k (size_none _ (Nat.le_refl _)) ⟨_, e, rfl⟩, S.2.trans ⟨rfl, id⟩⟩
end
end Mine
end
section
open PySem PySem.W PySem.Spec PySem.Calls PyProof.Rows
set_option Elab.async false
set_option maxRecDepth 100000
set_option maxHeartbeats 4000000
set_option linter.unusedVariables false
namespace Mine
section
variable {prog : Program} {w : World} {A : Around} {E : Value → Shared → Prop} {s0 s : Shared} {g : Heap} {pts pts' : List PO} {env : Env} {K : Frag}
/-- a call of a def whose body asks for its own frame -/
theorem callAt {n : Nat} {f : Addr} {args : List Value} {kw : List (Str × Value)} {binds : List (Str × Value)} {fd : FuncData} {body : List Stmt} {c : Value} {d : Option Addr} {sl : Array (Option Value)} {R : Result → Shared → Prop}
    (hA : Rm (n + 1) A) (S : SS s0 g pts s) (W : Wd K g) (ho : K.lookup f = some ⟨c, d, .func fd, sl⟩) (hcd : codeIn K fd.code fd.qualname = true) (hbody : fd.body = .stmts body) (hbind : BindsTo s fd ⟨args, kw⟩ binds)
    (hcell : ∀ x ∈ fd.scope.names, x.2 ≠ .cell) (hloc : ∀ y ∈ binds, fd.scope.names.lookup y.1 = some .local)
    (h : ∀ L s₁, SS s0 g ((L, NsL binds.reverse) :: pts) s₁ → Rm n (A.deeper (callEnv fd L f)) → s.heap.get? L = none →
      _root_.PySem.wpAt (model prog w) (A.deeper (callEnv fd L f)) (.func body (callEnv fd L f)) (execs body (callEnv fd L f)) (fun fl s' => R (.ok (.ret (fv fl))) s') (fun _ _ => False) s₁)
    (hco : fd.scope.isCoroutine = false := by rfl) (hgen : fd.scope.isGenerator = false := by rfl) (hk : fd.scope.kind = .function := by rfl) (hf : f ≠ 222 := by decide) (hcn : fd.code ≠ .ref 222 := by decide) :
    codeAny (model prog w) A (.call (.ref f) ⟨args, kw⟩) R s := by
  refine ks_codeAny_call_defAt (fd := fd) hA.room (S.1.keep _ _ (W.kin _ _ hf ho)) rfl (W.lim.keeps S.1.keep) ((W.code hcd hcn).keeps S.1.keep) hbody hbind hcell hloc (fun h₁ hns hk₁ => ?_) hco hgen hk
  refine ks_wpAt_mono (h _ _ ⟨S.1.new hk₁ (size_none _ (Nat.le_refl _)) (NsL.of hns fun _ => rfl), S.2.trans ⟨rfl, id⟩⟩ (hA.deeper _) (size_none _ (Nat.le_refl _))) (fun fl _ q => ?_) (fun _ _ q => q.elim)
  cases fl <;> exact q
/-- a call of a bound built-in, whose keeper is the machine -/
theorem callWith_bound {pos : Pos} {b : Addr} {T id : String} {v : Value} {Q : Value → Shared → Prop} (hb : s.heap.get? b = some { cls := .type T, data := .fields #[.builtin id, v] }) (hT : T = "builtin_function_or_method" ∨ T = "method-wrapper")
    (h : wpAny (model prog w) A (call (.ref b) []) Q E s) : wpAny (model prog w) A (callWith pos (.ref b) [] (backTo pos (starEach [] env)) []) Q E s := by
  refine callWith_of (P := fun h => h.get? b = some { cls := .type T, data := .fields #[.builtin id, v] }) rfl (fun h hb => ⟨.machine, .inr (.inl rfl), ?_⟩) (evalArgs_nil3 ⟨hb, by simpa using h⟩)
  refine (Looks.ld (part := none) hb).andThen ?_
  dsimp only
  have hcl : (Value.type T != .type "method") = true := by rcases hT with rfl | rfl <;> decide +kernel
  have hcm : (Value.type T == .type "builtin_function_or_method" || Value.type T == .type "method-wrapper") = true := by rcases hT with rfl | rfl <;> decide +kernel
  rw [if_pos hcl, if_pos hcm]
  exact .now
end
section
variable {w : World} {A : Around} {E : Value → Shared → Prop} {s0 s : Shared} {g : Heap} {pts pts' : List PO} {env : Env} {P dx : Addr} {vs : List Value}
theorem check_bound_slot {id : String} {args : Args} (hk : builtinKind id = some .slot) (ha : argsOk id args) : checkBoundCall id args = pure () := by
  unfold checkBoundCall
  cases hsig : Manifest.signature? id with
  | none => rfl
  | some sig =>
    simp only [argsOk, hsig] at ha
    have h2 : Bind.checkArgs id sig args = pure () := ha
    simp only [hk]
    cases args.pos with
    | nil => exact h2
    | cons a r =>
      dsimp only
      rw [if_pos (by decide)]
      exact h2
noncomputable abbrev bndObj (T id : String) (P : Addr) : Obj := { cls := .type T, data := .fields #[.builtin id, .ref P] }
theorem sup_len {so : Addr} {pl : Sem Bool} {Q : Value × List Value → Shared → Prop} (S : SS s0 g pts s) (W : Wd (KK w) g) (hso : (so, ObP (supObj P)) ∈ pts) (h1 : (P, PilP dx vs) ∈ pts) (h2 : (dx, IniP) ∈ pts)
    (h : ∀ b s', SS s0 g ((b, ObP (bndObj "method-wrapper" "list.__len__" P)) :: pts) s' → Q (.ref b, []) s') : wpAny (model PR w) A (getMethod (.ref so) "__len__" pl) Q E s := by
  have X : (KF w).In s.heap := W.kf.keeps S.1.keep
  obtain ⟨n', hh', tk', k, t', m, I⟩ := pileI S h1 h2
  have hi : Looks (model PR w) s.heap (isInstance (.ref P) (.type "list")) true := I.type.andThen (looks_mroIn X (by kernel_rfl))
  have hne := pile_ne S W h1
  obtain ⟨o, ho, rfl⟩ := (S.1.own _ hso).1
  obtain ⟨hh, gg, dd, tk, os⟩ := s
  refine sup_method (id := "list.__len__") (B := bndObj "method-wrapper" "list.__len__" P) ho X hne (by kernel_rfl) (by decide +kernel) ty_len slot_wd_get.lookup (fun t A Q E q => ?_) ?_
  · exact wpAny_call_entry slot_wd_get (T := "wrapper_descriptor") ty_len entry_wd_get (wd_get (.inl rfl) hi ⟨_, rfl, q⟩) (args_wd_get _ _ _)
  · exact h _ _ ⟨S.1.new (le_push _ _) (size_none _ (Nat.le_refl _)) ⟨_, Heap.get?_push_size _ rfl, rfl⟩, S.2.trans ⟨rfl, id⟩⟩
theorem sup_init {so : Addr} {pl : Sem Bool} {Q : Value × List Value → Shared → Prop} (S : SS s0 g pts s) (W : Wd (KK w) g) (hso : (so, ObP (supObj P)) ∈ pts) (h1 : (P, PilP dx vs) ∈ pts) (h2 : (dx, IniP) ∈ pts)
    (h : ∀ b s', SS s0 g ((b, ObP (bndObj "method-wrapper" "list.__init__" P)) :: pts) s' → Q (.ref b, []) s') : wpAny (model PR w) A (getMethod (.ref so) "__init__" pl) Q E s := by
  have X : (KF w).In s.heap := W.kf.keeps S.1.keep
  obtain ⟨n', hh', tk', k, t', m, I⟩ := pileI S h1 h2
  have hi : Looks (model PR w) s.heap (isInstance (.ref P) (.type "list")) true := I.type.andThen (looks_mroIn X (by kernel_rfl))
  have hne := pile_ne S W h1
  obtain ⟨o, ho, rfl⟩ := (S.1.own _ hso).1
  obtain ⟨hh, gg, dd, tk, os⟩ := s
  refine sup_method (id := "list.__init__") (B := bndObj "method-wrapper" "list.__init__" P) ho X hne (by kernel_rfl) (by decide +kernel) ty_init slot_wd_get.lookup (fun t A Q E q => ?_) ?_
  · exact wpAny_call_entry slot_wd_get (T := "wrapper_descriptor") ty_init entry_wd_get (wd_get (.inr rfl) hi ⟨_, rfl, q⟩) (args_wd_get _ _ _)
  · exact h _ _ ⟨S.1.new (le_push _ _) (size_none _ (Nat.le_refl _)) ⟨_, Heap.get?_push_size _ rfl, rfl⟩, S.2.trans ⟨rfl, id⟩⟩
theorem sup_pop {so : Addr} {pl : Sem Bool} {Q : Value × List Value → Shared → Prop} (S : SS s0 g pts s) (W : Wd (KK w) g) (hso : (so, ObP (supObj P)) ∈ pts) (h1 : (P, PilP dx vs) ∈ pts) (h2 : (dx, IniP) ∈ pts)
    (h : ∀ b s', SS s0 g ((b, ObP (bndObj "builtin_function_or_method" "list.pop" P)) :: pts) s' → Q (.ref b, []) s') : wpAny (model PR w) A (getMethod (.ref so) "pop" pl) Q E s := by
  have X : (KF w).In s.heap := W.kf.keeps S.1.keep
  obtain ⟨n', hh', tk', k, t', m, I⟩ := pileI S h1 h2
  have hi : Looks (model PR w) s.heap (isInstance (.ref P) (.type "list")) true := I.type.andThen (looks_mroIn X (by kernel_rfl))
  have hne := pile_ne S W h1
  obtain ⟨o, ho, rfl⟩ := (S.1.own _ hso).1
  obtain ⟨hh, gg, dd, tk, os⟩ := s
  refine sup_method (id := "list.pop") (B := bndObj "builtin_function_or_method" "list.pop" P) ho X hne (by kernel_rfl) (by decide +kernel) ty_pop slot_md_get.lookup (fun t A Q E q => ?_) ?_
  · exact wpAny_call_entry slot_md_get (T := "method_descriptor") ty_pop entry_md_get (md_get hi ⟨_, rfl, q⟩) (args_md_get _ _ _)
  · exact h _ _ ⟨S.1.new (le_push _ _) (size_none _ (Nat.le_refl _)) ⟨_, Heap.get?_push_size _ rfl, rfl⟩, S.2.trans ⟨rfl, id⟩⟩
theorem part_count_c {R : Result → Shared → Prop} (hA : Rm 3 A) (S : SS s0 g pts s) (W : Wd (KK w) g) (h1 : (P, PilP dx vs) ∈ pts) (h2 : (dx, IniP) ∈ pts) (hsz : vs.length ≤ 1000)
    (hQ : ∀ s' t, SS s0 g pts s' → R (.ok (.ret (.int vs.length t))) s') : codeAny (model PR w) A (.call (.ref 250) ⟨[.ref P], []⟩) R s := by
  refine callAt hA S W rfl (by kernel_rfl) rfl (BindsTo.of_eq (binds := [("self", .ref P)]) (by kernel_rfl)) (by decide) (locs rfl) (fun L s S hA₁ hLf => ?_)
  refine ks_wpAt_execs_cons (ks_wpAt_Return_some (ks_wpAt_MethodCall ?_))
  refine sup_base S W (.tail _ h1) (by walk_at "mem") (by rfl) (f := 250) rfl (by decide) (cc := 249) rfl (by decide) rfl rfl rfl rfl rfl rfl rfl rfl rfl (by kernel_rfl) (by kernel_rfl) rfl rfl rfl rfl rfl (fun so s S => ?_)
  refine sup_len S W (.head _) (.tail _ (.tail _ h1)) (.tail _ (.tail _ h2)) (fun b s S => ?_)
  obtain ⟨o, ho, hoB⟩ := (S.1.own _ (.head _)).1
  cases hoB
  refine callWith_bound ho (.inr rfl) ?_
  refine call_bound ho (.inr rfl) (by decide +kernel) entry_list_len ?_ ?_
  · rw [check_bound_slot (by decide +kernel) (PySem.args_list_len _)]
    exact wpAny_pure rfl
  · unfold Builtin.«list.__len__»
    obtain ⟨oP, hoP, nP, rfl⟩ := (S.1.own _ (.tail _ (.tail _ (.tail _ h1)))).1
    refine wpAny_bind (m := slotArgs "__len__" 0 _) (wpAny_pure ?_)
    refine wpAny_bind (wpAny_bind (wpAny_loadPart hoP (wpAny_pure ?_)))
    refine wpAny_bind (wpAny_mkInt (wpAny_pure ⟨_, rfl, ?_⟩))
    have S : SS s0 g ((b, _) :: (so, _) :: (L, _) :: pts) _ := ⟨S.1, S.2.trans (Sh.mk2 (t := _))⟩
    show R (.ok (.ret (.int ((vs.toArray.size : Nat) : Int) s.toks))) _
    rw [List.size_toArray]
    exact hQ _ s.toks ⟨S.1.drop.drop.drop, S.2⟩
end
end Mine
end
section
open PySem PySem.W PySem.Spec PySem.Calls PyProof.Rows
set_option Elab.async false
set_option maxRecDepth 100000
set_option maxHeartbeats 4000000
set_option linter.unusedVariables false
namespace Mine
section
variable {w : World} {A : Around} {E : Value → Shared → Prop} {s0 s : Shared} {g : Heap} {pts pts' : List PO} {env : Env} {P dx : Addr} {vs : List Value}
noncomputable abbrev popSig : Manifest.Signature := ⟨.positional, "list.pop", "pop", .self, [⟨"index", .posOnly, false⟩]⟩
theorem pop_sig1 : Manifest.signature? "list.pop" = some popSig := by rw [signature?_of (id := "list.pop") (n := ['p', 'o', 'p']) (o := ['t', 's', 'i', 'l']) (by kernel_rfl) F.owner_list]; kernel_rfl
theorem pop_sig2 (v : Value) : Bind.checkArgs "list.pop" { popSig with full := "_Accumulator.pop" } ⟨[v], []⟩ = pure () := by kernel_rfl
theorem check_pop {Q : Unit → Shared → Prop} (S : SS s0 g pts s) (W : Wd (KK w) g) (h1 : (P, PilP dx vs) ∈ pts) (h2 : (dx, IniP) ∈ pts) (h : Q () s) : wpAny (model PR w) A (checkBoundCall "list.pop" ⟨[.ref P], []⟩) Q E s := by
  have X : (KF w).In s.heap := W.kf.keeps S.1.keep
  obtain ⟨n', hh', tk', k, t', m, I⟩ := pileI S h1 h2
  have hi : Looks (model PR w) s.heap (isInstance (.ref P) (.type "module")) false := I.type.andThen (looks_mroIn X (by kernel_rfl))
  have hk : builtinKind "list.pop" = some .method := by decide +kernel
  obtain ⟨cd, hcd, hqn⟩ : ∃ cd, clsIn (KF w) 253 = some cd ∧ toString cd.qualname.toString ++ toString "." ++ toString (Bind.lastOf "list.pop") = "_Accumulator.pop" := ⟨_, rfl, by kernel_rfl⟩
  unfold checkBoundCall
  simp only [pop_sig1, hk]
  rw [if_neg (by decide +kernel)]
  refine wpAny_bind (hi.here ?_)
  rw [if_neg (by decide +kernel)]
  obtain ⟨hh, gg, dd, tk, os⟩ := s
  refine wpAny_bind (ks_wpAny_isType_inst I.at_ (fun c e => by cases e) ?_)
  rw [if_neg (by decide)]
  refine wpAny_bind (I.type.here ?_)
  dsimp only
  refine wpAny_bind ((looks_clsIn X hcd).here ?_)
  refine wpAny_bind ((looks_typeIn X (v := .ref 253) (t := .type "type") (by kernel_rfl)).here ?_)
  rw [if_pos (by decide +kernel)]
  rw [hqn]
  exact wpAny_of_eq (pop_sig2 _) h
/-- list.pop at the pile: the last one goes -/
theorem popB {v : Value} {vs' : List Value} {Q : PySem.Fin → Shared → Prop} (S : SS s0 g pts s) (hat : At pts P (PilP dx (vs' ++ [v])) (PilP dx vs') pts') (hsz : vs'.length < 1000) (h : ∀ s', SS s0 g pts' s' → Q (.done (.ret v)) s') :
    wpAny (model PR w) A (Builtin.«list.pop» ⟨[.ref P], []⟩) Q E s := by
  obtain ⟨o, ho, n, rfl⟩ := S.1.at hat
  unfold Builtin.«list.pop»
  refine wpAny_bind (m := selfAndSome "list.pop" "pop" 0 1 _) (wpAny_pure ?_)
  refine wpAny_bind (wpAny_pure ?_)
  dsimp only
  rw [if_neg (by decide +kernel)]
  unfold Builtin.List.listItems
  refine wpAny_bind (wpAny_bind (wpAny_seqItems ho rfl (wpAny_pure ?_)))
  rw [if_neg (by simp)]
  have hk : (seqIndex? (-1) (vs' ++ [v]).toArray.size).bind (fun k => (vs' ++ [v]).toArray[k]?.map (k, ·)) = some (vs'.length, v) := by
    have : seqIndex? (-1) (vs' ++ [v]).toArray.size = some vs'.length := by
      unfold seqIndex?
      simp
      omega
    rw [this]
    simp
  rw [hk]
  refine wpAny_bind ?_
  show wpAny _ _ (updateSeq P _) _ _ _
  have hf : ((vs' ++ [v]).toArray).eraseIdxIfInBounds vs'.length = vs'.toArray := by
    rw [Array.eraseIdxIfInBounds, dif_pos (by simp)]
    apply Array.ext'
    simp [List.eraseIdx_append_of_length_le]
  refine wpAny_updateSeq ho rfl ?_ (by rw [sizeLine_eq]; simp; omega) (Nat.le_trans (Nat.le_of_eq (congrArg Array.size hf)) (by rw [sizeLine_eq]; simp; omega))
  refine wpAny_pure (h _ ⟨S.1.upd hat (fun b o hb e => (Heap.SameBut.update s.heap P _).extBut b o hb e) ⟨_, Heap.get?_update_self _ ho rfl, ?_⟩, S.2.trans Sh.mk1⟩)
  exact ⟨_, by show Obj.mk _ _ (Data.seq (((vs' ++ [v]).toArray).eraseIdxIfInBounds vs'.length) _) _ = _; rw [hf]⟩
end
end Mine
end
section
open PySem PySem.W PySem.Spec PySem.Calls PyProof.Rows
set_option Elab.async false
set_option maxRecDepth 100000
set_option maxHeartbeats 4000000
set_option linter.unusedVariables false
namespace Mine
section
variable {w : World} {A : Around} {E : Value → Shared → Prop} {s0 s : Shared} {g : Heap} {pts pts' : List PO} {env : Env} {P dx : Addr} {vs : List Value}
/-- push: one row more on the pile -/
theorem push_c {a b : Str} {ta tb : Tok} {Q : Value → Shared → Prop} (hA : Rm 3 A) (S : SS s0 g ((P, PilP dx vs) :: (dx, IniP) :: pts) s) (W : Wd (KK w) g) (hsz : vs.length ≤ 900)
    (hQ : ∀ g' v s', Le g g' → SS s0 g' ((P, PilP dx (vs ++ [v])) :: (dx, IniP) :: pts) s' → RowIs g' v (a, b) → Q .none s') :
    wpAny (model PR w) A (call (.ref 197) [.ref P, .str a ta, .str b tb]) Q E s := by
  refine callV hA S W rfl (by kernel_rfl) rfl (BindsTo.of_eq (binds := [("self", .ref P), ("fws", .str a ta), ("string", .str b tb)]) (by kernel_rfl)) (by decide) (locs rfl) (fun L s S hA₁ hLf => ?_)
  refine wpAny_execs_cons (wpAny_Expr_any (MethodCall_ ?_))
  refine nmL S (by walk_at "mem") rfl ?_
  refine mthP S W (P := P) (dx := dx) (vs := vs) (id := "list.append") (by walk_at "mem") (by walk_at "mem") (by kernel_rfl) type_list_append ?_
  refine callWith_builtin rfl (evalArgs_plain ?_)
  refine args_cons (Tuple_ (args_cons (nmL S (by walk_at "mem") rfl (args_cons (nmL S (by walk_at "mem") rfl (args_nil ?_))))))
  refine newT S (fun TT s hT S => args_nil ?_)
  obtain ⟨g', hle, ⟨o, ho, hP, _⟩, S'⟩ := S.1.freeze
  have S : SS s0 g' _ s := ⟨S', S.2⟩
  refine appendP S (W.le hle) (dx := dx) (vs := vs) (by walk_at "at") (by walk_at "mem") (by omega) (fun s S => wpAny_execs_nil ?_)
  exact hQ g' _ _ hle ⟨S.1.drop, S.2⟩ ⟨TT, _, _, rfl, o, ho, hP⟩
/-- pop: the last row goes; of an empty pile, two empty texts -/
theorem pop_c {Q : Value → Shared → Prop} (hA : Rm 6 A) (S : SS s0 g ((P, PilP dx vs) :: (dx, IniP) :: pts) s) (W : Wd (KK w) g) (hsz : vs.length ≤ 900)
    (hQ0 : vs = [] → ∀ g' v s', Le g g' → SS s0 g' ((P, PilP dx []) :: (dx, IniP) :: pts) s' → RowIs g' v (Str.ofString "", Str.ofString "") → Q v s')
    (hQ1 : ∀ vs' v s', vs = vs' ++ [v] → SS s0 g ((P, PilP dx vs') :: (dx, IniP) :: pts) s' → Q v s') :
    wpAny (model PR w) A (call (.ref 213) [.ref P]) Q E s := by
  refine wpAny_call (callAt hA S W rfl (by kernel_rfl) rfl (BindsTo.of_eq (binds := [("self", .ref P)]) (by kernel_rfl)) (by decide) (locs rfl) (fun L s S hA₁ hLf => ?_))
  refine ks_wpAt_execs_cons (ks_wpAt_If (PySem.wpAt_of_wpAny (wpAny_isTrue_Compare1 (MethodCall_ ?_))))
  refine nmL S (by walk_at "mem") rfl ?_
  refine mthPf S W (P := P) (dx := dx) (vs := vs) (f := 250) (by walk_at "mem") (by walk_at "mem") (by kernel_rfl) (by kernel_rfl) ?_
  refine callWith_K0 (K := KF w) (W.kf.keeps S.1.keep) (by kernel_rfl) (wpAny_call ?_)
  refine part_count_c hA₁.less.less S W (P := P) (dx := dx) (vs := vs) (by walk_at "mem") (by walk_at "mem") (by omega) (fun s t S => ?_)
  refine wpAny_Constant_int (eq_int (wpAny_truthy_bool ?_))
  have S : SS s0 g ((L, NsL [("self", .ref P)]) :: (P, PilP dx vs) :: (dx, IniP) :: pts) _ := ⟨S.1, S.2.trans (Sh.mk2 (t := _))⟩
  cases hvs : vs.reverse with
  | nil =>
    obtain rfl : vs = [] := by simpa using hvs
    rw [if_pos (by decide)]
    refine PySem.wpAt_of_wpAny ?_
    refine wpAny_execs_cons (wpAny_Return_some (Tuple_ (args_cons (wpAny_Constant_str (args_cons (wpAny_Constant_str (args_nil ?_)))))))
    refine newT (pts := (L, NsL [("self", .ref P)]) :: (P, PilP dx []) :: (dx, IniP) :: pts) ⟨S.1, S.2.trans ⟨rfl, id⟩⟩ (fun TT s hT S => ?_)
    obtain ⟨g', hle, ⟨o, ho, hP, _⟩, S'⟩ := S.1.freeze
    exact hQ0 rfl g' _ _ hle ⟨S'.drop, S.2⟩ ⟨TT, _, _, rfl, o, ho, hP⟩
  | cons v r =>
    have e : vs = r.reverse ++ [v] := by rw [← List.reverse_reverse vs, hvs]; simp
    generalize hvs' : r.reverse = vs' at e
    subst e
    have hne : ¬ (((vs' ++ [v]).length : Int) = 0) := by simp; omega
    rw [if_neg (by simpa using hne)]
    refine PySem.wpAt_of_wpAny (wpAny_execs_nil ?_)
    refine ks_wpAt_execs_cons (ks_wpAt_Return_some (ks_wpAt_MethodCall ?_))
    refine sup_base S W (P := P) (dx := dx) (vs := vs' ++ [v]) (by walk_at "mem") (by walk_at "mem") (by rfl) (f := 213) rfl (by decide) (cc := 212) rfl (by decide) rfl rfl rfl rfl rfl rfl rfl rfl rfl (by kernel_rfl) (by kernel_rfl) rfl rfl rfl rfl rfl (fun so s S => ?_)
    refine sup_pop S W (P := P) (dx := dx) (vs := vs' ++ [v]) (.head _) (by walk_at "mem") (by walk_at "mem") (fun b s S => ?_)
    obtain ⟨o, ho, hoB⟩ := (S.1.own _ (.head _)).1
    cases hoB
    refine callWith_bound ho (.inl rfl) ?_
    refine call_bound ho (.inl rfl) (by decide +kernel) F.entry_list_pop ?_ ?_
    · exact check_pop S W (P := P) (dx := dx) (vs := vs' ++ [v]) (by walk_at "mem") (by walk_at "mem") rfl
    · refine popB S (P := P) (dx := dx) (v := v) (vs' := vs') (by walk_at "at") (by simp at hsz; omega) (fun s S => ⟨_, rfl, ?_⟩)
      exact hQ1 vs' v _ rfl ⟨S.1.drop.drop.drop, S.2⟩
end
end Mine
end
section
open PySem PySem.W PySem.Spec PySem.Calls PyProof.Rows Builtin Builtin.ObjectAttr
set_option Elab.async false
set_option maxRecDepth 100000
set_option maxHeartbeats 4000000
set_option linter.unusedVariables false
namespace Mine
theorem refuse_pile (self : Value) : refuseLoop self "__setattr__" [.ref 253, .type "list", .type "object"] = pure () := by
  rw [refuseLoop_ref]
  kernel_rfl
theorem f_setattr (w : World) : findIn (KF w) (.ref 253) "__setattr__" = some (some (.builtin "object.__setattr__")) := by kernel_rfl
theorem f_taker (w : World) : takerIn (KF w) 253 "_initial_size" = some none := by kernel_rfl
section
variable {w : World} {A : Around} {E : Value → Shared → Prop} {s0 s : Shared} {g : Heap} {pts pts' : List PO} {env : Env} {P dx : Addr} {vs : List Value}
theorem osa_pile {R : Result → Shared → Prop} {ox : Obj} {od : Option Obj} {name : Str} {tk : Tok} {v : Value} (X : (KF w).In s.heap) (I : InstAt s.heap P ox 253 od) (ht : findIn (KF w) (.ref 253) name = some none)
    (h : ∀ b, wpAny (model PR w) A.in1 (storeInOwnDict (.ref P) (.ref 253) (.str name tk) name v b)
      (fun fin s' => match fin with | .done f => R (.ok f) s' | .again c' => c'.quiet = true ∧ codeAny (model PR w) A c' R s') (fun e s' => R (.error e) s') s) :
    codeAny (model PR w) A (.call (.builtin "object.__setattr__") ⟨[.ref P, .str name tk, v], []⟩) R s := by
  have SF := PySem.F.store_object
  obtain ⟨cd, hcd, hmro⟩ : ∃ cd, clsIn (KF w) 253 = some cd ∧ cd.mro = [.ref 253, .type "list", .type "object"] := ⟨_, rfl, rfl⟩
  have sub : Looks (model PR w) s.heap (isInstance (.ref P) (.type "object")) true := I.type.andThen (looks_mroIn X (by kernel_rfl))
  refine codeAny_call_builtin SF.slot.plain SF.entry (@check_slot (model PR w) _ _ s "object.__setattr__" "object" "__setattr__" (.ref P) [.str name tk, v] [] _ SF.kind SF.split sub (SF.args (.ref P) (.str name tk) v) ?_)
  have hm : Looks (model PR w) s.heap (mroOf (.ref 253)) [.ref 253, .type "list", .type "object"] := fun A Q E s k q => wpAny_bind ((looks_clsIn X hcd) A _ E s k (wpAny_pure (hmro ▸ q)))
  rw [osa_eq, refuse_eq]
  refine wpAny_bind (wpAny_bind (I.type.here (wpAny_bind (hm.here ?_))))
  rw [refuse_pile]
  refine wpAny_pure (wpAny_bind (I.type.here (wpAny_bind ((looks_findIn X ht).here (wpAny_bind (wpAny_pure ?_))))))
  exact h _
theorem setIni {ptt : Tok → List PO} {es : List DictEntry} {name : Str} {v : Value} {Q : Unit → Shared → Prop} (S : SS s0 g pts s) (W : Wd (KK w) g) (h1 : (P, PilP dx vs) ∈ pts) (ht : findIn (KF w) (.ref 253) name = some none)
    (hl : (getL name es).isSome = true) (hz : es.length ≤ 10)
    (hat : ∀ tk, At pts dx (DctP es) (DctP (putL name (PyData.keyHash w.params name) (.str name tk) v es)) (ptt tk))
    (h : ∀ tk s', SS s0 g (ptt tk) s' → Q () s') : wpAny (model PR w) A (setAttr (.ref P) name v) Q E s := by
  obtain ⟨o, ho, n, rfl⟩ := S.1.at (hat 0)
  have X : (KF w).In s.heap := W.kf.keeps S.1.keep
  obtain ⟨ox, hx, nP, rfl⟩ := (S.1.own _ h1).1
  have I : InstAt s.heap P { cls := .ref 253, dict := some dx, data := .seq vs.toArray nP } 253 (some (dictOf es n)) := ⟨hx, rfl, rfl, ho⟩
  refine set_plain (K := KF w) X I (f_setattr w) ?_
  refine osa_pile (s := { s with toks := s.toks + 1 }) X I ht fun b => ?_
  obtain ⟨cd, hc, hd'⟩ : ∃ cd, clsIn (KF w) 253 = some cd ∧ cd.hasDict = true := ⟨_, rfl, rfl⟩
  refine wpAny_bind (wpAny_pure (wpAny_bind (wpAny_bind (wpAny_loadPart hx (wpAny_bind (looks_clsIn (h := s.heap) X hc _ _ _ _ (fun _ _ e => e) ?_))))))
  rw [hd']
  refine wpAny_pure (a := some dx) (wpAny_bind (wpAny_pure (wpAny_bind ?_)))
  unfold nsSet
  refine wpAny_bind (wpAny_bind (wpAny_askSetting (wpAny_pure (wpAny_bind (wpAny_mkText (wpAny_bind (wpAny_loadPart ho ?_)))))))
  have c : (!es.toArray.any (·.key.isStr name) && es.toArray.any (·.refKey)) = false := by
    unfold getL at hl
    rw [List.any_toArray, List.any_toArray]
    split at hl
    · rename_i en he
      rw [List.any_eq_true.mpr ⟨en, List.mem_of_find?_eq_some he, List.find?_some he⟩]; rfl
    · split at hl
      · cases hl
      · rename_i z; rw [Bool.not_eq_true] at z; rw [z, Bool.and_false]
  dsimp only
  rw [aRefKeyMayBeTheName_at, c]
  refine wpAny_updatePart ho ?_
  have hput := putName_dict name (PyData.keyHash w.params name) (.str name (s.toks + 1)) v es n
  have hlen : ∀ (es : List DictEntry) hsh k, (putL name hsh k v es).length ≤ es.length + 1 := by
    intro es hsh k
    induction es with
    | nil => simp [putL]
    | cons e r ih => unfold putL; split <;> simp <;> omega
  have hg : (s.heap.update dx (Obj.putName name (PyData.keyHash w.params name) (.str name (s.toks + 1)) v)).get? dx = some (dictOf (putL name (PyData.keyHash w.params name) (.str name (s.toks + 1)) v es) (putN name es n)) := by
    rw [← hput]
    exact Heap.get?_update_self _ ho (by rw [hput]; rfl)
  have hl2 := hlen es (PyData.keyHash w.params name) (.str name (s.toks + 1))
  have hz' : (dictOf (putL name (PyData.keyHash w.params name) (.str name (s.toks + 1)) v es) (putN name es n)).data.pastItsLine = none := pastItsLine_dict (es := (putL name (PyData.keyHash w.params name) (.str name (s.toks + 1)) v es).toArray) (by rw [List.size_toArray, sizeLine_eq]; omega)
  have S' : SS s0 g (ptt (s.toks + 1)) { s with heap := s.heap.update dx (Obj.putName name (PyData.keyHash w.params name) (.str name (s.toks + 1)) v), toks := s.toks + 1 + 1 } :=
    ⟨S.1.upd (hat (s.toks + 1)) (fun b o hb e => (Heap.SameBut.update s.heap dx _).extBut b o hb e) ⟨_, hg, _, rfl⟩, S.2.trans ⟨rfl, id⟩⟩
  refine wpAny_bind (wpAny_lookBehind (s := { s with heap := s.heap.update dx (Obj.putName name (PyData.keyHash w.params name) (.str name (s.toks + 1)) v), toks := s.toks + 1 + 1 }) hg hz' ?_)
  exact wpAny_pure (h _ _ S')
end
end Mine
end
section
open PySem PySem.W PySem.Spec PySem.Calls PyProof.Rows
set_option Elab.async false
set_option maxRecDepth 100000
set_option maxHeartbeats 4000000
set_option linter.unusedVariables false
namespace Mine
theorem bind_list_set (self : Value) : bindSpecial (.builtin "list.__setitem__") self = pure (.builtin "list.__setitem__", [self]) := slot_list_setitem.bind self
section
variable {w : World} {A : Around} {E : Value → Shared → Prop} {s0 s : Shared} {g : Heap} {pts pts' : List PO} {env : Env} {P dx D sl : Addr} {vs ys : List Value}
theorem setSliceP {Q : Unit → Shared → Prop} (S : SS s0 g pts s) (W : Wd (KK w) g) (hat : At pts P (PilP dx vs) (PilP dx ys) pts') (h2 : (dx, IniP) ∈ pts) (hs : s.heap.IsSliceOf sl .none .none .none) (hD : s.heap.PlainList D ys.toArray)
    (hx : vs.length ≤ 1000) (hy : ys.length ≤ 1000) (h : ∀ s', SS s0 g pts' s' → Q () s') : wpAny (model PR w) A (setItem (.ref P) (.ref sl) (.ref D)) Q E s := by
  obtain ⟨n', hh', tk', k, t', m, I⟩ := pileI S hat.mem h2
  have X : (KF w).In s.heap := W.kf.keeps S.1.keep
  have hf : findIn (KF w) (.ref 253) "__setitem__" = some (some (.builtin "list.__setitem__")) := by kernel_rfl
  have hne : P ≠ D := fun e => by
    subst e
    obtain ⟨m, hm⟩ := hD
    have := I.at_
    rw [hm] at this
    cases this
  unfold setItem
  refine wpAny_holding (wpAny_bind ?_)
  unfold sequenceKey
  refine wpAny_bind (I.type.here ?_)
  refine wpAny_bind ((anyM_none X (by kernel_rfl)).here ?_)
  rw [if_pos (show (!false) = true from rfl)]
  refine wpAny_pure ?_
  refine wpAny_bind ?_
  unfold callSpecial? specialOf
  refine wpAny_bind (wpAny_bind (I.type.here ((looks_findIn X hf).here ?_)))
  refine wpAny_holding (wpAny_bind (wpAny_of_eq (bind_list_set _) ?_))
  refine wpAny_bind (call_pile S W hat.mem h2 (.inr (by decide +kernel)) (n := "__setitem__") (by decide +kernel) (by decide +kernel) entry_list_setitem (args_list_setitem _ _ _) ?_)
  refine setSlice_core I.at_ rfl hs hD hne hx hy (fun h' n' hs' hg => ⟨_, rfl, wpAny_pure (wpAny_pure (h _ ⟨S.1.upd hat (fun b o hb e => hs'.extBut b o hb e) ⟨_, hg, n', rfl⟩, S.2.trans Sh.mk1⟩))⟩) rfl
theorem reset_c {Q : Value → Shared → Prop} (hA : Rm 3 A) (S : SS s0 g ((P, PilP dx vs) :: (dx, IniP) :: (D, LstP ys) :: pts) s) (W : Wd (KK w) g) (hx : vs.length ≤ 900) (hy : ys.length ≤ 900)
    (hQ : ∀ s', SS s0 g ((P, PilP dx ys) :: (dx, IniP) :: (D, LstP ys) :: pts) s' → Q .none s') :
    wpAny (model PR w) A (call (.ref 235) [.ref P, .ref D]) Q E s := by
  have h228 : ∃ o n, s.heap.get? 228 = some o ∧ o.data = .seq #[.none] n := ⟨_, _, S.1.keep _ _ (W.kin 228 _ (by decide) rfl), rfl⟩
  obtain ⟨od, nd, hod, hdd⟩ := h228
  refine callV hA S W rfl (by kernel_rfl) rfl (BindsTo.of_defaults (binds := [("self", .ref P), ("startval", .ref D)]) rfl hod hdd rfl (by kernel_rfl)) (by decide) (locs rfl) (fun L s S hA₁ hLf => ?_)
  refine wpAny_execs_cons (wpAny_If (wpAny_isTrue_Compare1 (nmL S (by walk_at "mem") rfl (wpAny_Constant_none (wpAny_is_other rfl (by intro e; cases e) (wpAny_truthy_bool ?_))))))
  rw [if_neg (by decide)]
  refine wpAny_execs_nil ?_
  refine wpAny_execs_cons (wpAny_Assign_Subscript (nmL S (by walk_at "mem") rfl (nmL S (by walk_at "mem") rfl ?_)))
  refine wpAny_Slice (wpAny_pure (wpAny_pure (wpAny_pure ?_)))
  have hgD := fun b o (e : s.heap.get? b = some o) => Heap.get?_push_of_some { cls := .type "slice", data := .fields #[.none, .none, .none] } e
  have S' : SS s0 g ((L, NsL [("startval", .ref D), ("self", .ref P)]) :: (P, PilP dx vs) :: (dx, IniP) :: (D, LstP ys) :: pts) { s with heap := s.heap.push { cls := .type "slice", data := .fields #[.none, .none, .none] } } := ⟨S.1.grow hgD, S.2.trans Sh.mk1⟩
  refine setSliceP S' W (P := P) (dx := dx) (vs := vs) (ys := ys) (by walk_at "at") (by walk_at "mem") (Heap.IsSliceOf.new _ _ _ _) (LstP.plain (S'.1.own (D, LstP ys) (by walk_at "mem")).1) (by omega) (by omega) (fun s S => ?_)
  refine wpAny_execs_cons (plainObj_wpAny_Assign_Attribute (wpAny_Constant_int ?_))
  have S : SS s0 g ((L, NsL [("startval", .ref D), ("self", .ref P)]) :: (P, PilP dx ys) :: (dx, IniP) :: (D, LstP ys) :: pts) _ := ⟨S.1, S.2.trans (Sh.mk2 (t := _))⟩
  refine nmL S (by walk_at "mem") rfl ?_
  obtain ⟨o', ho', h, tk, k, t, hP'⟩ := (S.1.own (dx, IniP) (by walk_at "mem")).1
  have S2 : SS s0 g ((L, NsL [("startval", .ref D), ("self", .ref P)]) :: (P, PilP dx ys) :: (dx, DctP [⟨h, .str "_initial_size" tk, .int k t⟩]) :: (D, LstP ys) :: pts) _ :=
    ⟨S.1.upd (a := dx) (P := IniP) (by walk_at "at") (fun b o _ e => e) ⟨o', ho', hP'⟩, S.2⟩
  refine setIni (es := [⟨h, .str "_initial_size" tk, .int k t⟩]) (P := P) (dx := dx) (vs := ys) S2 W (by walk_at "mem") (by kernel_rfl) rfl (by show 1 ≤ 10; decide) (fun tk => by walk_at "at") (fun tk' s S => wpAny_execs_nil ?_)
  obtain ⟨o3, ho3, hP3⟩ := (S.1.own (dx, _) (.tail _ (.tail _ (.head _)))).1
  refine hQ _ ⟨(S.1.drop).upd (a := dx) (P' := IniP) (At.there At.here) (fun b o _ e => e) ⟨o3, ho3, ?_⟩, S.2⟩
  exact ⟨_, _, _, _, hP3⟩
end
end Mine
end
section
open PySem PySem.W PySem.Spec PySem.Calls PyProof.Rows
set_option Elab.async false
set_option maxRecDepth 100000
set_option maxHeartbeats 4000000
set_option linter.unusedVariables false
namespace Mine
section
variable {w : World} {A : Around} {h : Heap} {g : Array GenState} {d : Drawn} {t : Nat} {os : OsState} {R : Result → Shared → Prop}
noncomputable abbrev pilObj (dx : Addr) : Obj := { cls := .ref 253, dict := some dx, data := .seq #[] }
theorem made_pile (X : (KF w).In h) : Looks (model PR w) h (Bind.madeBy (.ref 253)) (some "list.__new__") := by
  refine Looks.of_peek X ?_
  kernel_rfl
theorem base_pile (X : (KF w).In h) : Looks (model PR w) h (Bind.staticBase (.ref 253)) (.ref 253) := by
  refine Looks.of_peek X ?_
  kernel_rfl
theorem newP_check (X : (KF w).In h) {E : Value → Shared → Prop} {Q : Unit → Shared → Prop} (hq : Q () ⟨h, g, d, t, os⟩) : wpAny (model PR w) A (checkBuiltinCall "list.__new__" ⟨[.ref 253], []⟩) Q E ⟨h, g, d, t, os⟩ := by
  have L : Looks (model PR w) h (checkBuiltinCall "list.__new__" ⟨[.ref 253], []⟩) () := by
    refine Looks.of_peek X ?_
    kernel_rfl
  exact L.at hq
theorem newP (X : (KF w).In h) (hq : R (.ok (.ret (.ref (h.objs.size + 1)))) ⟨(h.push emptyDict).push (pilObj h.objs.size), g, d, t, os⟩) :
    codeAny (model PR w) A (.call (.builtin "list.__new__") ⟨[.ref 253], []⟩) R ⟨h, g, d, t, os⟩ := by
  refine codeAny_of_tree ?_
  show wpAny _ A.in1 (do checkBuiltinCall "list.__new__" ⟨[.ref 253], []⟩; again (.builtin "list.__new__" ⟨[.ref 253], []⟩)) _ _ _
  refine wpAny_bind (newP_check X (wpAny_pure ⟨plainId_quiet F.plain_list_new _, codeAny_builtin_stack F.entry_list_new rfl fun p st => ?_⟩))
  rw [Around.under_plainId F.plain_list_new _]
  have hown := owner_list_new
  simp only [hown]
  have L1 : Looks (model PR w) h (isType (.ref 253)) true := Looks.of_peek X (by kernel_rfl)
  have L2 : Looks (model PR w) h (isSubtype (.ref 253) (.type "list")) true := Looks.of_peek X (by kernel_rfl)
  refine wpAny_bind (L1.at ?_)
  rw [if_neg (by decide)]
  refine wpAny_bind (L2.at ?_)
  rw [if_neg (by decide)]
  refine wpAny_bind (wpAny_pure ?_)
  rw [if_neg (by decide)]
  refine wpAny_bind (wpAny_newObj_type ?_)
  refine wpAny_bind ?_
  show wpAny _ _ (newObj _ _ _) _ _ _
  unfold newObj
  dsimp only
  rw [if_neg (by decide +kernel)]
  unfold newObjAsIs classHasDel
  obtain ⟨oD, hD, cdD, hDd, hdel⟩ : ∃ o, (KF w).lookup 253 = some o ∧ ∃ cd, o.data = .cls cd ∧ cd.hasDel = false := ⟨_, rfl, _, rfl, rfl⟩
  have hC := X _ _ hD
  refine wpAny_bind (wpAny_alloc (wpAny_bind (wpAny_bind (wpAny_load (Heap.get?_push_of_some _ (Heap.get?_push_of_some _ hC)) ?_))))
  rw [hDd]
  refine wpAny_pure ?_
  rw [hdel]
  refine wpAny_pure (wpAny_pure ?_)
  show R _ _
  rw [Heap.size_push]
  exact hq
end
end Mine
end
section
open PySem PySem.W PySem.Spec PySem.Calls PyProof.Rows
set_option Elab.async false
set_option maxRecDepth 100000
set_option maxHeartbeats 4000000
set_option linter.unusedVariables false
namespace Mine
section
variable {w : World} {A : Around} {h : Heap} {g : Array GenState} {d : Drawn} {t : Nat} {os : OsState} {R : Result → Shared → Prop}
theorem make_pile (X : (KF w).In h) (hq : codeAny (model PR w) (A.under (.builtin "type.__call__" ⟨[.ref 253], []⟩)) (.call (.ref 190) ⟨[.ref (h.objs.size + 1)], []⟩) (InitBack (h.objs.size + 1) R) ⟨(h.push emptyDict).push (pilObj h.objs.size), g, d, t, os⟩) :
    codeAny (model PR w) A (.call (.ref 253) ⟨[], []⟩) R ⟨h, g, d, t, os⟩ := by
  obtain ⟨oD, hD, cdD, hDd⟩ : ∃ o, (KF w).lookup 253 = some o ∧ ∃ cd, o.data = .cls cd := ⟨_, rfl, _, rfl⟩
  have hC := X _ _ hD
  have Lc : Looks (model PR w) h (specialOf (.ref 253) "__call__") (some (.builtin "type.__call__")) := looks_specialIn X (by kernel_rfl)
  have typ : Looks (model PR w) h (isInstance (.ref 253) (.type "type")) true := looks_instIn X (by kernel_rfl)
  obtain ⟨cd, hcd, hmro⟩ : ∃ cd, clsIn (KF w) 253 = some cd ∧ cd.mro = [.ref 253, .type "list", .type "object"] := ⟨_, rfl, rfl⟩
  have hm : Looks (model PR w) h (mroOf (.ref 253)) [.ref 253, .type "list", .type "object"] := fun A Q E s k q => wpAny_bind ((looks_clsIn X hcd) A _ E s k (wpAny_pure (hmro ▸ q)))
  refine codeAny_of_tree ?_
  show wpAny _ _ (callAny (.ref 253) _) _ _ _
  unfold callAny
  refine wpAny_bind (wpAny_load hC ?_)
  rw [hDd]
  show wpAny _ _ (callAny.viaDunder (.ref 253) _) _ _ _
  unfold callAny.viaDunder
  refine wpAny_bind (Lc.at ?_)
  dsimp only
  rw [tc_bind]
  refine wpAny_bind (wpAny_pure (wpAny_bind (wpAny_pure ?_)))
  refine wpAny_pure (a := PySem.Fin.again (.call (.builtin "type.__call__") ⟨[.ref 253], []⟩)) (And.intro rfl ?_)
  refine codeAny_call_builtin_at (Code.quiet_builtin _ (by decide +kernel)) entry_typeCall (check_slot tc_kind tc_split typ (tc_args _ _ _) ?_)
  unfold Builtin.«type.__call__»
  dsimp only
  rw [if_neg (by decide +kernel)]
  refine wpAny_bind (hm.at ?_)
  rw [if_neg (by decide +kernel)]
  refine wpAny_bind ((made_pile X).at ?_)
  dsimp only
  refine wpAny_bind (wpAny_pure ?_)
  refine wpAny_bind (wpAny_holding (wpAny_call (newP X ?_)))
  have k : ∀ b o, h.get? b = some o → ((h.push emptyDict).push (pilObj h.objs.size)).get? b = some o := fun b o e => Heap.get?_push_of_some _ (Heap.get?_push_of_some _ e)
  have hx : ((h.push emptyDict).push (pilObj h.objs.size)).get? (h.objs.size + 1) = some (pilObj h.objs.size) := by heap_get
  have X1 : (KF w).In ((h.push emptyDict).push (pilObj h.objs.size)) := X.keeps k
  have t1 : Looks (model PR w) ((h.push emptyDict).push (pilObj h.objs.size)) (typeOf (.ref (h.objs.size + 1))) (.ref 253) := (Looks.ld hx).andThen .now
  have i1 : Looks (model PR w) ((h.push emptyDict).push (pilObj h.objs.size)) (isInstance (.ref (h.objs.size + 1)) (.ref 253)) true := t1.andThen (looks_mroIn X1 (by kernel_rfl))
  refine wpAny_bind (i1.at ?_)
  rw [if_neg (by decide)]
  unfold callSpecial? specialOf
  refine wpAny_bind (wpAny_holding (wpAny_bind (wpAny_bind (t1.at ((looks_findIn X1 (r := some (.ref 190)) (by kernel_rfl)).at ?_)))))
  dsimp only
  refine wpAny_holding (wpAny_bind ((bind_fn X1 _ (by kernel_rfl)).at ?_))
  dsimp only
  refine wpAny_bind (wpAny_call (codeAny_mono hq fun r s' z => ?_))
  rcases r with e | (v | _ | _ | _) <;> first | exact z | exact z.elim | skip
  obtain ⟨rfl, z⟩ := z
  exact wpAny_pure (wpAny_pure z)
end
end Mine
end
section
open PySem PySem.W PySem.Spec PySem.Calls PyProof.Rows
set_option Elab.async false
set_option maxRecDepth 100000
set_option maxHeartbeats 4000000
set_option linter.unusedVariables false
namespace Mine
section
variable {w : World} {A : Around} {E : Value → Shared → Prop} {s0 s : Shared} {g : Heap} {pts pts' : List PO} {env : Env} {P dx : Addr} {vs : List Value}
theorem initP_c {R : Result → Shared → Prop} (hA : Rm 3 A) (S : SS s0 g ((P, PilP dx []) :: (dx, DctP []) :: pts) s) (W : Wd (KK w) g)
    (hQ : ∀ s', SS s0 g ((P, PilP dx []) :: (dx, IniP) :: pts) s' → R (.ok (.ret .none)) s') :
    codeAny (model PR w) A (.call (.ref 190) ⟨[.ref P], []⟩) R s := by
  have h182 : ∃ o n tk, s.heap.get? 182 = some o ∧ o.data = .seq #[.int 0 tk] n := ⟨_, _, _, S.1.keep _ _ (W.kin 182 _ (by decide) rfl), rfl⟩
  obtain ⟨od, nd, tkd, hod, hdd⟩ := h182
  refine callAt hA S W rfl (by kernel_rfl) rfl (BindsTo.of_defaults (binds := [("self", .ref P), ("initial_size", .int 0 tkd)]) rfl hod hdd rfl (by kernel_rfl)) (by decide) (locs rfl) (fun L s S hA₁ hLf => ?_)
  refine ks_wpAt_execs_cons (PySem.wpAt_of_wpAny (plainObj_wpAny_Assign_Attribute (nmL S (by walk_at "mem") rfl (nmL S (by walk_at "mem") rfl ?_))))
  refine setIni (es := []) (P := P) (dx := dx) (vs := []) S W (by walk_at "mem") (by kernel_rfl) rfl (by decide) (fun tk => by walk_at "at") (fun tk' s S => ?_)
  obtain ⟨o3, ho3, hP3⟩ := (S.1.own (dx, _) (.tail _ (.tail _ (.head _)))).1
  have S : SS s0 g ((L, NsL [("initial_size", .int 0 tkd), ("self", .ref P)]) :: (P, PilP dx []) :: (dx, IniP) :: pts) s := ⟨S.1.upd (a := dx) (P' := IniP) (At.there (At.there At.here)) (fun b o _ e => e) ⟨o3, ho3, _, _, _, _, hP3⟩, S.2⟩
  refine ks_wpAt_execs_cons (ks_wpAt_Expr_any (ks_wpAt_MethodCall ?_))
  refine sup_base S W (P := P) (dx := dx) (vs := []) (by walk_at "mem") (by walk_at "mem") (by rfl) (f := 190) rfl (by decide) (cc := 189) rfl (by decide) rfl rfl rfl rfl rfl rfl rfl rfl rfl (by kernel_rfl) (by kernel_rfl) rfl rfl rfl rfl rfl (fun so s S => ?_)
  refine sup_init S W (P := P) (dx := dx) (vs := []) (.head _) (by walk_at "mem") (by walk_at "mem") (fun b s S => ?_)
  obtain ⟨o, ho, hoB⟩ := (S.1.own _ (.head _)).1
  cases hoB
  refine callWith_bound ho (.inr rfl) ?_
  refine call_bound ho (.inr rfl) (by decide +kernel) F.entry_list_init ?_ ?_
  · rw [check_bound_slot (by decide +kernel) (F.args_list_init_1 _)]
    exact wpAny_pure rfl
  · obtain ⟨oP, hoP, nP, rfl⟩ := (S.1.own (P, PilP dx []) (by walk_at "mem")).1
    unfold Builtin.«list.__init__»
    dsimp only
    rw [if_neg (by decide +kernel), if_neg (by decide +kernel)]
    unfold Builtin.List.listItems
    refine wpAny_bind (wpAny_bind (wpAny_seqItems hoP rfl (wpAny_pure ?_)))
    refine wpAny_bind ?_
    show wpAny _ _ (updateSeq P _) _ _ _
    refine wpAny_updateSeq hoP rfl ?_ (by rw [sizeLine_eq]; simp) (by rw [sizeLine_eq]; simp)
    refine wpAny_bind (wpAny_letGo (wpAny_pure ⟨_, rfl, PySem.wpAt_of_wpAny (wpAny_execs_nil ?_)⟩))
    refine hQ _ ⟨((S.1.upd (a := P) (P := PilP dx []) (P' := PilP dx []) (by walk_at "at") (fun b o hb e => (Heap.SameBut.update s.heap P _).extBut b o hb e) ⟨_, Heap.get?_update_self _ hoP rfl, _, rfl⟩).drop).drop.drop, S.2.trans Sh.mk1⟩
theorem newPile {Q : Value → Shared → Prop} (hA : Rm 4 A) (S : SS s0 g pts s) (W : Wd (KK w) g)
    (hQ : ∀ P dx s', SS s0 g ((P, PilP dx []) :: (dx, IniP) :: pts) s' → Q (.ref P) s') :
    wpAny (model PR w) A (call (.ref 253) []) Q E s := by
  have X : (KF w).In s.heap := W.kf.keeps S.1.keep
  obtain ⟨h, gg, dd, tk, os⟩ := s
  refine wpAny_call (make_pile X ?_)
  have S1 : SS s0 g ((h.objs.size, DctP []) :: pts) ⟨h.push emptyDict, gg, dd, tk, os⟩ := ⟨S.1.new (le_push _ _) (size_none _ (Nat.le_refl _)) ⟨_, Heap.get?_push_size _ rfl, 0, rfl⟩, S.2.trans ⟨rfl, id⟩⟩
  have S2 : SS s0 g ((h.objs.size + 1, PilP h.objs.size []) :: (h.objs.size, DctP []) :: pts) ⟨(h.push emptyDict).push (pilObj h.objs.size), gg, dd, tk, os⟩ := by
    have e : h.objs.size + 1 = (h.push emptyDict).objs.size := by rw [Heap.size_push]
    rw [e]
    exact ⟨S1.1.new (le_push _ _) (size_none _ (Nat.le_refl _)) ⟨_, Heap.get?_push_size _ rfl, 0, rfl⟩, S1.2.trans ⟨rfl, id⟩⟩
  refine initP_c hA.under S2 W (fun s' S => ⟨rfl, ?_⟩)
  exact hQ _ _ _ S
end
end Mine
end
section
open PySem PySem.W PySem.Spec PySem.Calls PyProof.Rows
set_option Elab.async false
set_option maxRecDepth 100000
set_option maxHeartbeats 4000000
set_option linter.unusedVariables false
namespace Mine
section
variable {w : World} {A : Around} {E : Value → Shared → Prop} {s0 s : Shared} {g : Heap} {pts pts' : List PO} {P dx : Addr} {vs : List Value}
theorem iterP {Q : Value → Shared → Prop} (S : SS s0 g pts s) (W : Wd (KK w) g) (h1 : (P, PilP dx vs) ∈ pts) (h2 : (dx, IniP) ∈ pts)
    (h : ∀ I s', s.heap.get? I = none → SS s0 g ((I, LitP P 0) :: pts) s' → Q (.ref I) s') : wpAny (model PR w) A (pyIter (.ref P)) Q E s := by
  obtain ⟨n', hh', tk', k, t', m, I⟩ := pileI S h1 h2
  have X : (KF w).In s.heap := W.kf.keeps S.1.keep
  have hf : findIn (KF w) (.ref 253) "__iter__" = some (some (.builtin "list.__iter__")) := by kernel_rfl
  have Ls : Looks (model PR w) s.heap (specialOf (.ref P) "__iter__") (some (.builtin "list.__iter__")) := I.type.andThen (looks_findIn X hf)
  unfold pyIter
  refine wpAny_bind (Ls.here ?_)
  dsimp only
  simp only [callSpecialIfBoundUnlessNone?, bindSpecialIfBound?]
  refine wpAny_bind (wpAny_holding (wpAny_bind (wpAny_bind (Ls.here ?_))))
  simp only [slot_list_iter.bind]
  refine wpAny_bind (wpAny_askSetting (wpAny_ite ?_))
  have hc : ∀ (Q' : Value → Shared → Prop), (∀ I s', s.heap.get? I = none → s'.TypeIs (.ref I) "list_iterator" → SS s0 g ((I, LitP P 0) :: pts) s' → Q' (.ref I) s') → wpAny (model PR w) A (call (.builtin "list.__iter__") [.ref P]) Q' E s := fun Q' hq => by
    refine call_pile S W h1 h2 (.inr (by decide +kernel)) (n := "__iter__") (by decide +kernel) (by decide +kernel) entry_list_iter (args_list_iter _) ?_
    show wpAny _ _ (do ret (← newFields "list_iterator" [.ref P, rawInt 0])) _ _ s
    exact wpAny_bind (wpAny_newObj_type (wpAny_pure ⟨_, rfl, hq _ _ (size_none _ (Nat.le_refl _)) ⟨_, Heap.get?_push_size _ rfl, rfl⟩ ⟨S.1.new (le_push _ _) (size_none _ (Nat.le_refl _)) ⟨_, Heap.get?_push_size _ rfl, rfl, rfl⟩, S.2.trans Sh.mk1⟩⟩))
  have fin : ∀ (refuse : Sem Value) (Q' : Option Value → Shared → Prop), (∀ I s', s.heap.get? I = none → s'.TypeIs (.ref I) "list_iterator" → SS s0 g ((I, LitP P 0) :: pts) s' → Q' (some (.ref I)) s') →
      wpAny (model PR w) A (if (Value.builtin "list.__iter__" == Value.none) = true then (refuse >>= fun v => pure (some v)) else (call (.builtin "list.__iter__") [.ref P] >>= fun v => pure (some v))) Q' E s := fun refuse Q' hq => by
    rw [if_neg (by decide +kernel)]
    exact wpAny_bind (hc _ fun I s' a b c => wpAny_pure (hq I s' a b c))
  split
  · refine wpAny_bind (wpAny_pure (wpAny_pure (fin _ _ fun I s' a b c => ?_)))
    exact wpAny_bind (wpAny_specialOf b slot_listiter_next.lookup (wpAny_pure (h I s' a c)))
  · refine wpAny_tryCatch (wpAny_bind (wpAny_pure (wpAny_pure (fin _ _ fun I s' a b c => ?_))))
    exact wpAny_bind (wpAny_specialOf b slot_listiter_next.lookup (wpAny_pure (h I s' a c)))
end
end Mine
end
section
open PySem PySem.W PySem.Spec PySem.Calls PyProof.Rows
set_option Elab.async false
set_option maxRecDepth 100000
set_option maxHeartbeats 4000000
set_option linter.unusedVariables false
namespace Mine
section
variable {prog : Program} {w : World} {A : Around} {s0 s : Shared} {g : Heap} {pts pts' : List PO} {P I : Addr} {vs : List Value}
/-- the raise that ends a walk -/
theorem endWalk {α : Type} {Q : α → Shared → Prop} {E : Value → Shared → Prop} (hh : A.handled = none)
    (h : ∀ e h', Le s.heap h' → ({ s with heap := h' } : Shared).TypeIs (.ref e) "StopIteration" → E (.ref e) { s with heap := h' }) : wpAny (model prog w) A (Builtin.SmallTypes.stopIteration : Sem α) Q E s := by
  unfold Builtin.SmallTypes.stopIteration newExc newTuple
  refine wpAny_bind (wpAny_bind (wpAny_newObj_type (wpAny_bind (m := firstArgMember _ _) (wpAny_of_eq (a := Value.none) (by simp only [firstArgMember]; rfl) (wpAny_newObj_type ?_ (by size_fits)))) (by size_fits)))
  unfold raiseNew
  refine wpAny_bind (wpAny_handled ?_)
  rw [hh]
  exact wpAny_bind (wpAny_pure (wpAny_throw (h _ _ (fun b o e => le_push _ _ b o (le_push _ _ b o e)) ⟨_, Heap.get?_push_size _ rfl, rfl⟩)))
/-- what the next of a list iterator does, by its body -/
theorem askNext {i : Nat} {Q : Option Value → Shared → Prop} {E : Value → Shared → Prop} (hI : ∃ o, s.heap.get? I = some o ∧ LitP P i o)
    (h : wpAny (model prog w) A.in1 (Builtin.«list_iterator.__next__» ⟨[.ref I], []⟩) (fun fin s' => ∃ v, fin = .done (.ret v) ∧ Q (some v) s') (fun e s' => s'.TypeIs e "StopIteration" ∧ Q none s') s) :
    wpAny (model prog w) A (pyNext (.ref I)) Q E s := by
  obtain ⟨o, ho, hc, hd⟩ := hI
  have hT : s.TypeIs (.ref I) "list_iterator" := ⟨o, ho, hc⟩
  have hb := wpAny_call_entry slot_listiter_next hT entry_listiter_next (wpAny_mono (Q' := fun fin s' => ∃ v, fin = .done (.ret v) ∧ ∀ E', wpAny (model prog w) A (pure (some v) : Sem (Option Value)) Q E' s') (E' := fun e s' => s'.TypeIs e "StopIteration" ∧ Q none s')
    h (fun fin s' ⟨v, e, q⟩ => ⟨v, e, fun _ => wpAny_pure q⟩) (fun _ _ q => q)) (args_listiter_next _)
  unfold pyNext
  refine wpAny_bind (wpAny_attempt (wpAny_mono (wpAny_callSpecial?_slot (args := []) (kw := []) (Q := fun r s' => ∃ v, r = some v ∧ ∀ E', wpAny (model prog w) A (pure (some v) : Sem (Option Value)) Q E' s') hT slot_listiter_next (wpAny_mono hb (fun v s' q => ⟨v, rfl, q⟩) fun _ _ q => q)) (fun r s' h' => ?_) (fun e s' h' => ?_)))
  · obtain ⟨v, rfl, q⟩ := h'
    exact q _
  · exact wpAny_bind (wpAny_isInstance (T := "StopIteration") (b := true) h'.1 isSubtype_stop (wpAny_pure h'.2))
/-- the iterator's body ahead of the end, over any object that holds a row of items -/
theorem body_more {i n : Nat} {o : Obj} {x : Value} {Q : Fin → Shared → Prop} {E : Value → Shared → Prop} (hI : ∃ o, s.heap.get? I = some o ∧ LitP P i o) (hP : s.heap.get? P = some o) (hd : o.data = .seq vs.toArray n) (hx : vs[i]? = some x)
    (h : ∀ h', (∀ b o, b ≠ I → s.heap.get? b = some o → h'.get? b = some o) → (∃ o, h'.get? I = some o ∧ LitP P (i + 1) o) → Q (.done (.ret x)) { s with heap := h' }) :
    wpAny (model prog w) A (Builtin.«list_iterator.__next__» ⟨[.ref I], []⟩) Q E s := by
  obtain ⟨oI, hoI, hc, hdI⟩ := hI
  show wpAny _ _ (field (.ref I) 0 >>= _) _ _ s
  refine wpAny_bind (wpAny_field hoI hdI (x := .ref P) rfl ?_)
  refine wpAny_ite ?_
  rw [if_neg (show ¬ ((Value.ref P == Value.none) = true) from Bool.false_ne_true)]
  refine wpAny_bind (wpAny_field hoI hdI (x := .int i 0) rfl ?_)
  show wpAny _ _ (seqItems? (.ref P) >>= _) _ _ s
  refine wpAny_bind (wpAny_seqItems hP hd ?_)
  have hx' : vs.toArray[(i : Int).toNat]? = some x := by simpa using hx
  simp only [hx']
  refine wpAny_bind (wpAny_setField hoI hdI (by simp) (wpAny_pure (h _ (Heap.SameBut.update ..).extBut ⟨_, Heap.get?_update_self _ hoI (Obj.isFreed_of_fields (Obj.data_mapFields hdI _)), ?_, ?_⟩)))
  · exact (Obj.cls_mapFields ..).trans hc
  · rw [Obj.data_mapFields hdI]; simp [rawInt]
theorem body_done {n : Nat} {o : Obj} {Q : Fin → Shared → Prop} {E : Value → Shared → Prop} (hh : A.handled = none) (hI : ∃ o, s.heap.get? I = some o ∧ LitP P vs.length o) (hP : s.heap.get? P = some o) (hd : o.data = .seq vs.toArray n)
    (h : ∀ e h', (∀ b o, b ≠ I → s.heap.get? b = some o → h'.get? b = some o) → ({ s with heap := h' } : Shared).TypeIs (.ref e) "StopIteration" → E (.ref e) { s with heap := h' }) :
    wpAny (model prog w) A (Builtin.«list_iterator.__next__» ⟨[.ref I], []⟩) Q E s := by
  obtain ⟨oI, hoI, hc, hdI⟩ := hI
  show wpAny _ _ (field (.ref I) 0 >>= _) _ _ s
  refine wpAny_bind (wpAny_field hoI hdI (x := .ref P) rfl ?_)
  refine wpAny_ite ?_
  rw [if_neg (show ¬ ((Value.ref P == Value.none) = true) from Bool.false_ne_true)]
  refine wpAny_bind (wpAny_field hoI hdI (x := .int vs.length 0) rfl ?_)
  show wpAny _ _ (seqItems? (.ref P) >>= _) _ _ s
  refine wpAny_bind (wpAny_seqItems hP hd ?_)
  have hx' : vs.toArray[(vs.length : Int).toNat]? = none := by simp
  simp only [hx']
  exact wpAny_bind (wpAny_rule (wpAny_bind (wpAny_setField hoI hdI (by simp) (endWalk hh fun e h' hk ht => h e h' (fun b o hb q => hk _ _ ((Heap.SameBut.update ..).extBut b o hb q)) ht))))
end
end Mine
end
section
open PySem PySem.W PySem.Spec PySem.Calls PyProof.Rows
set_option Elab.async false
set_option maxRecDepth 100000
set_option maxHeartbeats 4000000
set_option linter.unusedVariables false
namespace Mine
noncomputable def adr : Value → Addr | .ref a => a | _ => 0
theorem paired_on {α β : Type} {F G : α → β → Prop} : ∀ {l₁ : List α} {l₂ : List β}, (∀ a ∈ l₁, ∀ b, F a b → G a b) → Paired F l₁ l₂ → Paired G l₁ l₂
  | _, _, _, .nil => .nil
  | _, _, h, .cons x t => .cons (h _ (.head _) _ x) (paired_on (fun a m b f => h a (.tail _ m) b f) t)
theorem row_at {h h' : Heap} {v : Value} {r : Str × Str} (x : RowIs h v r) (k : ∀ o, h.get? (adr v) = some o → h'.get? (adr v) = some o) : RowIs h' v r := by
  obtain ⟨T, t1, t2, rfl, o, ho, hP⟩ := x
  exact ⟨T, t1, t2, rfl, o, k _ ho, hP⟩
/-- the state of a walk over the pile -/
noncomputable def PwSt (I P dx : Addr) (vs : List Value) (rs : List (Str × Str)) (j : Nat) (h : Heap) : Prop :=
  (∃ o, h.get? I = some o ∧ LitP P j o) ∧ (∃ o, h.get? P = some o ∧ PilP dx vs o) ∧ Paired (RowIs h) vs rs
theorem PwSt.keep {I P dx : Addr} {vs : List Value} {rs : List (Str × Str)} {j : Nat} {h h' : Heap} (x : PwSt I P dx vs rs j h) (k : ∀ b ∈ I :: P :: vs.map adr, ∀ o, h.get? b = some o → h'.get? b = some o) : PwSt I P dx vs rs j h' := by
  obtain ⟨⟨o, ho, hL⟩, ⟨o', ho', hP⟩, hr⟩ := x
  refine ⟨⟨o, k _ (.head _) _ ho, hL⟩, ⟨o', k _ (.tail _ (.head _)) _ ho', hP⟩, paired_on (fun a ha b hb => row_at hb fun o e => k _ (.tail _ (.tail _ (List.mem_map_of_mem ha))) o e) hr⟩
theorem row_ne {h : Heap} {I P : Addr} {j : Nat} {v : Value} {r : Str × Str} (x : RowIs h v r) (hI : ∃ o, h.get? I = some o ∧ LitP P j o) : adr v ≠ I := by
  obtain ⟨T, t1, t2, rfl, o, ho, hP⟩ := x
  obtain ⟨oI, hoI, hc, _⟩ := hI
  intro e
  have e : T = I := e
  subst e
  rw [ho] at hoI
  cases hoI
  rw [hP] at hc
  exact absurd hc (by simp)
theorem pile_walks {prog : Program} {w : World} {A : Around} (hh : A.handled = none) (I P dx : Addr) (vs : List Value) (rs : List (Str × Str)) :
    WalksU prog w A I (I :: P :: vs.map adr) [I] vs.length (fun i xs => ∃ r t1 t2, rs[i]? = some r ∧ xs = #[.str r.1 t1, .str r.2 t2]) (PwSt I P dx vs rs)
      (fun j T h => (∃ v, vs[j]? = some v ∧ adr v = T) ∧ PwSt I P dx vs rs (j + 1) h) where
  sub := fun b hb => by rw [List.mem_singleton.mp hb]; exact .head _
  frame := fun i h h' st k => st.keep k
  item := fun i s Q E hi st hQ => by
    obtain ⟨hI, ⟨oP, hoP, n, rfl⟩, hr⟩ := st
    have hv : vs[i]? = some vs[i] := List.getElem?_eq_getElem hi
    obtain ⟨r, hri, hrow⟩ := paired_get' hr hv
    refine askNext hI (body_more hI hoP rfl hv (fun h' hk hI' => ⟨_, rfl, ?_⟩))
    have hne : ∀ v ∈ vs, adr v ≠ I := fun v hv => by
      obtain ⟨i, hi⟩ := List.getElem?_of_mem hv
      obtain ⟨r, _, hrow⟩ := paired_get' hr hi
      exact row_ne hrow hI
    have hPI : P ≠ I := fun e => by
      subst e
      obtain ⟨o, ho, hc, _⟩ := hI
      rw [hoP] at ho; cases ho; exact absurd hc (by simp)
    have hrow' := row_at hrow (h' := h') (fun o e => hk _ _ (hne _ (List.getElem_mem hi)) e)
    obtain ⟨T, t1, t2, eT, o, ho, hP⟩ := hrow'
    refine eT ▸ hQ T #[.str r.1 t1, .str r.2 t2] h' s.toks ⟨r, t1, t2, hri, rfl⟩ ⟨o, ho, by rw [hP], 0, by rw [hP]⟩ ⟨⟨vs[i], hv, by rw [eT]; rfl⟩, hI', ⟨_, hk _ _ hPI hoP, n, rfl⟩, paired_on (fun a ha b hb => row_at hb fun o e => hk _ _ (hne _ ha) e) hr⟩
      (fun b o hb e => hk b o (fun q => hb (q ▸ List.mem_singleton.mpr rfl)) e)
  go := fun elts k pos i T s Q E hm hQ => by
    obtain ⟨o, ho, hc, hd⟩ := hm.2.1
    exact letOwn ho hc (by decide) (hQ s.heap hm.2 fun _ _ _ e => e)
  apart := fun i T h hm hmem => by
    obtain ⟨v, hv, e⟩ := hm.1
    obtain ⟨r, _, hrow⟩ := paired_get' hm.2.2.2 hv
    exact row_ne hrow hm.2.1 (e.trans (List.mem_singleton.mp hmem))
  done := fun s Q E st hQ => by
    obtain ⟨hI, ⟨oP, hoP, n, rfl⟩, hr⟩ := st
    exact askNext hI (body_done hh hI hoP rfl (fun e h' hk ht => ⟨ht, hQ h' s.toks fun b o hb q => hk b o (fun z => hb (z ▸ List.mem_singleton.mpr rfl)) q⟩))
  self := fun i s Q E st hQ => wpAny_pyIter_listiter st.1 hQ
end Mine
end
section
open PySem PySem.W PySem.Spec PySem.Calls PyProof.Rows
set_option Elab.async false
set_option maxRecDepth 100000
set_option maxHeartbeats 4000000
set_option linter.unusedVariables false
namespace Mine
/-- the table of the codes that the text of __str__ has made -/
noncomputable def TabP (o : Obj) : Prop := ∃ ps, o = tabObj ps ∧ (ps = #[] ∨ ∃ c, ps = #[rawInt 107, rawInt 32, .ref c])
noncomputable abbrev noSep : Str := Str.ofString ""
noncomputable def catR (r : Str × Str) : Str := Txt.join noSep [r.1, r.2]
section
variable {w : World} {A : Around} {E : Value → Shared → Prop} {s0 s : Shared} {g : Heap} {pts pts' : List PO} {env : Env} {P dx : Addr} {vs : List Value}
theorem codeHd226 (S : SS s0 g pts s) (W : Wd (KK w) g) : CodeHd s.heap 226 222 :=
  ⟨_, _, _, _, _, _, _, _, _, S.1.keep _ _ (W.kin 226 _ (by decide) rfl), rfl, rfl, rfl, rfl, rfl, rfl, rfl, rfl, by decide⟩
/-- the code of the generator expression, made or found -/
theorem genCode {pos : Pos} {q : Str} {scope : Scope} {Q : Value → Shared → Prop} (S : SS s0 g pts s) (W : Wd (KK w) g) (hat : At pts 222 TabP TabP pts) (hp : pos.line = 107) (hq : pos.col = 32) (hcode : env.code = .ref 226)
    (h : ∀ c s', SS s0 g pts s' → Q c s') : wpAny (model PR w) A (genexprCode env pos q scope) Q E s := by
  have hd := codeHd226 S W
  obtain ⟨o, ho, ps, rfl, hps | ⟨c, hps⟩⟩ := S.1.at hat
  · subst hps
    refine wpAny_genexprCodeX (c := 226) (P := 222) hcode (hd.code ho trivial) (hd.tab ho) rfl (fun c' h' tk hx hge hlt hcode' hrec htab _ => h _ _ ⟨S.1.upd hat (fun b o hb e => hx b o hb e) ⟨_, htab.2, _, rfl, .inr ⟨c', ?_⟩⟩, S.2.trans Sh.mk'⟩)
    rw [hp, hq]; rfl
  · subst hps
    refine wpAny_genexprCode_hit (c := 226) (P := 222) (c' := .ref c) hcode (hd.code ho trivial) ?_ (h _ _ S)
    unfold codeAmong
    simp [rawInt, hp, hq]
/-- the module of the built-ins, as the globals name it -/
noncomputable def BM (g : Heap) : Prop := ∃ mg bm ob, BMod g mainGlobals mg bm ob
theorem BM.le {g g' : Heap} (x : BM g) (l : Le g g') : BM g' := let ⟨mg, bm, ob, M⟩ := x; ⟨mg, bm, ob, M.keeps l⟩
theorem builtins_c {bi : Addr} {Q : Addr → Shared → Prop} (S : SS s0 g pts s) (M : BM g) (h : Q builtinsNs s) : wpAny (model PR w) A (builtinsFor mainGlobals bi) Q E s := by
  obtain ⟨mg, bm, ob, M⟩ := M
  have M := M.keeps S.1.keep
  exact wpAny_builtinsFor M.ns M.name M.ne M.obj M.cls M.dict M.data h
/-- what the generator expression gives for a row: its two texts, joined -/
theorem elt_c {cenv : Env} {r : Str × Str} {t1 t2 : Tok} {m : Str → Option Value} {e : Expr} {Q : Value → Shared → Prop} {p1 p2 p3 p4 p5 p6 : Pos}
    (he : e = .Call (.Attribute (.Name "EMPTYSTRING" p1) "join" p2) [.Tuple [.Name "fws" p3, .Name "part" p4] 0 p5] [] p6) (hpos : (p2.endLine == p6.line) = true) (hk : ∀ b o, g.get? b = some o → s.heap.get? b = some o) (W : Wd (KK w) g)
    (hn : s.heap.Ns cenv.locals m) (h1 : m "fws" = some (.str r.1 t1)) (h2 : m "part" = some (.str r.2 t2)) (hl : r.1.length + r.2.length ≤ 1000)
    (hg : cenv.globals = mainGlobals) (hbn : cenv.builtins = builtinsNs) (hs : cenv.scope = { kind := .function, names := [(".0", .local), ("fws", .local), ("part", .local), ("EMPTYSTRING", .globalImplicit)], isGenerator := true, isCoroutine := false })
    (hQ : ∀ t h' k, (∀ b o, s.heap.get? b = some o → h'.get? b = some o) → Q (.str (catR r) t) { s with heap := h', toks := k }) :
    wpAny (model PR w) A (eval e cenv) Q E s := by
  subst he
  obtain ⟨sc, lo, gl, ce, qu, fn, co, fr, bu⟩ := cenv
  obtain rfl : sc = _ := hs
  obtain rfl : gl = _ := hg
  have S : SS s g [] s := ⟨⟨hk, fun p hp => (by cases hp), .nil⟩, Sh.refl _⟩
  refine mth1 F.plainAttrs_str F.slot_str_join F.type_str_join ?_ rfl rfl hpos rfl rfl
  refine nmG (v := .str "" 508) S W (by kernel_rfl) ?_
  refine ⟨typeIs_str _ _ _, fun a e => (by cases e), ?_⟩
  refine args_cons (Tuple_ (args_cons (wpAny_Name (wpAny_loadName_local rfl rfl hn h1 ?_) (by decide))))
  refine args_cons (wpAny_Name (wpAny_loadName_local rfl rfl hn h2 ?_) (by decide))
  refine args_nil (wpAny_newTuple (args_nil ?_) (by size_fits))
  refine join_tupleW (ys := [r.1, r.2]) ⟨_, Heap.get?_push_size _ rfl, rfl, 0, rfl⟩ (.cons _ _ (.cons _ _ .nil)) (by decide +kernel) (by simp; omega) (fun t' k => ?_)
  exact hQ _ _ _ (fun b o e => Heap.get?_push_of_some _ e)
end
end Mine
end
section
open PySem PySem.W PySem.Spec PySem.Calls PyProof.Rows
set_option Elab.async false
set_option maxRecDepth 100000
set_option maxHeartbeats 4000000
set_option linter.unusedVariables false
namespace Mine
theorem passing_all (n : Nat) : passing (fun _ => true) n 0 = List.range n := by
  unfold passing
  rw [List.drop_zero]
  exact List.filter_eq_self.mpr fun _ _ => rfl
theorem texts_of {rs : List (Str × Str)} {n : Nat} {l : List (Str × Tok)} (hn : n = rs.length)
    (h : ItemsOf (fun j y => ∃ i, (passing (fun _ => true) n 0)[j]? = some i ∧ ∃ r t, rs[i]? = some r ∧ y = Value.str (catR r) t) (strValues l).toArray (passing (fun _ => true) n 0).length) : l.map (·.1) = rs.map catR := by
  rw [passing_all] at h
  obtain ⟨hs, hi⟩ := h
  have hlen : l.length = rs.length := by simpa [strValues, hn] using hs
  apply List.ext_getElem?
  intro j
  by_cases hj : j < rs.length
  · have hj' : j < l.length := by omega
    obtain ⟨i, hi1, r, t, hr, e⟩ := hi j (.str l[j].1 l[j].2) (by simp [strValues, List.getElem?_eq_getElem hj'])
    rw [List.getElem?_range (by omega)] at hi1
    cases hi1
    injection e with e1 e2
    rw [List.getElem?_map, List.getElem?_map, hr, List.getElem?_eq_getElem hj']
    simp [e1]
  · rw [List.getElem?_eq_none (by simp; omega), List.getElem?_eq_none (by simp; omega)]
theorem catR_len (r : Str × Str) : (catR r).length = r.1.length + r.2.length := by
  have h := eq_of_beq (join_plain_closes noSep [r.1, r.2])
  unfold catR
  rw [h]
  show ((r.1 ++ noSep ++ r.2).cps).size = _
  show ((r.1.cps ++ noSep.cps) ++ r.2.cps).size = _
  rw [Array.size_append, Array.size_append, show noSep.cps.size = 0 by decide +kernel]
  rfl
theorem weight_rows : ∀ (rs : List (Str × Str)) (b : Nat), (∀ r ∈ rs, r.1.length + r.2.length ≤ b) → ((rs.map catR).map (·.length)).sum ≤ rs.length * b
  | [], b, _ => by simp
  | r :: rs, b, h => by
    have h1 := weight_rows rs b fun r hr => h r (.tail _ hr)
    have h2 := h r (.head _)
    have h3 := catR_len r
    simp only [List.map_cons, List.sum_cons, List.length_cons, Nat.succ_mul]
    omega
section
variable {w : World} {A : Around} {E : Value → Shared → Prop} {s0 s : Shared} {g : Heap} {pts pts' : List PO} {env : Env} {P dx : Addr} {vs : List Value}
theorem str_c {rs : List (Str × Str)} {Q : Value → Shared → Prop} (hA : Rm 3 A) (S : SS s0 g ((222, TabP) :: (P, PilP dx vs) :: (dx, IniP) :: pts) s) (W : Wd (KK w) g) (M : BM g) (hr : Paired (RowIs g) vs rs) (hsz : rs.length ≤ 100) (hlen : ∀ r ∈ rs, r.1.length + r.2.length ≤ 1000)
    (hQ : ∀ s' t, SS s0 g ((222, TabP) :: (P, PilP dx vs) :: (dx, IniP) :: pts) s' → Q (.str (Txt.join noSep (rs.map catR)) t) s') :
    wpAny (model PR w) A (call (.ref 227) [.ref P]) Q E s := by
  refine callV hA S W rfl (by kernel_rfl) rfl (BindsTo.of_eq (binds := [("self", .ref P)]) (by kernel_rfl)) (by decide) (locs rfl) (fun L s S hA₁ hLf => ?_)
  refine wpAny_execs_cons (wpAny_Return_some (mth1 F.plainAttrs_str F.slot_str_join F.type_str_join ?_))
  refine nmG (v := .str "" 508) S W (by kernel_rfl) ?_
  refine ⟨typeIs_str _ _ _, fun a e => (by cases e), args_cons ?_⟩
  refine wpAny_GeneratorExp_walksQT hA₁.hh rfl rfl (by decide) rfl rfl rfl (by decide) rfl hA₁.room ?_ (by intro x; rfl)
  refine nmL S (by walk_at "mem") rfl ?_
  refine iterP S W (P := P) (dx := dx) (vs := vs) (by walk_at "mem") (by walk_at "mem") (fun I s hI S => ⟨W.lim.keeps S.1.keep, ?_⟩)
  refine genCode S W (by walk_at "at") rfl rfl rfl (fun c s S => ?_)
  refine builtins_c S M ?_
  have hn : vs.length = rs.length := hr.length
  have hgI : g.get? I = none := (S.1.own (I, LitP P 0) (.head _)).2
  have hst : PwSt I P dx vs rs 0 s.heap := ⟨(S.1.own (I, LitP P 0) (.head _)).1, (S.1.own (P, PilP dx vs) (by walk_at "mem")).1, paired_mono (fun _ _ x => x.le S.1.keep) hr⟩
  refine ⟨I, I :: P :: vs.map adr, [I], vs.length, _, PwSt I P dx vs rs, _, fun _ => true, fun i y => ∃ r t, rs[i]? = some r ∧ y = .str (catR r) t, rfl, fun A' h => pile_walks h I P dx vs rs,
    (fun i vals ⟨r, t1, t2, _, e⟩ => ⟨_, _, e⟩), hst, ?_, W.lim.keeps S.1.keep, ?_, ?_, ?_⟩
  · intro b hb
    rcases List.mem_cons.mp hb with rfl | hb
    · obtain ⟨o, ho, _⟩ := hst.1; exact Heap.lt_size ho
    · rcases List.mem_cons.mp hb with rfl | hb
      · obtain ⟨o, ho, _⟩ := hst.2.1; exact Heap.lt_size ho
      · obtain ⟨v, hv, rfl⟩ := List.mem_map.mp hb
        obtain ⟨i, hi⟩ := List.getElem?_of_mem hv
        obtain ⟨r, _, T, t1, t2, rfl, o, ho, _⟩ := paired_get' hst.2.2 hi
        exact Heap.lt_size ho
  · intro hb
    obtain ⟨_, ⟨o, es, ep, ho, _⟩, _⟩ := W.lim
    rw [List.mem_singleton.mp hb, hgI] at ho
    cases ho
  · intro href hk
    refine ⟨fun A' E' i va vb s₂ m₂ hA' hP hns ha hb hkp => ?_, fun A' E' i va vb s₂ m₂ hA' hP hz hns ha hb hkp => ?_⟩
    · exact wpAny_pure ⟨rfl, _, _, rfl, fun _ _ e => e⟩
    · obtain ⟨r, t1, t2, hri, e⟩ := hP
      simp only [Array.mk.injEq, List.cons.injEq, and_true] at e
      obtain ⟨rfl, rfl⟩ := e
      refine elt_c (g := g) (r := r) rfl rfl (fun b o e => ?_) W hns ha hb (hlen _ (List.mem_of_getElem? hri)) rfl rfl rfl (fun t h' k hk' => ⟨⟨r, t, hri, rfl⟩, h', k, rfl, hk'⟩)
      have e' := S.1.keep _ _ e
      refine hkp b (List.mem_range.mpr (Heap.lt_size e')) (fun q => ?_) o (hk _ _ e')
      rw [List.mem_singleton.mp q, hgI] at e
      cases e
  · intro a h₅ tk gs hgb hlt hsz5 hk5 WS hG
    refine args_nil ?_
    have hp : (passing (fun _ => true) vs.length 0).length = rs.length := by rw [passing_all, List.length_range, hn]
    refine SC.joinGen WS.in4_2 (fun i s' st => st.1.typeIs) hG ?_ (.head _) (fun j v hv => ?_) (fun s' l hm hi => ?_) (by rw [hp, sizeLine_eq]; omega)
    · intro b hb
      show b < h₅.objs.size
      rw [hsz5]
      rcases List.mem_cons.mp hb with rfl | hb
      · exact Nat.lt_succ_self _
      · rcases List.mem_cons.mp hb with rfl | hb
        · exact Nat.lt_succ_of_lt hlt
        · exact Nat.lt_succ_of_lt (Nat.lt_trans (List.mem_range.mp hb) hlt)
    · obtain ⟨i, _, r, t, _, e⟩ := hv
      exact ⟨_, _, e⟩
    · have ht := texts_of hn hi
      rw [ht]
      have hw := weight_rows rs 1000 hlen
      refine ⟨joinOk_of_weight ?_ (by decide +kernel), fun t' k => ?_⟩
      · have := Nat.mul_le_mul_right 1000 hsz
        simp only [List.length_map]
        omega
      · have S5 : St g ((I, LitP P 0) :: (L, NsL [("self", .ref P)]) :: (222, TabP) :: (P, PilP dx vs) :: (dx, IniP) :: pts) s.heap := S.1
        refine hQ _ _ ⟨(S5.lose (fun b o hb e => ?_)).drop, ?_, ?_⟩
        · refine hm.heap b o (fun q => ?_) (hk5 _ _ e)
          rcases List.mem_cons.mp q with rfl | q
          · exact Nat.lt_irrefl _ (Heap.lt_size e)
          · exact hb (List.mem_singleton.mp q)
        · exact hm.os.trans S.2.1
        · intro hb
          show AllBare s'.gens
          exact AllBare.movedS (AllBare.push (S.2.2 hb) hgb) hm
end
end Mine
end
section
open PySem PySem.W PySem.Spec PySem.Calls PyProof.Rows
set_option Elab.async false
set_option maxRecDepth 100000
set_option maxHeartbeats 4000000
set_option linter.unusedVariables false
namespace Mine
section
variable {w : World} {A : Around} {E : Value → Shared → Prop} {s0 s : Shared} {g : Heap} {pts pts' : List PO} {env : Env} {P dx : Addr} {vs : List Value}
theorem strP {rs : List (Str × Str)} {Q : Value → Shared → Prop} (hA : Rm 5 A) (S : SS s0 g ((222, TabP) :: (P, PilP dx vs) :: (dx, IniP) :: pts) s) (W : Wd (KK w) g) (M : BM g) (hr : Paired (RowIs g) vs rs) (hsz : rs.length ≤ 100) (hlen : ∀ r ∈ rs, r.1.length + r.2.length ≤ 1000)
    (hQ : ∀ s' t, SS s0 g ((222, TabP) :: (P, PilP dx vs) :: (dx, IniP) :: pts) s' → Q (.str (Txt.join noSep (rs.map catR)) t) s') :
    wpAny (model PR w) A (call (.type "str") [.ref P]) Q E s := by
  obtain ⟨n', hh', tk', k, t', m, I⟩ := pileI S (P := P) (dx := dx) (vs := vs) (by walk_at "mem") (by walk_at "mem")
  have X : (KF w).In s.heap := W.kf.keeps S.1.keep
  exact kso_call (by have := hA.in1.in1.cl; omega) X I (f := 227) (by kernel_rfl) (by kernel_rfl) (str_c hA.in1.in1 S W M hr hsz hlen (fun s' t S => hQ s' t S))
end
end Mine
end
section
open PySem PySem.W PySem.Spec PySem.Calls PyProof.Rows PySem.StrLaws
set_option Elab.async false
set_option maxRecDepth 100000
set_option maxHeartbeats 4000000
set_option linter.unusedVariables false
namespace Mine
/-! the rows that wait, as lists of code points -/
noncomputable def lineL (m : Nat × Nat) : List Nat := List.replicate m.1 46 ++ [97 + m.2]
noncomputable def rowL (m : Nat × Nat) : List Nat := lineL m ++ [13, 10]
noncomputable def nlR : Bool → List Nat → List Nat
  | _, [] => []
  | b, c :: r => if c = 13 then 13 :: 10 :: nlR true r else if c = 10 then (if b = true then nlR false r else 13 :: 10 :: nlR false r) else c :: nlR false r
noncomputable def dotR : Bool → List Nat → List Nat
  | _, [] => []
  | b, c :: r => (if b = true ∧ c = 46 then [46, 46] else [c]) ++ dotR (c == 10) r
theorem dotR_cons (b : Bool) (c : Nat) (r : List Nat) : dotR b (c :: r) = (if b = true ∧ c = 46 then [46, 46] else [c]) ++ dotR (c == 10) r := rfl
theorem nlR_not10 {c : Nat} {r : List Nat} (h : c ≠ 10) : nlR true (c :: r) = nlR false (c :: r) := by
  unfold nlR; rw [if_neg h, if_neg h]
theorem getD_mid (A : List Nat) (c : Nat) (r : List Nat) : (A ++ c :: r).getD A.length 0 = c := by simp [List.getD]
theorem sub_nl (T : List Nat) : ∀ (f : Nat) (A B : List Nat), T = A ++ B → B.length < f → subF (brkB T) (lenB T) T [13, 10] f A.length = nlR false B := by
  intro f
  induction f with
  | zero => intro A B _ h; omega
  | succ f ih =>
    intro A B hT hf
    cases B with
    | nil => rw [subF, if_neg (by simp [hT])]; rfl
    | cons c r =>
      have hlt : A.length < T.length := by simp [hT]
      have hc : T.getD A.length 0 = c := by rw [hT]; exact getD_mid _ _ _
      have hf' : r.length < f := by simp at hf; omega
      have step : subF (brkB T) (lenB T) T [13, 10] f (A.length + 1) = nlR false r := by
        have := ih (A ++ [c]) r (by simp [hT]) hf'
        simpa using this
      rw [subF, if_pos hlt]
      have hb : brkB T A.length = (c == 10 || c == 13) := by unfold brkB; rw [hc]; simp [hlt]
      rw [hb, hc]
      by_cases h13 : c = 13
      · subst h13
        rw [if_pos (by decide)]
        unfold nlR
        rw [if_pos rfl]
        cases r with
        | nil =>
          have hl : lenB T A.length = 1 := by unfold lenB; rw [if_neg (by simp [hT])]
          rw [hl, step]; simp [nlR]
        | cons d r' =>
          have hd : T.getD (A.length + 1) 0 = d := by
            have := getD_mid (A ++ [13]) d r'
            rw [show A ++ [13] ++ d :: r' = T by simp [hT]] at this
            simpa using this
          by_cases h10 : d = 10
          · subst h10
            have hl : lenB T A.length = 2 := by unfold lenB; rw [hc, hd, if_pos ⟨rfl, by simp [hT], rfl⟩]
            rw [hl]
            have := ih (A ++ [13, 10]) r' (by simp [hT]) (by simp at hf'; omega)
            have e : (A ++ [13, 10]).length = A.length + 2 := by simp
            rw [e] at this
            rw [this]
            simp [nlR]
          · have hl : lenB T A.length = 1 := by unfold lenB; rw [hd, if_neg (by omega)]
            rw [hl, step, nlR_not10 h10]
            simp
      · by_cases h10 : c = 10
        · subst h10
          have hl : lenB T A.length = 1 := by unfold lenB; rw [hc, if_neg (by omega)]
          rw [if_pos (by decide), hl, step]
          simp [nlR]
        · rw [if_neg (by simp [h13, h10]), step]
          unfold nlR
          rw [if_neg h13, if_neg h10]
          cases r <;> rfl
theorem nlF_is (T : List Nat) : nlF T = nlR false T := sub_nl T (T.length + 1) [] T rfl (by omega)
theorem sub_dot (T : List Nat) : ∀ (f : Nat) (A B : List Nat), T = A ++ B → B.length < f → subF (dotB T) (fun _ => 1) T [46, 46] f A.length = dotR (decide (A.length = 0) || T.getD (A.length - 1) 0 == 10) B := by
  intro f
  induction f with
  | zero => intro A B _ h; omega
  | succ f ih =>
    intro A B hT hf
    cases B with
    | nil => rw [subF, if_neg (by simp [hT])]; rfl
    | cons c r =>
      have hlt : A.length < T.length := by simp [hT]
      have hc : T.getD A.length 0 = c := by rw [hT]; exact getD_mid _ _ _
      have step : subF (dotB T) (fun _ => 1) T [46, 46] f (A.length + 1) = dotR (c == 10) r := by
        have := ih (A ++ [c]) r (by simp [hT]) (by simp at hf; omega)
        have e : (A ++ [c]).length = A.length + 1 := by simp
        rw [e] at this
        rw [this, Nat.add_sub_cancel, hc, decide_eq_false (Nat.succ_ne_zero _), Bool.false_or]
      rw [subF, if_pos hlt, step]
      have hb : dotB T A.length = ((decide (A.length = 0) || T.getD (A.length - 1) 0 == 10) && c == 46) := by unfold dotB; rw [hc, decide_eq_true hlt, Bool.and_true]
      rw [hb, hc]
      generalize (decide (A.length = 0) || T.getD (A.length - 1) 0 == 10) = b
      rw [dotR_cons]
      cases b
      · rw [if_neg (by simp), if_neg (by simp)]; rfl
      · by_cases h : c = 46
        · rw [if_pos (by simp [h]), if_pos ⟨rfl, h⟩]
        · rw [if_neg (by simp [h]), if_neg (by simp [h])]; rfl
theorem dotF_is (T : List Nat) : dotF T = dotR true T := by
  have := sub_dot T (T.length + 1) [] T rfl (by omega)
  simpa [dotF] using this
theorem nlR_cons {c : Nat} {b : Bool} {r : List Nat} (h1 : c ≠ 13) (h2 : c ≠ 10) : nlR b (c :: r) = c :: nlR false r := by
  rw [nlR, if_neg h1, if_neg h2]
theorem nlR_line : ∀ (k l : Nat) (r : List Nat), nlR false (lineL (k, l) ++ r) = lineL (k, l) ++ nlR false r
  | 0, l, r => nlR_cons (by omega) (by omega)
  | k + 1, l, r => by
    have := nlR_line k l r
    unfold lineL at this ⊢
    simp only [List.replicate_succ, List.cons_append] at this ⊢
    rw [nlR_cons (by omega) (by omega), this]
theorem nlR_row (m : Nat × Nat) (r : List Nat) : nlR false (rowL m ++ r) = rowL m ++ nlR false r := by
  have := nlR_line m.1 m.2 ([13, 10] ++ r)
  unfold rowL
  rw [List.append_assoc, this, List.append_assoc]
  congr 1
theorem nlR_rows (ms : List (Nat × Nat)) (r : List Nat) : nlR false (ms.flatMap rowL ++ r) = ms.flatMap rowL ++ nlR false r := by
  induction ms with
  | nil => rfl
  | cons m ms ih => simp only [List.flatMap_cons, List.append_assoc]; rw [nlR_row, ih]
noncomputable def nlAt (j : Nat) : List Nat := if j % 3 = 0 then [10] else if j % 3 = 1 then [13] else [13, 10]
theorem nlR_last (l j : Nat) : nlR false (46 :: (97 + l) :: nlAt j) = rowL (1, l) := by
  rw [nlR_cons (by omega) (by omega), nlR_cons (by omega) (by omega)]
  unfold nlAt
  split
  · rfl
  · split <;> rfl
theorem dotR_line : ∀ (k l : Nat) (r : List Nat), dotR false (lineL (k, l) ++ r) = lineL (k, l) ++ dotR false r
  | 0, l, r => by
    show (if false = true ∧ 97 + l = 46 then [46, 46] else [97 + l]) ++ dotR (97 + l == 10) r = _
    rw [if_neg (by simp), show (97 + l == 10) = false by simp; omega]; rfl
  | k + 1, l, r => by
    have := dotR_line k l r
    unfold lineL at this ⊢
    simp only [List.replicate_succ, List.cons_append] at this ⊢
    show (if false = true ∧ 46 = 46 then [46, 46] else [46]) ++ dotR (46 == 10) _ = _
    rw [if_neg (by simp), show (46 == 10) = false by decide, this]; rfl
theorem dotR_row (k l : Nat) (r : List Nat) : dotR true (rowL (k + 1, l) ++ r) = rowL (k + 2, l) ++ dotR true r := by
  have := dotR_line k l ([13, 10] ++ r)
  unfold rowL
  unfold lineL at this ⊢
  simp only [List.replicate_succ, List.cons_append, List.append_assoc] at this ⊢
  show (if true = true ∧ 46 = 46 then [46, 46] else [46]) ++ dotR (46 == 10) _ = _
  rw [if_pos ⟨rfl, rfl⟩, show (46 == 10) = false by decide, this]
  rfl
noncomputable def older (m : Nat × Nat) : Nat × Nat := (m.1 + 1, m.2)
theorem dotR_rows : ∀ (ms : List (Nat × Nat)), (∀ m ∈ ms, 1 ≤ m.1) → dotR true (ms.flatMap rowL) = (ms.map older).flatMap rowL
  | [], _ => rfl
  | (0, l) :: ms, h => absurd (h _ (.head _)) (Nat.not_succ_le_zero 0)
  | (k + 1, l) :: ms, h => by
    simp only [List.flatMap_cons, List.map_cons]
    rw [dotR_row, dotR_rows ms fun m hm => h m (.tail _ hm)]
    rfl
/-- what is sent, when rows of this form wait -/
theorem sent_old (ms : List (Nat × Nat)) (h : ∀ m ∈ ms, 1 ≤ m.1) : dotF (nlF (ms.flatMap rowL)) = (ms.map older).flatMap rowL := by
  rw [nlF_is, dotF_is]
  have := nlR_rows ms []
  simp only [List.append_nil] at this
  rw [this, show nlR false [] = [] from rfl, List.append_nil, dotR_rows ms h]
theorem sent_new (ms : List (Nat × Nat)) (l j : Nat) (h : ∀ m ∈ ms, 1 ≤ m.1) : dotF (nlF (ms.flatMap rowL ++ 46 :: (97 + l) :: nlAt j)) = ((ms ++ [(1, l)]).map older).flatMap rowL := by
  rw [nlF_is, dotF_is, nlR_rows, nlR_last]
  have := dotR_rows (ms ++ [(1, l)]) (fun m hm => by
    rcases List.mem_append.mp hm with hm | hm
    · exact h m hm
    · rw [List.mem_singleton.mp hm]; exact Nat.le_refl 1)
  rw [← this]; simp
/-! the split -/
noncomputable abbrev crlf : Str := Str.ofString "\r\n"
theorem crlf_list : crlf.cps.toList = [13, 10] := by decide +kernel
theorem crlf_len : crlf.length = 2 := by decide +kernel
noncomputable def lineS (m : Nat × Nat) : Str := ⟨(lineL m).toArray⟩
theorem line_no13 (m : Nat × Nat) : ∀ c ∈ lineL m, c ≠ 13 := by
  intro c hc
  unfold lineL at hc
  rcases List.mem_append.mp hc with hc | hc
  · have := (List.mem_replicate.mp hc).2; omega
  · have := List.mem_singleton.mp hc; omega
theorem at_iff {x : Str} {T A B : List Nat} (hx : x.cps.toList = T) (hT : T = A ++ B) (hB : B.length ≠ 0) : _root_.PySem.StrLaws.At x crlf x.length A.length ↔ B.take 2 = [13, 10] := by
  have hn : x.length = T.length := by rw [← hx]; simp [Str.length]
  unfold _root_.PySem.StrLaws.At
  rw [subAt_eq, crlf_len, crlf_list, hx, hT]
  simp only [List.drop_left, beq_iff_eq]
  constructor
  · exact fun h => h.2
  · intro h
    refine ⟨?_, h⟩
    have h2 : (B.take 2).length = 2 := by rw [h]; rfl
    simp only [List.length_take] at h2
    rw [hn, hT, List.length_append]; omega
theorem parts_rows {x : Str} {T : List Nat} (hx : x.cps.toList = T) : ∀ (ms : List (Nat × Nat)) (A : List Nat) (cuts : List Nat) (f : Nat), T = A ++ ms.flatMap rowL → ChainG x crlf x.length A.length cuts f → (∀ k, f ≤ k → ¬ _root_.PySem.StrLaws.At x crlf x.length k) →
    partsFrom x 2 A.length cuts = ms.map lineS ++ [Str.empty]
  | [], A, cuts, f, hT, hc, hf => by
    have hn : x.length = A.length := by
      have : x.length = x.cps.toList.length := by simp [Str.length]
      rw [this, hx, hT]; simp
    cases cuts with
    | nil =>
      show [Builtin.Str.strSub x A.length x.length] = [Str.empty]
      rw [hn]
      congr 1
      apply Str.ext'
      apply Array.toList_inj.mp
      rw [strSub_toList]; simp [Str.empty]
    | cons c r =>
      have h1 := hc.1
      have h2 := hc.2.1.1
      rw [crlf_len] at h2
      omega
  | m :: ms, A, cuts, f, hT, hc, hf => by
    have hT' : T = A ++ (lineL m ++ (13 :: 10 :: ms.flatMap rowL)) := by rw [hT]; simp [rowL]
    have hno : ∀ k, A.length ≤ k → k < A.length + (lineL m).length → ¬ _root_.PySem.StrLaws.At x crlf x.length k := by
      intro k h1 h2 hA
      obtain ⟨j, rfl⟩ : ∃ j, k = A.length + j := ⟨k - A.length, by omega⟩
      have hj : j < (lineL m).length := by omega
      have e : T = (A ++ (lineL m).take j) ++ ((lineL m).drop j ++ (13 :: 10 :: ms.flatMap rowL)) := by
        rw [hT', List.append_assoc, ← List.append_assoc ((lineL m).take j), List.take_append_drop]
      have el : (A ++ (lineL m).take j).length = A.length + j := by simp; omega
      rw [← el] at hA
      rw [at_iff hx e (by simp)] at hA
      rw [List.drop_eq_getElem_cons hj] at hA
      simp only [List.cons_append, List.take_succ_cons, List.cons.injEq] at hA
      exact line_no13 m _ (List.getElem_mem hj) hA.1
    have hyes : _root_.PySem.StrLaws.At x crlf x.length (A.length + (lineL m).length) := by
      have e : T = (A ++ lineL m) ++ (13 :: 10 :: ms.flatMap rowL) := by rw [hT', List.append_assoc]
      have := (at_iff hx e (by simp)).mpr rfl
      rwa [List.length_append] at this
    cases cuts with
    | nil =>
      have : f = A.length := hc
      exact absurd hyes (hf _ (by omega))
    | cons c r =>
      obtain ⟨h1, h2, h3, h4⟩ := hc
      have ec : c = A.length + (lineL m).length := by
        rcases Nat.lt_trichotomy c (A.length + (lineL m).length) with h | h | h
        · exact absurd h2 (hno c h1 h)
        · exact h
        · exact absurd hyes (h3 _ (by omega) h)
      subst ec
      rw [crlf_len] at h4
      have eA : A.length + (lineL m).length + 2 = (A ++ rowL m).length := by simp [rowL]; omega
      rw [eA] at h4
      have ih := parts_rows hx ms (A ++ rowL m) r f (by rw [hT]; simp) h4 hf
      show Builtin.Str.strSub x A.length (A.length + (lineL m).length) :: partsFrom x 2 (A.length + (lineL m).length + 2) r = _
      rw [eA, ih]
      simp only [List.map_cons, List.cons_append]
      congr 1
      apply Str.ext'
      apply Array.toList_inj.mp
      rw [strSub_toList, hx, hT']
      simp [lineS]
theorem split_rows (ms : List (Nat × Nat)) : Txt.split ⟨(ms.flatMap rowL).toArray⟩ crlf = ms.map lineS ++ [Str.empty] := by
  have hx : (Str.mk (ms.flatMap rowL).toArray).cps.toList = ms.flatMap rowL := by simp
  unfold Txt.split
  cases ms with
  | nil => rw [if_pos (by rw [crlf_len]; decide)]; rfl
  | cons m ms =>
    have hlen : 2 ≤ (Str.mk ((m :: ms).flatMap rowL).toArray).length := by simp [Str.length, rowL]; omega
    have hk : Builtin.Str.strKind crlf = 1 := by decide +kernel
    have hk1 : ∀ x : Str, 1 ≤ Builtin.Str.strKind x := fun x => by unfold Builtin.Str.strKind; split <;> (try split) <;> omega
    have := hk1 (Str.mk ((m :: ms).flatMap rowL).toArray)
    rw [if_neg (by intro h; rw [Bool.or_eq_true, decide_eq_true_eq, decide_eq_true_eq, crlf_len, hk] at h; omega)]
    obtain ⟨f, hc, hf⟩ := occ_tight (Str.mk ((m :: ms).flatMap rowL).toArray) crlf (by rw [crlf_len]; decide)
    have key := parts_rows hx (m :: ms) [] _ f (by simp) hc hf
    split
    · rename_i he
      rw [List.isEmpty_iff.mp he] at key
      have := congrArg List.length key
      simp [partsFrom] at this
    · rw [partsBetween_eq, crlf_len]; exact key
/-! the strip -/
theorem strip_ok : ((List.range 8).all fun k => (List.range 6).all fun l => (List.range 3).all fun j => Txt.strip ⟨(lineL (k, l) ++ nlAt j).toArray⟩ == lineS (k, l)) = true := by decide +kernel
theorem nlAt_mod (j : Nat) : nlAt (j % 3) = nlAt j := by unfold nlAt; simp
theorem strip_line {k l j : Nat} (hk : k < 8) (hl : l < 6) : Txt.strip ⟨(lineL (k, l) ++ nlAt j).toArray⟩ = lineS (k, l) := by
  have h := strip_ok
  simp only [List.all_eq_true, List.mem_range] at h
  have := h k hk l hl (j % 3) (Nat.mod_lt _ (by decide))
  rw [nlAt_mod] at this
  exact eq_of_beq this
theorem strip_row {k l : Nat} (hk : k < 8) (hl : l < 6) : Txt.strip ⟨(rowL (k, l)).toArray⟩ = lineS (k, l) := strip_line (j := 2) hk hl
end Mine
end
section
open PySem PySem.W PySem.Spec PySem.Calls PyProof.Rows
set_option Elab.async false
set_option maxRecDepth 100000
set_option maxHeartbeats 4000000
set_option linter.unusedVariables false
namespace Mine
theorem Rm.le {n m : Nat} {A : Around} (x : Rm n A) (h : m ≤ n) : Rm m A := ⟨x.hh, by have := x.depth; omega, by have := x.units; omega⟩
section
variable {prog : Program} {w : World} {A : Around} {E : Value → Shared → Prop} {s0 s : Shared} {g : Heap} {pts pts' : List PO} {env : Env}
/-- a slice of a list is a new list -/
theorem sliceL {value slice : Expr} {l : Addr} {items : Array Value} {vl vu : Value} {lo hi : Option Int} {Q : Value → Shared → Prop}
    (S : SS s0 g pts s) (hl : s.heap.IsList l items) (pl : IsPart vl lo) (pu : IsPart vu hi)
    (h : ∀ D s', s.heap.get? D = none → SS s0 g ((D, LstP (slicePick items lo hi none).toList) :: pts) s' → Q (.ref D) s') (hsz : items.size ≤ 1000)
    (hs : subscripted slice false (.ref l) (.ref s.heap.objs.size) = operate [.ref s.heap.objs.size, .ref l] (getItem (.ref l) (.ref s.heap.objs.size)) := by with_unfolding_all rfl) :
    wpAny (model prog w) A (subscriptTail value slice (.ref l) (.ref s.heap.objs.size)) Q E { s with heap := s.heap.push { cls := .type "slice", data := .fields #[vl, vu, .none] } } := by
  have hT := Heap.IsList.typeIs (s := { s with heap := s.heap.push { cls := .type "slice", data := .fields #[vl, vu, .none] } }) (hl.push _)
  have S2 : SS s0 g pts { s with heap := s.heap.push { cls := .type "slice", data := .fields #[vl, vu, .none] } } := ⟨S.1.grow (le_push _ _), S.2.trans Sh.mk1⟩
  refine tail_any hT list_getitem_lookup (wpAny_getItem_list_slice (hl.push _) (Heap.IsSliceOf.new ..) pl pu .none (by simp) ?_ (by rw [sizeLine_eq]; omega)) hs
  refine h _ _ ?_ ⟨S2.1.new (le_push _ _) (size_none _ (Nat.le_refl _)) ⟨_, Heap.get?_push_size _ rfl, 0, ?_⟩, S2.2.trans Sh.mk1⟩
  · exact size_none _ (by rw [Heap.size_push]; omega)
  · simp
theorem keptLe (h₀ : Heap) : KeptH (fun h => Le h₀ h) := fun h ob x b o e => Heap.get?_push_of_some ob (x b o e)
theorem slice_to {value slice : Expr} {x : Str} {t : Tok} {j : Int} {uj : Tok} {Q : Value → Shared → Prop} (S : SS s0 g pts s) (h : ∀ t' s', SS s0 g pts s' → Q (.str (Txt.slice x none (some j)) t') s') (hsz : x.length ≤ 1000)
    (hs : subscripted slice false (.str x t) (.ref s.heap.objs.size) = operate [.ref s.heap.objs.size, .str x t] (getItem (.str x t) (.ref s.heap.objs.size)) := by with_unfolding_all rfl)
    (ht : ∀ r, letTemporaryGo value (.str x t) r = pure () := by intro _; with_unfolding_all rfl) :
    wpAny (model prog w) A (subscriptTail value slice (.str x t) (.ref s.heap.objs.size)) Q E { s with heap := s.heap.push { cls := .type "slice", data := .fields #[.none, .int j uj, .none] } } :=
  tail_of_ItemOn (SBH.sliceItem_ns (keptLe s.heap) (Le.refl _) (fun h' t' k hk => h t' _ ⟨S.1.grow hk, S.2.trans Sh.mk'⟩) (by rw [sizeLine_eq]; omega)) hs ht
/-- str.split by a text -/
theorem split_c {x y : Str} {t u : Tok} {Q : Value → Shared → Prop} (S : SS s0 g pts s) (hy : (y.length == 0) = false) (hx : x.length ≤ 1000) (hn : (Txt.split x y).length ≤ 1000)
    (h : ∀ D l s', l.map (·.1) = Txt.split x y → SS s0 g pts s' → s'.heap.IsList D (strValues l).toArray → Q (.ref D) s') :
    wpAny (model prog w) A (call (.builtin "str.split") [.str x t, .str y u]) Q E s := by
  refine SCH.split1 (keptLe s.heap) (Le.refl _) hy (fun D l h' k e hk hl => h D l _ e ⟨S.1.grow hk, S.2.trans Sh.mk'⟩ hl) (by rw [sizeLine_eq]; omega) ?_
  have h1 : (Builtin.Str.partsBetween x (Builtin.Str.occurrences x y 0 x.length (x.length + 1)) y.length).length ≤ x.length + 2 := by
    have h2 := StrLaws.occ_length_le x y 0 x.length (x.length + 1)
    have h3 : ∀ (cuts : List Nat) (a : Nat), (StrLaws.partsFrom x y.length a cuts).length = cuts.length + 1 := by
      intro cuts
      induction cuts with
      | nil => intro a; rfl
      | cons c r ih => intro a; simp [StrLaws.partsFrom, ih]
    rw [StrLaws.partsBetween_eq, h3]; omega
  rw [sizeLine_eq]; omega
end
end Mine
end
section
open PySem PySem.W PySem.Spec PySem.Calls PyProof.Rows
set_option Elab.async false
set_option maxRecDepth 100000
set_option maxHeartbeats 4000000
set_option linter.unusedVariables false
namespace Mine
/-! a row on the pile: its dots and its letter; with the step at which it was pushed, if it has not been sent yet -/
noncomputable abbrev Row := (Nat × Nat) × Option Nat
noncomputable def textX (x : Row) : List Nat := lineL x.1 ++ nlAt (x.2.getD 2)
noncomputable abbrev dotS : Str := Str.ofString "."
noncomputable def nlS (j : Nat) : Str := ⟨(nlAt j).toArray⟩
noncomputable def rowX (x : Row) : Str × Str := match x.2 with
  | none => (noSep, lineS x.1 ++ crlf)
  | some j => (dotS, Txt.item abc x.1.2 ++ nlS j)
theorem item_abc : ∀ (l : Nat), l < 6 → (Txt.item abc (l : Int)).cps.toList = [97 + l]
  | 0, _ => by decide +kernel
  | 1, _ => by decide +kernel
  | 2, _ => by decide +kernel
  | 3, _ => by decide +kernel
  | 4, _ => by decide +kernel
  | 5, _ => by decide +kernel
  | n + 6, h => by omega
theorem join_nil_flat : ∀ (l : List Str), (Txt.join noSep l).cps.toList = l.flatMap fun x => x.cps.toList := by
  intro l
  rw [eq_of_beq (join_plain_closes noSep l)]
  induction l with
  | nil => rfl
  | cons a r ih =>
    cases r with
    | nil => show a.cps.toList = _; simp
    | cons b r =>
      show (a ++ noSep ++ Str.join noSep (b :: r)).cps.toList = _
      rw [Str.cps_append, Str.cps_append, Array.toList_append, Array.toList_append, ih, show noSep.cps.toList = [] by decide +kernel]
      simp
theorem cat_list (r : Str × Str) : (catR r).cps.toList = r.1.cps.toList ++ r.2.cps.toList := by
  unfold catR; rw [join_nil_flat]; simp
/-- the rows of a step: those sent before, and it may be a new one behind them -/
noncomputable def Fresh (j : Nat) (xs : List Row) : Prop := ∃ (ms : List (Nat × Nat)) (o : Option Nat), xs = (ms.map fun m => (m, none)) ++ o.toList.map (fun l => ((1, l), some j)) ∧ ms.length + o.toList.length ≤ j + 1 ∧ (∀ m ∈ ms, 1 ≤ m.1 ∧ m.1 ≤ j + 1 ∧ m.2 < 6) ∧ ∀ l ∈ o, l < 6
theorem Fresh.at {j : Nat} {xs : List Row} (h : Fresh j xs) : ∀ x ∈ xs, 1 ≤ x.1.1 ∧ x.1.1 ≤ j + 1 ∧ x.1.2 < 6 ∧ (rowX x).1.cps.toList ++ (rowX x).2.cps.toList = textX x := by
  obtain ⟨ms, o, rfl, h1, h2, h3⟩ := h
  intro x hx
  rcases List.mem_append.mp hx with hx | hx
  · obtain ⟨m, hm, rfl⟩ := List.mem_map.mp hx
    obtain ⟨a, b, c⟩ := h2 m hm
    refine ⟨a, b, c, ?_⟩
    show noSep.cps.toList ++ (lineS m ++ crlf).cps.toList = lineL m ++ [13, 10]
    rw [Str.cps_append, Array.toList_append, crlf_list, show noSep.cps.toList = [] by decide +kernel]
    simp [lineS]
  · obtain ⟨l, hl, rfl⟩ := List.mem_map.mp hx
    have hl := h3 l (by simpa using hl)
    refine ⟨Nat.le_refl 1, by show 1 ≤ j + 1; omega, hl, ?_⟩
    show dotS.cps.toList ++ (Txt.item abc (l : Int) ++ nlS j).cps.toList = lineL (1, l) ++ nlAt j
    rw [Str.cps_append, Array.toList_append, item_abc l hl, show dotS.cps.toList = [46] by decide +kernel]
    simp [nlS, lineL]
theorem Fresh.len {j : Nat} {xs : List Row} (h : Fresh j xs) : xs.length ≤ j + 1 := by
  obtain ⟨ms, o, rfl, h1, _⟩ := h
  simpa using h1
theorem Fresh.pop {j : Nat} {xs : List Row} (h : Fresh j xs) : Fresh j xs.dropLast := by
  obtain ⟨ms, o, rfl, h1, h2, h3⟩ := h
  cases o with
  | some l => exact ⟨ms, none, by simp, by simp at h1 ⊢; omega, h2, fun l h => by cases h⟩
  | none => exact ⟨ms.dropLast, none, by simp, by simp at h1 ⊢; omega, fun m hm => h2 m (List.dropLast_subset _ hm), fun l h => by cases h⟩
theorem Fresh.sent {j : Nat} {xs : List Row} (h : Fresh j xs) : dotF (nlF ((xs.map rowX).flatMap fun r => r.1.cps.toList ++ r.2.cps.toList)) = ((xs.map (·.1)).map older).flatMap rowL := by
  have ht : ((xs.map rowX).flatMap fun r => r.1.cps.toList ++ r.2.cps.toList) = xs.flatMap textX := by
    rw [List.flatMap_map]
    have := h.at
    clear h
    induction xs with
    | nil => rfl
    | cons x xs ih =>
      simp only [List.flatMap_cons]
      rw [(this x (.head _)).2.2.2, ih fun y hy => this y (.tail _ hy)]
  rw [ht]
  obtain ⟨ms, o, rfl, h1, h2, h3⟩ := h
  have e : (ms.map fun m => ((m, none) : Row)).flatMap textX = ms.flatMap rowL := by rw [List.flatMap_map]; rfl
  have e2 : (ms.map fun m => ((m, none) : Row)).map (·.1) = ms := by rw [List.map_map]; exact List.map_id' _
  cases o with
  | none =>
    simp only [Option.toList_none, List.map_nil, List.append_nil]
    rw [e, e2]
    exact sent_old ms fun m hm => (h2 m hm).1
  | some l =>
    simp only [Option.toList_some, List.map_cons, List.map_nil, List.flatMap_append, List.map_append]
    rw [e, e2]
    have := sent_new ms l j fun m hm => (h2 m hm).1
    simpa [textX, lineL] using this
theorem Fresh.old {j : Nat} {ms : List (Nat × Nat)} (h1 : ms.length ≤ j + 1) (h2 : ∀ m ∈ ms, 1 ≤ m.1 ∧ m.1 ≤ j + 1 ∧ m.2 < 6) : Fresh j (ms.map fun m => (m, none)) := ⟨ms, none, by simp, by simpa using h1, h2, fun l h => by cases h⟩
theorem Fresh.push {j : Nat} {ms : List (Nat × Nat)} {l : Nat} (h1 : ms.length ≤ j) (h2 : ∀ m ∈ ms, 1 ≤ m.1 ∧ m.1 ≤ j + 1 ∧ m.2 < 6) (hl : l < 6) : Fresh j ((ms.map fun m => (m, none)) ++ [((1, l), some j)]) := ⟨ms, some l, by simp, by simp; omega, h2, fun l' h => by cases h; exact hl⟩
theorem Fresh.strip {j : Nat} {xs : List Row} (h : Fresh j xs) (hj : j < 6) {x : Row} (hx : x ∈ xs) : Txt.strip (catR (rowX x)) = lineS x.1 := by
  obtain ⟨a, b, c, d⟩ := h.at x hx
  have e : catR (rowX x) = ⟨(lineL x.1 ++ nlAt (x.2.getD 2)).toArray⟩ := by
    apply Str.ext'
    apply Array.toList_inj.mp
    rw [cat_list, d]; rfl
  rw [e]
  exact strip_line (k := x.1.1) (l := x.1.2) (by omega) c
theorem Fresh.size {j : Nat} {xs : List Row} (h : Fresh j xs) (hj : j < 6) : ∀ x ∈ xs, (rowX x).1.length + (rowX x).2.length ≤ 20 := by
  intro x hx
  obtain ⟨a, b, c, d⟩ := h.at x hx
  have := congrArg List.length d
  simp only [List.length_append, Array.length_toList, textX, lineL, List.length_replicate, List.length_singleton] at this
  have hn : (nlAt (x.2.getD 2)).length ≤ 2 := by unfold nlAt; split; · decide
                                                 split <;> decide
  show (rowX x).1.cps.size + (rowX x).2.cps.size ≤ 20
  omega
/-! the run -/
noncomputable def popRow (ms : List (Nat × Nat)) : Str := match ms.getLast? with
  | none => Str.ofString ""
  | some m => lineS m
noncomputable def hourF (st : Int) (j : Nat) : Int := Int.fmod (st + (j : Int)) 6
noncomputable def runMs (e l : List Int) (st : Int) : Nat → List (Nat × Nat)
  | 0 => []
  | j + 1 => let ms := runMs e l st j
    let ms1 := if hourF st j ∈ e then ms ++ [(1, (hourF st j).toNat)] else ms
    (if hourF st j ∈ l then ms1.dropLast else ms1).map older
noncomputable def runF (e l : List Int) (st : Int) : Nat → List (Str × Str)
  | 0 => []
  | j + 1 => let ms := runMs e l st j
    let ms1 := if hourF st j ∈ e then ms ++ [(1, (hourF st j).toNat)] else ms
    runF e l st j ++ (if hourF st j ∈ l then [(Txt.item abc (hourF st j), popRow ms1)] else [])
theorem hourF_lt (st : Int) (j : Nat) : 0 ≤ hourF st j ∧ hourF st j < 6 := ⟨Int.fmod_nonneg_of_pos _ (by decide), Int.fmod_lt_of_pos _ (by decide)⟩
theorem runMs_ok (e l : List Int) (st : Int) : ∀ j, (runMs e l st j).length ≤ j ∧ ∀ m ∈ runMs e l st j, 1 ≤ m.1 ∧ m.1 ≤ j + 1 ∧ m.2 < 6
  | 0 => ⟨Nat.le_refl 0, fun m hm => by cases hm⟩
  | j + 1 => by
    obtain ⟨h1, h2⟩ := runMs_ok e l st j
    obtain ⟨a, b⟩ := hourF_lt st j
    have k1 : ∀ ms1, ms1 = (if hourF st j ∈ e then runMs e l st j ++ [(1, (hourF st j).toNat)] else runMs e l st j) → ms1.length ≤ j + 1 ∧ ∀ m ∈ ms1, 1 ≤ m.1 ∧ m.1 ≤ j + 1 ∧ m.2 < 6 := by
      rintro ms1 rfl
      split
      · refine ⟨by simp; omega, fun m hm => ?_⟩
        rcases List.mem_append.mp hm with hm | hm
        · exact h2 m hm
        · rw [List.mem_singleton.mp hm]; exact ⟨Nat.le_refl 1, by show 1 ≤ j + 1; omega, by show (hourF st j).toNat < 6; omega⟩
      · exact ⟨by omega, h2⟩
    obtain ⟨c, d⟩ := k1 _ rfl
    unfold runMs
    simp only
    generalize (if hourF st j ∈ e then runMs e l st j ++ [(1, (hourF st j).toNat)] else runMs e l st j) = ms1 at c d
    refine ⟨?_, fun m hm => ?_⟩
    · rw [List.length_map]; split
      · simp; omega
      · exact c
    · obtain ⟨m', hm', rfl⟩ := List.mem_map.mp hm
      have : m' ∈ ms1 := by
        split at hm'
        · exact List.dropLast_subset _ hm'
        · exact hm'
      obtain ⟨x, y, z⟩ := d m' this
      exact ⟨by show 1 ≤ m'.1 + 1; omega, by show m'.1 + 1 ≤ j + 1 + 1; omega, z⟩
theorem runF_len (e l : List Int) (st : Int) : ∀ j, (runF e l st j).length ≤ j
  | 0 => Nat.le_refl 0
  | j + 1 => by
    have := runF_len e l st j
    unfold runF
    rw [List.length_append]; split <;> simp <;> omega
end Mine
end
section
open PySem PySem.W PySem.Spec PySem.Calls PyProof.Rows
set_option Elab.async false
set_option maxRecDepth 100000
set_option maxHeartbeats 4000000
set_option linter.unusedVariables false
namespace Mine
theorem permK {α : Type} {a : α} : ∀ (k : Nat) {l r : List α}, l[k]? = some a → (l.eraseIdx k).Perm r → l.Perm (a :: r)
  | 0, [], r, h, _ => by cases h
  | 0, x :: l, r, h, t => by
    have e : x = a := by simpa using h
    subst e
    exact .cons _ t
  | k + 1, [], r, h, _ => by cases h
  | k + 1, x :: l, r, h, t => by
    have h' : l[k]? = some a := by simpa using h
    have t' : (x :: l.eraseIdx k).Perm r := t
    exact ((permK k h' (.refl _)).cons x).trans ((List.Perm.swap ..).trans (t'.cons a))
local macro_rules | `(tactic| walk_at "perm") => `(tactic| (repeat (first | exact List.Perm.refl _ | refine permK 0 rfl ?_ | refine permK 1 rfl ?_ | refine permK 2 rfl ?_ | refine permK 3 rfl ?_ | refine permK 4 rfl ?_ | refine permK 5 rfl ?_ | refine permK 6 rfl ?_ | refine permK 7 rfl ?_ | refine permK 8 rfl ?_)))
theorem SS.perm {s0 s : Shared} {g : Heap} {pts pts' : List PO} (S : SS s0 g pts s) (h : pts.Perm pts') : SS s0 g pts' s := ⟨S.1.perm h, S.2⟩
theorem three_nls (j : Nat) (t1 t2 t3 : Tok) : ∃ t, ([Value.str (Str.ofString "\n") t1, .str (Str.ofString "\r") t2, .str (Str.ofString "\r\n") t3].toArray)[(Int.fmod (j : Int) 3).toNat]? = some (.str (nlS j) t) := by
  have h : (Int.fmod (j : Int) 3).toNat = j % 3 := by
    rw [Int.fmod_eq_emod_of_nonneg _ (by decide)]; omega
  rw [h]
  rcases (show j % 3 = 0 ∨ j % 3 = 1 ∨ j % 3 = 2 by omega) with e | e | e <;> (rw [e]; unfold nlS nlAt; rw [e]; exact ⟨_, rfl⟩)
theorem paired_map_snoc {α β γ : Type} {F : α → β → Prop} {f : γ → β} {l : List α} {m : List γ} {a : α} {x : γ} (h : Paired F l (m.map f)) (hx : F a (f x)) : Paired F (l ++ [a]) ((m ++ [x]).map f) := by
  rw [List.map_append]; exact h.snoc hx
theorem paired_dropLast {α β : Type} {F : α → β → Prop} : ∀ {l : List α} {m : List β} {a : α}, Paired F (l ++ [a]) m → ∃ b, m.getLast? = some b ∧ F a b ∧ Paired F l m.dropLast
  | [], [], _, h => by cases h
  | [], [b], a, .cons h .nil => ⟨b, rfl, h, .nil⟩
  | [], b :: c :: m, a, .cons _ t => by cases t
  | x :: l, [], _, h => by cases h
  | x :: l, [b], a, .cons _ t => by
    have := t.length
    simp at this
  | x :: l, b :: c :: m, a, .cons h t => by
    obtain ⟨d, h1, h2, h3⟩ := paired_dropLast t
    exact ⟨d, by rw [List.getLast?_cons_cons]; exact h1, h2, .cons h h3⟩
noncomputable def newX (j : Nat) (h : Int) : Row := ((1, h.toNat), some j)
noncomputable def pushX (e : List Int) (h : Int) (j : Nat) (ms : List (Nat × Nat)) : List Row := (ms.map fun m => (m, none)) ++ if h ∈ e then [newX j h] else []
noncomputable def popX (l : List Int) (h : Int) (xs : List Row) : List Row := if h ∈ l then xs.dropLast else xs
theorem pushX_fresh {e : List Int} {h : Int} {j : Nat} {ms : List (Nat × Nat)} (h0 : 0 ≤ h) (h6 : h < 6) (h1 : ms.length ≤ j) (h2 : ∀ m ∈ ms, 1 ≤ m.1 ∧ m.1 ≤ j + 1 ∧ m.2 < 6) : Fresh j (pushX e h j ms) := by
  unfold pushX
  split
  · exact Fresh.push h1 h2 (by omega)
  · rw [List.append_nil]; exact Fresh.old (by omega) h2
theorem popX_fresh {l : List Int} {h : Int} {j : Nat} {xs : List Row} (x : Fresh j xs) : Fresh j (popX l h xs) := by
  unfold popX; split
  · exact x.pop
  · exact x
theorem pushX_ms (e : List Int) (h : Int) (j : Nat) (ms : List (Nat × Nat)) : (pushX e h j ms).map (·.1) = if h ∈ e then ms ++ [(1, h.toNat)] else ms := by
  have e2 : (ms.map fun m => ((m, none) : Row)).map (·.1) = ms := by rw [List.map_map]; exact List.map_id' _
  unfold pushX
  rw [List.map_append, e2]
  split
  · rfl
  · simp
theorem popX_ms (l : List Int) (h : Int) (xs : List Row) : (popX l h xs).map (·.1) = if h ∈ l then (xs.map (·.1)).dropLast else xs.map (·.1) := by
  unfold popX; split
  · rw [List.map_dropLast]
  · rfl
/-- what a step pops -/
noncomputable def goneX (xs : List Row) : Str := match xs.getLast? with
  | none => Str.ofString ""
  | some x => lineS x.1
theorem goneX_is (xs : List Row) : goneX xs = popRow (xs.map (·.1)) := by
  unfold goneX popRow
  rw [List.getLast?_map]
  cases xs.getLast? <;> rfl
theorem strip_empty : Txt.strip (Txt.join noSep [noSep, noSep]) = Str.ofString "" := by
  have : (Txt.strip (Txt.join noSep [noSep, noSep]) == Str.ofString "") = true := by decide +kernel
  exact eq_of_beq this
theorem flatMap_ext {α β : Type} {f g : α → List β} : ∀ (l : List α), (∀ a ∈ l, f a = g a) → l.flatMap f = l.flatMap g
  | [], _ => rfl
  | a :: l, h => by
    simp only [List.flatMap_cons]
    rw [h a (.head _), flatMap_ext l fun b hb => h b (.tail _ hb)]
theorem join_size (l : List Str) : (Txt.join noSep l).cps.size = (l.map (·.length)).sum := by
  have := congrArg List.length (join_nil_flat l)
  simp only [Array.length_toList, List.length_flatMap] at this
  rw [this]; rfl
theorem rows_size {ns : List (Nat × Nat)} (h1 : ∀ m ∈ ns, m.1 ≤ 8) (h2 : ns.length ≤ 7) : (Str.mk (ns.flatMap rowL).toArray).length ≤ 1000 := by
  have h3 : ∀ (ns : List (Nat × Nat)), (∀ m ∈ ns, m.1 ≤ 8) → (ns.flatMap rowL).length ≤ 11 * ns.length := by
    intro ns
    induction ns with
    | nil => intro _; simp
    | cons m ns ih =>
      intro h
      have a := ih fun m hm => h m (.tail _ hm)
      have b := h m (.head _)
      simp only [List.flatMap_cons, List.length_append, List.length_cons, rowL, lineL, List.length_replicate, List.length_nil]
      omega
  have := h3 ns h1
  show (ns.flatMap rowL).toArray.size ≤ 1000
  simp only [List.size_toArray]
  omega
theorem strs_of : ∀ (l : List (Str × Tok)) (xs : List Str), l.map (·.1) = xs → StrsAre (strValues l) xs
  | [], _, rfl => .nil
  | (y, t) :: l, _, rfl => .cons y t (strs_of l _ rfl)
theorem butLast_strs {ll : List (Str × Tok)} {xs : List Str} {z : Str} (h : ll.map (·.1) = xs ++ [z]) : ∃ us, (slicePick (strValues ll).toArray none (some (-1)) none).toList = us ∧ StrsAre us xs := by
  refine ⟨strValues (ll.take (ll.length - 1)), ?_, strs_of _ _ ?_⟩
  · have := slicePick_butLast (strValues ll).toArray 1 (Nat.le_refl 1)
    rw [show (-(1 : Int)) = -((1 : Nat) : Int) from rfl, this]
    simp [strValues, List.map_take]
  · rw [List.map_take, h]
    have hl := congrArg List.length h
    simp at hl
    rw [List.take_left' (by omega)]
theorem strs_get {us : List Value} {ns : List (Nat × Nat)} {k : Nat} {v : Value} (h : StrsAre us (ns.map lineS)) (hv : us[k]? = some v) : ∃ m t, ns[k]? = some m ∧ v = .str (lineS m) t := by
  have hk : k < us.length := (List.getElem?_eq_some_iff.mp hv).1
  have hl := h.length
  rw [List.length_map] at hl
  obtain ⟨t, ht⟩ := h.get k (lineS (ns[k]'(by omega))) (by simp [List.getElem?_eq_getElem (show k < ns.length by omega)])
  rw [hv] at ht
  exact ⟨_, t, List.getElem?_eq_getElem (by omega), Option.some.inj ht⟩
section
variable {w : World} {A : Around} {E : Value → Shared → Prop} {s0 s : Shared} {g : Heap} {pts : List PO}
theorem run_c {v1 v2 : Value} {e1 e2 : List Int} {i : Int} {t : Tok} {Q : Value → Shared → Prop} (hA : Rm 10 A) (S : SS s0 g ((222, TabP) :: pts) s) (W : Wd (KK w) g) (M : BM g) (h1 : IsInts g v1 e1) (h2 : IsInts g v2 e2)
    (hQ : ∀ g' v s', Le g g' → SS s0 g' ((222, TabP) :: pts) s' → IsRows g' v (runF e1 e2 i 6) → Q v s') : wpAny (model PR w) A (call (.ref 286) [v1, v2, .int i t]) Q E s := by
  obtain ⟨a1, vs1, rfl, hl1, hi1⟩ := h1
  obtain ⟨a2, vs2, rfl, hl2, hi2⟩ := h2
  refine callV hA S W rfl (by kernel_rfl) rfl (BindsTo.of_eq rfl) (by decide) (locs rfl) (fun L s S hA₁ _ => ?_)
  refine wpAny_execs_cons (Assign_Tuple_swapped (Tuple_ (args_cons (Call_ ?_))))
  refine nmG (v := .ref 253) S W (by kernel_rfl) ?_
  refine callWith_K0 (K := KF w) (W.kf.keeps S.1.keep) (by kernel_rfl) ?_
  refine newPile (hA₁.le (by decide)) S W (fun P dx s S => ?_)
  refine args_cons (List_ (args_nil (newL S (fun G s hG S => args_nil (newT S (fun TT s hT S => ?_))))))
  refine unpackT hA₁.hh S (by walk_at "mem") rfl (fun s S => ?_)
  have S : SS s0 g ((G, LstP []) :: (P, PilP dx []) :: (dx, IniP) :: (L, _) :: (222, TabP) :: pts) s := ⟨S.1.drop, S.2⟩
  refine assignInOrder_cons (bindName_ (stL S (by walk_at "at") (fun s S => ?_)))
  refine assignInOrder_cons (bindName_ (stL S (by walk_at "at") (fun s S => assignInOrder_nil ?_)))
  dsimp only
  have hvl1 : vs1.length = vs1.length := rfl
  refine wpAny_execs_cons (forR (s0 := s0) (Call_ ?_))
  refine nmB (v := .type "range") S W (by kernel_rfl) boot_range ?_
  refine Pv.callWith_type1 (args_cons (wpAny_Constant_int (args_nil ?_)))
  refine callRange S (by walk_at "mem") (fun r t1 u1 v1' s hr S => ?_)
  refine iterRange (n := 6) S hr (by decide) (fun I s hI S => ?_)
  have S : SS s0 g ((I, RngQ 0 6 1) :: (P, PilP dx []) :: (dx, IniP) :: (222, TabP) :: (G, LstP []) :: (L, _) :: pts) s := SS.perm S (by walk_at "perm")
  refine ⟨I, g, _, 6, _, _, _, fun j g' p => ∃ l vs gs u, p = (P, PilP dx vs) :: (dx, IniP) :: (222, TabP) :: (G, LstP gs) :: (L, NsL l) :: pts ∧ Has l "early" (.ref a1) ∧ Has l "late" (.ref a2) ∧ Has l "start" (.int i u) ∧
    Has l "pile" (.ref P) ∧ Has l "gone" (.ref G) ∧ Paired (RowIs g') vs (((runMs e1 e2 i j).map fun m => ((m, none) : Row)).map rowX) ∧ Paired (RowIs g') gs (runF e1 e2 i j) ∧ j ≤ 6, rfl, src_range hA₁.hh I 0 6, S,
    ⟨_, _, _, _, rfl, by rfl, by rfl, by rfl, by rfl, by rfl, .nil, .nil, by decide⟩, fun _ _ _ _ _ _ _ => trivial, ?_, ?_⟩
  · rintro j g1 _ v s hj ⟨l, vs, gs, u1, rfl, q1, q2, q3, q4, q5, q6, q7, q8⟩ ⟨t2, hv⟩ hle S
    rw [Int.zero_add] at hv; subst hv
    obtain ⟨hms1, hms2⟩ := runMs_ok e1 e2 i j
    have hgl : gs.length ≤ 6 := by rw [q7.length]; have := runF_len e1 e2 i j; omega
    refine wpAny_assign_Name (stL S (by walk_at "at") (fun s S => ?_))
    refine wpAny_execs_cons (wpAny_Assign_Name (wpAny_BinOp (wpAny_BinOp ?_)))
    refine nmL S (by walk_at "mem") (by walk_at "lk") (nmL S (by walk_at "mem") (by walk_at "lk") ?_)
    refine add_int (wpAny_Constant_int (mod_int' (by decide) ?_))
    obtain ⟨hf0, hf6⟩ := hourF_lt i j
    have hhour : Int.fmod (i + (j : Int)) 6 = hourF i j := rfl
    rw [hhour]
    have hsF : runF e1 e2 i (j + 1) = runF e1 e2 i j ++ (if hourF i j ∈ e2 then [(Txt.item abc (hourF i j), popRow (if hourF i j ∈ e1 then runMs e1 e2 i j ++ [(1, (hourF i j).toNat)] else runMs e1 e2 i j))] else []) := rfl
    have hsM : runMs e1 e2 i (j + 1) = (if hourF i j ∈ e2 then (if hourF i j ∈ e1 then runMs e1 e2 i j ++ [(1, (hourF i j).toNat)] else runMs e1 e2 i j).dropLast else (if hourF i j ∈ e1 then runMs e1 e2 i j ++ [(1, (hourF i j).toNat)] else runMs e1 e2 i j)).map older := rfl
    rw [← pushX_ms e1 (hourF i j) j] at hsF hsM
    rw [← popX_ms, ] at hsM
    rw [← goneX_is] at hsF
    generalize hourF i j = hour at hf0 hf6 hsF hsM ⊢
    generalize runMs e1 e2 i j = ms at hms1 hms2 hsF hsM q6
    have hfr := pushX_fresh (e := e1) hf0 hf6 hms1 hms2
    refine stL S (by walk_at "at") (fun s S => ?_)
    obtain ⟨th, S⟩ : ∃ th, SS s0 g1 ((I, RngQ (0 + ((j + 1 : Nat) : Int)) (((6 : Nat) : Int) - ((j + 1 : Nat) : Int)) 1) :: (P, PilP dx vs) :: (dx, IniP) :: (222, TabP) :: (G, LstP gs) :: (L, NsL (("hour", .int hour th) :: ("step", .int j t2) :: l)) :: pts) s := ⟨_, S⟩
    have ls : ∀ {s : Shared} {p : List PO} {g'' : Heap}, Le g g'' → SS s0 g'' p s → s.heap.IsList a1 vs1.toArray ∧ s.heap.IsList a2 vs2.toArray := fun hle S =>
      ⟨(hl1.at (fun o e => S.1.keep _ _ (hle _ _ e))).isList, (hl2.at (fun o e => S.1.keep _ _ (hle _ _ e))).isList⟩
    have hvl : vs.length ≤ 6 := by rw [q6.length]; simp; omega
    have w1 := W.le hle
    refine execs_cut (fun s' => ∃ g2 vsb, Le g1 g2 ∧ SS s0 g2 ((I, RngQ (0 + ((j + 1 : Nat) : Int)) (((6 : Nat) : Int) - ((j + 1 : Nat) : Int)) 1) :: (P, PilP dx vsb) :: (dx, IniP) :: (222, TabP) :: (G, LstP gs) :: (L, NsL (("hour", .int hour th) :: ("step", .int j t2) :: l)) :: pts) s' ∧
      Paired (RowIs g2) vsb ((pushX e1 hour j ms).map rowX)) ?_ ?_
    · refine wpAny_If (wpAny_isTrue_Compare1 (nmL S (by walk_at "mem") (by walk_at "lk") (nmL S (by walk_at "mem") (by walk_at "lk") (in_list_ints (ls hle S).1 hi1 (wpAny_truthy_bool ?_)))))
      by_cases e : hour ∈ e1
      · rw [if_pos (by simpa using e)]
        refine wpAny_execs_cons (wpAny_Expr_any (MethodCall_ (nmL S (by walk_at "mem") (by walk_at "lk") ?_)))
        refine mthPf S w1 (P := P) (dx := dx) (vs := vs) (f := 197) (by walk_at "mem") (by walk_at "mem") (by kernel_rfl) (by kernel_rfl) ?_
        refine callWith_K (K := KF w) (w1.kf.keeps S.1.keep) (by kernel_rfl) ?_
        refine args_cons (wpAny_Constant_str (args_cons (wpAny_BinOp (Subscript_ (wpAny_Constant_str (nmL S (by walk_at "mem") (by walk_at "lk") ?_))))))
        refine item_str (fit6 (by omega) (by omega)) (by rw [abc_len]; omega) (by rw [abc_len]; omega) (fun hlen1 => ?_)
        refine Subscript_ (List_ (args_cons (wpAny_Constant_str (args_cons (wpAny_Constant_str (args_cons (wpAny_Constant_str (args_nil ?_))))))))
        refine newL (pts := (I, RngQ (0 + ((j + 1 : Nat) : Int)) (((6 : Nat) : Int) - ((j + 1 : Nat) : Int)) 1) :: (P, PilP dx vs) :: (dx, IniP) :: (222, TabP) :: (G, LstP gs) :: (L, NsL (("hour", .int hour th) :: ("step", .int j t2) :: l)) :: pts) ⟨S.1, S.2⟩ (fun D3 s hD3 S => ?_)
        refine wpAny_BinOp (nmL S (by walk_at "mem") (by walk_at "lk") (wpAny_Constant_int (mod_int' (by decide) ?_)))
        have hl := (LstP.plain (S.1.own (D3, LstP _) (.head _)).1).isList
        refine Exists.elim (three_nls j _ _ _) (fun tn hx => tail_any hl.typeIs slot_list_getitem.lookup (wpAny_getItem_list hl (Int.fmod_nonneg_of_pos _ (by decide)) (by have := Int.fmod_lt_of_pos (j : Int) (show (0 : Int) < 3 by decide); omega) hx ?_) (by with_unfolding_all rfl))
        have hnl : (nlS j).length ≤ 2 := by show (nlAt j).toArray.size ≤ 2; unfold nlAt; split; · decide
                                            split <;> decide
        refine add_str (fun t4 k4 => args_nil ⟨w1.kf.keeps S.1.keep, ?_⟩) (by rw [sizeLine_eq]; have := hlen1.2; omega)
        have S : SS s0 g1 ((P, PilP dx vs) :: (dx, IniP) :: (D3, LstP _) :: (I, RngQ (0 + ((j + 1 : Nat) : Int)) (((6 : Nat) : Int) - ((j + 1 : Nat) : Int)) 1) :: (222, TabP) :: (G, LstP gs) :: (L, NsL (("hour", .int hour th) :: ("step", .int j t2) :: l)) :: pts) s := SS.perm S (by walk_at "perm")
        refine push_c (hA₁.le (by decide)) ⟨S.1, S.2⟩ w1 (by omega) (fun g2 v s hle2 S hv => ?_)
        refine wpAny_execs_nil ⟨rfl, g2, _, hle2, SS.perm (pts := (P, PilP dx (vs ++ [v])) :: (dx, IniP) :: (I, _) :: (222, TabP) :: (G, LstP gs) :: (L, _) :: pts) ⟨(S.1.perm (pts' := (D3, LstP _) :: (P, PilP dx (vs ++ [v])) :: (dx, IniP) :: (I, _) :: (222, TabP) :: (G, LstP gs) :: (L, _) :: pts) (by walk_at "perm")).drop, S.2⟩ (by walk_at "perm"), ?_⟩
        rw [pushX, if_pos e]
        refine paired_map_snoc (paired_mono (fun _ _ x => x.le hle2) q6) ?_
        have : rowX (newX j hour) = (dotS, Txt.item abc hour ++ nlS j) := by
          show (dotS, Txt.item abc ((hour.toNat : Nat) : Int) ++ nlS j) = _
          rw [show ((hour.toNat : Nat) : Int) = hour by omega]
        rw [this]
        exact hv
      · rw [if_neg (by simpa using e)]
        refine wpAny_execs_nil ⟨rfl, g1, _, Le.refl _, S, ?_⟩
        rw [pushX, if_neg e, List.append_nil]
        exact q6
    rintro s ⟨g2, vsb, hle2, S, q6⟩
    generalize pushX e1 hour j ms = xs at hfr hsF hsM q6
    have w2 := w1.le hle2
    have hvl : vsb.length ≤ 7 := by rw [q6.length]; have := hfr.len; simp; omega
    have hle12 := hle.trans hle2
    refine execs_cut (fun s' => ∃ g3 vs3 gs3, Le g2 g3 ∧ SS s0 g3 ((I, RngQ (0 + ((j + 1 : Nat) : Int)) (((6 : Nat) : Int) - ((j + 1 : Nat) : Int)) 1) :: (P, PilP dx vs3) :: (dx, IniP) :: (222, TabP) :: (G, LstP gs3) :: (L, NsL (("hour", .int hour th) :: ("step", .int j t2) :: l)) :: pts) s' ∧
      Paired (RowIs g3) vs3 ((popX e2 hour xs).map rowX) ∧ Paired (RowIs g3) gs3 (runF e1 e2 i (j + 1))) ?_ ?_
    · refine wpAny_If (wpAny_isTrue_Compare1 (nmL S (by walk_at "mem") (by walk_at "lk") (nmL S (by walk_at "mem") (by walk_at "lk") (in_list_ints (ls hle12 S).2 hi2 (wpAny_truthy_bool ?_)))))
      by_cases e : hour ∈ e2
      · rw [if_pos (by simpa using e)]
        refine wpAny_execs_cons (wpAny_Expr_any (mAppend (D := G) ?_))
        refine nmL S (by walk_at "mem") (by walk_at "lk") ⟨rfl, ⟨_, LstP.plain (S.1.own (G, LstP gs) (by walk_at "mem")).1⟩, ?_⟩
        refine Tuple_ (args_cons (Subscript_ (wpAny_Constant_str (nmL S (by walk_at "mem") (by walk_at "lk") ?_))))
        refine item_str (fit6 (by omega) (by omega)) (by rw [abc_len]; omega) (by rw [abc_len]; omega) (fun hlen1 => ?_)
        refine args_cons (mth0 F.plainAttrs_str F.slot_str_strip F.type_str_strip ?_)
        refine mth1 F.plainAttrs_str F.slot_str_join F.type_str_join (wpAny_Constant_str ⟨typeIs_str _ _ _, fun a e => (by cases e), args_cons (MethodCall_ (nmL S (by walk_at "mem") (by walk_at "lk") ?_))⟩)
        have S : SS s0 g2 ((P, PilP dx vsb) :: (dx, IniP) :: (I, RngQ (0 + ((j + 1 : Nat) : Int)) (((6 : Nat) : Int) - ((j + 1 : Nat) : Int)) 1) :: (222, TabP) :: (G, LstP gs) :: (L, NsL (("hour", .int hour th) :: ("step", .int j t2) :: l)) :: pts) s := SS.perm S (by walk_at "perm")
        refine mthPf S w2 (P := P) (dx := dx) (vs := vsb) (f := 213) (by walk_at "mem") (by walk_at "mem") (by kernel_rfl) (by kernel_rfl) ?_
        refine callWith_K0 (K := KF w) (w2.kf.keeps S.1.keep) (by kernel_rfl) ?_
        refine wpAny_mono (Q := fun v s' => ∃ g3 r vs3, Le g2 g3 ∧ SS s0 g3 ((P, PilP dx vs3) :: (dx, IniP) :: (I, RngQ (0 + ((j + 1 : Nat) : Int)) (((6 : Nat) : Int) - ((j + 1 : Nat) : Int)) 1) :: (222, TabP) :: (G, LstP gs) :: (L, NsL (("hour", .int hour th) :: ("step", .int j t2) :: l)) :: pts) s' ∧
          RowIs g3 v r ∧ Paired (RowIs g3) vs3 ((popX e2 hour xs).map rowX) ∧ r.1.length + r.2.length ≤ 20 ∧ Txt.strip (Txt.join noSep [r.1, r.2]) = goneX xs) ?_ (fun v s hv => ?_) (fun _ _ e => e)
        · refine pop_c (hA₁.le (by decide)) S w2 (by omega) (fun h0 g3 v s hle3 S' hv => ?_) (fun vs' v s hvs S' => ?_)
          · subst h0
            have hx : xs = [] := by
              have := q6.length
              exact List.eq_nil_of_length_eq_zero (by simpa using this.symm)
            subst hx
            refine ⟨g3, (noSep, noSep), [], hle3, S', hv, ?_, by decide +kernel, strip_empty⟩
            rw [popX, if_pos e]; exact .nil
          · subst hvs
            obtain ⟨b, hb, hvb, hrest⟩ := paired_dropLast q6
            rw [List.getLast?_map] at hb
            obtain ⟨x, hx, rfl⟩ := Option.map_eq_some_iff.mp hb
            have hxm := List.mem_of_getLast? hx
            refine ⟨g2, rowX x, vs', Le.refl _, S', hvb, ?_, hfr.size (by omega) x hxm, ?_⟩
            · rw [popX, if_pos e, List.map_dropLast]; exact hrest
            · rw [goneX, hx]; exact hfr.strip (by omega) hxm
        · obtain ⟨g3, r, vs3, hle3, S, ⟨TT, tr1, tr2, rfl, oT, hoT, hPT⟩, hrow, hlen, hstrip⟩ := hv
          refine args_nil (join_tupleW (ys := [r.1, r.2]) ⟨oT, S.1.keep _ _ hoT, by rw [hPT], 0, by rw [hPT]⟩ (.cons _ _ (.cons _ _ .nil)) (by decide +kernel) (by simp; omega) (fun t5 k5 => ⟨typeIs_str _ _ _, fun a e => (by cases e), ?_⟩))
          have hjl : (Txt.join (Str.ofString "") [r.1, r.2]).length ≤ 20 := by rw [show (Txt.join (Str.ofString "") [r.1, r.2]).length = r.1.length + r.2.length from catR_len r]; exact hlen
          refine SC.strip (fun t6 k6 => args_nil ?_) (by rw [sizeLine_eq]; omega)
          refine newT (pts := (P, PilP dx vs3) :: (dx, IniP) :: (I, RngQ (0 + ((j + 1 : Nat) : Int)) (((6 : Nat) : Int) - ((j + 1 : Nat) : Int)) 1) :: (222, TabP) :: (G, LstP gs) :: (L, NsL (("hour", .int hour th) :: ("step", .int j t2) :: l)) :: pts) ⟨S.1, S.2⟩ (fun T2 s hT2 S => ?_)
          obtain ⟨g4, hle4, ⟨o2, ho2, hP2, _⟩, S2⟩ := S.1.freeze
          have S : SS s0 g4 _ s := ⟨S2, S.2⟩
          refine appendL S (by walk_at "at") (fun s S => ?_) (by rw [sizeLine_eq]; omega)
          refine wpAny_execs_nil ⟨rfl, g4, vs3, _, hle3.trans hle4, SS.perm S (by walk_at "perm"), paired_mono (fun _ _ x => x.le hle4) hrow, ?_⟩
          have hstrip' : Txt.strip (Txt.join (Str.ofString "") [r.1, r.2]) = goneX xs := hstrip
          rw [hstrip'] at hP2
          rw [hsF, if_pos e]
          refine Paired.snoc (paired_mono (fun _ _ x => x.le (hle2.trans (hle3.trans hle4))) q7) ⟨T2, _, _, rfl, o2, ho2, hP2⟩
      · rw [if_neg (by simpa using e)]
        refine wpAny_execs_nil ⟨rfl, g2, _, _, Le.refl _, S, ?_, ?_⟩
        · rw [popX, if_neg e]; exact q6
        · rw [hsF, if_neg e, List.append_nil]; exact paired_mono (fun _ _ x => x.le hle2) q7
    rintro s ⟨g3, vs3, gs3, hle3, S, q6, q7⟩
    have hfp := popX_fresh (l := e2) (h := hour) hfr
    generalize popX e2 hour xs = ys at hfp hsM q6
    have w3 := w2.le hle3
    have hle13 := hle12.trans hle3
    have hyl := hfp.len
    have hvl3 : vs3.length ≤ 7 := by rw [q6.length]; simp; omega
    refine wpAny_execs_cons (wpAny_Assign_Name (Call_ (nmG (v := .ref 274) S w3 (by kernel_rfl) (cwDef w3 rfl rfl (args_cons (Call_ (nmB (v := .type "str") S w3 (by kernel_rfl) PyProof.Rows.boot_str ?_)))))))
    refine Pv.callWith_type1 (args_cons (nmL S (by walk_at "mem") (by walk_at "lk") (args_nil ?_)))
    have S : SS s0 g3 ((222, TabP) :: (P, PilP dx vs3) :: (dx, IniP) :: (I, RngQ (0 + ((j + 1 : Nat) : Int)) (((6 : Nat) : Int) - ((j + 1 : Nat) : Int)) 1) :: (G, LstP gs3) :: (L, NsL (("hour", .int hour th) :: ("step", .int j t2) :: l)) :: pts) s := SS.perm S (by walk_at "perm")
    have hrl : ∀ r ∈ ys.map rowX, r.1.length + r.2.length ≤ 20 := fun r hr => by
      obtain ⟨x, hx, rfl⟩ := List.mem_map.mp hr
      exact hfp.size (by omega) x hx
    refine strP (hA₁.le (by decide)) S w3 (M.le hle13) q6 (by simp; omega) (fun r hr => by have := hrl r hr; omega) (fun s t5 S => args_nil ⟨S.1.keep, ?_⟩)
    have hjs : (Txt.join noSep ((ys.map rowX).map catR)).cps.size ≤ 140 := by
      rw [join_size]
      have := weight_rows (ys.map rowX) 20 hrl
      rw [List.length_map] at this
      omega
    refine quote_c (hA₁.le (by decide)) S w3 (by omega) (fun g4 s t6 hle4 S => ?_)
    have htext : dotF (nlF (Txt.join noSep ((ys.map rowX).map catR)).cps.toList) = ((ys.map (·.1)).map older).flatMap rowL := by
      rw [join_nil_flat, ← hfp.sent, List.flatMap_map]
      congr 2
      exact flatMap_ext _ fun r hr => cat_list r
    rw [htext]
    have hnm : ∀ m ∈ ((ys.map (·.1)).map older), m.1 ≤ 8 := fun m hm => by
      obtain ⟨m', hm', rfl⟩ := List.mem_map.mp hm
      obtain ⟨x, hx, rfl⟩ := List.mem_map.mp hm'
      have := (hfp.at x hx).2.1
      show x.1.1 + 1 ≤ 8
      omega
    have hnl : ((ys.map (·.1)).map older).length ≤ 7 := by simp; omega
    generalize ((ys.map (·.1)).map older) = ns at hsM hnm hnl
    have w4 := w3.le hle4
    refine stL S (by walk_at "at") (fun s S => ?_)
    obtain ⟨ts, S⟩ : ∃ ts, SS s0 g4 ((222, TabP) :: (P, PilP dx vs3) :: (dx, IniP) :: (I, RngQ (0 + ((j + 1 : Nat) : Int)) (((6 : Nat) : Int) - ((j + 1 : Nat) : Int)) 1) :: (G, LstP gs3) :: (L, NsL (("sent", .str ⟨(ns.flatMap rowL).toArray⟩ ts) :: ("hour", .int hour th) :: ("step", .int j t2) :: l)) :: pts) s := ⟨_, S⟩
    refine wpAny_execs_cons (wpAny_Expr_any (MethodCall_ (nmL S (by walk_at "mem") (by walk_at "lk") ?_)))
    refine mthPf S w4 (P := P) (dx := dx) (vs := vs3) (f := 235) (by walk_at "mem") (by walk_at "mem") (by kernel_rfl) (by kernel_rfl) ?_
    refine callWith_K (K := KF w) (w4.kf.keeps S.1.keep) (by kernel_rfl) (args_cons ?_)
    refine compR (s0 := s0) rfl (by decide) rfl (by decide) ?_
    refine Subscript_ (mth1 F.plainAttrs_str F.slot_str_split F.type_str_split (nmL S (by walk_at "mem") (by walk_at "lk") ⟨typeIs_str _ _ _, fun a e => (by cases e), args_cons (wpAny_Constant_str (args_nil ?_))⟩))
    refine split_c (pts := (222, TabP) :: (P, PilP dx vs3) :: (dx, IniP) :: (I, RngQ (0 + ((j + 1 : Nat) : Int)) (((6 : Nat) : Int) - ((j + 1 : Nat) : Int)) 1) :: (G, LstP gs3) :: (L, NsL (("sent", .str ⟨(ns.flatMap rowL).toArray⟩ ts) :: ("hour", .int hour th) :: ("step", .int j t2) :: l)) :: pts) ⟨S.1, S.2⟩ (by decide +kernel) (rows_size hnm hnl) (by rw [split_rows]; simp; omega) (fun D ll s hll S hD => ?_)
    rw [split_rows] at hll
    refine wpAny_Slice (wpAny_pure (wpAny_UnaryOp (wpAny_Constant_int (neg_int (wpAny_pure ?_)))))
    refine sliceL (pts := (222, TabP) :: (P, PilP dx vs3) :: (dx, IniP) :: (I, RngQ (0 + ((j + 1 : Nat) : Int)) (((6 : Nat) : Int) - ((j + 1 : Nat) : Int)) 1) :: (G, LstP gs3) :: (L, NsL (("sent", .str ⟨(ns.flatMap rowL).toArray⟩ ts) :: ("hour", .int hour th) :: ("step", .int j t2) :: l)) :: pts) (lo := none) (hi := some (-1)) ⟨S.1, S.2⟩ hD .none (.int _ _) (fun D2 s hD2 S => ?_) ?_
    · obtain ⟨us0, hus, hus2⟩ := butLast_strs hll
      rw [hus] at S
      obtain ⟨g5, hle5, ⟨oD, hoD, hPD, _⟩, S5⟩ := S.1.freeze
      have S : SS s0 g5 _ s := ⟨S5, S.2⟩
      have hlD : ∀ {s : Shared} {p : List PO} {g'' : Heap}, Le g5 g'' → SS s0 g'' p s → s.heap.IsList D2 us0.toArray := fun hle S => (LstP.plain ⟨oD, S.1.keep _ _ (hle _ _ hoD), hPD⟩).isList
      have hul : us0.length = ns.length := by rw [hus2.length]; simp
      refine iterList S (hlD (Le.refl _) S) (fun I2 s hI2 S => ?_)
      refine ⟨I2, g5, _, us0.length, _, _, _, fun k g' p us => p = (222, TabP) :: (P, PilP dx vs3) :: (dx, IniP) :: (I, RngQ (0 + ((j + 1 : Nat) : Int)) (((6 : Nat) : Int) - ((j + 1 : Nat) : Int)) 1) :: (G, LstP gs3) :: (L, NsL (("sent", .str ⟨(ns.flatMap rowL).toArray⟩ ts) :: ("hour", .int hour th) :: ("step", .int j t2) :: l)) :: pts ∧
        Paired (RowIs g') us (((ns.take k).map fun m => ((m, none) : Row)).map rowX), rfl, src_list hA₁.hh I2 D2 us0, by rw [sizeLine_eq]; omega, S, ⟨rfl, .nil⟩, fun k g' p us h => ?_, fun k g' p us h hJ hle S => ?_, fun C D5 => ?_, ?_⟩
      · rw [h.2.length]; simp; omega
      · exact (LstP.plain ⟨oD, S.keep _ _ (hle _ _ hoD), hPD⟩).isList
      · rintro k g' _ us l v s hk ⟨rfl, hu⟩ hv hle S
        obtain ⟨m, t7, hm, rfl⟩ := strs_get hus2 hv
        refine wpAny_assign_Name (stL S (by walk_at "at") (fun s S => ?_) rfl rfl)
        refine wpAny_tests_nil ?_
        rw [if_pos rfl]
        have hml : (lineS m).length ≤ 9 := by
          have := hnm m (List.mem_of_getElem? hm)
          show (lineL m).toArray.size ≤ 9
          simp [lineL]; omega
        refine Tuple_ (args_cons (wpAny_Constant_str (args_cons (wpAny_BinOp (nmL S (by walk_at "mem") rfl (wpAny_Constant_str (add_str (fun t8 k8 => args_nil ?_) (by rw [crlf_len, sizeLine_eq]; omega))) rfl rfl)))))
        refine newT (pts := (C, NsL (("row", _) :: l)) :: (D5, LstP us) :: (I2, LitP D2 (k + 1)) :: (222, TabP) :: (P, PilP dx vs3) :: (dx, IniP) :: (I, RngQ (0 + ((j + 1 : Nat) : Int)) (((6 : Nat) : Int) - ((j + 1 : Nat) : Int)) 1) :: (G, LstP gs3) :: (L, NsL (("sent", .str ⟨(ns.flatMap rowL).toArray⟩ ts) :: ("hour", .int hour th) :: ("step", .int j t2) :: _)) :: pts) ⟨S.1, S.2⟩ (fun T8 s hT8 S => ?_)
        obtain ⟨g8, hle8, ⟨o8, ho8, hP8, _⟩, S8⟩ := S.1.freeze
        refine ⟨g8, _, _, hle8, ⟨S8, S.2⟩, rfl, ?_⟩
        rw [List.take_add_one, hm]
        simp only [Option.toList_some]
        rw [List.map_append]
        exact paired_map_snoc (x := (m, none)) (paired_mono (fun _ _ x => x.le hle8) hu) ⟨T8, _, _, rfl, o8, ho8, hP8⟩
      · rintro D5 g6 _ us s hD5 ⟨rfl, hu⟩ hle6 S
        have w6 := (w4.le hle5).le hle6
        have htk : ns.take us0.length = ns := List.take_of_length_le (by omega)
        rw [htk] at hu
        refine args_nil ⟨w6.kf.keeps S.1.keep, ?_⟩
        have S : SS s0 g6 ((P, PilP dx vs3) :: (dx, IniP) :: (D5, LstP us) :: (222, TabP) :: (I, RngQ (0 + ((j + 1 : Nat) : Int)) (((6 : Nat) : Int) - ((j + 1 : Nat) : Int)) 1) :: (G, LstP gs3) :: (L, NsL (("sent", .str ⟨(ns.flatMap rowL).toArray⟩ ts) :: ("hour", .int hour th) :: ("step", .int j t2) :: l)) :: pts) s := SS.perm S (by walk_at "perm")
        refine reset_c (hA₁.le (by decide)) S w6 (by omega) (by rw [hu.length]; simp; omega) (fun s S => ?_)
        have hlef := hle2.trans (hle3.trans (hle4.trans (hle5.trans hle6)))
        refine wpAny_execs_nil ⟨g6, (P, PilP dx us) :: (dx, IniP) :: (222, TabP) :: (G, LstP gs3) :: (L, NsL (("sent", .str ⟨(ns.flatMap rowL).toArray⟩ ts) :: ("hour", .int hour th) :: ("step", .int j t2) :: l)) :: pts, hlef, ?_, _, us, gs3, u1, rfl, q1, q2, q3, q4, q5, ?_, paired_mono (fun _ _ x => x.le (hle4.trans (hle5.trans hle6))) q7, by omega⟩
        · have S : SS s0 g6 ((D5, LstP us) :: (I, RngQ (0 + ((j + 1 : Nat) : Int)) (((6 : Nat) : Int) - ((j + 1 : Nat) : Int)) 1) :: (P, PilP dx us) :: (dx, IniP) :: (222, TabP) :: (G, LstP gs3) :: (L, NsL (("sent", .str ⟨(ns.flatMap rowL).toArray⟩ ts) :: ("hour", .int hour th) :: ("step", .int j t2) :: l)) :: pts) s := SS.perm S (by walk_at "perm")
          exact ⟨S.1.drop, S.2⟩
        · rw [hsM]; exact hu
    · have := congrArg List.length hll
      simp [strValues] at this ⊢
      omega
  · rintro g' _ s ⟨l, vs, gs, u1, rfl, q1, q2, q3, q4, q5, q6, q7, q8⟩ hle S
    refine wpAny_execs_cons (wpAny_Return_some (nmL S (by walk_at "mem") (by walk_at "lk") ?_))
    have S : SS s0 g' ((G, LstP gs) :: (222, TabP) :: pts) s := ⟨(S.1.perm (pts' := (P, PilP dx vs) :: (dx, IniP) :: (L, NsL l) :: (G, LstP gs) :: (222, TabP) :: pts) (by walk_at "perm")).drop.drop.drop, S.2⟩
    obtain ⟨g'', hle', ⟨o, a, b, _⟩, S₁₁⟩ := S.1.freeze
    exact hQ g'' _ _ (hle.trans hle') ⟨S₁₁, S.2⟩ ⟨_, _, rfl, LstP.plain ⟨o, a, b⟩, paired_mono (fun _ _ x => x.le hle') q7⟩
end
end Mine
end
section
open PySem PySem.W PySem.Spec PySem.Calls PyProof.Rows
set_option Elab.async false
set_option maxRecDepth 100000
set_option maxHeartbeats 4000000
set_option linter.unusedVariables false
namespace Mine
noncomputable def CelAny (o : Obj) : Prop := ∃ v, CelP v o
theorem St.weaken {g h : Heap} {pts pts' : List PO} {a : Addr} {P P' : Obj → Prop} (S : St g pts h) (A : At pts a P P' pts') (w : ∀ o, P o → P' o) : St g pts' h :=
  S.upd A (fun b o _ e => e) (let ⟨o, ho, hP⟩ := S.at A; ⟨o, ho, w o hP⟩)
section
variable {prog : Program} {w : World} {A : Around} {E : Value → Shared → Prop} {s0 s : Shared} {env : Env} {g h h' : Heap} {pts pts' : List PO} {I : Addr}
/-- a comprehension's own frame, with one cell -/
theorem newEnvCell {scope : Scope} {a b : Str × NameKind} {x : Str} {globals : Addr} {closure : List (Str × Addr)} {qual : Str} {around : Env} {Q : Env → Shared → Prop} (hn : scope.names = [a, (x, .cell), b]) (ha : (a.2 == .cell) = false) (hb : (b.2 == .cell) = false)
    (hQ : Q { scope, locals := s.heap.objs.size, globals, cells := (x, s.heap.objs.size + 1) :: closure, qual, func := none, code := around.code, frame := around.frame, builtins := around.builtins }
      { s with heap := (s.heap.push { cls := .type "dict", data := .dict #[] }).push { cls := .type "cell", data := .cell none } }) :
    wpAny (model prog w) A (newFunctionEnv scope globals closure [] qual none .none (some around)) Q E s := by
  obtain ⟨an, ak⟩ := a
  obtain ⟨bn, bk⟩ := b
  dsimp only at ha hb
  simp only [newFunctionEnv, Option.isSome_some, if_true]
  refine wpAny_bind (wpAny_alloc ?_)
  rw [hn]
  simp only [List.forIn_cons, List.forIn_nil, ha, hb, Bool.false_eq_true, if_false, show (NameKind.cell == NameKind.cell) = true from rfl, if_true]
  refine wpAny_bind ?_
  refine wpAny_bind (wpAny_pure ?_)
  refine wpAny_bind ?_
  refine wpAny_bind (wpAny_alloc (wpAny_pure ?_))
  refine wpAny_bind (wpAny_pure (wpAny_pure ?_))
  rw [Heap.size_push]
  exact wpAny_bind (wpAny_pure (wpAny_pure hQ))
/-- the run of a comprehension, whatever is done with its list -/
theorem compRun {target elt iter : Expr} {ifs : List Expr} {scope : Scope} {pos : Pos} {cenv : Env} {J : Nat → Heap → List PO → List Value → Prop} {mid : List PO → List PO} {D I : Addr} {X : Nat → Obj → Prop} {item : Nat → Value → Prop}
    {ok : Heap → Prop} {n : Nat} {s : Shared} {use : Option (Value → Sem Unit)} {Q : Value → Shared → Prop} (hsz : n ≤ sizeLine)
    (C : Src prog w A I n X item ok) (S : SS s0 g ((cenv.locals, NsL []) :: (D, LstP []) :: (I, X 0) :: mid pts) s) (hJ : J 0 g pts []) (hl : ∀ i g' pts' vs, J i g' pts' vs → vs.length ≤ i)
    (hok : ∀ i g' pts' vs h, J i g' pts' vs → Le g g' → St g' ((I, X i) :: mid pts') h → ok h) (turn : Turn prog w A target elt ifs cenv J mid D I X item n g s0)
    (fin : ∀ g' pts' vs l' s₃, J n g' pts' vs → Le g g' → SS s0 g' ((cenv.locals, NsL l') :: (D, LstP vs) :: mid pts') s₃ → compPost (model prog w) A E use Q (.ref D) cenv.locals (.ok .next) s₃) :
    codeAny (model prog w) A (.compStart (.ListComp elt [⟨target, iter, ifs, 0⟩] scope pos) 0 (.ref I) (.ref D) cenv) (compPost (model prog w) A E use Q (.ref D) cenv.locals) s := by
  have loop := compLoop (iter := iter) (scope := scope) (pos := pos) (R := compPost (model prog w) A E use Q (.ref D) cenv.locals) hsz C S hJ hl hok turn (fun g' pts' vs l' s₄ hJ' hle S₄ => fin g' pts' vs l' s₄ hJ' hle S₄)
  exact codeAny_compStart_list loop (C.self 0 _ _ _ (S.1.own _ (.tail _ (.tail _ (.head _)))).1 loop)
/-- the comprehension whose list is bound to a local name at once -/
theorem compA {target elt iter : Expr} {ifs : List Expr} {scope : Scope} {pos spos py : Pos} {y : Str} {cl : List (Str × Addr)} {Q : Flow → Shared → Prop}
    (hclos : closureFor scope env = pure cl) (hcell : ∀ y ∈ scope.names, y.2 ≠ .cell) (hkind : scope.kind = .function) (hnames : ∀ y ∈ scope.names, y.2 = .local → scope.names.lookup y.1 = some .local)
    (hy : env.kindOf y = some .local) (hek : env.scope.kind = .function)
    (h : wpAny (model prog w) A (eval iter env) (fun xv s₁ => wpAny (model prog w) A (pyIter xv) (fun it s₂ =>
      ∃ (I : Addr) (g : Heap) (pts : List PO) (n : Nat) (X : Nat → Obj → Prop) (item : Nat → Value → Prop) (ok : Heap → Prop) (J : Nat → Heap → List PO → List Value → Prop),
        it = .ref I ∧ Src prog w A I n X item ok ∧ n ≤ sizeLine ∧ SS s0 g ((I, X 0) :: pts) s₂ ∧ J 0 g pts [] ∧ (∀ i g' pts' vs, J i g' pts' vs → vs.length ≤ i) ∧
        (∀ i g' pts' vs h, J i g' pts' vs → Le g g' → St g' ((I, X i) :: pts') h → ok h) ∧
        (∀ C D, Turn prog w A target elt ifs (cenvOf scope cl C env) J id D I X item n g s0) ∧
        (∀ D g' pts' vs, s₂.heap.get? D = none → J n g' pts' vs → Le g g' → ∃ l pts'', At pts' env.locals (NsL l) (NsL ((y, .ref D) :: l)) pts'' ∧ ∀ s₃, SS s0 g' ((D, LstP vs) :: pts'') s₃ → Q .next s₃)) E s₁) E s)
    (hsw : swapsWith (.ListComp elt [⟨target, iter, ifs, 0⟩] scope pos) (some (.Name y py)) spos.line env = pure true := by rfl)
    (hs : ∀ x, foldedSetIterable iter env x = pure x := by intro _; rfl) :
    wpAny (model prog w) A (exec (.Assign [.Name y py] (.ListComp elt [⟨target, iter, ifs, 0⟩] scope pos) spos) env) Q E s := by
  rw [exec_Assign_Name_used _ _ _ _ hsw]
  refine wpAny_bind (wpAny_standAt (wpAny_bind ?_))
  show wpAny _ A (do let _ ← comprehension (.ListComp elt [⟨target, iter, ifs, 0⟩] scope pos) scope env _ (newList []) false (eval iter env) (some (assign (.Name y py) env))) _ _ s
  refine wpAny_bind (wpAny_mono (wpAny_comprehension_free (use := some (assign (.Name y py) env)) (Q := fun _ s' => Q .next s') rfl hs hclos hkind hnames
    (wpAny_mono h (fun xv s₁ h₁ => wpAny_mono h₁ (fun it s₂ h₂ => ?_) fun _ _ e => e) fun _ _ e => e)) (fun _ s' hq => wpAny_pure (wpAny_pure hq)) fun _ _ e => e)
  obtain ⟨I, g, pts, n, X, item, ok, J, rfl, C, hsz, S, hJ, hl, hok, turn, fin⟩ := h₂
  refine wpAny_newObj_type (wpAny_newFunctionEnv hcell (by intro y hy; simp at hy) (fun h₁ hns₁ hsb₁ => ?_) hkind)
  dsimp only at hns₁ hsb₁ ⊢
  generalize hH2 : s₂.heap.push { cls := .type "list", dict := none, data := .seq ([] : List Value).toArray } = H2 at hns₁ hsb₁ ⊢
  have S1 : St g ((s₂.heap.objs.size, LstP []) :: (I, X 0) :: pts) H2 := S.1.new (hH2 ▸ le_push _ _) (size_none _ (Nat.le_refl _)) ⟨_, hH2 ▸ Heap.get?_push_size _ rfl, 0, rfl⟩
  have k2 : Le H2 h₁ := fun b o e => hsb₁.extBut b o (Nat.ne_of_lt (Heap.lt_size e)) (Heap.get?_push_of_some _ e)
  have S2 : St g ((H2.objs.size, NsL []) :: (s₂.heap.objs.size, LstP []) :: (I, X 0) :: pts) h₁ := S1.new k2 (size_none _ (Nat.le_refl _)) (NsL.of hns₁ fun _ => rfl)
  refine compRun (cenv := cenvOf scope cl H2.objs.size env) (mid := id) hsz C ⟨S2, S.2.trans ⟨rfl, id⟩⟩ hJ hl hok (turn _ _) (fun g' pts' vs l' s₄ hJ' hle S₄ => ?_)
  obtain ⟨l, pts'', hat, hq⟩ := fin s₂.heap.objs.size g' pts' vs (size_none _ (Nat.le_refl _)) hJ' hle
  show wpAny _ A (assign (.Name y py) env (.ref s₂.heap.objs.size)) _ _ s₄
  refine wpAny_assign_Name (stL S₄ (.there (.there hat)) (fun s₅ S₅ => ?_) hek hy)
  exact ⟨_, NsL.ns (S₅.1.own _ (.head _)).1, fun h'' hsb => hq _ ⟨S₅.1.lose fun b o hb e => hsb.extBut b o hb e, S₅.2.trans Sh.mk1⟩⟩
/-- with one cell of its own -/
noncomputable abbrev midC (c : Addr) (pts : List PO) : List PO := (c, CelAny) :: pts
theorem compC0 {target elt iter : Expr} {ifs : List Expr} {scope : Scope} {pos : Pos} {cl : List (Str × Addr)} {a b : Str × NameKind} {x : Str} {use : Option (Value → Sem Unit)} {Q : Value → Shared → Prop}
    (hn : scope.names = [a, (x, .cell), b]) (ha : (a.2 == .cell) = false) (hb : (b.2 == .cell) = false) (hkind : scope.kind = .function)
    {I : Addr} {n : Nat} {X : Nat → Obj → Prop} {item : Nat → Value → Prop} {ok : Heap → Prop} {J : Nat → Heap → List PO → List Value → Prop} {s₂ : Shared}
    (C : Src prog w A I n X item ok) (hsz : n ≤ sizeLine) (S : SS s0 g ((I, X 0) :: pts) s₂) (hJ : J 0 g pts []) (hl : ∀ i g' pts' vs, J i g' pts' vs → vs.length ≤ i)
    (hok : ∀ c i g' pts' vs h, J i g' pts' vs → Le g g' → St g' ((I, X i) :: midC c pts') h → ok h)
    (turn : ∀ C c D, Turn prog w A target elt ifs (cenvOf scope ((x, c) :: cl) C env) J (midC c) D I X item n g s0)
    (fin : ∀ C c D g' pts' vs l' s₃, s₂.heap.get? D = none → J n g' pts' vs → Le g g' → SS s0 g' ((C, NsL l') :: (D, LstP vs) :: midC c pts') s₃ → compPost (model prog w) A E use Q (.ref D) C (.ok .next) s₃) :
    wpAny (model prog w) A (newList []) (fun acc s₃ => wpAny (model prog w) A (newFunctionEnv scope env.globals cl [] env.qual none .none (some env)) (fun cenv s₄ =>
        codeAny (model prog w) A (.compStart (.ListComp elt [⟨target, iter, ifs, 0⟩] scope pos) 0 (.ref I) acc { cenv with scope := relabel scope env }) (compPost (model prog w) A E use Q acc cenv.locals) s₄) E s₃) E s₂ := by
  refine newL S (fun D s hD S => ?_) (by simp)
  refine newEnvCell hn ha hb ?_
  have S1 : St g ((s.heap.objs.size, NsL []) :: (D, LstP []) :: (I, X 0) :: pts) (s.heap.push { cls := .type "dict", data := .dict #[] }) := S.1.new (le_push _ _) (size_none _ (Nat.le_refl _)) (NsL.of (Heap.Ns.new s.heap (.type "dict")) fun _ => rfl)
  have S2 : St g ((s.heap.objs.size + 1, CelAny) :: (s.heap.objs.size, NsL []) :: (D, LstP []) :: (I, X 0) :: pts) ((s.heap.push { cls := .type "dict", data := .dict #[] }).push { cls := .type "cell", data := .cell none }) := by
    have e : s.heap.objs.size + 1 = (s.heap.push { cls := .type "dict", data := .dict #[] }).objs.size := by rw [Heap.size_push]
    rw [e]
    exact S1.new (le_push _ _) (size_none _ (Nat.le_refl _)) ⟨_, Heap.get?_push_size _ rfl, none, rfl⟩
  have S3 := S2.perm (pts' := (s.heap.objs.size, NsL []) :: (D, LstP []) :: (I, X 0) :: midC (s.heap.objs.size + 1) pts) (by
    refine .trans (.swap ..) (.cons _ (.trans (.swap ..) (.cons _ (.swap ..))))) 
  exact compRun (cenv := cenvOf scope ((x, s.heap.objs.size + 1) :: cl) s.heap.objs.size env) (mid := midC (s.heap.objs.size + 1)) hsz C ⟨S3, S.2.trans ⟨rfl, id⟩⟩ hJ hl (hok _) (turn _ _ _) (fun g' pts' vs l' s₄ hJ' hle S₄ => fin _ _ _ g' pts' vs l' s₄ hD hJ' hle S₄)
theorem compC {target elt iter : Expr} {ifs : List Expr} {scope : Scope} {pos : Pos} {cl : List (Str × Addr)} {a b : Str × NameKind} {x : Str} {Q : Value → Shared → Prop}
    (hclos : closureFor scope env = pure cl) (hn : scope.names = [a, (x, .cell), b]) (ha : (a.2 == .cell) = false) (hb : (b.2 == .cell) = false) (hkind : scope.kind = .function) (hnames : ∀ y ∈ scope.names, y.2 = .local → scope.names.lookup y.1 = some .local)
    (h : wpAny (model prog w) A (eval iter env) (fun xv s₁ => wpAny (model prog w) A (pyIter xv) (fun it s₂ =>
      ∃ (I : Addr) (g : Heap) (pts : List PO) (n : Nat) (X : Nat → Obj → Prop) (item : Nat → Value → Prop) (ok : Heap → Prop) (J : Nat → Heap → List PO → List Value → Prop),
        it = .ref I ∧ Src prog w A I n X item ok ∧ n ≤ sizeLine ∧ SS s0 g ((I, X 0) :: pts) s₂ ∧ J 0 g pts [] ∧ (∀ i g' pts' vs, J i g' pts' vs → vs.length ≤ i) ∧
        (∀ c i g' pts' vs h, J i g' pts' vs → Le g g' → St g' ((I, X i) :: midC c pts') h → ok h) ∧
        (∀ C c D, Turn prog w A target elt ifs (cenvOf scope ((x, c) :: cl) C env) J (midC c) D I X item n g s0) ∧
        (∀ D g' pts' vs s₃, s₂.heap.get? D = none → J n g' pts' vs → Le g g' → SS s0 g' ((D, LstP vs) :: pts') s₃ → Q (.ref D) s₃)) E s₁) E s)
    (hs : ∀ x, foldedSetIterable iter env x = pure x := by intro _; rfl) :
    wpAny (model prog w) A (eval (.ListComp elt [⟨target, iter, ifs, 0⟩] scope pos) env) Q E s := by
  rw [eval_ListComp]
  refine wpAny_comprehension_free (use := none) rfl hs hclos hkind hnames (wpAny_mono h (fun xv s₁ h₁ => wpAny_mono h₁ (fun it s₂ h₂ => ?_) fun _ _ e => e) fun _ _ e => e)
  obtain ⟨I, g, pts, n, X, item, ok, J, rfl, C, hsz, S, hJ, hl, hok, turn, fin⟩ := h₂
  refine compC0 hn ha hb hkind C hsz S hJ hl hok turn (fun C c D g' pts' vs l' s₄ hD hJ' hle S₄ => ?_)
  refine ⟨_, NsL.ns (S₄.1.own _ (.head _)).1, fun h' hsb => ?_⟩
  have S5 : St g' ((D, LstP vs) :: midC c pts') h' := S₄.1.lose fun b o hb e => hsb.extBut b o hb e
  exact fin D g' pts' vs _ hD hJ' hle ⟨S5.swap.drop, S₄.2.trans Sh.mk1⟩
theorem compCA {target elt iter : Expr} {ifs : List Expr} {scope : Scope} {pos spos py : Pos} {y : Str} {cl : List (Str × Addr)} {a b : Str × NameKind} {x : Str} {Q : Flow → Shared → Prop}
    (hclos : closureFor scope env = pure cl) (hn : scope.names = [a, (x, .cell), b]) (ha : (a.2 == .cell) = false) (hb : (b.2 == .cell) = false) (hkind : scope.kind = .function) (hnames : ∀ y ∈ scope.names, y.2 = .local → scope.names.lookup y.1 = some .local)
    (hy : env.kindOf y = some .local) (hek : env.scope.kind = .function)
    (h : wpAny (model prog w) A (eval iter env) (fun xv s₁ => wpAny (model prog w) A (pyIter xv) (fun it s₂ =>
      ∃ (I : Addr) (g : Heap) (pts : List PO) (n : Nat) (X : Nat → Obj → Prop) (item : Nat → Value → Prop) (ok : Heap → Prop) (J : Nat → Heap → List PO → List Value → Prop),
        it = .ref I ∧ Src prog w A I n X item ok ∧ n ≤ sizeLine ∧ SS s0 g ((I, X 0) :: pts) s₂ ∧ J 0 g pts [] ∧ (∀ i g' pts' vs, J i g' pts' vs → vs.length ≤ i) ∧
        (∀ c i g' pts' vs h, J i g' pts' vs → Le g g' → St g' ((I, X i) :: midC c pts') h → ok h) ∧
        (∀ C c D, Turn prog w A target elt ifs (cenvOf scope ((x, c) :: cl) C env) J (midC c) D I X item n g s0) ∧
        (∀ D g' pts' vs, s₂.heap.get? D = none → J n g' pts' vs → Le g g' → ∃ l pts'', At pts' env.locals (NsL l) (NsL ((y, .ref D) :: l)) pts'' ∧ ∀ s₃, SS s0 g' ((D, LstP vs) :: pts'') s₃ → Q .next s₃)) E s₁) E s)
    (hsw : swapsWith (.ListComp elt [⟨target, iter, ifs, 0⟩] scope pos) (some (.Name y py)) spos.line env = pure true := by rfl)
    (hs : ∀ x, foldedSetIterable iter env x = pure x := by intro _; rfl) :
    wpAny (model prog w) A (exec (.Assign [.Name y py] (.ListComp elt [⟨target, iter, ifs, 0⟩] scope pos) spos) env) Q E s := by
  rw [exec_Assign_Name_used _ _ _ _ hsw]
  refine wpAny_bind (wpAny_standAt (wpAny_bind ?_))
  show wpAny _ A (do let _ ← comprehension (.ListComp elt [⟨target, iter, ifs, 0⟩] scope pos) scope env _ (newList []) false (eval iter env) (some (assign (.Name y py) env))) _ _ s
  refine wpAny_bind (wpAny_mono (wpAny_comprehension_free (use := some (assign (.Name y py) env)) (Q := fun _ s' => Q .next s') rfl hs hclos hkind hnames
    (wpAny_mono h (fun xv s₁ h₁ => wpAny_mono h₁ (fun it s₂ h₂ => ?_) fun _ _ e => e) fun _ _ e => e)) (fun _ s' hq => wpAny_pure (wpAny_pure hq)) fun _ _ e => e)
  obtain ⟨I, g, pts, n, X, item, ok, J, rfl, C, hsz, S, hJ, hl, hok, turn, fin⟩ := h₂
  refine compC0 hn ha hb hkind C hsz S hJ hl hok turn (fun C c D g' pts' vs l' s₄ hD hJ' hle S₄ => ?_)
  obtain ⟨l, pts'', hat, hq⟩ := fin D g' pts' vs hD hJ' hle
  show wpAny _ A (assign (.Name y py) env (.ref D)) _ _ s₄
  refine wpAny_assign_Name (stL S₄ (.there (.there (.there hat))) (fun s₅ S₅ => ?_) hek hy)
  refine ⟨_, NsL.ns (S₅.1.own _ (.head _)).1, fun h'' hsb => hq _ ⟨?_, S₅.2.trans Sh.mk1⟩⟩
  have S5 : St g' ((D, LstP vs) :: midC c pts'') h'' := S₅.1.lose fun b o hb e => hsb.extBut b o hb e
  exact S5.swap.drop
end
end Mine
end
section
open PySem PySem.W PySem.Spec PySem.Calls PyProof.Rows
set_option Elab.async false
set_option maxRecDepth 100000
set_option maxHeartbeats 4000000
set_option linter.unusedVariables false
namespace Mine
/-! what the law computes -/
noncomputable def maxI : List Int → Int
  | [] => 0
  | a :: r => r.foldl max a
theorem foldl_max_mem : ∀ (r : List Int) (a : Int), r.foldl max a ∈ a :: r
  | [], a => .head _
  | b :: r, a => by
    have := foldl_max_mem r (max a b)
    simp only [List.foldl_cons]
    rcases List.mem_cons.mp this with e | h
    · rw [e]
      rcases (show max a b = a ∨ max a b = b by omega) with e' | e' <;> rw [e']
      · exact .head _
      · exact .tail _ (.head _)
    · exact .tail _ (.tail _ h)
theorem foldl_max_le : ∀ (r : List Int) (a : Int), a ≤ r.foldl max a ∧ ∀ x ∈ r, x ≤ r.foldl max a
  | [], a => ⟨Int.le_refl _, fun x h => by cases h⟩
  | b :: r, a => by
    obtain ⟨h1, h2⟩ := foldl_max_le r (max a b)
    simp only [List.foldl_cons]
    refine ⟨by omega, fun x hx => ?_⟩
    rcases List.mem_cons.mp hx with rfl | hx
    · omega
    · exact h2 x hx
theorem maxI_is {l : List Int} {M : Int} (h1 : M ∈ l) (h2 : ∀ a, a ∈ l → a ≤ M) : M = maxI l := by
  cases l with
  | nil => cases h1
  | cons a r =>
    have k1 := h2 _ (foldl_max_mem r a)
    obtain ⟨k2, k3⟩ := foldl_max_le r a
    have k4 : M ≤ r.foldl max a := by
      rcases List.mem_cons.mp h1 with rfl | h
      · exact k2
      · exact k3 _ h
    exact Int.le_antisymm k4 k1
noncomputable def drawnF (ns : List Int) : List Int := (ns.take 6).map fun n => Int.fmod n 1000000
noncomputable def cellsF (ns : List Int) : List Int := drawnF ns ++ ([19, 46, 5, 4, 0, 5] : List Int).drop (drawnF ns).length
noncomputable def sixI : List Int := [0, 1, 2, 3, 4, 5]
noncomputable def bitsF (c : Int) : List Int := sixI.filter fun h => Int.fmod (Int.fdiv c (2 ^ h.toNat)) 2 != 0
noncomputable def line0 (ns : List Int) : List Int × List Int :=
  if (bitsF ((cellsF ns).getD 1 0)).length < (bitsF ((cellsF ns).getD 0 0)).length then (bitsF ((cellsF ns).getD 1 0), bitsF ((cellsF ns).getD 0 0)) else (bitsF ((cellsF ns).getD 0 0), bitsF ((cellsF ns).getD 1 0))
noncomputable def hourAt (ns : List Int) (b : Nat) : Int := Int.fmod ((cellsF ns).getD (b + 1) 0) 6
noncomputable def lineAt (ns : List Int) : Nat → List Int × List Int
  | 0 => line0 ns
  | b + 1 => (rungF (lineAt ns b).1 (placeF (lineAt ns b).2 (hourAt ns (b + 1))), rungF (lineAt ns b).2 (hourAt ns (b + 1)))
noncomputable def sumsL (e l : List Int) : List (List Int) := sixI.map fun h => sumS e l h 6
noncomputable def behind (ss : List (List Int)) (h : Int) : List Int := if h = 0 then ss.getD 5 [] else ss.getD (h - 1).toNat []
noncomputable def startL (e l : List Int) : List Int := sixI.filter fun h => decide (maxI (behind (sumsL e l) h) ≤ 0)
noncomputable def startF (e l : List Int) : Int := (startL e l).headD 0
noncomputable def goneF (e l : List Int) : List (Str × Str) := runF e l (startF e l) 6
noncomputable def firstF (x : Str) : Str := Txt.slice x none (some 1)
noncomputable def townF (rows : List (Str × Str)) : List (Str × Str) := rows.foldl (fun rs r => sdF rs r.1 (firstF r.2)) []
noncomputable def townAt (ns : List Int) : Nat → List (Str × Str)
  | 0 => townF (goneF (lineAt ns 0).1 (lineAt ns 0).2)
  | b + 1 => trF (townAt ns b) (hourAt ns (b + 1)) ((b + 1 : Nat) : Int)
noncomputable def kindF (rows : List (Str × Str)) (nm : Str) : List Str := (rows.filter fun r => r.1 == nm).map fun r => firstF r.2
noncomputable def waitsF (rows : List (Str × Str)) : List Int := (rows.filter fun r => (r.2.length : Int) != 0).map fun r => (Txt.count r.2 dotS : Int) - 1
noncomputable def mostF (ss : List (List Int)) : List Int := ss.map fun b => max 0 (maxI b)
noncomputable abbrev mixS : Str := Str.ofString "aBcDeF"
/-- what the law asks of the two lines and the table, at a bell -/
structure Asked (e l : List Int) (rs : List (Str × Str)) : Prop where
  start : ∃ st r, startL e l = st :: r ∧ 0 ≤ st ∧ st < 6
  told : goneF e l = toldF (sumsL e l) l (startF e l) 6
  waits : (waitsF (goneF e l)).sum = (mostF (sumsL e l)).sum
  kinds : ∀ i, i < 6 → getAllF rs ⟨#[mixS.cps.getD i 0]⟩ = kindF (goneF e l) ⟨#[abc.cps.getD i 0]⟩
structure Fit (e l : List Int) (rs : List (Str × Str)) : Prop where
  le : e.length ≤ 100
  ll : l.length ≤ 100
  rows : RowsOk rs
  few : rs.length < 90
  clean : RowsV rs
section
variable {prog : Program} {w : World} {A : Around} {E : Value → Shared → Prop} {s0 s : Shared} {g : Heap} {pts pts' : List PO} {env : Env}
theorem maxL {l : Addr} {vs : List Value} {ns : List Int} {Q : Value → Shared → Prop} (hh : A.handled = none) (S : SS s0 g pts s) (hl : s.heap.IsList l vs.toArray) (hi : IntsAre vs ns) (hne : ns ≠ [])
    (h : ∀ t s', SS s0 g pts s' → Q (.int (maxI ns) t) s') : wpAny (model prog w) A (call (.builtin "max") [.ref l]) Q E s := by
  obtain ⟨xs, hx⟩ := hi.allInts.items
  have hxs : xs.toList.map (·.1) = ns := by rw [← nums_intItems, ← hx]; exact hi.numsOf
  have hlen : xs.size = ns.length := by rw [← hxs]; simp
  have hpos : 0 < xs.size := by rw [hlen]; exact List.length_pos_iff.mpr hne
  obtain ⟨b1, b2⟩ := argBest_gt (numAt xs) (xs.size - 1)
  refine max_intList hh (hx ▸ hl) hpos (fun v h' tk hv hk => ?_)
  obtain ⟨t, rfl⟩ := intItems_at hv
  have e : numAt xs (argBest (fun i j => decide (numAt xs i > numAt xs j)) (xs.size - 1)) = maxI ns := by
    refine maxI_is ?_ fun a ha => ?_
    · rw [numAt_eq, hxs]; exact PySem.getD_mem (by omega)
    · obtain ⟨j, hj, rfl⟩ := mem_getD ha
      have := b2 j (by omega)
      rw [numAt_eq, hxs] at this
      exact this
  rw [e]
  exact h t _ ⟨S.1.grow hk, S.2.trans Sh.mk'⟩
theorem sumLI {l : Addr} {vs : List Value} {ns : List Int} {Q : Value → Shared → Prop} (hh : A.handled = none) (S : SS s0 g pts s) (hl : s.heap.IsList l vs.toArray) (hi : IntsAre vs ns)
    (h : ∀ t s', SS s0 g pts s' → Q (.int ns.sum t) s') : wpAny (model prog w) A (call (.builtin "sum") [.ref l]) Q E s := by
  obtain ⟨xs, hx⟩ := hi.allInts.items
  have hxs : xs.toList.map (·.1) = ns := by rw [← nums_intItems, ← hx]; exact hi.numsOf
  refine sum_intListG hh (hx ▸ hl) (fun h' tk t hk => ?_)
  rw [preSum_eq, hxs, List.take_of_length_le (by rw [← hxs]; simp)]
  exact h t _ ⟨S.1.grow hk, S.2.trans Sh.mk'⟩
theorem maxTwo {a b : Int} {t u : Tok} {Q : Value → Shared → Prop} (hh : A.handled = none) (S : SS s0 g pts s) (h : ∀ t s', SS s0 g pts s' → Q (.int (max a b) t) s') :
    wpAny (model prog w) A (call (.builtin "max") [.int a t, .int b u]) Q E s := by
  refine max_two_ints hh (fun h' tk hk => ?_)
  by_cases c : b > a
  · rw [if_pos c]
    have := h u { s with heap := h', toks := tk } ⟨S.1.grow hk, S.2.trans Sh.mk'⟩
    rwa [show max a b = b by omega] at this
  · rw [if_neg c]
    have := h t { s with heap := h', toks := tk } ⟨S.1.grow hk, S.2.trans Sh.mk'⟩
    rwa [show max a b = a by omega] at this
/-- a tuple of targets takes a list -/
theorem assignL {elts : List Expr} {k : Nat} {pos : Pos} {l : Addr} {vs : List Value} {Q : Unit → Shared → Prop} (hh : A.handled = none) (S : SS s0 g pts s) (hl : s.heap.IsList l vs.toArray)
    (hn : (assignEach elts env).length = vs.length) (hstar : (assignEach elts env).findIdx? (·.1) = none)
    (h : ∀ s', SS s0 g pts s' → wpAny (model prog w) A (assignInOrder ((assignEach elts env).map (·.2)) vs) Q E s') : wpAny (model prog w) A (assign (.Tuple elts k pos) env (.ref l)) Q E s := by
  rw [PyProof.Rows.assign_Tuple]
  refine wpAny_bind (wpAny_standAt ?_)
  unfold unpack
  rw [hstar, hn]
  refine wpAny_bind (wpAny_holding ?_)
  have := kun_itemsOf (prog := prog) (w := w) (E := E) (Q := fun items s' => wpAny (model prog w) A (assignInOrder ((assignEach elts env).map (·.2)) items) Q E s') hh hl (fun h' hx => h _ ⟨S.1.grow fun b o e => hx b o (Nat.ne_of_lt (Heap.lt_size e)) e, S.2.trans Sh.mk1⟩)
  simpa using this
end
end Mine
end
section
open PySem PySem.W PySem.Spec PySem.Calls PyProof.Rows
set_option Elab.async false
set_option maxRecDepth 100000
set_option maxHeartbeats 4000000
set_option linter.unusedVariables false
namespace Mine
section
variable {prog : Program} {w : World} {A : Around} {E : Value → Shared → Prop} {s0 s : Shared} {g : Heap} {pts : List PO} {K : Frag}
/-- a call of a def with cells, as a code -/
theorem callVCc {n : Nat} {f : Addr} {args : List Value} {binds : List (Str × Value)} {fd : FuncData} {body : List Stmt} {c : Value} {d : Option Addr} {sl : Array (Option Value)} {R : Result → Shared → Prop}
    (hA : Rm (n + 1) A) (S : SS s0 g pts s) (W : Wd K g) (ho : K.lookup f = some ⟨c, d, .func fd, sl⟩) (hcd : codeIn K fd.code fd.qualname = true) (hbody : fd.body = .stmts body) (hbind : bindArgs fd ⟨args, []⟩ = pure binds)
    (hclo : fd.closure = []) (hkind : ∀ x ∈ binds, fd.scope.names.lookup x.1 = some .local ∨ (fd.scope.names.lookup x.1 = some .cell ∧ ((cellsFrom (s.heap.objs.size + 1) fd.scope.names []).lookup x.1).isSome = true))
    (hnd : ((cellsFrom (s.heap.objs.size + 1) fd.scope.names []).map (·.1)).Nodup)
    (h : ∀ L s₁, L = s.heap.objs.size → SS s0 g ((L, NsL (locL (callEnvC fd L f).kindOf binds)) :: ((callEnvC fd L f).cells.map fun p => (p.2, CelP ((celL (callEnvC fd L f).kindOf binds).lookup p.1))) ++ pts) s₁ → Rm n (A.deeper (callEnvC fd L f)) →
      wpAny (model prog w) (A.deeper (callEnvC fd L f)) (execs body (callEnvC fd L f)) (fun fl s' => R (.ok (.ret (fv fl))) s') (fun _ _ => False) s₁)
    (hco : fd.scope.isCoroutine = false := by rfl) (hgen : fd.scope.isGenerator = false := by rfl) (hk : fd.scope.kind = .function := by rfl) (hf : f ≠ 222 := by decide) (hcn : fd.code ≠ .ref 222 := by decide) :
    codeAny (model prog w) A (.call (.ref f) ⟨args, []⟩) R s := by
  refine codeAny_call_cells (fd := fd) hA.room (S.1.keep _ _ (W.kin _ _ hf ho)) rfl (W.lim.keeps S.1.keep) ((W.code hcd hcn).keeps S.1.keep) hbody hbind hclo hkind (fun s₁ X => ?_) hco hgen hk
  have X' := X
  obtain ⟨hc, hcell, hap, hab⟩ := X
  obtain ⟨⟨h₁, tk, rfl⟩, hns, hkeep, hfr⟩ := hc
  have hcells : (callEnvC fd s.heap.objs.size f).cells = cellsFrom (s.heap.objs.size + 1) fd.scope.names [] := rfl
  have off : ∀ a, s.heap.objs.size ≤ a → ∀ p ∈ pts, p.1 ≠ a := fun a ha p hp e => by
    obtain ⟨⟨o, ho, _⟩, _⟩ := S.1.own p hp
    have := Heap.lt_size ho
    rw [e] at this
    exact absurd (Nat.lt_of_lt_of_le this ha) (Nat.lt_irrefl _)
  have S1 : SS s0 g ((s.heap.objs.size, NsL (locL (callEnvC fd s.heap.objs.size f).kindOf binds)) :: ((callEnvC fd s.heap.objs.size f).cells.map fun p => (p.2, CelP ((celL (callEnvC fd s.heap.objs.size f).kindOf binds).lookup p.1))) ++ pts) { s with heap := h₁, toks := tk } := by
    refine ⟨⟨fun b o e => hkeep _ _ (S.1.keep b o e), fun p hp => ?_, ?_⟩, S.2.trans Sh.mk'⟩
    · rcases List.mem_append.mp hp with hp | hp
      · rcases List.mem_cons.mp hp with rfl | hp
        · exact ⟨NsL.of hns fun n => by simpa using bindL_is _ binds [] n, S.1.offg (size_none _ (Nat.le_refl _))⟩
        · obtain ⟨q, hq, rfl⟩ := List.mem_map.mp hp
          have lk : (callEnvC fd s.heap.objs.size f).cells.lookup q.1 = some q.2 := by
            rw [hcells]
            exact lookup_of_mem hnd (hcells ▸ hq)
          have z := hcell q.1 q.2 lk
          rw [show bindC (callEnvC fd s.heap.objs.size f).kindOf binds (fun _ => none) q.1 = (celL (callEnvC fd s.heap.objs.size f).kindOf binds).lookup q.1 by simpa using bindC_is _ binds [] q.1] at z
          exact ⟨z, S.1.offg (size_none _ (Nat.le_of_lt (hab q.1 q.2 hq)))⟩
      · exact (S.1.grow hkeep).own p hp
    · rw [List.map_append, List.map_cons, List.map_map]
      refine List.nodup_append.mpr ⟨List.nodup_cons.mpr ⟨fun q => ?_, ?_⟩, S.1.nd, fun a ha b hb e => ?_⟩
      · obtain ⟨q, hq, e⟩ := List.mem_map.mp q
        have := hab q.1 q.2 hq
        have e' : q.2 = s.heap.objs.size := e
        rw [e'] at this
        exact Nat.lt_irrefl _ this
      · exact List.pairwise_map.mpr hap
      · subst e
        obtain ⟨p, hp, rfl⟩ := List.mem_map.mp hb
        rcases List.mem_cons.mp ha with e | ha
        · exact off _ (Nat.le_refl _) p hp e
        · obtain ⟨q, hq, e⟩ := List.mem_map.mp ha
          have := hab q.1 q.2 hq
          exact off _ (Nat.le_of_lt this) p hp e.symm
  refine wpAny_mono (h _ _ rfl S1 (hA.deeper _)) (fun fl _ q => ?_) (fun _ _ q => q.elim)
  cases fl <;> exact q
end
end Mine
end
section
open PySem PySem.W PySem.Spec PySem.Calls PyProof.Rows
set_option Elab.async false
set_option maxRecDepth 100000
set_option maxHeartbeats 4000000
set_option linter.unusedVariables false
namespace Mine
local macro_rules | `(tactic| walk_at "perm") => `(tactic| (repeat (first | exact List.Perm.refl _ | refine permK 0 rfl ?_ | refine permK 1 rfl ?_ | refine permK 2 rfl ?_ | refine permK 3 rfl ?_ | refine permK 4 rfl ?_ | refine permK 5 rfl ?_ | refine permK 6 rfl ?_ | refine permK 7 rfl ?_ | refine permK 8 rfl ?_)))
/-- the cells of the law: gone, sums, town, late, early -/
noncomputable abbrev celsP (L : Addr) (ve vl vt vs vg : Option Value) (r : List PO) : List PO :=
  (L + 1 + 1 + 1 + 1 + 1, CelP vg) :: (L + 1 + 1 + 1 + 1, CelP vs) :: (L + 1 + 1 + 1, CelP vt) :: (L + 1 + 1, CelP vl) :: (L + 1, CelP ve) :: r
theorem cellsF_len (ns : List Int) : (cellsF ns).length = 6 := by
  unfold cellsF drawnF
  simp only [List.length_append, List.length_drop, List.length_map, List.length_take, List.length_cons, List.length_nil]
  omega
theorem cells2 (ns : List Int) : ((cellsF ns).take 2).take ((cellsF ns).take 2).length = [(cellsF ns).getD 0 0, (cellsF ns).getD 1 0] := by
  have h := cellsF_len ns
  generalize cellsF ns = c at h
  match c, h with
  | a :: b :: r, _ => rfl
theorem paired_two {α β : Type} {F : α → β → Prop} {l : List α} {a b : β} (h : Paired F l [a, b]) : ∃ x y, l = [x, y] ∧ F x a ∧ F y b := by
  cases h with
  | cons h1 t => cases t with
    | cons h2 t => cases t; exact ⟨_, _, rfl, h1, h2⟩
theorem pow2_ok : ∀ (i : Nat), i < 6 → (2 : Int) ^ i ≠ 0 ∧ ((2 : Int) ^ i).natAbs < 1073741824
  | 0, _ => by decide
  | 1, _ => by decide
  | 2, _ => by decide
  | 3, _ => by decide
  | 4, _ => by decide
  | 5, _ => by decide
  | n + 6, h => by omega
theorem fil1 {α : Type} {p : α → Bool} {a : α} (h : p a = true) : [a].filter p = [a] := List.filter_cons_of_pos h
theorem fil0 {α : Type} {p : α → Bool} {a : α} (h : ¬ p a = true) : [a].filter p = [] := List.filter_cons_of_neg h
theorem bits2 : Builtin.Int.intBits 2 = 2 := by decide +kernel
theorem sixI_take : ∀ {i : Nat}, i < 6 → sixI.take (i + 1) = sixI.take i ++ [(i : Int)]
  | 0, _ => rfl
  | 1, _ => rfl
  | 2, _ => rfl
  | 3, _ => rfl
  | 4, _ => rfl
  | 5, _ => rfl
  | n + 6, h => by omega
section
variable {prog : Program} {w : World} {A : Around} {E : Value → Shared → Prop} {s0 s : Shared} {g : Heap} {pts pts' : List PO} {env : Env} {x : Str} {v : Value}
theorem addL {l b : Addr} {vs ws : List Value} {Q : Value → Shared → Prop} (S : SS s0 g pts s) (hl : s.heap.PlainList l vs.toArray) (hb : s.heap.PlainList b ws.toArray) (h : ∀ D s', SS s0 g ((D, LstP (vs ++ ws)) :: pts) s' → Q (.ref D) s')
    (hsz : vs.length + ws.length ≤ 1000) : wpAny (model prog w) A (binaryOp .Add (.ref l) (.ref b)) Q E s := by
  obtain ⟨n1, h1⟩ := hl
  obtain ⟨n2, h2⟩ := hb
  refine P.add_list h1 h2 (h _ _ ⟨S.1.new (le_push _ _) (size_none _ (Nat.le_refl _)) ⟨_, Heap.get?_push_size _ rfl, 0, ?_⟩, S.2.trans Sh.mk1⟩) (by rw [sizeLine_eq]; simp; omega)
  rw [List.append_toArray]
theorem tupIs {h : Heap} {t : Addr} {vs : List Value} (e : ∃ o, h.get? t = some o ∧ TupP vs o) : h.IsTuple t vs.toArray := by
  obtain ⟨o, ho, rfl⟩ := e
  exact ⟨_, ho, rfl, 0, rfl⟩
theorem assignT {elts : List Expr} {k : Nat} {pos : Pos} {t : Addr} {vs : List Value} {Q : Unit → Shared → Prop} (hh : A.handled = none) (S : SS s0 g pts s) (ht : ∃ o, s.heap.get? t = some o ∧ TupP vs o)
    (hn : (assignEach elts env).length = vs.length) (hstar : (assignEach elts env).findIdx? (·.1) = none)
    (h : ∀ s', SS s0 g pts s' → wpAny (model prog w) A (assignInOrder ((assignEach elts env).map (·.2)) vs) Q E s') : wpAny (model prog w) A (assign (.Tuple elts k pos) env (.ref t)) Q E s := by
  refine wpAny_assign_Tuple hh (tupIs ht) (by simpa using hn) hstar (fun h' hx => ?_)
  have := h { s with heap := h' } ⟨S.1.grow fun b o e => hx b o (Nat.ne_of_lt (Heap.lt_size e)) e, S.2.trans Sh.mk1⟩
  simpa using this
theorem stCA {c : Addr} {Q : Unit → Shared → Prop} (S : SS s0 g pts s) (hc : env.cells.lookup x = some c) (hat : At pts c CelAny (CelP (some v)) pts')
    (h : ∀ s', SS s0 g pts' s' → Q () s') (hk : env.scope.kind = .function := by rfl) (hl : env.kindOf x = some .cell := by rfl) :
    wpAny (model prog w) A (storeName env x v) Q E s := by
  obtain ⟨o, ho, v0, hv0⟩ := S.1.at hat
  exact wpAny_storeName_cell hk hl hc (CelP.is ⟨o, ho, hv0⟩) (fun h' hn hs => h _ ⟨S.1.upd hat (fun b o hb e => hs.extBut b o hb e) hn, S.2.trans ⟨rfl, id⟩⟩)
end
theorem behind_at {g : Heap} {vss : List Value} {ss : List (List Int)} (h : Paired (IsInts g) vss ss) (hl : vss.length = 6) {k : Nat} (hk : k < 6) (hne : behind ss (k : Int) ≠ []) :
    ∃ am, IsInts g am (behind ss (k : Int)) ∧ behind ss (k : Int) ≠ [] ∧ ((k = 0 ∧ vss[5]? = some am) ∨ (k ≠ 0 ∧ vss[k - 1]? = some am)) := by
  by_cases h0 : k = 0
  · subst h0
    obtain ⟨b, hb, hi⟩ := paired_get' h (List.getElem?_eq_getElem (show 5 < vss.length by omega))
    have e : behind ss ((0 : Nat) : Int) = b := by unfold behind; rw [if_pos (show ((0 : Nat) : Int) = 0 from rfl), List.getD_eq_getElem?_getD, hb]; rfl
    exact ⟨_, e ▸ hi, hne, .inl ⟨rfl, List.getElem?_eq_getElem (show 5 < vss.length by omega)⟩⟩
  · obtain ⟨b, hb, hi⟩ := paired_get' h (List.getElem?_eq_getElem (show k - 1 < vss.length by omega))
    have e : behind ss (k : Int) = b := by
      unfold behind
      rw [if_neg (by omega), List.getD_eq_getElem?_getD, show ((k : Int) - 1).toNat = k - 1 by omega, hb]; rfl
    exact ⟨_, e ▸ hi, hne, .inr ⟨h0, List.getElem?_eq_getElem (show k - 1 < vss.length by omega)⟩⟩
theorem behind_get {prog : Program} {w : World} {A : Around} {E : Value → Shared → Prop} {s : Shared} {Ds : Addr} {vss : List Value} {am : Value} {k : Nat} {t : Tok} {Q : Value → Shared → Prop} (hl : s.heap.IsList Ds vss.toArray) (hsl : vss.length = 6) (hk : k < 6)
    (hidx : (k = 0 ∧ vss[5]? = some am) ∨ (k ≠ 0 ∧ vss[k - 1]? = some am)) (hq : Q am s) : wpAny (model prog w) A (getItem (.ref Ds) (.int ((k : Int) - 1) t)) Q E s := by
  rcases hidx with ⟨h0, hx⟩ | ⟨h0, hx⟩
  · exact wpAny_getItem_list_neg hl (by omega) (by simp; omega) (by omega) (by rw [show (((k : Int) - 1) + (vss.toArray.size : Nat)).toNat = 5 by simp; omega]; simpa using hx) hq
  · exact wpAny_getItem_list hl (by omega) (by omega) (by rw [show ((k : Int) - 1).toNat = k - 1 by omega]; simpa using hx) hq
theorem behind_ne (e l : List Int) : ∀ {k : Nat}, k < 6 → behind (sumsL e l) (k : Int) ≠ []
  | 0, _ => by intro h; cases h
  | 1, _ => by intro h; cases h
  | 2, _ => by intro h; cases h
  | 3, _ => by intro h; cases h
  | 4, _ => by intro h; cases h
  | 5, _ => by intro h; cases h
  | n + 6, h => by omega
noncomputable def preL (ns : List Int) : Nat → List Int × List Int
  | 0 => line0 ns
  | j + 1 => lineAt ns j
noncomputable def preT (ns : List Int) : Nat → List (Str × Str)
  | 0 => []
  | j + 1 => townAt ns j
noncomputable def midT (ns : List Int) : Nat → List (Str × Str)
  | 0 => []
  | j + 1 => townAt ns (j + 1)
noncomputable abbrev lawP (I L x H : Addr) (j : Nat) (l : List (Str × Value)) (ve vl : Value) (vs vg : Option Value) (hs : List Value) (pts : List PO) : List PO :=
  (I, RngQ (0 + ((j + 1 : Nat) : Int)) (((5 : Nat) : Int) - ((j + 1 : Nat) : Int)) 1) :: (L, NsL l) :: celsP L (some ve) (some vl) (some (.ref x)) vs vg ((H, LstP hs) :: (222, TabP) :: pts)
theorem hourAt_lt (ns : List Int) (b : Nat) : 0 ≤ hourAt ns b ∧ hourAt ns b < 6 := ⟨Int.fmod_nonneg_of_pos _ (by decide), Int.fmod_lt_of_pos _ (by decide)⟩
/-- what a row that went looks like -/
structure RowFit (r : Str × Str) : Prop where
  name : ∃ h : Int, 0 ≤ h ∧ h < 6 ∧ r.1 = Txt.item abc h
  row : r.2 = noSep ∨ ∃ m : Nat × Nat, 1 ≤ m.1 ∧ m.1 ≤ 7 ∧ m.2 < 6 ∧ r.2 = lineS m
theorem RowFit.short {r : Str × Str} (x : RowFit r) : r.2.length ≤ 8 := by
  rcases x.row with e | ⟨m, h1, h2, h3, e⟩
  · rw [e]; decide +kernel
  · rw [e]; show (lineL m).toArray.size ≤ 8; simp [lineL]; omega
theorem RowFit.low {r : Str × Str} (x : RowFit r) : LowOk r.1 := by
  obtain ⟨h, h0, h6, e⟩ := x.name
  have := nm_low (b := 0) (i := h) (by omega) h6
  rw [e]
  have e2 : nmF' 0 h = Txt.item abc h := by unfold nmF' namesF; rw [if_pos (by decide)]
  rwa [e2] at this
theorem first_all : ((List.range 8).all fun k => (List.range 6).all fun l => firstF (lineS (k + 1, l)) == dotS) = true := by decide +kernel
theorem first_line {m : Nat × Nat} (h1 : 1 ≤ m.1) (h2 : m.1 ≤ 7) (h3 : m.2 < 6) : firstF (lineS m) = dotS := by
  have h := first_all
  simp only [List.all_eq_true, List.mem_range] at h
  have := eq_of_beq (h (m.1 - 1) (by omega) m.2 h3)
  rwa [show m.1 - 1 + 1 = m.1 by omega] at this
theorem first_empty : firstF noSep = noSep := by
  have : (firstF noSep == noSep) = true := by decide +kernel
  exact eq_of_beq this
theorem RowFit.first {r : Str × Str} (x : RowFit r) : (firstF r.2 = noSep ∧ r.2 = noSep) ∨ (firstF r.2 = dotS ∧ r.2 ≠ noSep) := by
  rcases x.row with e | ⟨m, h1, h2, h3, e⟩
  · rw [e]; exact .inl ⟨first_empty, rfl⟩
  · rw [e]
    refine .inr ⟨first_line h1 h2 h3, fun e => ?_⟩
    have := congrArg (fun x : Str => x.cps.size) e
    simp [lineS, lineL] at this
    have h0 : noSep.cps.size = 0 := by decide +kernel
    omega
theorem RowFit.firstClean {r : Str × Str} (x : RowFit r) : Clean (firstF r.2) := by
  rcases x.first with ⟨e, _⟩ | ⟨e, _⟩ <;> rw [e] <;> exact clean_of (by decide +kernel)
theorem runF_rows (e l : List Int) (st : Int) : ∀ j, j ≤ 6 → ∀ r ∈ runF e l st j, RowFit r
  | 0, _, r, hr => by cases hr
  | j + 1, hj, r, hr => by
    unfold runF at hr
    rcases List.mem_append.mp hr with hr | hr
    · exact runF_rows e l st j (by omega) r hr
    · split at hr
      · rw [List.mem_singleton.mp hr]
        obtain ⟨a, b⟩ := hourF_lt st j
        refine ⟨⟨_, a, b, rfl⟩, ?_⟩
        obtain ⟨h1, h2⟩ := runMs_ok e l st j
        show popRow _ = noSep ∨ _
        unfold popRow
        split
        · exact .inl rfl
        · rename_i m hm
          refine .inr ⟨m, ?_⟩
          have hmem := List.mem_of_getLast? hm
          have : 1 ≤ m.1 ∧ m.1 ≤ j + 1 ∧ m.2 < 6 := by
            split at hmem
            · rcases List.mem_append.mp hmem with h | h
              · exact h2 m h
              · rw [List.mem_singleton.mp h]; exact ⟨Nat.le_refl 1, by show 1 ≤ j + 1; omega, by show (hourF st j).toNat < 6; omega⟩
            · exact h2 m hmem
          exact ⟨this.1, by omega, this.2.2, rfl⟩
      · cases hr
theorem townF_snoc (rs : List (Str × Str)) (r : Str × Str) : townF (rs ++ [r]) = sdF (townF rs) r.1 (firstF r.2) := by
  unfold townF; rw [List.foldl_append]; rfl
theorem townF_bound (P : Str × Str → Prop) : ∀ (rows rs : List (Str × Str)), (∀ r ∈ rs, P r) → (∀ r ∈ rows, P (r.1, firstF r.2)) →
    (rows.foldl (fun rs r => sdF rs r.1 (firstF r.2)) rs).length ≤ rs.length + rows.length ∧ ∀ r ∈ rows.foldl (fun rs r => sdF rs r.1 (firstF r.2)) rs, P r
  | [], rs, h, _ => ⟨Nat.le_refl _, h⟩
  | x :: rows, rs, h, h2 => by
    have hsd : (sdF rs x.1 (firstF x.2)).length ≤ rs.length + 1 ∧ ∀ r ∈ sdF rs x.1 (firstF x.2), P r := by
      unfold sdF
      split
      · refine ⟨by simp, fun r hr => ?_⟩
        rcases List.mem_append.mp hr with hr | hr
        · exact h r hr
        · rw [List.mem_singleton.mp hr]; exact h2 x (.head _)
      · exact ⟨by omega, h⟩
    obtain ⟨a, b⟩ := townF_bound P rows _ hsd.2 fun r hr => h2 r (.tail _ hr)
    simp only [List.foldl_cons, List.length_cons]
    exact ⟨by omega, b⟩
theorem townF_ok {rows : List (Str × Str)} (h : ∀ r ∈ rows, RowFit r) (k : Nat) (hk : k ≤ 6) : RowsOk (townF (rows.take k)) := by
  obtain ⟨a, b⟩ := townF_bound (fun r => LowOk r.1) (rows.take k) [] (fun r hr => by cases hr) fun r hr => (h r (List.mem_of_mem_take hr)).low
  refine ⟨?_, b⟩
  have : (rows.take k).length ≤ k := List.length_take_le _ _
  have a' : (townF (rows.take k)).length ≤ 0 + (rows.take k).length := a
  omega
theorem mix_all : ((List.range 6).all fun i => lowB ⟨#[mixS.cps.getD i 0]⟩) = true := by decide +kernel
theorem mix_low {i : Nat} (h : i < mixS.cps.size) : LowOk ⟨#[mixS.cps.getD i 0]⟩ := by
  have hm : mixS.cps.size = 6 := by decide +kernel
  exact low_of (List.all_eq_true.mp mix_all i (List.mem_range.mpr (by omega)))
theorem IsStrs.le' {g g' : Heap} {v : Value} {ys : List Str} (x : IsStrs g v ys) (l : Le g g') : IsStrs g' v ys := x.le l
/-! what is compared, as data -/
theorem readsAll_strs {h : Heap} : ∀ {vs : List Value} {ys : List Str}, StrsAre vs ys → ReadsAll h vs (ys.map .str) []
  | _, _, .nil => .nil
  | _, _, .cons y t r => .cons (as := []) (.str y t) (readsAll_strs r)
noncomputable def strsD (ys : List Str) : PyData := .list (ys.map .str)
noncomputable def rowD (r : Str × Str) : PyData := .tuple [.str r.1, .str r.2]
theorem reads_strs {h : Heap} {v : Value} {ys : List Str} (x : IsStrs h v ys) : ∃ as, Reads h v (strsD ys) as := by
  obtain ⟨l, vs, rfl, ⟨n, ho⟩, hs⟩ := x
  exact ⟨_, .list ho rfl rfl (by simpa using readsAll_strs hs)⟩
theorem reads_row {h : Heap} {v : Value} {r : Str × Str} (x : RowIs h v r) : ∃ as, Reads h v (rowD r) as := by
  obtain ⟨T, t1, t2, rfl, o, ho, rfl⟩ := x
  exact ⟨_, .tuple (as := [] ++ ([] ++ [])) ho rfl rfl (by simpa using ReadsAll.cons (.str r.1 t1) (.cons (.str r.2 t2) .nil))⟩
theorem readsAll_of {h : Heap} {α : Type} {F : Value → α → Prop} {d : α → PyData} (k : ∀ v a, F v a → ∃ as, Reads h v (d a) as) : ∀ {vs : List Value} {xs : List α}, Paired F vs xs → ∃ bs, ReadsAll h vs (xs.map d) bs
  | _, _, .nil => ⟨_, .nil⟩
  | _, _, .cons a t => by
    obtain ⟨as, ha⟩ := k _ _ a
    obtain ⟨bs, hb⟩ := readsAll_of k t
    exact ⟨_, .cons ha hb⟩
theorem reads_strss {h : Heap} {l : Addr} {us : List Value} {yss : List (List Str)} (hl : h.PlainList l us.toArray) (hp : Paired (IsStrs h) us yss) : ∃ as, Reads h (.ref l) (.list (yss.map strsD)) as := by
  obtain ⟨bs, hb⟩ := readsAll_of (d := strsD) (fun v a x => reads_strs x) hp
  obtain ⟨n, ho⟩ := hl
  exact ⟨_, .list ho rfl rfl (by simpa using hb)⟩
theorem reads_rows {h : Heap} {l : Addr} {us : List Value} {rs : List (Str × Str)} (hl : h.PlainList l us.toArray) (hp : Paired (RowIs h) us rs) : ∃ as, Reads h (.ref l) (.list (rs.map rowD)) as := by
  obtain ⟨bs, hb⟩ := readsAll_of (d := rowD) (fun v a x => reads_row x) hp
  obtain ⟨n, ho⟩ := hl
  exact ⟨_, .list ho rfl rfl (by simpa using hb)⟩
theorem canAll {α : Type} {d : α → PyData} : ∀ {l : List α}, (∀ a ∈ l, (d a).canLay0 = true) → PyData.canLayAll0 (l.map d) = true
  | [], _ => rfl
  | a :: l, h => by
    rw [List.map_cons, PyData.canLayAll0, h a (.head _), canAll fun b hb => h b (.tail _ hb)]; rfl
theorem depthAll {α : Type} {d : α → PyData} {n : Nat} : ∀ {l : List α}, (∀ a ∈ l, (d a).depth ≤ n) → PyData.depthAll (l.map d) ≤ n
  | [], _ => Nat.zero_le _
  | a :: l, h => by
    rw [List.map_cons, PyData.depthAll]
    exact Nat.max_le.mpr ⟨h a (.head _), depthAll fun b hb => h b (.tail _ hb)⟩
theorem can_strss {yss : List (List Str)} (h : ∀ ys ∈ yss, ∀ y ∈ ys, PyData.strOk y = true) : (PyData.list (yss.map strsD)).canLay0 = true := by
  rw [PyData.canLay0]
  refine canAll fun ys hys => ?_
  rw [strsD, PyData.canLay0]
  exact canAll fun y hy => by rw [PyData.canLay0]; exact h ys hys y hy
theorem depth_strss (yss : List (List Str)) : (PyData.list (yss.map strsD)).depth ≤ 2 := by
  rw [PyData.depth]
  have := depthAll (n := 1) (d := strsD) (l := yss) fun ys hys => by
    rw [strsD, PyData.depth]
    have := depthAll (n := 0) (d := PyData.str) (l := ys) fun y hy => by rw [PyData.depth]; exact Nat.le_refl 0
    omega
  omega
theorem can_rows {rs : List (Str × Str)} (h : ∀ r ∈ rs, PyData.strOk r.1 = true ∧ PyData.strOk r.2 = true) : (PyData.list (rs.map rowD)).canLay0 = true := by
  rw [PyData.canLay0]
  refine canAll fun r hr => ?_
  obtain ⟨a, b⟩ := h r hr
  simp only [rowD, PyData.canLay0, PyData.canLayAll0, a, b, Bool.and_true]
theorem depth_rows (rs : List (Str × Str)) : (PyData.list (rs.map rowD)).depth ≤ 2 := by
  rw [PyData.depth]
  have := depthAll (n := 1) (d := rowD) (l := rs) fun r hr => by simp [rowD, PyData.depth, PyData.depthAll]
  omega
theorem ok_first : PyData.strOk noSep = true ∧ PyData.strOk dotS = true := by decide +kernel
theorem RowFit.firstOk {r : Str × Str} (x : RowFit r) : PyData.strOk (firstF r.2) = true := by
  rcases x.first with ⟨e, _⟩ | ⟨e, _⟩ <;> rw [e]
  · exact ok_first.1
  · exact ok_first.2
theorem ok_all : ((List.range 8).all fun k => (List.range 6).all fun l => PyData.strOk (lineS (k, l)) && PyData.strOk (Txt.item abc (l : Int))) = true := by decide +kernel
theorem RowFit.strsOk {r : Str × Str} (x : RowFit r) : PyData.strOk r.1 = true ∧ PyData.strOk r.2 = true := by
  have h := ok_all
  simp only [List.all_eq_true, List.mem_range, Bool.and_eq_true] at h
  refine ⟨?_, ?_⟩
  · obtain ⟨i, h0, h6, e⟩ := x.name
    rw [e]
    have := (h 0 (by decide) i.toNat (by omega)).2
    rwa [show ((i.toNat : Nat) : Int) = i by omega] at this
  · rcases x.row with e | ⟨m, h1, h2, h3, e⟩
    · rw [e]; exact ok_first.1
    · rw [e]; exact (h m.1 (by omega) m.2 h3).1
theorem totS_le (e l : List Int) (h : Int) (he : e.length ≤ 100) (hl : l.length ≤ 100) : ∀ (n : Nat), -(100 * (n : Int)) ≤ totS e l h n ∧ totS e l h n ≤ 100 * (n : Int)
  | 0 => by simp [totS]
  | n + 1 => by
    have ih := totS_le e l h he hl n
    have c1 := List.count_le_length (a := Int.fmod (h - (n : Int)) 6) (l := e)
    have c2 := List.count_le_length (a := Int.fmod (h - (n : Int)) 6) (l := l)
    unfold totS
    omega
theorem weight_ints : ∀ (l : List Int), (∀ x ∈ l, x.natAbs ≤ 1000) → PyData.weightAll (l.map .int) ≤ 12 * l.length
  | [], _ => by simp [PyData.weightAll]
  | a :: l, h => by
    have ih := weight_ints l fun x hx => h x (.tail _ hx)
    have ha := h a (.head _)
    have : PyData.weight (.int a) ≤ 11 := by
      rw [PyData.weight]
      split
      · omega
      · rename_i h0
        have hne : a.natAbs ≠ 0 := by simpa using h0
        have := (Nat.log2_lt hne (k := 10)).mpr (by omega)
        omega
    rw [List.map_cons, PyData.weightAll, List.length_cons]
    omega
theorem sums_lay {e l : List Int} (he : e.length ≤ 100) (hl : l.length ≤ 100) (h : Int) : PyData.layable0 (.list ((sumS e l h 6).map .int)) = true := by
  unfold PyData.layable0
  rw [Bool.and_eq_true, Bool.and_eq_true, decide_eq_true_iff, decide_eq_true_iff]
  refine ⟨⟨?_, ?_⟩, ?_⟩
  · rw [PyData.canLay0]; exact canAll fun x _ => by rw [PyData.canLay0]
  · rw [PyData.depth]
    have := depthAll (n := 0) (d := PyData.int) (l := sumS e l h 6) fun x _ => by rw [PyData.depth]; exact Nat.le_refl 0
    omega
  · rw [PyData.weight]
    have := weight_ints (sumS e l h 6) (fun x hx => by
      obtain ⟨i, hi, rfl⟩ := List.mem_map.mp hx
      have := totS_le e l h he hl (i + 1)
      have := List.mem_range.mp hi
      omega)
    have h6 : (sumS e l h 6).length = 6 := by simp [sumS]
    omega
section
variable {prog : Program} {w : World} {A : Around} {E : Value → Shared → Prop} {s0 s : Shared} {g : Heap} {pts : List PO}
theorem iterStr {x : Str} {t : Tok} {Q : Value → Shared → Prop} (S : SS s0 g pts s) (ha : x.cps.all (· < 128) = true)
    (h : ∀ I s', s.heap.get? I = none → SS s0 g ((I, StitP x t 0) :: pts) s' → Q (.ref I) s') : wpAny (model prog w) A (pyIter (.str x t)) Q E s :=
  wpAny_pyIter_ascii ha (h _ { s with heap := s.heap.push _ } (size_none _ (Nat.le_refl _)) ⟨S.1.new (le_push _ _) (size_none _ (Nat.le_refl _)) ⟨_, Heap.get?_push_size _ rfl, rfl, rfl⟩, S.2.trans Sh.mk1⟩)
end
section
variable {w : World} {A : Around} {s0 s : Shared} {g : Heap} {pts : List PO}
theorem law_c {v1 : Value} {ns : List Int} {R : Result → Shared → Prop} (hA : Rm 15 A) (S : SS s0 g ((222, TabP) :: pts) s) (W : Wd (KK w) g) (M : BM g) (h1 : ∃ l vs, v1 = .ref l ∧ g.IsList l vs.toArray ∧ IntsAre vs ns) (hns : ns.length ≤ 100)
    (ask : ∀ b, b < 5 → Asked (lineAt ns b).1 (lineAt ns b).2 (townAt ns b)) (fit : ∀ b, b < 5 → Fit (lineAt ns b).1 (lineAt ns b).2 (townAt ns b))
    (hQ : ∀ g' s', Le g g' → SS s0 g' ((222, TabP) :: pts) s' → R (.ok (.ret (.bool true))) s') : codeAny (model PR w) A (.call (.ref 317) ⟨[v1], []⟩) R s := by
  obtain ⟨a1, vs1, rfl, hl1, hi1⟩ := h1
  refine callVCc hA S W rfl (by kernel_rfl) rfl rfl rfl (fun x hx => ?_) (by show List.Nodup [("gone" : Str), "sums", "town", "late", "early"]; decide) (fun L s hL S hA₁ => ?_)
  · rcases List.mem_cons.mp hx with rfl | hx
    · exact .inl rfl
    · cases hx
  change SS s0 g ((L, NsL [("script", .ref a1)]) :: celsP L none none none none none ((222, TabP) :: pts)) s at S
  have hvl1 : vs1.length ≤ 100 := by rw [hi1.length]; exact hns
  -- drawn
  refine execs_cut (fun s' => ∃ g' D vs, Le g g' ∧ SS s0 g' ((L, NsL [("drawn", .ref D), ("script", .ref a1)]) :: celsP L none none none none none ((222, TabP) :: pts)) s' ∧ g'.PlainList D vs.toArray ∧ IntsAre vs (drawnF ns)) ?_ ?_
  · refine compA (s0 := s0) rfl (by decide) rfl (by decide) rfl rfl ?_
    refine Subscript_ (nmL S (by walk_at "mem") rfl (wpAny_Slice (wpAny_pure ?_)))
    rw [evalPart_some]
    refine wpAny_Constant_int (wpAny_pure ?_)
    refine sliceL (pts := (L, NsL [("script", .ref a1)]) :: celsP L none none none none none ((222, TabP) :: pts)) (lo := none) (hi := some 6) ⟨S.1, S.2⟩ (hl1.at (fun o e => S.1.keep _ _ e)) .none (.int _ _) (fun D2 s hD2 S => ?_) (by simp; omega)
    have e6 := slicePick_upto' vs1.toArray 6
    rw [show (some (6 : Int)) = some ((6 : Nat) : Int) from rfl, e6] at S
    obtain ⟨g5, hle5, ⟨oD, hoD, hPD, _⟩, S5⟩ := S.1.freeze
    have S : SS s0 g5 _ s := ⟨S5, S.2⟩
    have hlD : ∀ {s : Shared} {p : List PO} {g'' : Heap}, Le g5 g'' → SS s0 g'' p s → s.heap.IsList D2 (vs1.take 6).toArray := fun hle S => (LstP.plain ⟨oD, S.1.keep _ _ (hle _ _ hoD), by simpa using hPD⟩).isList
    have hi6 := hi1.take 6
    refine iterList S (hlD (Le.refl _) S) (fun I s hI S => ?_)
    refine ⟨I, g5, _, (vs1.take 6).length, _, _, _, fun k g' p us => p = (L, NsL [("script", .ref a1)]) :: celsP L none none none none none ((222, TabP) :: pts) ∧ IntsAre us ((drawnF ns).take k) ∧ us.length = k, rfl, src_list hA₁.hh I D2 _, by rw [sizeLine_eq]; simp; omega, S, ⟨rfl, .nil, rfl⟩,
      fun k g' p us h => (by omega), fun k g' p us h hJ hle S => (LstP.plain ⟨oD, S.keep _ _ (hle _ _ hoD), by simpa using hPD⟩).isList, fun C D => ?_, ?_⟩
    · rintro k g' _ us l v s hk ⟨rfl, hu, hul⟩ hv hle S
      obtain ⟨n, tn, hn, rfl⟩ := ints_get hi6 hv
      refine wpAny_assign_Name (stL S (by walk_at "at") (fun s S => ?_) rfl rfl)
      refine wpAny_tests_nil ?_
      rw [if_pos rfl]
      refine wpAny_BinOp (Call_ (nmB (v := .type "int") S (W.le (hle5.trans hle)) (by kernel_rfl) PyProof.Rows.boot_int (Pv.callWith_type1 (args_cons (nmL S (by walk_at "mem") rfl (args_nil (call_int_int ?_)) rfl rfl))) (by decide) rfl rfl rfl rfl))
      refine wpAny_BinOp (wpAny_Constant_int (wpAny_Constant_int (pow_int (by decide) (by decide +kernel) ?_)))
      refine mod_int' (by decide) ?_
      refine ⟨g', _, _, Le.refl _, ⟨S.1, S.2⟩, rfl, ?_, by simp [hul]⟩
      have hrt : (drawnF ns).take (k + 1) = (drawnF ns).take k ++ [Int.fmod n (10 ^ (6 : Int).toNat)] := by
        rw [List.take_add_one]
        have : (drawnF ns)[k]? = some (Int.fmod n 1000000) := by unfold drawnF; rw [List.getElem?_map, hn]; rfl
        rw [this]; rfl
      rw [hrt]
      exact Mine.IntsAre.snoc hu
    · rintro D g' _ us hD ⟨rfl, hu, hul⟩ hle
      refine ⟨_, _, At.here, fun s S => ?_⟩
      obtain ⟨g'', hle', ⟨o, ho, hP, _⟩, S₁₁⟩ := S.1.freeze
      have : (drawnF ns).take (vs1.take 6).length = drawnF ns := List.take_of_length_le (by rw [hi6.length]; simp [drawnF])
      rw [this] at hu
      exact ⟨rfl, g'', D, us, hle5.trans (hle.trans hle'), ⟨S₁₁, S.2⟩, LstP.plain ⟨o, ho, hP⟩, hu⟩
  rintro s ⟨g1, D1, vd, hle1, S, hpd, hid⟩
  have hdl : (drawnF ns).length ≤ 6 := by simp [drawnF]; omega
  -- cells
  refine execs_cut (fun s' => ∃ g' D vs l, Le g1 g' ∧ SS s0 g' ((L, NsL l) :: celsP L none none none none none ((222, TabP) :: pts)) s' ∧ Has l "cells" (.ref D) ∧ g'.PlainList D vs.toArray ∧ IntsAre vs (cellsF ns)) ?_ ?_
  · refine wpAny_Assign_Name (wpAny_BinOp (nmL S (by walk_at "mem") rfl ?_))
    refine Subscript_ (List_ (args_cons (wpAny_Constant_int (args_cons (wpAny_Constant_int (args_cons (wpAny_Constant_int (args_cons (wpAny_Constant_int (args_cons (wpAny_Constant_int (args_cons (wpAny_Constant_int (args_nil ?_))))))))))))))
    refine newL (pts := (L, NsL [("drawn", .ref D1), ("script", .ref a1)]) :: celsP L none none none none none ((222, TabP) :: pts)) ⟨S.1, S.2⟩ (fun D6 s hD6 S => ?_)
    obtain ⟨x6, hx6, S⟩ : ∃ x6, IntsAre x6 [19, 46, 5, 4, 0, 5] ∧ SS s0 g1 ((D6, LstP x6) :: (L, NsL [("drawn", .ref D1), ("script", .ref a1)]) :: celsP L none none none none none ((222, TabP) :: pts)) s := ⟨_, .cons _ _ (.cons _ _ (.cons _ _ (.cons _ _ (.cons _ _ (.cons _ _ .nil))))), S⟩
    have hl1' : ∀ {s : Shared} {p : List PO}, SS s0 g1 p s → s.heap.PlainList D1 vd.toArray := fun S => (hpd.at (fun o e => S.1.keep _ _ e))
    have hx6l : x6.length = 6 := hx6.length
    refine wpAny_Slice ?_
    rw [evalPart_some]
    refine Call_ (nmB (v := .builtin "len") S (W.le hle1) (by kernel_rfl) boot_len (callWith_builtin rfl (evalArgs_plain (args_cons (nmL S (by walk_at "mem") rfl (args_nil (len_list (hl1' S).isList (by simp; rw [hid.length]; omega) ?_)))))))
    refine wpAny_pure (wpAny_pure ?_)
    refine sliceL (pts := (D6, LstP x6) :: (L, NsL [("drawn", .ref D1), ("script", .ref a1)]) :: celsP L none none none none none ((222, TabP) :: pts)) (lo := some (vd.length : Int)) (hi := none) ⟨S.1, S.2⟩ (LstP.plain (S.1.own (D6, LstP _) (.head _)).1).isList (.int _ _) .none (fun D7 s hD7 S => ?_) (by simp; omega)
    rw [slicePick_from'] at S
    have e7 : ((x6.toArray.toList.drop vd.length).toArray).toList = x6.drop vd.length := by simp
    rw [e7] at S
    refine addL S (hl1' S) (LstP.plain (S.1.own (D7, LstP _) (.head _)).1) (fun D8 s S => ?_) (by simp; rw [hid.length]; omega)
    obtain ⟨g2, hle2, ⟨o, ho, hP, _⟩, S2⟩ := S.1.freeze
    have S : SS s0 g2 _ _ := ⟨S2.drop.drop, S.2⟩
    refine stL S (by walk_at "at") (fun s S => ⟨rfl, g2, _, _, _, hle2, S, by rfl, LstP.plain ⟨o, ho, hP⟩, ?_⟩)
    unfold cellsF
    rw [← hid.length]
    exact hid.append (IntsAre.drop hx6 _)
  rintro s ⟨g2, Dc, vc, l2, hle2, S, qc, hpc, hic⟩
  have w2 := (W.le hle1).le hle2
  have hcl : vc.length = 6 := by rw [hic.length]; exact cellsF_len ns
  -- early, late
  refine execs_cut (fun s' => ∃ g' ve vl l, Le g2 g' ∧ SS s0 g' ((L, NsL l) :: celsP L (some ve) (some vl) none none none ((222, TabP) :: pts)) s' ∧ Has l "cells" (.ref Dc) ∧ IsInts g' ve (bitsF ((cellsF ns).getD 0 0)) ∧ IsInts g' vl (bitsF ((cellsF ns).getD 1 0))) ?_ ?_
  · refine Assign_Tuple (compC (s0 := s0) rfl rfl rfl rfl rfl (by decide) ?_)
    refine Subscript_ (nmL S (by walk_at "mem") qc (wpAny_Slice (wpAny_pure ?_)))
    rw [evalPart_some]
    refine wpAny_Constant_int (wpAny_pure ?_)
    refine sliceL (pts := (L, NsL l2) :: celsP L none none none none none ((222, TabP) :: pts)) (lo := none) (hi := some 2) ⟨S.1, S.2⟩ (hpc.at (fun o e => S.1.keep _ _ e)).isList .none (.int _ _) (fun D2 s hD2 S => ?_) (by simp; omega)
    have e6 := slicePick_upto' vc.toArray 2
    rw [show (some (2 : Int)) = some ((2 : Nat) : Int) from rfl, e6] at S
    obtain ⟨g5, hle5, ⟨oD, hoD, hPD, _⟩, S5⟩ := S.1.freeze
    have S : SS s0 g5 _ s := ⟨S5, S.2⟩
    have hlD : ∀ {s : Shared} {p : List PO} {g'' : Heap}, Le g5 g'' → SS s0 g'' p s → s.heap.IsList D2 (vc.take 2).toArray := fun hle S => (LstP.plain ⟨oD, S.1.keep _ _ (hle _ _ hoD), by simpa using hPD⟩).isList
    have hi2 := hic.take 2
    refine iterList S (hlD (Le.refl _) S) (fun I s hI S => ?_)
    refine ⟨I, g5, _, (vc.take 2).length, _, _, _, fun k g' p us => p = (L, NsL l2) :: celsP L none none none none none ((222, TabP) :: pts) ∧ Paired (IsInts g') us ((((cellsF ns).take 2).take k).map bitsF) ∧ us.length = k, rfl, src_list hA₁.hh I D2 _, by rw [sizeLine_eq]; simp; omega, S, ⟨rfl, .nil, rfl⟩,
      fun k g' p us h => (by omega), fun c k g' p us h hJ hle S => (LstP.plain ⟨oD, S.keep _ _ (hle _ _ hoD), by simpa using hPD⟩).isList, fun C c D => ?_, ?_⟩
    · rintro k g' _ us l v s hk ⟨rfl, hu, hul⟩ hv hle S
      obtain ⟨n, tn, hn, rfl⟩ := ints_get hi2 hv
      refine wpAny_assign_Name (stCA S (c := c) rfl (.there (.there (.there .here))) (fun s S => ?_) rfl rfl)
      refine wpAny_tests_nil ?_
      rw [if_pos rfl]
      refine compR (s0 := s0) rfl (by decide) rfl (by decide) ?_
      have w5 := (w2.le hle5).le hle
      refine Call_ (nmB (v := .type "range") S w5 (by kernel_rfl) boot_range (Pv.callWith_type1 (args_cons (wpAny_Constant_int (args_nil ?_)))) (by decide) rfl rfl rfl rfl)
      refine callRange (L := C) (l := l) S (.head _) (fun r t1 u1 v1' s hr S => ?_)
      refine iterRange (n := 6) S hr (by decide) (fun I6 s hI6 S => ?_)
      refine ⟨I6, g', _, 6, _, _, _, fun i g'' p ws => g'' = g' ∧ p = (C, NsL l) :: (D, LstP us) :: (I, LitP D2 (k + 1)) :: (c, CelP (some (.int n tn))) :: (L, NsL l2) :: celsP L none none none none none ((222, TabP) :: pts) ∧ IntsAre ws ((sixI.take i).filter fun h => Int.fmod (Int.fdiv n (2 ^ h.toNat)) 2 != 0) ∧ ws.length ≤ i, rfl,
        src_range hA₁.hh I6 0 6, by rw [sizeLine_eq]; omega, S, ⟨rfl, rfl, .nil, Nat.le_refl _⟩, fun i g' p us h => h.2.2.2, fun _ _ _ _ _ _ _ _ => trivial, fun C2 D5 => ?_, ?_⟩
      · rintro i _ _ ws l3 v s hi ⟨rfl, rfl, hw, hwl⟩ ⟨t3, hv⟩ _ S
        rw [Int.zero_add] at hv; subst hv
        refine wpAny_assign_Name (stL S (by walk_at "at") (fun s S => ?_) rfl rfl)
        obtain ⟨hp0, hp1⟩ := pow2_ok i hi
        refine wpAny_tests_one (wpAny_isTrue_value (wpAny_BinOp (wpAny_BinOp (nmC S (c := c) rfl (by walk_at "mem") ?_ rfl rfl))))
        refine wpAny_BinOp (wpAny_Constant_int (nmL S (by walk_at "mem") rfl (pow_int (by omega) (by rw [bits2]; omega) (floordiv_int (by simpa using hp0) ?_ (.inl (PyProof.noPylong_small (by simpa using hp1))))) rfl rfl))
        refine wpAny_Constant_int (mod_int' (by decide) (PyProof.Rows.truthy_int ?_))
        have hs6 := sixI_take hi
        by_cases e : (Int.fmod (Int.fdiv n (2 ^ ((i : Int)).toNat)) 2 != 0) = true
        · rw [if_pos e]
          refine nmL ⟨S.1, S.2⟩ (by walk_at "mem") rfl ⟨_, _, _, Le.refl _, ⟨S.1, S.2⟩, rfl, rfl, ?_, by simp; omega⟩ rfl rfl
          rw [hs6, List.filter_append, fil1 (p := fun h : Int => Int.fmod (Int.fdiv n (2 ^ h.toNat)) 2 != 0) e]
          exact Mine.IntsAre.snoc hw
        · rw [if_neg e]
          refine ⟨_, _, _, Le.refl _, ⟨S.1, S.2⟩, rfl, rfl, ?_, by omega⟩
          rw [hs6, List.filter_append, fil0 (p := fun h : Int => Int.fmod (Int.fdiv n (2 ^ h.toNat)) 2 != 0) e, List.append_nil]
          exact hw
      · rintro D5 _ _ ws s hD5 ⟨rfl, rfl, hw, hwl⟩ hle6 S
        obtain ⟨g7, hle7, ⟨o7, ho7, hP7, _⟩, S7⟩ := S.1.freeze
        have S8 := S7.weaken (a := c) (P := CelP (some (.int n tn))) (P' := CelAny) (.there (.there (.there .here))) (fun o h => ⟨_, h⟩)
        refine ⟨g7, _, _, hle7, ⟨S8, S.2⟩, rfl, ?_, by simp [hul]⟩
        have hrt : (((cellsF ns).take 2).take (k + 1)).map bitsF = (((cellsF ns).take 2).take k).map bitsF ++ [bitsF n] := by
          rw [List.take_add_one, hn]; simp
        rw [hrt]
        exact Paired.snoc (paired_mono (fun _ _ x => x.le hle7) hu) ⟨D5, ws, rfl, LstP.plain ⟨o7, ho7, hP7⟩, hw⟩
    · rintro D g' _ us s hD ⟨rfl, hu, hul⟩ hle S
      have hc2 : ((cellsF ns).take 2).take (vc.take 2).length = [(cellsF ns).getD 0 0, (cellsF ns).getD 1 0] := by
        rw [hi2.length]; exact cells2 ns
      rw [hc2] at hu
      obtain ⟨u0, u1, rfl, hu0, hu1⟩ := paired_two hu
      refine assignL hA₁.hh S (LstP.plain (S.1.own (D, LstP _) (.head _)).1).isList rfl rfl (fun s S => ?_)
      refine assignInOrder_cons (wpAny_assign_Name (stC S (c := L + 1) rfl (by walk_at "at") (fun s S => ?_)))
      refine assignInOrder_cons (wpAny_assign_Name (stC S (c := L + 1 + 1) rfl (by walk_at "at") (fun s S => assignInOrder_nil ?_)))
      exact ⟨rfl, g', u0, u1, l2, hle5.trans hle, ⟨S.1.drop, S.2⟩, qc, hu0, hu1⟩
  rintro s ⟨g3, ve, vl, l3, hle3, S, qc3, he3, hl3⟩
  have w3 := w2.le hle3
  -- the swap
  refine execs_cut (fun s' => ∃ ve vl, SS s0 g3 ((L, NsL l3) :: celsP L (some ve) (some vl) none none none ((222, TabP) :: pts)) s' ∧ IsInts g3 ve (line0 ns).1 ∧ IsInts g3 vl (line0 ns).2) ?_ ?_
  · obtain ⟨ae, vse, rfl, hpe, hie⟩ := he3
    obtain ⟨al, vsl, rfl, hpl, hil⟩ := hl3
    have hle : vse.length ≤ 100 := by rw [hie.length]; have : (bitsF ((cellsF ns).getD 0 0)).length ≤ sixI.length := List.length_filter_le _ _; have h6 : sixI.length = 6 := rfl; omega
    have hll : vsl.length ≤ 100 := by rw [hil.length]; have : (bitsF ((cellsF ns).getD 1 0)).length ≤ sixI.length := List.length_filter_le _ _; have h6 : sixI.length = 6 := rfl; omega
    refine wpAny_If (wpAny_isTrue_Compare1 (Call_ (nmB (v := .builtin "len") S w3 (by kernel_rfl) boot_len ?_)))
    refine PyProof.Rows.callWith_builtin1 (args_cons ?_)
    refine nmC S (c := L + 1) rfl (by walk_at "mem") (args_nil (len_list (hpe.at (fun o e => S.1.keep _ _ e)).isList (by simp; omega) ?_))
    refine Call_ (nmB (v := .builtin "len") S w3 (by kernel_rfl) boot_len ?_)
    refine PyProof.Rows.callWith_builtin1 (args_cons ?_)
    refine nmC S (c := L + 1 + 1) rfl (by walk_at "mem") (args_nil (len_list (hpl.at (fun o e => S.1.keep _ _ e)).isList (by simp; omega) ?_))
    refine PyProof.Rows.gt_int (wpAny_truthy_bool ?_)
    have hc : (decide (((vsl.toArray.size : Nat) : Int) < ((vse.toArray.size : Nat) : Int)) = true) ↔ (bitsF ((cellsF ns).getD 1 0)).length < (bitsF ((cellsF ns).getD 0 0)).length := by
      rw [decide_eq_true_iff, List.size_toArray, List.size_toArray, hie.length, hil.length]; omega
    have hl0 : line0 ns = if (bitsF ((cellsF ns).getD 1 0)).length < (bitsF ((cellsF ns).getD 0 0)).length then (bitsF ((cellsF ns).getD 1 0), bitsF ((cellsF ns).getD 0 0)) else (bitsF ((cellsF ns).getD 0 0), bitsF ((cellsF ns).getD 1 0)) := rfl
    by_cases e : (bitsF ((cellsF ns).getD 1 0)).length < (bitsF ((cellsF ns).getD 0 0)).length
    · rw [if_pos (hc.mpr e)]
      rw [if_pos e] at hl0
      refine wpAny_execs_cons (Assign_Tuple (Tuple_ (args_cons ?_)))
      refine nmC S (c := L + 1 + 1) rfl (by walk_at "mem") (args_cons ?_)
      refine nmC S (c := L + 1) rfl (by walk_at "mem") (args_nil ?_)
      refine newT (pts := (L, NsL l3) :: celsP L (some (.ref ae)) (some (.ref al)) none none none ((222, TabP) :: pts)) ⟨S.1, S.2⟩ (fun TT s hT S => ?_)
      refine assignT hA₁.hh S (S.1.own (TT, TupP _) (.head _)).1 rfl rfl (fun s S => ?_)
      have S : SS s0 g3 ((L, NsL l3) :: celsP L (some (.ref ae)) (some (.ref al)) none none none ((222, TabP) :: pts)) s := ⟨S.1.drop, S.2⟩
      refine assignInOrder_cons (wpAny_assign_Name (stC S (c := L + 1) rfl (by walk_at "at") (fun s S => ?_)))
      refine assignInOrder_cons (wpAny_assign_Name (stC S (c := L + 1 + 1) rfl (by walk_at "at") (fun s S => assignInOrder_nil ?_)))
      exact wpAny_execs_nil ⟨rfl, .ref al, .ref ae, S, by rw [hl0]; exact ⟨al, vsl, rfl, hpl, hil⟩, by rw [hl0]; exact ⟨ae, vse, rfl, hpe, hie⟩⟩
    · rw [if_neg (fun h => e (hc.mp h))]
      rw [if_neg e] at hl0
      exact wpAny_execs_nil ⟨rfl, .ref ae, .ref al, ⟨S.1, S.2⟩, by rw [hl0]; exact ⟨ae, vse, rfl, hpe, hie⟩, by rw [hl0]; exact ⟨al, vsl, rfl, hpl, hil⟩⟩
  rintro s ⟨ve, vl, S, he, hl⟩
  -- the town
  refine execs_cut (fun s' => ∃ g' x H, Le g3 g' ∧ SS s0 g' ((L, NsL l3) :: celsP L (some ve) (some vl) (some (.ref x)) none none ((H, LstP []) :: (222, TabP) :: pts)) s' ∧ IsTown g' x H) ?_ ?_
  · refine wpAny_Assign_Name (Call_ (nmG (v := .ref 169) S w3 (by kernel_rfl) (callWith_K (K := KF w) (w3.kf.keeps S.1.keep) (by kernel_rfl) ?_)))
    refine args_cons (List_ (args_nil (newL S (fun H s hH S => args_nil ⟨w3.kf.keeps S.1.keep, ?_⟩))))
    refine newTown (hA₁.le (by decide)) S w3 (fun g4 x s hle4 S T => ?_)
    refine stC S (c := L + 1 + 1 + 1) rfl (by walk_at "at") (fun s S => ⟨rfl, g4, x, H, hle4, SS.perm S (by walk_at "perm"), T⟩)
  rintro s ⟨g4, x, H, hle4, S, T⟩
  have w4 := w3.le hle4
  have hle24 := hle3.trans hle4
  have hcell : ∀ b, b < 6 → ∃ t, vc[b]? = some (.int ((cellsF ns).getD b 0) t) := fun b hb => by
    have hv : vc[b]? = some (vc[b]'(by omega)) := List.getElem?_eq_getElem (by omega)
    obtain ⟨n, t, hn, e⟩ := ints_get hic hv
    refine ⟨t, ?_⟩
    rw [hv, e, List.getD_eq_getElem?_getD, hn]; rfl
  -- the bells
  refine execs_cut (fun s' => ∃ g' l ve vl vs vg hs, Le g4 g' ∧ SS s0 g' ((L, NsL l) :: celsP L (some ve) (some vl) (some (.ref x)) vs vg ((H, LstP hs) :: (222, TabP) :: pts)) s') ?_ ?_
  · refine forR (s0 := s0) (Call_ (nmB (v := .type "range") S w4 (by kernel_rfl) boot_range (Pv.callWith_type1 (args_cons (wpAny_Constant_int (args_nil ?_))))))
    refine callRange (L := L) (l := l3) S (by walk_at "mem") (fun r t1 u1 v1' s hr S => ?_)
    refine iterRange (n := 5) S hr (by decide) (fun I s hI S => ?_)
    refine ⟨I, g4, _, 5, _, _, _, fun j g' p => ∃ l ve vl vs vg hs, p = (L, NsL l) :: celsP L (some ve) (some vl) (some (.ref x)) vs vg ((H, LstP hs) :: (222, TabP) :: pts) ∧ Has l "cells" (.ref Dc) ∧ IsInts g' ve (preL ns j).1 ∧ IsInts g' vl (preL ns j).2 ∧ Paired (RowIs g') hs (preT ns j), rfl,
      src_range hA₁.hh I 0 5, S, ⟨_, _, _, _, _, _, rfl, qc3, he.le hle4, hl.le hle4, .nil⟩, fun _ _ _ _ _ _ _ => trivial, ?_, ?_⟩
    · rintro j g5 _ v s hj ⟨l, ve, vl, vs, vg, hs, rfl, qc, he, hl, hr⟩ ⟨tb, hv⟩ hle5 S
      rw [Int.zero_add] at hv; subst hv
      have w5 := w4.le hle5
      have hpc5 : ∀ {s : Shared} {p : List PO} {g' : Heap}, Le g5 g' → SS s0 g' p s → s.heap.IsList Dc vc.toArray := fun hle' S => (hpc.at (fun o e => S.1.keep _ _ (hle' _ _ (hle5 _ _ (hle24 _ _ e))))).isList
      refine wpAny_assign_Name (stL S (by walk_at "at") (fun s S => ?_))
      have S : SS s0 g5 (lawP I L x H j (("bell", .int j tb) :: l) ve vl vs vg hs pts) s := S
      obtain ⟨l, qc, qb, S⟩ : ∃ l', Has l' "cells" (.ref Dc) ∧ Has l' "bell" (.int j tb) ∧ SS s0 g5 (lawP I L x H j l' ve vl vs vg hs pts) s := ⟨("bell", .int j tb) :: l, qc, by rfl, S⟩
      -- the bell
      refine execs_cut (fun s' => ∃ g' ve vl vs vg hs, Le g5 g' ∧ SS s0 g' (lawP I L x H j l ve vl vs vg hs pts) s' ∧ IsInts g' ve (lineAt ns j).1 ∧ IsInts g' vl (lineAt ns j).2 ∧ Paired (RowIs g') hs (midT ns j)) ?_ ?_
      · refine wpAny_If (wpAny_isTrue_value (nmL S (by walk_at "mem") qb (PyProof.Rows.truthy_int ?_)))
        cases j with
        | zero =>
          rw [if_neg (by simp)]
          exact wpAny_execs_nil ⟨rfl, g5, ve, vl, vs, vg, hs, Le.refl _, S, he, hl, hr⟩
        | succ k =>
          rw [if_pos (by simp; omega)]
          have fk := fit k (by omega)
          obtain ⟨hh0, hh6⟩ := hourAt_lt ns (k + 1)
          obtain ⟨tc, hcx⟩ := hcell (k + 1 + 1) (by omega)
          have hidx : ((((k + 1 : Nat) : Int) + 1)).toNat = k + 1 + 1 := by omega
          refine wpAny_execs_cons (wpAny_Expr_any (Call_ (nmG (v := .ref 300) S w5 (by kernel_rfl) ?_)))
          refine cwDef w5 rfl rfl (args_cons ?_)
          refine nmC S (c := L + 1 + 1 + 1) rfl (by walk_at "mem") (args_cons ?_)
          refine wpAny_BinOp (Subscript_ (nmL S (by walk_at "mem") qc (wpAny_BinOp (nmL S (by walk_at "mem") qb (wpAny_Constant_int (add_int ?_))))))
          refine item_list (hpc5 (Le.refl _) S) (by omega) (by omega) (x := .int ((cellsF ns).getD (k + 1 + 1) 0) tc) (by rw [hidx]; simpa using hcx) ?_
          refine wpAny_Constant_int (mod_int' (by decide) (args_cons (nmL S (by walk_at "mem") qb (args_nil ⟨S.1.keep, ?_⟩))))
          have S : SS s0 g5 ((H, LstP hs) :: (I, RngQ (0 + ((k + 1 + 1 : Nat) : Int)) (((5 : Nat) : Int) - ((k + 1 + 1 : Nat) : Int)) 1) :: (L, NsL l) :: celsP L (some ve) (some vl) (some (.ref x)) vs vg ((222, TabP) :: pts)) s := SS.perm S (by walk_at "perm")
          refine town_rung_c (hA₁.le (by decide)) ⟨S.1, S.2⟩ w5 (T.le hle5) hr fk.rows fk.few fk.clean hh0 hh6 (by omega) (by omega) (fun g6 hs6 s hle6 S hr6 => ?_)
          have w6 := w5.le hle6
          refine wpAny_execs_cons (Assign_Tuple (Call_ (nmG (v := .ref 312) S w6 (by kernel_rfl) ?_)))
          refine cwDef w6 rfl rfl (args_cons ?_)
          refine nmC S (c := L + 1) rfl (by walk_at "mem") (args_cons ?_)
          refine nmC S (c := L + 1 + 1) rfl (by walk_at "mem") (args_cons ?_)
          refine wpAny_BinOp (Subscript_ (nmL S (by walk_at "mem") qc (wpAny_BinOp (nmL S (by walk_at "mem") qb (wpAny_Constant_int (add_int ?_))))))
          refine item_list (hpc5 hle6 S) (by omega) (by omega) (x := .int ((cellsF ns).getD (k + 1 + 1) 0) tc) (by rw [hidx]; simpa using hcx) ?_
          refine wpAny_Constant_int (mod_int' (by decide) (args_nil ⟨S.1.keep, ?_⟩))
          refine lines_c (hA₁.le (by decide)) ⟨S.1, S.2⟩ w6 (he.le hle6) (hl.le hle6) fk.le fk.ll hh0 hh6 (fun g7 TT r1 r2 s hle7 S hT h1 h2 => ?_)
          refine assignT hA₁.hh S (let ⟨o, ho, hP⟩ := hT; ⟨o, S.1.keep _ _ ho, hP⟩) rfl rfl (fun s S => ?_)
          refine assignInOrder_cons (wpAny_assign_Name (stC S (c := L + 1) rfl (by walk_at "at") (fun s S => ?_)))
          refine assignInOrder_cons (wpAny_assign_Name (stC S (c := L + 1 + 1) rfl (by walk_at "at") (fun s S => assignInOrder_nil ?_)))
          exact wpAny_execs_nil ⟨rfl, g7, r1, r2, vs, vg, hs6, hle6.trans hle7, SS.perm S (by walk_at "perm"), h1, h2, paired_mono (fun _ _ x => x.le hle7) hr6⟩
      rintro s ⟨g6, ve, vl, vs, vg, hs, hle6, S, he, hl, hr⟩
      have w6 := w5.le hle6
      have fj := fit j (by omega)
      have aj := ask j (by omega)
      have hle56 := hle6
      generalize hEL : (lineAt ns j).1 = e at he fj aj
      generalize hLL : (lineAt ns j).2 = ln at hl fj aj
      -- sums
      refine execs_cut (fun s' => ∃ g' Ds, Le g6 g' ∧ SS s0 g' (lawP I L x H j l ve vl (some (.ref Ds)) vg hs pts) s' ∧ IsIntss g' (.ref Ds) (sumsL e ln)) ?_ ?_
      · refine wpAny_Assign_Name (compR (s0 := s0) rfl (by decide) rfl (by decide) ?_)
        refine Call_ (nmB (v := .type "range") S w6 (by kernel_rfl) boot_range (Pv.callWith_type1 (args_cons (wpAny_Constant_int (args_nil ?_)))))
        refine callRange (L := L) (l := l) S (by walk_at "mem") (fun r t1 u1 v1' s hr S => ?_)
        refine iterRange (n := 6) S hr (by decide) (fun I6 s hI6 S => ?_)
        refine ⟨I6, g6, _, 6, _, _, _, fun k g' p us => p = lawP I L x H j l ve vl vs vg hs pts ∧ Paired (IsInts g') us ((sixI.take k).map fun h => sumS e ln h 6) ∧ us.length = k, rfl,
          src_range hA₁.hh I6 0 6, by rw [sizeLine_eq]; omega, S, ⟨rfl, .nil, rfl⟩, fun k g' p us h => (by omega), fun _ _ _ _ _ _ _ _ => trivial, fun C D => ?_, ?_⟩
        · rintro k g' _ us l' v s hk ⟨rfl, hu, hul⟩ ⟨t3, hv⟩ hle S
          rw [Int.zero_add] at hv; subst hv
          refine wpAny_assign_Name (stL S (by walk_at "at") (fun s S => ?_) rfl rfl)
          refine wpAny_tests_nil ?_
          rw [if_pos rfl]
          refine Call_ (nmG (v := .ref 281) S (w6.le hle) (by kernel_rfl) ?_ rfl rfl rfl)
          refine cwDef (w6.le hle) rfl rfl (args_cons ?_)
          refine nmC S (c := L + 1) rfl (by walk_at "mem") (args_cons ?_) rfl rfl
          refine nmC S (c := L + 1 + 1) rfl (by walk_at "mem") (args_cons ?_) rfl rfl
          refine nmL S (by walk_at "mem") rfl (args_nil ⟨S.1.keep, ?_⟩) rfl rfl
          refine sums_c (hA₁.le (by decide)) S (w6.le hle) (he.le hle) (hl.le hle) (fun g7 v s hle7 S hv => ?_)
          refine ⟨g7, _, _, hle7, S, rfl, ?_, by simp [hul]⟩
          rw [sixI_take hk, List.map_append]
          exact Paired.snoc (paired_mono (fun _ _ x => x.le hle7) hu) hv
        · rintro D g' _ us s hD ⟨rfl, hu, hul⟩ hle S
          obtain ⟨g7, hle7, ⟨o, ho, hP, _⟩, S7⟩ := S.1.freeze
          have S : SS s0 g7 _ s := ⟨S7, S.2⟩
          exact stC S (c := L + 1 + 1 + 1 + 1) rfl (by walk_at "at") (fun s S => ⟨rfl, g7, D, hle.trans hle7, S, D, us, rfl, LstP.plain ⟨o, ho, hP⟩, paired_mono (fun _ _ x => x.le hle7) hu⟩)
      rintro s ⟨g7, Ds, hle7, S, hss⟩
      have w7 := w6.le hle7
      obtain ⟨_, vss, hDs, hps, his⟩ := hss
      cases hDs
      have hsl : vss.length = 6 := by rw [his.length]; rfl
      -- start
      obtain ⟨st, rst, hst, hst0, hst6⟩ := aj.start
      have hsF : startF e ln = st := by unfold startF; rw [hst]; rfl
      refine execs_cut (fun s' => ∃ ts, SS s0 g7 (lawP I L x H j (("start", .int st ts) :: l) ve vl (some (.ref Ds)) vg hs pts) s') ?_ ?_
      · refine wpAny_Assign_Name (Subscript_ (compR (s0 := s0) rfl (by decide) rfl (by decide) ?_))
        refine Call_ (nmB (v := .type "range") S w7 (by kernel_rfl) boot_range (Pv.callWith_type1 (args_cons (wpAny_Constant_int (args_nil ?_)))))
        refine callRange (L := L) (l := l) S (by walk_at "mem") (fun r t1 u1 v1' s hr S => ?_)
        refine iterRange (n := 6) S hr (by decide) (fun I6 s hI6 S => ?_)
        refine ⟨I6, g7, _, 6, _, _, _, fun k g' p us => g' = g7 ∧ p = lawP I L x H j l ve vl (some (.ref Ds)) vg hs pts ∧ IntsAre us ((sixI.take k).filter fun h => decide (maxI (behind (sumsL e ln) h) ≤ 0)) ∧ us.length ≤ k, rfl,
          src_range hA₁.hh I6 0 6, by rw [sizeLine_eq]; omega, S, ⟨rfl, rfl, .nil, Nat.le_refl _⟩, fun k g' p us h => h.2.2.2, fun _ _ _ _ _ _ _ _ => trivial, fun C D => ?_, ?_⟩
        · rintro k _ _ us l' v s hk ⟨rfl, rfl, hu, hul⟩ ⟨t3, hv⟩ _ S
          rw [Int.zero_add] at hv; subst hv
          refine wpAny_assign_Name (stL S (by walk_at "at") (fun s S => ?_) rfl rfl)
          refine wpAny_tests_one (wpAny_isTrue_Compare1 (Call_ (nmB (v := .builtin "max") S w7 (by kernel_rfl) PyProof.Rows.boot_max ?_ (by decide) rfl rfl rfl rfl)))
          refine PyProof.Rows.callWith_builtin1 (args_cons (Subscript_ ?_))
          refine nmC S (c := L + 1 + 1 + 1 + 1) rfl (by walk_at "mem") (wpAny_BinOp ?_) rfl rfl
          refine nmL S (by walk_at "mem") rfl (wpAny_Constant_int (sub_int ?_)) rfl rfl
          have hl7 := (hps.at (h' := s.heap) (fun o e => S.1.keep _ _ e)).isList
          have hnl : (sumsL e ln).length = 6 := rfl
          obtain ⟨am, ham, hne, hidx⟩ := behind_at his hsl hk (behind_ne e ln hk)
          refine tail_any hl7.typeIs slot_list_getitem.lookup (behind_get hl7 hsl hk hidx ?_) (by with_unfolding_all rfl)
          obtain ⟨aa, vaa, rfl, hpa, hia⟩ := ham
          refine args_nil (maxL hA₁.hh (s0 := s0) (pts := _) ⟨S.1, S.2⟩ (hpa.at (fun o e => S.1.keep _ _ e)).isList hia hne (fun t5 s S => ?_))
          refine wpAny_Constant_int (PyProof.Rows.le_int (wpAny_truthy_bool ?_))
          have hs6 := sixI_take hk
          by_cases c : (decide (maxI (behind (sumsL e ln) (k : Int)) ≤ 0)) = true
          · rw [if_pos c]
            refine nmL ⟨S.1, S.2⟩ (by walk_at "mem") rfl ⟨_, _, _, Le.refl _, ⟨S.1, S.2⟩, rfl, rfl, ?_, by simp; omega⟩ rfl rfl
            rw [hs6, List.filter_append, fil1 (p := fun h : Int => decide (maxI (behind (sumsL e ln) h) ≤ 0)) c]
            exact Mine.IntsAre.snoc hu
          · rw [if_neg c]
            refine ⟨_, _, _, Le.refl _, ⟨S.1, S.2⟩, rfl, rfl, ?_, by omega⟩
            rw [hs6, List.filter_append, fil0 (p := fun h : Int => decide (maxI (behind (sumsL e ln) h) ≤ 0)) c, List.append_nil]
            exact hu
        · rintro D _ _ us s hD ⟨rfl, rfl, hu, hul⟩ hle S
          have hu' : IntsAre us (st :: rst) := by rw [← hst]; exact hu
          cases hu' with
          | cons _ tst hrest =>
            refine wpAny_Constant_int ?_
            have hlD := (LstP.plain (S.1.own (D, LstP _) (.head _)).1).isList
            refine tail_any hlD.typeIs slot_list_getitem.lookup (wpAny_getItem_list hlD (by omega) (by omega) rfl ?_) (by with_unfolding_all rfl)
            have S : SS s0 _ (lawP I L x H j l ve vl (some (.ref Ds)) vg hs pts) s := ⟨S.1.drop, S.2⟩
            exact stL (x := "start") ⟨S.1, S.2⟩ (by walk_at "at") (fun s S => ⟨rfl, tst, S⟩)
      rintro s ⟨ts, S⟩
      have mL : BM g7 := M.le (hle1.trans (hle2.trans (hle3.trans (hle4.trans (hle5.trans (hle6.trans hle7))))))
      -- gone
      refine execs_cut (fun s' => ∃ g' Dg, Le g7 g' ∧ SS s0 g' (lawP I L x H j (("start", .int st ts) :: l) ve vl (some (.ref Ds)) (some (.ref Dg)) hs pts) s' ∧ IsRows g' (.ref Dg) (goneF e ln)) ?_ ?_
      · refine wpAny_Assign_Name (Call_ (nmG (v := .ref 286) S w7 (by kernel_rfl) ?_))
        refine cwDef w7 rfl rfl (args_cons ?_)
        refine nmC S (c := L + 1) rfl (by walk_at "mem") (args_cons ?_)
        refine nmC S (c := L + 1 + 1) rfl (by walk_at "mem") (args_cons ?_)
        refine nmL S (by walk_at "mem") rfl (args_nil ⟨S.1.keep, ?_⟩)
        have S : SS s0 g7 ((222, TabP) :: (I, RngQ (0 + ((j + 1 : Nat) : Int)) (((5 : Nat) : Int) - ((j + 1 : Nat) : Int)) 1) :: (L, NsL (("start", .int st ts) :: l)) :: celsP L (some ve) (some vl) (some (.ref x)) (some (.ref Ds)) vg ((H, LstP hs) :: pts)) s := SS.perm S (by walk_at "perm")
        refine run_c (hA₁.le (by decide)) S w7 mL (he.le hle7) (hl.le hle7) (fun g8 v s hle8 S hv => ?_)
        obtain ⟨Dg, vgs, rfl, hpg, hig⟩ := hv
        refine stC S (c := L + 1 + 1 + 1 + 1 + 1) rfl (by walk_at "at") (fun s S => ⟨rfl, g8, Dg, hle8, SS.perm S (by walk_at "perm"), Dg, vgs, rfl, hpg, ?_⟩)
        unfold goneF
        rw [hsF]
        exact hig
      rintro s ⟨g8, Dg, hle8, S, hgone⟩
      have w8 := w7.le hle8
      obtain ⟨_, vgs, hDg, hpg, hig⟩ := hgone
      cases hDg
      have hrows := runF_rows e ln (startF e ln) 6 (by decide)
      have hrl : (goneF e ln).length ≤ 6 := runF_len e ln (startF e ln) 6
      change ∀ r ∈ goneF e ln, RowFit r at hrows
      have hgl : vgs.length ≤ 6 := by rw [hig.length]; exact hrl
      have hlg : ∀ {s : Shared} {p : List PO} {g' : Heap}, Le g8 g' → SS s0 g' p s → s.heap.IsList Dg vgs.toArray := fun hle' S => (hpg.at (fun o e => S.1.keep _ _ (hle' _ _ e))).isList
      have T8 : IsTown g8 x H := T.le (hle5.trans (hle6.trans (hle7.trans hle8)))
      obtain ⟨l8, qc8, qb8, qs8, S⟩ : ∃ l', Has l' "cells" (.ref Dc) ∧ Has l' "bell" (.int j tb) ∧ Has l' "start" (.int st ts) ∧ SS s0 g8 (lawP I L x H j l' ve vl (some (.ref Ds)) (some (.ref Dg)) hs pts) s := ⟨("start", .int st ts) :: l, qc, qb, by rfl, S⟩
      -- the table
      refine execs_cut (fun s' => ∃ g' hs l', Le g8 g' ∧ SS s0 g' (lawP I L x H j l' ve vl (some (.ref Ds)) (some (.ref Dg)) hs pts) s' ∧ Has l' "cells" (.ref Dc) ∧ Has l' "bell" (.int j tb) ∧ Has l' "start" (.int st ts) ∧ Paired (RowIs g') hs (townAt ns j)) ?_ ?_
      · refine wpAny_If (wpAny_isTrue_Compare1 (nmL S (by walk_at "mem") qb8 (wpAny_Constant_int (eq_int (wpAny_truthy_bool ?_)))))
        cases j with
        | succ k =>
          rw [if_neg (by simp; omega)]
          exact wpAny_execs_nil ⟨rfl, g8, hs, l8, Le.refl _, ⟨S.1, S.2⟩, qc8, qb8, qs8, paired_mono (fun _ _ x => x.le (hle7.trans hle8)) hr⟩
        | zero =>
          rw [if_pos (by simp)]
          have htn : townAt ns 0 = townF (goneF e ln) := by rw [← hEL, ← hLL]; rfl
          rw [htn]
          cases hr
          refine wpAny_execs_cons (forR (s0 := s0) ?_)
          refine nmC S (c := L + 1 + 1 + 1 + 1 + 1) rfl (by walk_at "mem") ?_
          refine iterList S (hlg (Le.refl _) S) (fun I2 s hI2 S => ?_)
          refine ⟨I2, g8, _, vgs.length, _, _, _, fun k g' p => ∃ l' hs, p = lawP I L x H 0 l' ve vl (some (.ref Ds)) (some (.ref Dg)) hs pts ∧ Has l' "cells" (.ref Dc) ∧ Has l' "bell" (.int (0 : Nat) tb) ∧ Has l' "start" (.int st ts) ∧ Paired (RowIs g') hs (townF ((goneF e ln).take k)), rfl,
            src_list hA₁.hh I2 Dg vgs, S, ⟨l8, [], rfl, qc8, qb8, qs8, .nil⟩, fun k g' p h hJ hle S => (hpg.at (fun o e => S.keep _ _ (hle _ _ e))).isList, ?_, ?_⟩
          · rintro k g' _ v s hk ⟨l', hs, rfl, r1, r2, r3, hr⟩ hv hle S
            have w9 := w8.le hle
            obtain ⟨r, hri, TT, t1, t2, rfl, o, ho, hP⟩ := paired_get' hig hv
            have hrf := hrows r (List.mem_of_getElem? hri)
            refine assignT hA₁.hh S ⟨o, S.1.keep _ _ (hle _ _ ho), hP⟩ rfl rfl (fun s S => ?_)
            refine assignInOrder_cons (wpAny_assign_Name (stL S (by walk_at "at") (fun s S => ?_)))
            refine assignInOrder_cons (wpAny_assign_Name (stL S (by walk_at "at") (fun s S => assignInOrder_nil ?_)))
            refine wpAny_execs_cons (wpAny_Expr_any (MethodCall_ ?_))
            refine nmC S (c := L + 1 + 1 + 1) rfl (by walk_at "mem") (mthT S w9 (T8.le hle) (f := 159) (by kernel_rfl) (by kernel_rfl) ?_)
            refine callWith_K (K := KF w) (w9.kf.keeps S.1.keep) (by kernel_rfl) (args_cons (nmL S (by walk_at "mem") rfl (args_cons (Subscript_ (nmL S (by walk_at "mem") rfl (wpAny_Slice (wpAny_pure ?_)))))))
            rw [evalPart_some]
            refine wpAny_Constant_int (wpAny_pure ?_)
            refine slice_to (pts := (I2, LitP Dg (k + 1)) :: lawP I L x H 0 (("row", .str r.2 t2) :: ("name", .str r.1 t1) :: l') ve vl (some (.ref Ds)) (some (.ref Dg)) hs pts) ⟨S.1, S.2⟩ (fun t3 s S => args_nil ⟨w9.kf.keeps S.1.keep, ?_⟩) (by have := hrf.short; omega)
            have S : SS s0 g' ((H, LstP hs) :: (I2, LitP Dg (k + 1)) :: (I, RngQ (0 + ((0 + 1 : Nat) : Int)) (((5 : Nat) : Int) - ((0 + 1 : Nat) : Int)) 1) :: (L, NsL (("row", .str r.2 t2) :: ("name", .str r.1 t1) :: l')) :: celsP L (some ve) (some vl) (some (.ref x)) (some (.ref Ds)) (some (.ref Dg)) ((222, TabP) :: pts)) s := SS.perm S (by walk_at "perm")
            have htk : (goneF e ln).take (k + 1) = (goneF e ln).take k ++ [r] := by rw [List.take_add_one, hri]; rfl
            refine setdefault_c (hA₁.le (by decide)) S w9 (T8.le hle) hr (townF_ok hrows k (by omega)) hrf.low hrf.firstClean (fun g9 hs9 r9 s hle9 S hr9 => ?_)
            refine wpAny_execs_nil ⟨g9, lawP I L x H 0 (("row", .str r.2 t2) :: ("name", .str r.1 t1) :: l') ve vl (some (.ref Ds)) (some (.ref Dg)) hs9 pts, hle9, SS.perm S (by walk_at "perm"), _, hs9, rfl, r1, r2, r3, ?_⟩
            rw [htk, townF_snoc]
            exact hr9
          · rintro g' _ s ⟨l', hs, rfl, r1, r2, r3, hr⟩ hle S
            have htk : (goneF e ln).take vgs.length = goneF e ln := List.take_of_length_le (by rw [hig.length]; exact Nat.le_refl _)
            rw [htk] at hr
            exact wpAny_execs_nil ⟨rfl, g', hs, l', hle, S, r1, r2, r3, hr⟩
      rintro s ⟨g9, hs, l9, hle9, S, qc9, qb9, qs9, hr⟩
      have w9 := w8.le hle9
      have T9 : IsTown g9 x H := T8.le hle9
      have hig9 : Paired (RowIs g9) vgs (goneF e ln) := paired_mono (fun _ _ x => x.le hle9) hig
      have hlg9 : ∀ {s : Shared} {p : List PO} {g' : Heap}, Le g9 g' → SS s0 g' p s → s.heap.IsList Dg vgs.toArray := fun hle' S => hlg (hle9.trans hle') S
      -- kinds
      refine execs_cut (fun s' => ∃ g' Dk vk l', Le g9 g' ∧ SS s0 g' (lawP I L x H j l' ve vl (some (.ref Ds)) (some (.ref Dg)) hs pts) s' ∧ Has l' "cells" (.ref Dc) ∧ Has l' "start" (.int st ts) ∧ Has l' "kinds" (.ref Dk) ∧ g'.PlainList Dk vk.toArray ∧
        Paired (IsStrs g') vk ((List.range 6).map fun i => kindF (goneF e ln) ⟨#[abc.cps.getD i 0]⟩)) ?_ ?_
      · refine compCA (s0 := s0) rfl rfl rfl rfl rfl (by decide) rfl rfl ?_
        refine wpAny_Constant_str ?_
        refine iterStr (pts := lawP I L x H j l9 ve vl (some (.ref Ds)) (some (.ref Dg)) hs pts) ⟨S.1, S.2⟩ (by decide +kernel) (fun I2 s hI2 S => ?_)
        refine ⟨I2, g9, _, abc.cps.size, _, _, _, fun k g' p us => p = lawP I L x H j l9 ve vl (some (.ref Ds)) (some (.ref Dg)) hs pts ∧ Paired (IsStrs g') us ((List.range k).map fun i => kindF (goneF e ln) ⟨#[abc.cps.getD i 0]⟩) ∧ us.length = k, rfl,
          src_str hA₁.hh I2 abc _, by rw [sizeLine_eq]; decide +kernel, S, ⟨rfl, .nil, rfl⟩, fun k g' p us h => (by omega), fun _ _ _ _ _ _ _ _ _ => trivial, fun C c D => ?_, ?_⟩
        · rintro k g' _ us l' v s hk ⟨rfl, hu, hul⟩ ⟨ch, tu, hch, rfl⟩ hle S
          have w10 := w9.le hle
          refine wpAny_assign_Name (stCA S (c := c) rfl (.there (.there (.there .here))) (fun s S => ?_) rfl rfl)
          refine wpAny_tests_nil ?_
          rw [if_pos rfl]
          refine compR (s0 := s0) rfl (by decide) rfl (by decide) ?_
          refine nmC S (c := L + 1 + 1 + 1 + 1 + 1) rfl (by walk_at "mem") ?_ rfl rfl
          refine iterList S (hlg9 hle S) (fun I3 s hI3 S => ?_)
          refine ⟨I3, g', _, vgs.length, _, _, _, fun i g'' p ws => g'' = g' ∧ p = (C, NsL l') :: (D, LstP us) :: (I2, StitP abc _ (k + 1)) :: (c, CelP (some (.str ⟨#[ch]⟩ tu))) :: lawP I L x H j l9 ve vl (some (.ref Ds)) (some (.ref Dg)) hs pts ∧
            StrsAre ws (kindF ((goneF e ln).take i) ⟨#[ch]⟩) ∧ ws.length ≤ i, rfl,
            src_list hA₁.hh I3 Dg vgs, by rw [sizeLine_eq]; omega, S, ⟨rfl, rfl, .nil, Nat.le_refl _⟩, fun i g' p us h => h.2.2.2, fun i g'' p us h hJ hle' S => ?_, fun C2 D5 => ?_, ?_⟩
          · have := hJ.1
            exact (hpg.at (fun o e => S.keep _ _ (hle' _ _ (hle _ _ (hle9 _ _ e))))).isList
          · rintro i _ _ ws l3 v s hi ⟨rfl, rfl, hw, hwl⟩ hv _ S
            obtain ⟨r, hri, TT, t1, t2, rfl, o, ho, hP⟩ := paired_get' hig9 hv
            have hrf := hrows r (List.mem_of_getElem? hri)
            refine assignT hA₁.hh S ⟨o, S.1.keep _ _ (hle _ _ ho), hP⟩ rfl rfl (fun s S => ?_)
            refine assignInOrder_cons (wpAny_assign_Name (stL S (by walk_at "at") (fun s S => ?_) rfl rfl))
            refine assignInOrder_cons (wpAny_assign_Name (stL S (by walk_at "at") (fun s S => assignInOrder_nil ?_) rfl rfl))
            refine wpAny_tests_one (wpAny_isTrue_Compare1 (nmL S (by walk_at "mem") rfl ?_ rfl rfl))
            refine nmC S (c := c) rfl (by walk_at "mem") (PyProof.Rows.eq_str (wpAny_truthy_bool ?_)) rfl rfl
            have htk : (goneF e ln).take (i + 1) = (goneF e ln).take i ++ [r] := by rw [List.take_add_one, hri]; rfl
            have hkf : kindF ((goneF e ln).take (i + 1)) ⟨#[ch]⟩ = kindF ((goneF e ln).take i) ⟨#[ch]⟩ ++ (if (r.1 == (⟨#[ch]⟩ : Str)) = true then [firstF r.2] else []) := by
              rw [htk]; unfold kindF
              rw [List.filter_append, List.map_append]
              congr 1
              split
              · rename_i c; rw [fil1 (p := fun r : Str × Str => r.1 == (⟨#[ch]⟩ : Str)) c]; rfl
              · rename_i c; rw [fil0 (p := fun r : Str × Str => r.1 == (⟨#[ch]⟩ : Str)) c]; rfl
            by_cases c3 : (r.1 == (⟨#[ch]⟩ : Str)) = true
            · rw [if_pos c3]
              rw [if_pos c3] at hkf
              refine Subscript_ (nmL S (by walk_at "mem") rfl (wpAny_Slice (wpAny_pure ?_)) rfl rfl)
              rw [evalPart_some]
              refine wpAny_Constant_int (wpAny_pure ?_)
              refine slice_to (s0 := s0) ⟨S.1, S.2⟩ (fun t3 s S => ?_) (by have := hrf.short; omega)
              refine ⟨_, _, _, Le.refl _, ⟨S.1, S.2⟩, rfl, rfl, ?_, by simp; omega⟩
              rw [hkf]
              exact strs_snoc hw
            · rw [if_neg c3]
              rw [if_neg c3, List.append_nil] at hkf
              refine ⟨_, _, _, Le.refl _, ⟨S.1, S.2⟩, rfl, rfl, ?_, by omega⟩
              rw [hkf]; exact hw
          · rintro D5 _ _ ws s hD5 ⟨rfl, rfl, hw, hwl⟩ hle6 S
            obtain ⟨g12, hle12, ⟨o7, ho7, hP7, _⟩, S7⟩ := S.1.freeze
            have S8 := S7.weaken (a := c) (P := CelP (some (.str ⟨#[ch]⟩ tu))) (P' := CelAny) (.there (.there (.there .here))) (fun o h => ⟨_, h⟩)
            refine ⟨g12, _, _, hle12, ⟨S8, S.2⟩, rfl, ?_, by simp [hul]⟩
            rw [List.range_succ, List.map_append]
            have htk : (goneF e ln).take vgs.length = goneF e ln := List.take_of_length_le (by rw [hig.length]; exact Nat.le_refl _)
            rw [htk] at hw
            have hce : ch = abc.cps.getD k 0 := by rw [Array.getD_eq_getD_getElem?, hch]; rfl
            refine Paired.snoc (paired_mono (fun _ _ x => x.le hle12) hu) ⟨D5, ws, rfl, LstP.plain ⟨o7, ho7, hP7⟩, ?_⟩
            show StrsAre ws (kindF (goneF e ln) ⟨#[abc.cps.getD k 0]⟩)
            rw [← hce]; exact hw
        · rintro D g' _ us hD ⟨rfl, hu, hul⟩ hle
          refine ⟨_, _, .there .here, fun s S => ?_⟩
          obtain ⟨g12, hle12, ⟨o7, ho7, hP7, _⟩, S7⟩ := S.1.freeze
          exact ⟨rfl, g12, D, us, _, hle.trans hle12, ⟨S7, S.2⟩, qc9, qs9, by rfl, LstP.plain ⟨o7, ho7, hP7⟩, paired_mono (fun _ _ x => x.le hle12) hu⟩
      rintro s ⟨g10, Dk, vk, l10, hle10, S, qc10, qs10, qk10, hpk, hik⟩
      have w10 := w9.le hle10
      have T10 : IsTown g10 x H := T9.le hle10
      have hr10 := paired_mono (fun _ _ x => x.le hle10) hr
      -- the table is asked
      refine execs_cut (fun s' => ∃ g', Le g10 g' ∧ SS s0 g' (lawP I L x H j l10 ve vl (some (.ref Ds)) (some (.ref Dg)) hs pts) s') ?_ ?_
      · refine wpAny_If (wpAny_isTrue_Compare1 (compR (s0 := s0) rfl (by decide) rfl (by decide) ?_))
        refine wpAny_Constant_str ?_
        refine iterStr (pts := lawP I L x H j l10 ve vl (some (.ref Ds)) (some (.ref Dg)) hs pts) ⟨S.1, S.2⟩ (by decide +kernel) (fun I2 s hI2 S => ?_)
        refine ⟨I2, g10, _, mixS.cps.size, _, _, _, fun k g' p us => p = lawP I L x H j l10 ve vl (some (.ref Ds)) (some (.ref Dg)) hs pts ∧ Paired (IsStrs g') us ((List.range k).map fun i => getAllF (townAt ns j) ⟨#[mixS.cps.getD i 0]⟩) ∧ us.length = k, rfl,
          src_str hA₁.hh I2 mixS _, by rw [sizeLine_eq]; decide +kernel, S, ⟨rfl, .nil, rfl⟩, fun k g' p us h => (by omega), fun _ _ _ _ _ _ _ _ => trivial, fun C D => ?_, ?_⟩
        · rintro k g' _ us l' v s hk ⟨rfl, hu, hul⟩ ⟨ch, tu, hch, rfl⟩ hle S
          have w11 := w10.le hle
          refine wpAny_assign_Name (stL S (by walk_at "at") (fun s S => ?_) rfl rfl)
          refine wpAny_tests_nil ?_
          rw [if_pos rfl]
          have hce : ch = mixS.cps.getD k 0 := by rw [Array.getD_eq_getD_getElem?, hch]; rfl
          refine MethodCall_ (nmC S (c := L + 1 + 1 + 1) rfl (by walk_at "mem") (mthT S w11 (T10.le hle) (f := 108) (by kernel_rfl) (by kernel_rfl) ?_) rfl rfl)
          refine callWith_K (K := KF w) (w11.kf.keeps S.1.keep) (by kernel_rfl) (args_cons (nmL S (by walk_at "mem") rfl (args_nil ⟨w11.kf.keeps S.1.keep, ?_⟩) rfl rfl))
          refine get_all_c (hA₁.le (by decide)) S (H := H) (vs := hs) (by walk_at "mem") w11 (T10.le hle) (paired_mono (fun _ _ x => x.le hle) hr10) fj.rows (by rw [hce]; exact mix_low (by simpa using hk)) (fun g12 v s hle12 S hv => ?_)
          refine ⟨g12, _, _, hle12, S, rfl, ?_, by simp [hul]⟩
          rw [List.range_succ, List.map_append]
          refine Paired.snoc (paired_mono (fun _ _ x => x.le hle12) hu) ?_
          show IsStrs g12 v (getAllF (townAt ns j) ⟨#[mixS.cps.getD k 0]⟩)
          rw [← hce]; exact hv
        · rintro D g' _ us s hD ⟨rfl, hu, hul⟩ hle S
          obtain ⟨g12, hle12, ⟨o7, ho7, hP7, _⟩, S7⟩ := S.1.freeze
          have S : SS s0 g12 (lawP I L x H j l10 ve vl (some (.ref Ds)) (some (.ref Dg)) hs pts) s := ⟨S7, S.2⟩
          refine nmL S (by walk_at "mem") qk10 ?_
          have hmx : mixS.cps.size = 6 := by decide +kernel
          rw [hmx] at hu
          have heq : ((List.range 6).map fun i => getAllF (townAt ns j) ⟨#[mixS.cps.getD i 0]⟩) = ((List.range 6).map fun i => kindF (goneF e ln) ⟨#[abc.cps.getD i 0]⟩) :=
            List.map_congr_left fun i hi => aj.kinds i (List.mem_range.mp hi)
          rw [heq] at hu
          obtain ⟨as1, ra1⟩ := reads_strss (LstP.plain ⟨o7, S.1.keep _ _ ho7, hP7⟩) (paired_mono (fun _ _ x => x.le (hle12.trans S.1.keep)) hu)
          obtain ⟨as2, ra2⟩ := reads_strss (hpk.at (fun o e => S.1.keep _ _ (hle12 _ _ (hle _ _ e)))) (paired_mono (fun _ _ x => x.le ((hle.trans hle12).trans S.1.keep)) hik)
          have hcan := can_strss (yss := ((List.range 6).map fun i => kindF (goneF e ln) ⟨#[abc.cps.getD i 0]⟩)) (fun ys hys y hy => by
            obtain ⟨i, _, rfl⟩ := List.mem_map.mp hys
            unfold kindF at hy
            obtain ⟨r, hr, rfl⟩ := List.mem_map.mp hy
            exact (hrows r (List.mem_filter.mp hr).1).firstOk)
          refine SeqAt.compareNe_reads ra1 ra2 hcan hcan (by have := depth_strss ((List.range 6).map fun i => kindF (goneF e ln) ⟨#[abc.cps.getD i 0]⟩); have := hA₁.cl; omega) ?_
          rw [SeqAt.eqv_refl _ hcan]
          refine wpAny_truthy_bool ?_
          rw [if_neg (by decide)]
          exact wpAny_execs_nil ⟨rfl, g12, hle.trans hle12, S⟩
      rintro s ⟨g11, hle11, S⟩
      have w11 := w10.le hle11
      have hig11 : Paired (RowIs g11) vgs (goneF e ln) := paired_mono (fun _ _ x => x.le (hle10.trans hle11)) hig9
      have hlg11 : ∀ {s : Shared} {p : List PO} {g' : Heap}, Le g11 g' → SS s0 g' p s → s.heap.IsList Dg vgs.toArray := fun hle' S => hlg9 (hle10.trans (hle11.trans hle')) S
      -- waits
      refine execs_cut (fun s' => ∃ g' Dw vw l', Le g11 g' ∧ SS s0 g' (lawP I L x H j l' ve vl (some (.ref Ds)) (some (.ref Dg)) hs pts) s' ∧ Has l' "cells" (.ref Dc) ∧ Has l' "start" (.int st ts) ∧ Has l' "waits" (.ref Dw) ∧ g'.PlainList Dw vw.toArray ∧ IntsAre vw (waitsF (goneF e ln))) ?_ ?_
      · refine compA (s0 := s0) rfl (by decide) rfl (by decide) rfl rfl ?_
        refine nmC S (c := L + 1 + 1 + 1 + 1 + 1) rfl (by walk_at "mem") ?_
        refine iterList S (hlg11 (Le.refl _) S) (fun I3 s hI3 S => ?_)
        refine ⟨I3, g11, _, vgs.length, _, _, _, fun i g'' p ws => g'' = g11 ∧ p = lawP I L x H j l10 ve vl (some (.ref Ds)) (some (.ref Dg)) hs pts ∧ IntsAre ws (waitsF ((goneF e ln).take i)) ∧ ws.length ≤ i, rfl,
          src_list hA₁.hh I3 Dg vgs, by rw [sizeLine_eq]; omega, S, ⟨rfl, rfl, .nil, Nat.le_refl _⟩, fun i g' p us h => h.2.2.2, fun i g'' p us h hJ hle' S => ?_, fun C2 D5 => ?_, ?_⟩
        · exact (hpg.at (fun o e => S.keep _ _ (hle' _ _ (hle11 _ _ (hle10 _ _ (hle9 _ _ e)))))).isList
        · rintro i _ _ ws l3 v s hi ⟨rfl, rfl, hw, hwl⟩ hv _ S
          obtain ⟨r, hri, TT, t1, t2, rfl, o, ho, hP⟩ := paired_get' hig11 hv
          have hrf := hrows r (List.mem_of_getElem? hri)
          refine assignT hA₁.hh S ⟨o, S.1.keep _ _ ho, hP⟩ rfl rfl (fun s S => ?_)
          refine assignInOrder_cons (wpAny_assign_Name (stL S (by walk_at "at") (fun s S => ?_) rfl rfl))
          refine assignInOrder_cons (wpAny_assign_Name (stL S (by walk_at "at") (fun s S => assignInOrder_nil ?_) rfl rfl))
          have hshort := hrf.short
          refine wpAny_tests_one (wpAny_isTrue_value (nmL S (by walk_at "mem") rfl (P.truthy_str (by omega) ?_) rfl rfl))
          have htk : (goneF e ln).take (i + 1) = (goneF e ln).take i ++ [r] := by rw [List.take_add_one, hri]; rfl
          have hkf : waitsF ((goneF e ln).take (i + 1)) = waitsF ((goneF e ln).take i) ++ (if ((r.2.length : Int) != 0) = true then [(Txt.count r.2 dotS : Int) - 1] else []) := by
            rw [htk]; unfold waitsF
            rw [List.filter_append, List.map_append]
            congr 1
            split
            · rename_i c; rw [fil1 (p := fun r : Str × Str => (r.2.length : Int) != 0) c]; rfl
            · rename_i c; rw [fil0 (p := fun r : Str × Str => (r.2.length : Int) != 0) c]; rfl
          by_cases c3 : ((r.2.length : Int) != 0) = true
          · rw [if_pos c3]
            rw [if_pos c3] at hkf
            refine wpAny_BinOp (mth1 F.plainAttrs_str F.slot_str_count F.type_str_count (nmL ⟨S.1, S.2⟩ (by walk_at "mem") rfl ⟨typeIs_str _ _ _, fun a e => (by cases e), args_cons (wpAny_Constant_str (args_nil ?_))⟩ rfl rfl))
            refine SC.count (wpAny_Constant_int (sub_int ?_))
            refine ⟨_, _, _, Le.refl _, ⟨S.1, S.2⟩, rfl, rfl, ?_, by simp; omega⟩
            rw [hkf]
            exact Mine.IntsAre.snoc hw
          · rw [if_neg c3]
            rw [if_neg c3, List.append_nil] at hkf
            refine ⟨_, _, _, Le.refl _, ⟨S.1, S.2⟩, rfl, rfl, ?_, by omega⟩
            rw [hkf]; exact hw
        · rintro D _ _ us hD ⟨rfl, rfl, hu, hul⟩ hle
          refine ⟨_, _, .there .here, fun s S => ?_⟩
          obtain ⟨g12, hle12, ⟨o7, ho7, hP7, _⟩, S7⟩ := S.1.freeze
          have htk : (goneF e ln).take vgs.length = goneF e ln := List.take_of_length_le (by rw [hig.length]; exact Nat.le_refl _)
          rw [htk] at hu
          exact ⟨rfl, g12, D, us, _, hle12, ⟨S7, S.2⟩, qc10, qs10, by rfl, LstP.plain ⟨o7, ho7, hP7⟩, hu⟩
      rintro s ⟨g12, Dw, vw, l12, hle12, S, qc12, qs12, qw12, hpw, hiw⟩
      have w12 := w11.le hle12
      have hps12 : ∀ {s : Shared} {p : List PO} {g' : Heap}, Le g12 g' → SS s0 g' p s → s.heap.IsList Ds vss.toArray := fun hle' S => (hps.at (fun o e => S.1.keep _ _ (hle' _ _ (hle12 _ _ (hle11 _ _ (hle10 _ _ (hle9 _ _ (hle8 _ _ e)))))))).isList
      have his12 : Paired (IsInts g12) vss (sumsL e ln) := paired_mono (fun _ _ x => x.le (hle8.trans (hle9.trans (hle10.trans (hle11.trans hle12))))) his
      -- the sums are told
      refine execs_cut (fun s' => ∃ g', Le g12 g' ∧ SS s0 g' (lawP I L x H j l12 ve vl (some (.ref Ds)) (some (.ref Dg)) hs pts) s') ?_ ?_
      · refine wpAny_If (wpAny_isTrue_Compare1 (Call_ (nmB (v := .builtin "sum") S w12 (by kernel_rfl) PyProof.Rows.boot_sum ?_)))
        refine PyProof.Rows.callWith_builtin1 (args_cons (nmL S (by walk_at "mem") qw12 (args_nil (sumLI hA₁.hh S (hpw.at (fun o e => S.1.keep _ _ e)).isList hiw (fun t1 s S => ?_)))))
        refine Call_ (nmB (v := .builtin "sum") S w12 (by kernel_rfl) PyProof.Rows.boot_sum ?_)
        refine PyProof.Rows.callWith_builtin1 (args_cons (compR (s0 := s0) rfl (by decide) rfl (by decide) ?_))
        refine nmC S (c := L + 1 + 1 + 1 + 1) rfl (by walk_at "mem") ?_
        refine iterList S (hps12 (Le.refl _) S) (fun I3 s hI3 S => ?_)
        refine ⟨I3, g12, _, vss.length, _, _, _, fun i g'' p ws => g'' = g12 ∧ p = lawP I L x H j l12 ve vl (some (.ref Ds)) (some (.ref Dg)) hs pts ∧ IntsAre ws (mostF ((sumsL e ln).take i)) ∧ ws.length = i, rfl,
          src_list hA₁.hh I3 Ds vss, by rw [sizeLine_eq]; omega, S, ⟨rfl, rfl, .nil, rfl⟩, fun i g' p us h => (by omega), fun i g'' p us h hJ hle' S => ?_, fun C2 D5 => ?_, ?_⟩
        · exact (hps.at (fun o e => S.keep _ _ (hle' _ _ (hle12 _ _ (hle11 _ _ (hle10 _ _ (hle9 _ _ (hle8 _ _ e)))))))).isList
        · rintro i _ _ ws l3 v s hi ⟨rfl, rfl, hw, hwl⟩ hv _ S
          obtain ⟨b, hb, aa, vaa, rfl, hpa, hia⟩ := paired_get' his12 hv
          have hbne : b ≠ [] := by
            obtain ⟨h0, _, rfl⟩ := List.mem_map.mp (List.mem_of_getElem? hb)
            intro e; cases e
          refine wpAny_assign_Name (stL S (by walk_at "at") (fun s S => ?_) rfl rfl)
          refine wpAny_tests_nil ?_
          rw [if_pos rfl]
          refine Call_ (nmB (v := .builtin "max") S w12 (by kernel_rfl) PyProof.Rows.boot_max ?_ (by decide) rfl rfl rfl rfl)
          refine PyProof.Rows.callWith_builtin1 (args_cons (wpAny_Constant_int (args_cons (Call_ (nmB (v := .builtin "max") (s0 := s0) (pts := _) ⟨S.1, S.2⟩ w12 (by kernel_rfl) PyProof.Rows.boot_max ?_ (by decide) rfl rfl rfl rfl)))))
          refine PyProof.Rows.callWith_builtin1 (args_cons (nmL ⟨S.1, S.2⟩ (by walk_at "mem") rfl (args_nil (maxL hA₁.hh ⟨S.1, S.2⟩ (hpa.at (fun o e => S.1.keep _ _ e)).isList hia hbne (fun t5 s S => ?_))) rfl rfl))
          refine args_nil (maxTwo hA₁.hh S (fun t6 s S => ?_))
          refine ⟨_, _, _, Le.refl _, S, rfl, rfl, ?_, by simp [hwl]⟩
          have htk : (sumsL e ln).take (i + 1) = (sumsL e ln).take i ++ [b] := by rw [List.take_add_one, hb]; rfl
          rw [htk]
          unfold mostF at hw ⊢
          rw [List.map_append]
          exact Mine.IntsAre.snoc hw
        · rintro D _ _ us s hD ⟨rfl, rfl, hu, hul⟩ hle S
          have htk : (sumsL e ln).take vss.length = sumsL e ln := List.take_of_length_le (by rw [hsl]; exact Nat.le_refl 6)
          rw [htk] at hu
          refine args_nil (sumLI hA₁.hh S (LstP.plain (S.1.own (D, LstP _) (.head _)).1).isList hu (fun t7 s S => ?_))
          refine PyProof.Rows.ne_int (wpAny_truthy_bool ?_)
          rw [aj.waits, if_neg (by simp)]
          exact wpAny_execs_nil ⟨rfl, _, Le.refl _, ⟨S.1.drop, S.2⟩⟩
      rintro s ⟨g13, hle13, S⟩
      have w13 := w12.le hle13
      have hle913 := hle10.trans (hle11.trans (hle12.trans hle13))
      -- the rows are told
      · refine wpAny_execs_cons (wpAny_If (wpAny_isTrue_Compare1 ?_))
        refine nmC S (c := L + 1 + 1 + 1 + 1 + 1) rfl (by walk_at "mem") (Call_ ?_)
        refine nmG (v := .ref 293) S w13 (by kernel_rfl) ?_
        refine cwDef w13 rfl rfl (args_cons ?_)
        refine nmC S (c := L + 1 + 1 + 1 + 1) rfl (by walk_at "mem") (args_cons ?_)
        refine nmC S (c := L + 1 + 1) rfl (by walk_at "mem") (args_cons ?_)
        refine nmL S (by walk_at "mem") qs12 (args_nil ⟨S.1.keep, ?_⟩)
        have hle713 := hle8.trans (hle9.trans hle913)
        refine told_c (hA₁.le (by decide)) S w13 (ss := sumsL e ln) (e2 := ln) ⟨Ds, vss, rfl, hps.at (fun o e => hle713 _ _ e), paired_mono (fun _ _ x => x.le hle713) his⟩ (hl.le (hle7.trans hle713)) rfl (fun y hy => ?_) (fun y hy => ?_) (fun g14 v s hle14 S hv => ?_)
        · obtain ⟨h0, _, rfl⟩ := List.mem_map.mp hy
          exact Nat.le_refl 6
        · obtain ⟨h0, _, rfl⟩ := List.mem_map.mp hy
          exact sums_lay fj.le fj.ll h0
        · obtain ⟨Dt, vt, rfl, hpt, hit⟩ := hv
          rw [← hsF, ← aj.told] at hit
          obtain ⟨as1, ra1⟩ := reads_rows (hpg.at (h' := s.heap) (fun o e => S.1.keep _ _ (hle14 _ _ (hle913 _ _ (hle9 _ _ e))))) (paired_mono (fun _ _ x => x.le ((hle913.trans hle14).trans S.1.keep)) hig9)
          obtain ⟨as2, ra2⟩ := reads_rows (hpt.at (h' := s.heap) (fun o e => S.1.keep _ _ e)) (paired_mono (fun _ _ x => x.le S.1.keep) hit)
          have hcan := can_rows (rs := goneF e ln) (fun r hr => (hrows r hr).strsOk)
          refine SeqAt.compareNe_reads ra1 ra2 hcan hcan (by have := depth_rows (goneF e ln); have := hA₁.cl; omega) ?_
          rw [SeqAt.eqv_refl _ hcan]
          refine wpAny_truthy_bool ?_
          rw [if_neg (by decide)]
          refine wpAny_execs_nil (wpAny_execs_nil ⟨g14, _, ?_, S, l12, ve, vl, _, _, hs, rfl, qc12, ?_, ?_, ?_⟩)
          · exact hle6.trans (hle7.trans (hle713.trans hle14))
          · have : IsInts g14 ve e := he.le (hle7.trans (hle713.trans hle14))
            rw [← hEL] at this; exact this
          · have : IsInts g14 vl ln := hl.le (hle7.trans (hle713.trans hle14))
            rw [← hLL] at this; exact this
          · exact paired_mono (fun _ _ x => x.le (hle913.trans hle14)) hr
    · rintro g' _ s ⟨l, ve, vl, vs, vg, hs, rfl, qc, he, hl, hr⟩ hle S
      exact ⟨rfl, g', l, ve, vl, vs, vg, hs, hle, S⟩
  rintro s ⟨g5, l5, ve5, vl5, vs5, vg5, hs5, hle5, S⟩
  refine wpAny_execs_cons (wpAny_Return_some (wpAny_Constant_bool ?_))
  have S : SS s0 g5 ((222, TabP) :: pts) s := ⟨S.1.drop.drop.drop.drop.drop.drop.drop, S.2⟩
  exact hQ g5 _ (hle1.trans (hle2.trans (hle3.trans (hle4.trans hle5)))) S
end
end Mine
end
section
set_option Elab.async false
set_option maxRecDepth 100000
set_option maxHeartbeats 4000000
open PySem PyProof.Rows
namespace Mine
/-! the finite machine: the two lines as masks of six bits -/
noncomputable def nb (b : Bool) : Nat := match b with | true => 1 | false => 0
noncomputable def bt (m i : Nat) : Bool := Nat.beq (Nat.land (Nat.shiftRight m i) 1) 1
noncomputable def stepS (x y : Bool) (a : Nat) : Nat := Nat.sub (Nat.add a (nb x)) (nb y)
noncomputable def sumGo (m n h : Nat) : Nat → Nat → Nat → List Nat
  | 0, _, _ => []
  | f + 1, i, a => stepS (bt m (Nat.mod (Nat.sub (Nat.add h 6) i) 6)) (bt n (Nat.mod (Nat.sub (Nat.add h 6) i) 6)) a :: sumGo m n h f (Nat.succ i) (stepS (bt m (Nat.mod (Nat.sub (Nat.add h 6) i) 6)) (bt n (Nat.mod (Nat.sub (Nat.add h 6) i) 6)) a)
noncomputable def sumP (m n : Nat) (l : List Nat) : Nat → List Nat :=
  List.rec (motive := fun _ => Nat → List Nat) (fun _ => []) (fun p _ ih a => stepS (bt m p) (bt n p) a :: ih (stepS (bt m p) (bt n p) a)) l
noncomputable def sumsN (m n h : Nat) : List Nat := match h with
  | 0 => sumP m n [0, 5, 4, 3, 2, 1] 6
  | 1 => sumP m n [1, 0, 5, 4, 3, 2] 6
  | 2 => sumP m n [2, 1, 0, 5, 4, 3] 6
  | 3 => sumP m n [3, 2, 1, 0, 5, 4] 6
  | 4 => sumP m n [4, 3, 2, 1, 0, 5] 6
  | 5 => sumP m n [5, 4, 3, 2, 1, 0] 6
  | k => sumGo m n k 6 0 6
theorem sumsN_is (m n h : Nat) : sumsN m n h = sumGo m n h 6 0 6 := by unfold sumsN; split <;> rfl
noncomputable def mx (a b : Nat) : Nat := Nat.add a (Nat.sub b a)
noncomputable def maxN (l : List Nat) : Nat := List.rec (motive := fun _ => Nat → Nat) (fun a => a) (fun x _ ih a => ih (mx a x)) l 0
theorem maxN_is (l : List Nat) : maxN l = l.foldl mx 0 := by
  have h : ∀ (l : List Nat) (a : Nat), (List.rec (motive := fun _ => Nat → Nat) (fun a => a) (fun x _ ih a => ih (mx a x)) l a : Nat) = l.foldl mx a := by
    intro l
    induction l with
    | nil => intro a; rfl
    | cons x r ih => intro a; exact ih (mx a x)
  exact h l 0
noncomputable def startGo (m n : Nat) : Nat → Nat → Option Nat
  | 0, _ => none
  | f + 1, h => match Nat.ble (maxN (sumsN m n (Nat.mod (Nat.add h 5) 6))) 6 with
    | true => some h
    | false => startGo m n f (Nat.succ h)
noncomputable def oldN (m : Nat × Nat) : Nat × Nat := (Nat.succ m.1, m.2)
noncomputable abbrev Went := Nat × Option (Nat × Nat)
noncomputable def runGo (m n : Nat) : Nat → Nat → List (Nat × Nat) → List Went
  | 0, _, _ => []
  | f + 1, h, ms => match bt n h with
    | true => (match (match bt m h with | true => (1, h) :: ms | false => ms) with
      | [] => (h, none) :: runGo m n f (Nat.mod (Nat.succ h) 6) []
      | t :: r => (h, some t) :: runGo m n f (Nat.mod (Nat.succ h) 6) (r.map oldN))
    | false => runGo m n f (Nat.mod (Nat.succ h) 6) ((match bt m h with | true => (1, h) :: ms | false => ms).map oldN)
noncomputable def findN : List Nat → Nat → Option Nat
  | [], _ => none
  | a :: r, i => match Nat.beq a 6 with
    | true => some i
    | false => findN r (Nat.succ i)
noncomputable def backN (ss : List Nat) (h : Nat) : Option (Nat × Nat) := match findN ss 0 with
  | none => none
  | some i => some (Nat.succ i, Nat.mod (Nat.sub (Nat.add h 6) i) 6)
noncomputable def toldGo (m n : Nat) : Nat → Nat → List Went
  | 0, _ => []
  | f + 1, h => match bt n h with
    | true => (h, backN (sumsN m n h) h) :: toldGo m n f (Nat.mod (Nat.succ h) 6)
    | false => toldGo m n f (Nat.mod (Nat.succ h) 6)
noncomputable def waitN : List Went → Nat
  | [] => 0
  | (_, none) :: r => waitN r
  | (_, some t) :: r => Nat.add (Nat.pred t.1) (waitN r)
noncomputable def mostN (m n : Nat) : Nat := [0, 1, 2, 3, 4, 5].foldl (fun a h => Nat.add a (Nat.sub (mx 6 (maxN (sumsN m n h))) 6)) 0
noncomputable def eqO : Option (Nat × Nat) → Option (Nat × Nat) → Bool
  | none, none => true
  | some a, some b => Nat.beq a.1 b.1 && Nat.beq a.2 b.2
  | _, _ => false
noncomputable def eqW : List Went → List Went → Bool
  | [], [] => true
  | a :: r, b :: t => Nat.beq a.1 b.1 && (eqO a.2 b.2 && eqW r t)
  | _, _ => false
noncomputable def isS : Option (Nat × Nat) → Bool
  | none => false
  | some _ => true
noncomputable def kindN (out : List Went) (j : Nat) : List Bool := (out.filter fun w => Nat.beq w.1 j).map fun w => isS w.2
noncomputable def eqB : List Bool → List Bool → Bool
  | [], [] => true
  | true :: r, true :: t => eqB r t
  | false :: r, false :: t => eqB r t
  | _, _ => false
noncomputable def viewN (n d j : Nat) : List Bool := match bt n j with
  | true => [bt d j]
  | false => []
noncomputable def popN (m : Nat) : Nat := Nat.add (nb (bt m 0)) (Nat.add (nb (bt m 1)) (Nat.add (nb (bt m 2)) (Nat.add (nb (bt m 3)) (Nat.add (nb (bt m 4)) (nb (bt m 5))))))
noncomputable def tabR : List Nat := [0, 635055346405183871500023144886128416308101217131542901491673918188363804705504054644632055320707446588446121140288, 1251162650158433082646606538087374305659859854664755473963712969994025188781232137131035336915276075683534518886464, 1905466655013399156090346103705296906678594105734043505345538089095768971893326789383419073565850974735271870595072, 2501714828249963301720057966568017729505759424154937085960298897569567450912044735285598198755464147061614408114240, 3136779568826598141024205971747776585542249066462837707926791925477841353068280732181757891377728460399842838708224, 3753488099552709291634780423741370617510866915282944404044492864494418747212040380666721671895631021620407688757248, 4446289419013741426315447822084104781778604683731864905793410002120808690321478430659064037185543159024776407678976, 5003429358272332596358784280940882591595237264332525886702121545959052581432820119832173025908903333992083147202624, 5638484704678636340229896335889461511600251382418800262113721718597435233011220474230502987302587059515669481259008, 6254592008503557383126169973087539637554435681054827178718279920340972590173499002854363969191332000304264878227456, 6908914806288422624091585224517255816898426237722641791626061872492800166468145381736127222215156430357257716236288, 7505144484749907680911036428390287327491085438252680407705538297624407301025561010616080248818652515209944960335872, 8140228013669444455756684503584576619297589075578991206510311175620900465122909281680898861848456565323438632206336, 8758138998341279481023264996113787921642648611803390537546676473900219709300249806000251927188027403181569733558272, 9527934946997645378237011094708324990461445610534307224820349050738064168211781414693960755792641905841648416325632, 10006858716544629641213724470004047502600514517491004169165418956853534283563358105252431330838788519808403375398976, 10641914062949813512713747622847347701465202009108663040604491805584448932140935115856662342170370881146601832448000, 11258021366703062723860331525307587674438482213753297702967301277250034097250519641658107517952689921996687657402368, 11912325371560268542179780637670887036881795475440912095424066949713487920756073960861022554246108885921245652058112, 12508573544794592942935901471203618963814100966759373286279842530252349868895529908175223958882095174841610816716800, 13143638285373467527115726430553133229497789324554588136105517853549409571576202300195724222602106530642138603978752, 13760346816242922349769627509016742859982670970788846732479639651064987285086286565678614902972463873632467685474304, 14453185721546955279771891107412772929750083010150756401369728179023373781293417608838818987290203966752734935252992, 15010288074816997789076352842948952088794544280628744808499050512431723554974139833419036655124244686796871124647936, 15645343421225541277689642662322229538297068286059608789285322152053511107298033310903450947639457918000766556045312, 16261450725193805984085294782306682933187429530013313387243282451693083360192077333521105878547153572616098090582016, 16915811108821671473559625038036713924905537673087788097370130148101691490561546719915167688453190318450668168282112, 17512003797749796439284651665966525732113610011091714565581014453123911475006093263312550945620744820378664936931328, 18147124903338338998679120180399621697458271175451114508112099808134256141671314878490059520132510305001840054370304, 18767440795337206064586981880261225080729476542379254246411596186218158347261302097108740407100809782716087568171008, 19690934712665119202675699983908761629897483354928307496030495799006648981324246630143382516361888945425088897875968, 20013717433089259282427448939755486377183359629442766561494458657142924505611384005017129561478407331716458252345408, 20648772779494443153927472084641614793491460846574309462584499282310948283974176608865270052354813853020315745779712, 21264880083247692365074055477842860682843219484107522022602670339553235139992346376210947100177258449971740721020928, 21919184088102658438517795003674924371078895149750403212349256046117738577463037258860006733225270037814362511507456, 22515432261339222584147506906323504106689119053597651852627715000434508543034090527168695783383103713423580975595520, 23150497001915857423451654871717404049942550110479148049793594086854239435795804364464123866396624838648480485343232, 23767205532641968574062228337021697044890964498235412875933781977372445561064737946348805902869864534285412745609216, 24460006852090682111959878461531913810932033984084938716741156147654790417165827963911526453981431459800647647363072, 25017146791361591878786233220696368968778596024806030920270183844341310761107881635629789118932392333688301194838016, 25652202137767895622657345235859088976000551585958773255559322055466503210161915713540510712532541564840278673588224, 26268309441592816665553617886367866064934532396112692541694166633316286259069478274972566086146501346375387519647744, 26922632239365363309736015863965064846051854765080124762030271506475663646556514778900937485978639838072469509373952, 27518861917839166963334381751214276085318108270084196536278803398070624499745683880156127844359878529206387447169024, 28153945446746385141397204033957823421270331423522813945692077330256254580840156790404243212157707029823826136399872, 28771856431140491802079706905688314523425504091520871564443871362670692387501491715767079651563908905082349198245888, 29541436261763739005745460008944665081167418172544669163017569150068079424198549282996949080083117855626745895452672, 30020576149633888923641173409514940777133094926581861630981879418614023343079087362298458509220635239634724077699072, 30655631496039072795141196522580401382886448907488786568143567490085575073767730823058378445681505808721475394338816, 31271738799792322006287779438343563951397398034944233109684270120129190408748877262300095495827322400353271398006784, 31926042804637209227824211276898157604349401645941581703852538999160987051546253654990120063214064519573563351498752, 32522290977883852225359246793783014752140321887873277051513995439330142595767198135795891130964883040664309412659200, 33157355718450408212756245960690300229762944049856596578719772833277067289591350410997355857152845678947190431547392, 33774064249042134670826069418347464515791197452105935290070470657087510977875618098752131633032918935488940308692992, 34466687036313048907280340021462616806802385581352849996511105825598794645635700609423732361943732310727574394241024, 35024005507906188224665929539680949982546832521647123492251794097955212519766786681106745280637179764489503874482176, 35659060854302415373934317358087084617987116541766502122285817327748588183919194307982964528371257876468264370962432, 36275168157992949543447076325699546461234134651661954950580183191857883200922426246023214397931821408708861049700352, 36929312423587703858047780027721592669619869285756940413257874163364152256354276272637124002874039538277988643635200, 37525720075772386779293972334144188412880007110369703690235549605685175372452186737078496049076707077852930016018432, 38160625117225031333431500030851080601028611137958985621631258332246831061713564104243819823339193152053195768332288, 38776281464043695071123360032415824566732982064060008225817950416688170464393208020047167733571769958940799330680832, 38786349849575815474587180098578869839375368344364424063761601319804382368817566695610918344652338833919024427958272]
noncomputable def dT (m n : Nat) : Nat := Nat.land (Nat.shiftRight (tabR.getD m 0) (Nat.mul 6 n)) 63
noncomputable def chk1 (m n : Nat) (out : List Went) (st : Nat) : Bool :=
  eqW out (toldGo m n 6 st) && (Nat.beq (waitN out) (mostN m n) && [0, 1, 2, 3, 4, 5].all fun j => eqB (kindN out j) (viewN n (dT m n) j) && (match bt (dT m n) j with | true => bt n j | false => true))
noncomputable def chk (m n : Nat) : Bool := match startGo m n 6 0 with
  | none => false
  | some st => chk1 m n (runGo m n 6 st []) st
noncomputable def chkRow (m : Nat) : Bool := (List.range 64).all fun n => match Nat.ble (popN m) (popN n) with
  | true => chk m n
  | false => true
noncomputable def rungM (m i : Nat) : Nat := match bt m i with
  | true => (match bt m (Nat.mod (Nat.add i 5) 6) with
    | true => m
    | false => Nat.add (Nat.sub m (Nat.pow 2 i)) (Nat.pow 2 (Nat.mod (Nat.add i 5) 6)))
  | false => m
noncomputable def nextM (n : Nat) : Nat → Nat → Nat
  | 0, p => p
  | f + 1, p => match bt n p with
    | true => p
    | false => nextM n f (Nat.mod (Nat.succ p) 6)
noncomputable def placeM (n i : Nat) : Nat := match bt n (Nat.mod (Nat.add i 5) 6) with
  | true => nextM n 5 i
  | false => i
noncomputable def trD (n d i : Nat) : Nat := match bt n i with
  | false => d
  | true => match bt n (Nat.mod (Nat.add i 5) 6) with
    | false => (match bt d i with
      | true => Nat.add (Nat.sub d (Nat.pow 2 i)) (Nat.pow 2 (Nat.mod (Nat.add i 5) 6))
      | false => d)
    | true => (match bt d i with
      | true => (match bt d (Nat.mod (Nat.add i 5) 6) with
        | true => d
        | false => Nat.add (Nat.sub d (Nat.pow 2 i)) (Nat.pow 2 (Nat.mod (Nat.add i 5) 6)))
      | false => d)
noncomputable def stepOk (m n i : Nat) : Bool := Nat.ble (popN (rungM m (placeM n i))) (popN (rungM n i)) && Nat.beq (dT (rungM m (placeM n i)) (rungM n i)) (trD n (dT m n) i)
noncomputable def chkStep (m : Nat) : Bool := (List.range 64).all fun n => match Nat.ble (popN m) (popN n) with
  | true => [0, 1, 2, 3, 4, 5].all fun i => stepOk m n i
  | false => true
theorem rows0 : ((List.range 8).all fun m => chkRow m) = true := by kernel_rfl
theorem rows1 : ((List.range 8).all fun m => chkRow (8 + m)) = true := by kernel_rfl
theorem rows2 : ((List.range 8).all fun m => chkRow (16 + m)) = true := by kernel_rfl
theorem rows3 : ((List.range 8).all fun m => chkRow (24 + m)) = true := by kernel_rfl
theorem rows4 : ((List.range 8).all fun m => chkRow (32 + m)) = true := by kernel_rfl
theorem rows5 : ((List.range 8).all fun m => chkRow (40 + m)) = true := by kernel_rfl
theorem rows6 : ((List.range 8).all fun m => chkRow (48 + m)) = true := by kernel_rfl
theorem rows7 : ((List.range 8).all fun m => chkRow (56 + m)) = true := by kernel_rfl
theorem steps0 : ((List.range 16).all fun m => chkStep m) = true := by kernel_rfl
theorem steps1 : ((List.range 16).all fun m => chkStep (16 + m)) = true := by kernel_rfl
theorem steps2 : ((List.range 16).all fun m => chkStep (32 + m)) = true := by kernel_rfl
theorem steps3 : ((List.range 16).all fun m => chkStep (48 + m)) = true := by kernel_rfl
end Mine
end
section
open PySem PySem.W PySem.Spec PySem.Calls PyProof.Rows
set_option Elab.async false
set_option maxRecDepth 100000
set_option maxHeartbeats 4000000
set_option linter.unusedVariables false
namespace Mine
/-! the law's words and the machine's -/
noncomputable def bl (m : Nat) : List Int := sixI.filter fun h => bt m h.toNat
structure Al (e : List Int) (m : Nat) : Prop where
  mem : ∀ h : Nat, h < 6 → ((h : Int) ∈ e ↔ bt m h = true)
  cnt : ∀ h : Nat, h < 6 → e.count (h : Int) = nb (bt m h)
theorem six_mem : ∀ (h : Nat), h < 6 → (h : Int) ∈ sixI
  | 0, _ => by decide
  | 1, _ => by decide
  | 2, _ => by decide
  | 3, _ => by decide
  | 4, _ => by decide
  | 5, _ => by decide
  | n + 6, h => by omega
theorem six_nodup : sixI.Nodup := by decide
theorem al_bl (m : Nat) : Al (bl m) m := by
  have hm : ∀ h : Nat, h < 6 → ((h : Int) ∈ bl m ↔ bt m h = true) := fun h hh => by
    unfold bl
    rw [List.mem_filter]
    exact ⟨fun x => by simpa using x.2, fun x => ⟨six_mem h hh, by simpa using x⟩⟩
  refine ⟨hm, fun h hh => ?_⟩
  have nd : (bl m).Nodup := six_nodup.filter _
  have h1 := List.nodup_iff_count.mp nd (h : Int)
  cases c : bt m h with
  | true =>
    have := List.count_pos_iff.mpr ((hm h hh).mpr c)
    show _ = 1
    omega
  | false =>
    refine List.count_eq_zero.mpr fun x => ?_
    rw [(hm h hh).mp x] at c
    cases c
theorem al_perm {e : List Int} {m : Nat} (p : e.Perm (bl m)) : Al e m :=
  ⟨fun h hh => by rw [p.mem_iff]; exact (al_bl m).mem h hh, fun h hh => by rw [p.count_eq]; exact (al_bl m).cnt h hh⟩
theorem nb_le (x : Bool) : nb x ≤ 1 := by cases x <;> decide
theorem stepS_is (x y : Bool) (a : Nat) : stepS x y a = a + nb x - nb y := rfl
theorem stepS_int (x y : Bool) (a : Nat) (h : 1 ≤ a) : ((stepS x y a : Nat) : Int) = (a : Int) + ((nb x : Nat) : Int) - ((nb y : Nat) : Int) := by
  have h1 := nb_le x
  have h2 := nb_le y
  rw [stepS_is]; omega
section
variable {e l : List Int} {m n : Nat}
theorem tot_rel (he : Al e m) (hl : Al l n) {h : Nat} (hh : h < 6) : ∀ (f i a : Nat), i + f = 6 → (a : Int) = totS e l h i + 6 → 6 ≤ a + i →
    (sumGo m n h f i a).map (fun x : Nat => (x : Int) - 6) = (List.range f).map fun k => totS e l (h : Int) (i + k + 1)
  | 0, _, _, _, _, _ => rfl
  | f + 1, i, a, hf, ha, hb => by
    have hp : Int.fmod ((h : Int) - (i : Int)) 6 = (((h + 6 - i) % 6 : Nat) : Int) := by
      rw [Int.fmod_eq_emod_of_nonneg _ (by decide)]; omega
    have hp6 : (h + 6 - i) % 6 < 6 := Nat.mod_lt _ (by decide)
    have hs := stepS_int (bt m ((h + 6 - i) % 6)) (bt n ((h + 6 - i) % 6)) a (by omega)
    have ht : totS e l (h : Int) (i + 1) = totS e l h i + ((nb (bt m ((h + 6 - i) % 6)) : Nat) : Int) - ((nb (bt n ((h + 6 - i) % 6)) : Nat) : Int) := by
      show totS e l h i + ((e.count (Int.fmod ((h : Int) - i) 6) : Int) - (l.count (Int.fmod ((h : Int) - i) 6) : Int)) = _
      rw [hp, he.cnt _ hp6, hl.cnt _ hp6]; omega
    have hb2 : 6 ≤ stepS (bt m ((h + 6 - i) % 6)) (bt n ((h + 6 - i) % 6)) a + (i + 1) := by
      have h1 := nb_le (bt m ((h + 6 - i) % 6))
      have h2 := nb_le (bt n ((h + 6 - i) % 6))
      rw [stepS_is]; omega
    have ih := tot_rel he hl hh f (i + 1) (stepS (bt m ((h + 6 - i) % 6)) (bt n ((h + 6 - i) % 6)) a) (by omega) (by rw [hs, ht, ha]; omega) hb2
    rw [List.range_succ_eq_map, List.map_cons, List.map_map]
    show (((stepS (bt m ((h + 6 - i) % 6)) (bt n ((h + 6 - i) % 6)) a : Nat) : Int) - 6) :: (sumGo m n h f (i + 1) (stepS (bt m ((h + 6 - i) % 6)) (bt n ((h + 6 - i) % 6)) a)).map _ = _
    rw [ih]
    congr 1
    · rw [hs, ha]
      show _ = totS e l (h : Int) (i + 1)
      rw [ht]; omega
    · refine List.map_congr_left fun k _ => ?_
      show totS e l (h : Int) (i + 1 + k + 1) = totS e l (h : Int) (i + (k + 1) + 1)
      congr 1; omega
theorem sums_rel (he : Al e m) (hl : Al l n) {h : Nat} (hh : h < 6) : (sumsN m n h).map (fun x : Nat => (x : Int) - 6) = sumS e l (h : Int) 6 := by
  have := tot_rel he hl hh 6 0 6 (by omega) (by simp [totS]) (by omega)
  rw [sumsN_is]
  unfold sumS
  rw [this]
  refine List.map_congr_left fun k _ => ?_
  rw [Nat.zero_add]
theorem sumsN_ne (m n h : Nat) : sumsN m n h ≠ [] := by rw [sumsN_is]; intro e; cases e
end
theorem mx_is (a b : Nat) : mx a b = max a b := by
  show a + (b - a) = max a b
  omega
theorem maxN_fold : ∀ (l : List Nat) (a : Nat), (l.foldl mx a = a ∨ l.foldl mx a ∈ l) ∧ a ≤ l.foldl mx a ∧ ∀ x ∈ l, x ≤ l.foldl mx a
  | [], a => ⟨.inl rfl, Nat.le_refl _, fun x h => by cases h⟩
  | b :: r, a => by
    obtain ⟨h1, h2, h3⟩ := maxN_fold r (mx a b)
    have hm := mx_is a b
    simp only [List.foldl_cons]
    refine ⟨?_, by omega, fun x hx => ?_⟩
    · rcases h1 with h1 | h1
      · rcases (show max a b = a ∨ max a b = b by omega) with k | k
        · exact .inl (by rw [h1, hm, k])
        · exact .inr (by rw [h1, hm, k]; exact .head _)
      · exact .inr (.tail _ h1)
    · rcases List.mem_cons.mp hx with rfl | hx
      · omega
      · exact h3 x hx
theorem max_rel {l : List Nat} (h : l ≠ []) : maxI (l.map fun x : Nat => (x : Int) - 6) = (maxN l : Int) - 6 := by
  obtain ⟨h1, h2, h3⟩ := maxN_fold l 0
  rw [maxN_is]
  generalize hM : l.foldl mx 0 = M at *
  have hmem : M ∈ l := by
    rcases h1 with h1 | h1
    · cases l with
      | nil => exact absurd rfl h
      | cons a r =>
        have := h3 a (.head _)
        have e : a = M := by omega
        rw [← e]; exact .head _
    · exact h1
  refine (maxI_is (List.mem_map.mpr ⟨_, hmem, rfl⟩) fun a ha => ?_).symm
  obtain ⟨x, hx, rfl⟩ := List.mem_map.mp ha
  have := h3 x hx
  show (x : Int) - 6 ≤ (M : Int) - 6
  omega
section
variable {e l : List Int} {m n : Nat}
theorem behind_is (e l : List Int) : ∀ (k : Nat), k < 6 → behind (sumsL e l) (k : Int) = sumS e l (((k + 5) % 6 : Nat) : Int) 6
  | 0, _ => rfl
  | 1, _ => rfl
  | 2, _ => rfl
  | 3, _ => rfl
  | 4, _ => rfl
  | 5, _ => rfl
  | n + 6, h => by omega
theorem start_cond (he : Al e m) (hl : Al l n) {k : Nat} (hk : k < 6) : decide (maxI (behind (sumsL e l) (k : Int)) ≤ 0) = Nat.ble (maxN (sumsN m n ((k + 5) % 6))) 6 := by
  rw [behind_is e l k hk, ← sums_rel he hl (Nat.mod_lt _ (by decide)), max_rel (sumsN_ne _ _ _)]
  cases c : Nat.ble (maxN (sumsN m n ((k + 5) % 6))) 6 with
  | true => have := Nat.le_of_ble_eq_true c; exact decide_eq_true (by omega)
  | false =>
    refine decide_eq_false fun h => ?_
    rw [Nat.ble_eq_true_of_le (by omega)] at c; cases c
theorem startGo_is : ∀ (f h st : Nat), f + h = 6 → startGo m n f h = some st → st < 6 ∧ Nat.ble (maxN (sumsN m n ((st + 5) % 6))) 6 = true ∧ ∀ k, h ≤ k → k < st → Nat.ble (maxN (sumsN m n ((k + 5) % 6))) 6 = false
  | 0, _, _, _, hs => by cases hs
  | f + 1, h, st, hf, hs => by
    unfold startGo at hs
    change (match Nat.ble (maxN (sumsN m n ((h + 5) % 6))) 6 with | true => some h | false => startGo m n f (h + 1)) = some st at hs
    cases c : Nat.ble (maxN (sumsN m n ((h + 5) % 6))) 6 with
    | true =>
      rw [c] at hs
      cases hs
      exact ⟨by omega, c, fun k a b => by omega⟩
    | false =>
      rw [c] at hs
      obtain ⟨a, b, d⟩ := startGo_is f (h + 1) st (by omega) hs
      refine ⟨a, b, fun k x y => ?_⟩
      by_cases hk : k = h
      · rw [hk]; exact c
      · exact d k (by omega) y
theorem filt_first {q : Int → Bool} {st : Nat} (h1 : st < 6) (hst : q (st : Int) = true) (hk : ∀ k : Nat, k < st → q (k : Int) = false) : ∃ r, sixI.filter q = (st : Int) :: r := by
  unfold sixI
  rcases (show st = 0 ∨ st = 1 ∨ st = 2 ∨ st = 3 ∨ st = 4 ∨ st = 5 by omega) with rfl | rfl | rfl | rfl | rfl | rfl
  · exact ⟨_, List.filter_cons_of_pos hst⟩
  · rw [List.filter_cons_of_neg (by simpa using hk 0 (by omega))]
    exact ⟨_, List.filter_cons_of_pos hst⟩
  · rw [List.filter_cons_of_neg (by simpa using hk 0 (by omega)), List.filter_cons_of_neg (by simpa using hk 1 (by omega))]
    exact ⟨_, List.filter_cons_of_pos hst⟩
  · rw [List.filter_cons_of_neg (by simpa using hk 0 (by omega)), List.filter_cons_of_neg (by simpa using hk 1 (by omega)), List.filter_cons_of_neg (by simpa using hk 2 (by omega))]
    exact ⟨_, List.filter_cons_of_pos hst⟩
  · rw [List.filter_cons_of_neg (by simpa using hk 0 (by omega)), List.filter_cons_of_neg (by simpa using hk 1 (by omega)), List.filter_cons_of_neg (by simpa using hk 2 (by omega)), List.filter_cons_of_neg (by simpa using hk 3 (by omega))]
    exact ⟨_, List.filter_cons_of_pos hst⟩
  · rw [List.filter_cons_of_neg (by simpa using hk 0 (by omega)), List.filter_cons_of_neg (by simpa using hk 1 (by omega)), List.filter_cons_of_neg (by simpa using hk 2 (by omega)), List.filter_cons_of_neg (by simpa using hk 3 (by omega)), List.filter_cons_of_neg (by simpa using hk 4 (by omega))]
    exact ⟨_, List.filter_cons_of_pos hst⟩
theorem start_rel (he : Al e m) (hl : Al l n) {st : Nat} (hs : startGo m n 6 0 = some st) : st < 6 ∧ ∃ r, startL e l = (st : Int) :: r := by
  obtain ⟨h1, h2, h3⟩ := startGo_is 6 0 st rfl hs
  refine ⟨h1, ?_⟩
  have p : ∀ k : Nat, k < 6 → decide (maxI (behind (sumsL e l) (k : Int)) ≤ 0) = Nat.ble (maxN (sumsN m n ((k + 5) % 6))) 6 := fun k hk => start_cond he hl hk
  have hst := (p st h1).trans h2
  have hk : ∀ k : Nat, k < st → decide (maxI (behind (sumsL e l) (k : Int)) ≤ 0) = false := fun k hk => (p k (by omega)).trans (h3 k (Nat.zero_le _) hk)
  exact filt_first (q := fun h : Int => decide (maxI (behind (sumsL e l) h) ≤ 0)) h1 hst hk
end
end Mine
end
section
open PySem PySem.W PySem.Spec PySem.Calls PyProof.Rows
set_option Elab.async false
set_option maxRecDepth 100000
set_option maxHeartbeats 4000000
set_option linter.unusedVariables false
namespace Mine
noncomputable def rowW (x : Went) : Str × Str := (Txt.item abc (x.1 : Int), match x.2 with
  | none => noSep
  | some t => lineS t)
theorem hour_nat (st j : Nat) : hourF (st : Int) j = (((st + j) % 6 : Nat) : Int) := by
  unfold hourF
  rw [Int.fmod_eq_emod_of_nonneg _ (by decide)]; omega
theorem map_old (ms : List (Nat × Nat)) : ms.map oldN = ms.map older := rfl
noncomputable def pushQ (m h : Nat) (ms : List (Nat × Nat)) : List (Nat × Nat) := match bt m h with
  | true => (1, h) :: ms
  | false => ms
noncomputable def goTop (m n f h : Nat) : List (Nat × Nat) → List Went
  | [] => (h, none) :: runGo m n f ((h + 1) % 6) []
  | t :: r => (h, some t) :: runGo m n f ((h + 1) % 6) (r.map older)
theorem runGo_succ (m n f h : Nat) (ms : List (Nat × Nat)) : runGo m n (f + 1) h ms = match bt n h with
    | true => goTop m n f h (pushQ m h ms)
    | false => runGo m n f ((h + 1) % 6) ((pushQ m h ms).map older) := by
  rw [runGo]
  cases bt n h with
  | true =>
    unfold pushQ
    cases bt m h with
    | true => rfl
    | false => cases ms <;> rfl
  | false => rfl
section
variable {e l : List Int} {m n : Nat}
theorem run_rel (he : Al e m) (hl : Al l n) (st : Nat) : ∀ (f j : Nat), j + f = 6 → runF e l (st : Int) j ++ (runGo m n f ((st + j) % 6) (runMs e l (st : Int) j).reverse).map rowW = runF e l (st : Int) 6
  | 0, j, hf => by
    obtain rfl : j = 6 := by omega
    simp [runGo]
  | f + 1, j, hf => by
    have ih := run_rel he hl st f (j + 1) (by omega)
    have hh := hour_nat st j
    have h6 : (st + j) % 6 < 6 := Nat.mod_lt _ (by decide)
    have hnext : ((st + j) % 6 + 1) % 6 = (st + (j + 1)) % 6 := by omega
    have hme := he.mem _ h6
    have hml := hl.mem _ h6
    have hF : runF e l (st : Int) (j + 1) = runF e l (st : Int) j ++ (if hourF (st : Int) j ∈ l then [(Txt.item abc (hourF (st : Int) j), popRow (if hourF (st : Int) j ∈ e then runMs e l (st : Int) j ++ [(1, (hourF (st : Int) j).toNat)] else runMs e l (st : Int) j))] else []) := rfl
    have hM : runMs e l (st : Int) (j + 1) = (if hourF (st : Int) j ∈ l then (if hourF (st : Int) j ∈ e then runMs e l (st : Int) j ++ [(1, (hourF (st : Int) j).toNat)] else runMs e l (st : Int) j).dropLast else (if hourF (st : Int) j ∈ e then runMs e l (st : Int) j ++ [(1, (hourF (st : Int) j).toNat)] else runMs e l (st : Int) j)).map older := rfl
    rw [hh] at hF hM
    rw [show (((((st + j) % 6 : Nat)) : Int)).toNat = (st + j) % 6 from rfl] at hF hM
    generalize (st + j) % 6 = h at *
    generalize runMs e l (st : Int) j = ms at *
    have hq1 : (if (h : Int) ∈ e then ms ++ [(1, h)] else ms) = (pushQ m h ms.reverse).reverse := by
      unfold pushQ
      cases c : bt m h with
      | true => rw [if_pos (hme.mpr c)]; simp
      | false => rw [if_neg (fun x => by rw [hme.mp x] at c; cases c)]; simp
    rw [hq1] at hF hM
    have hgo := runGo_succ m n f h ms.reverse
    generalize pushQ m h ms.reverse = q at *
    rw [hgo]
    cases c : bt n h with
    | true =>
      have hin := hml.mpr c
      rw [if_pos hin] at hF hM
      cases q with
      | nil =>
        show runF e l (st : Int) j ++ ((h, none) :: runGo m n f ((h + 1) % 6) []).map rowW = _
        rw [hnext, ← ih, hF, hM]
        simp [rowW, popRow]
      | cons t r =>
        show runF e l (st : Int) j ++ ((h, some t) :: runGo m n f ((h + 1) % 6) (r.map older)).map rowW = _
        rw [hnext, ← ih, hF, hM]
        have h1 : (t :: r).reverse.dropLast = r.reverse := by simp
        have h2 : popRow (t :: r).reverse = lineS t := by unfold popRow; simp
        rw [h1, h2]
        simp [rowW, List.map_reverse]
    | false =>
      have hin : ¬ (h : Int) ∈ l := fun x => by rw [hml.mp x] at c; cases c
      rw [if_neg hin] at hF hM
      show runF e l (st : Int) j ++ (runGo m n f ((h + 1) % 6) (q.map older)).map rowW = _
      rw [hnext, ← ih, hF, hM]
      simp [List.map_reverse]
theorem find_rel : ∀ (l : List Nat) (i : Nat), findN l i = if (0 : Int) ∈ l.map (fun x : Nat => (x : Int) - 6) then some (i + (l.map fun x : Nat => (x : Int) - 6).idxOf 0) else none
  | [], i => rfl
  | a :: r, i => by
    have ih := find_rel r (i + 1)
    show (match Nat.beq a 6 with | true => some i | false => findN r (i + 1)) = _
    cases c : Nat.beq a 6 with
    | true =>
      have : a = 6 := Nat.eq_of_beq_eq_true c
      subst this
      simp
    | false =>
      have hne : a ≠ 6 := fun h => by rw [h] at c; cases c
      have hne2 : ((a : Int) - 6) ≠ 0 := by omega
      rw [ih]
      simp only [List.map_cons, List.mem_cons]
      have h0 : ¬ (0 : Int) = (a : Int) - 6 := fun h => hne2 h.symm
      by_cases hin : (0 : Int) ∈ r.map (fun x : Nat => (x : Int) - 6)
      · rw [if_pos hin, if_pos (.inr hin), List.idxOf_cons, show ((a : Int) - 6 == 0) = false by simpa using hne2]
        show some (i + 1 + _) = some (i + (_ + 1))
        congr 1; omega
      · rw [if_neg hin, if_neg (by rintro (h | h); exact h0 h; exact hin h)]
theorem row_text : ((List.range 6).all fun h => (List.range 6).all fun i => Txt.mul dotS ((i : Int) + 1) ++ Txt.item abc ((h : Int) + 1 - ((i : Int) + 1)) == lineS (i + 1, (h + 6 - i) % 6)) = true := by decide +kernel
theorem rowT_rel (he : Al e m) (hl : Al l n) {h : Nat} (hh : h < 6) : rowT (sumS e l (h : Int) 6) (h : Int) = (rowW (h, backN (sumsN m n h) h)).2 := by
  have hf := find_rel (sumsN m n h) 0
  have hs := sums_rel he hl hh
  have hlen : (sumS e l (h : Int) 6).length = 6 := by simp [sumS]
  rw [hs] at hf
  unfold rowT rowW backN
  dsimp only
  rw [hf]
  by_cases hin : (0 : Int) ∈ sumS e l (h : Int) 6
  · rw [if_pos hin, if_pos hin]
    have hi := List.idxOf_lt_length_iff.mpr hin
    rw [hlen] at hi
    have ht := row_text
    simp only [List.all_eq_true, List.mem_range] at ht
    have := eq_of_beq (ht h hh _ hi)
    rw [Nat.zero_add]
    exact this
  · rw [if_neg hin, if_neg hin]
theorem sumsL_get (e l : List Int) : ∀ (h : Nat), h < 6 → (sumsL e l).getD h [] = sumS e l (h : Int) 6
  | 0, _ => rfl
  | 1, _ => rfl
  | 2, _ => rfl
  | 3, _ => rfl
  | 4, _ => rfl
  | 5, _ => rfl
  | n + 6, h => by omega
theorem told_rel (he : Al e m) (hl : Al l n) (st : Nat) : ∀ (f j : Nat), j + f = 6 → toldF (sumsL e l) l (st : Int) j ++ (toldGo m n f ((st + j) % 6)).map rowW = toldF (sumsL e l) l (st : Int) 6
  | 0, j, hf => by
    obtain rfl : j = 6 := by omega
    simp [toldGo]
  | f + 1, j, hf => by
    have ih := told_rel he hl st f (j + 1) (by omega)
    have hh := hour_nat st j
    have h6 : (st + j) % 6 < 6 := Nat.mod_lt _ (by decide)
    have hnext : ((st + j) % 6 + 1) % 6 = (st + (j + 1)) % 6 := by omega
    have hml := hl.mem _ h6
    have hT := toldF_succ (sumsL e l) l (st : Int) j
    rw [show Int.fmod ((st : Int) + (j : Int)) 6 = (((st + j) % 6 : Nat) : Int) from hh] at hT
    rw [show (((((st + j) % 6 : Nat)) : Int)).toNat = (st + j) % 6 from rfl] at hT
    generalize (st + j) % 6 = h at *
    rw [sumsL_get e l h h6, rowT_rel he hl h6] at hT
    have hgo : toldGo m n (f + 1) h = match bt n h with
      | true => (h, backN (sumsN m n h) h) :: toldGo m n f ((h + 1) % 6)
      | false => toldGo m n f ((h + 1) % 6) := rfl
    rw [hgo, hnext]
    cases c : bt n h with
    | true =>
      rw [if_pos (hml.mpr c)] at hT
      rw [← ih, hT]
      simp [rowW]
    | false =>
      rw [if_neg (fun x => by rw [hml.mp x] at c; cases c)] at hT
      rw [← ih, hT]
      simp
end
structure WOk (x : Went) : Prop where
  h : x.1 < 6
  t : ∀ t, x.2 = some t → 1 ≤ t.1 ∧ t.1 ≤ 7 ∧ t.2 < 6
theorem runGo_ok (m n : Nat) : ∀ (f h : Nat) (ms : List (Nat × Nat)), f ≤ 6 → h < 6 → (∀ t ∈ ms, 1 ≤ t.1 ∧ t.1 + f ≤ 7 ∧ t.2 < 6) → ∀ x ∈ runGo m n f h ms, WOk x
  | 0, _, _, _, _, _, x, hx => by cases hx
  | f + 1, h, ms, hf, hh, hm, x, hx => by
    have h6 : (h + 1) % 6 < 6 := Nat.mod_lt _ (by decide)
    have hqm : ∀ t ∈ pushQ m h ms, 1 ≤ t.1 ∧ t.1 + (f + 1) ≤ 7 ∧ t.2 < 6 := by
      unfold pushQ
      cases bt m h with
      | true =>
        intro t ht
        rcases List.mem_cons.mp ht with rfl | ht
        · exact ⟨Nat.le_refl 1, by show 1 + (f + 1) ≤ 7; omega, hh⟩
        · exact hm t ht
      | false => exact hm
    have hgo := runGo_succ m n f h ms
    generalize pushQ m h ms = q at *
    have hold : ∀ r : List (Nat × Nat), (∀ t ∈ r, t ∈ q) → ∀ t ∈ r.map older, 1 ≤ t.1 ∧ t.1 + f ≤ 7 ∧ t.2 < 6 := fun r hr t ht => by
      obtain ⟨t', ht', rfl⟩ := List.mem_map.mp ht
      obtain ⟨a, b, c⟩ := hqm t' (hr t' ht')
      exact ⟨by show 1 ≤ t'.1 + 1; omega, by show t'.1 + 1 + f ≤ 7; omega, c⟩
    rw [hgo] at hx
    cases c : bt n h with
    | true =>
      rw [c] at hx
      cases q with
      | nil =>
        rcases List.mem_cons.mp hx with rfl | hx
        · exact ⟨hh, fun t ht => by cases ht⟩
        · exact runGo_ok m n f _ [] (by omega) h6 (fun t ht => by cases ht) x hx
      | cons t r =>
        rcases List.mem_cons.mp hx with rfl | hx
        · refine ⟨hh, fun t' ht' => ?_⟩
          cases ht'
          obtain ⟨a, b, c⟩ := hqm t (.head _)
          exact ⟨a, by omega, c⟩
        · exact runGo_ok m n f _ _ (by omega) h6 (hold r fun t' ht' => .tail _ ht') x hx
    | false =>
      rw [c] at hx
      exact runGo_ok m n f _ _ (by omega) h6 (hold q fun _ ht => ht) x hx
theorem count_all : ((List.range 8).all fun k => (List.range 6).all fun l => (Txt.count (lineS (k, l)) dotS == k) && ((lineS (k, l)).length == k + 1)) = true := by decide +kernel
theorem waits_rel : ∀ (out : List Went), (∀ x ∈ out, WOk x) → (waitsF (out.map rowW)).sum = (waitN out : Int)
  | [], _ => rfl
  | (h, none) :: r, hx => by
    have ih := waits_rel r fun x hx' => hx x (.tail _ hx')
    have : waitsF (((h, none) :: r).map rowW) = waitsF (r.map rowW) := by
      unfold waitsF
      rw [List.map_cons, List.filter_cons_of_neg (by show ¬ (((noSep.length : Nat) : Int) != 0) = true; decide +kernel)]
    rw [this]; exact ih
  | (h, some t) :: r, hx => by
    have ih := waits_rel r fun x hx' => hx x (.tail _ hx')
    obtain ⟨a, b, c⟩ := (hx _ (.head _)).t t rfl
    have ht := count_all
    simp only [List.all_eq_true, List.mem_range, Bool.and_eq_true, beq_iff_eq] at ht
    obtain ⟨k1, k2⟩ := ht t.1 (by omega) t.2 c
    have : waitsF (((h, some t) :: r).map rowW) = (Txt.count (lineS t) dotS - 1) :: waitsF (r.map rowW) := by
      unfold waitsF
      rw [List.map_cons, List.filter_cons_of_pos (by
        show ((((lineS t).length : Nat) : Int) != 0) = true
        rw [k2]; simp; omega)]
      rfl
    rw [this, List.sum_cons, ih, k1]
    show _ = ((Nat.pred t.1 + waitN r : Nat) : Int)
    rw [Nat.pred_eq_sub_one]; omega
section
variable {e l : List Int} {m n : Nat}
theorem most_one (he : Al e m) (hl : Al l n) {h : Nat} (hh : h < 6) : max 0 (maxI (sumS e l (h : Int) 6)) = ((mx 6 (maxN (sumsN m n h)) - 6 : Nat) : Int) := by
  rw [← sums_rel he hl hh, max_rel (sumsN_ne _ _ _), mx_is]; omega
theorem most_rel (he : Al e m) (hl : Al l n) : (mostF (sumsL e l)).sum = (mostN m n : Int) := by
  have h0 := most_one he hl (show 0 < 6 by decide)
  have h1 := most_one he hl (show 1 < 6 by decide)
  have h2 := most_one he hl (show 2 < 6 by decide)
  have h3 := most_one he hl (show 3 < 6 by decide)
  have h4 := most_one he hl (show 4 < 6 by decide)
  have h5 := most_one he hl (show 5 < 6 by decide)
  have e1 : mostF (sumsL e l) = [max 0 (maxI (sumS e l ((0 : Nat) : Int) 6)), max 0 (maxI (sumS e l ((1 : Nat) : Int) 6)), max 0 (maxI (sumS e l ((2 : Nat) : Int) 6)), max 0 (maxI (sumS e l ((3 : Nat) : Int) 6)), max 0 (maxI (sumS e l ((4 : Nat) : Int) 6)), max 0 (maxI (sumS e l ((5 : Nat) : Int) 6))] := rfl
  have e2 : mostN m n = 0 + (mx 6 (maxN (sumsN m n 0)) - 6) + (mx 6 (maxN (sumsN m n 1)) - 6) + (mx 6 (maxN (sumsN m n 2)) - 6) + (mx 6 (maxN (sumsN m n 3)) - 6) + (mx 6 (maxN (sumsN m n 4)) - 6) + (mx 6 (maxN (sumsN m n 5)) - 6) := rfl
  rw [e1, e2, h0, h1, h2, h3, h4, h5]
  simp only [List.sum_cons, List.sum_nil]
  omega
end
theorem eqO_is : ∀ {a b : Option (Nat × Nat)}, eqO a b = true → a = b
  | none, none, _ => rfl
  | none, some _, h => by cases h
  | some _, none, h => by cases h
  | some (a, b), some (c, d), h => by
    simp only [eqO, Bool.and_eq_true] at h
    rw [Nat.eq_of_beq_eq_true h.1, Nat.eq_of_beq_eq_true h.2]
theorem eqW_is : ∀ {a b : List Went}, eqW a b = true → a = b
  | [], [], _ => rfl
  | [], _ :: _, h => by cases h
  | _ :: _, [], h => by cases h
  | (a, x) :: r, (b, y) :: t, h => by
    simp only [eqW, Bool.and_eq_true] at h
    rw [Nat.eq_of_beq_eq_true h.1, eqO_is h.2.1, eqW_is h.2.2]
theorem eqB_is : ∀ {a b : List Bool}, eqB a b = true → a = b
  | [], [], _ => rfl
  | [], true :: _, h => by cases h
  | [], false :: _, h => by cases h
  | true :: _, [], h => by cases h
  | false :: _, [], h => by cases h
  | true :: r, true :: t, h => by rw [eqB_is (a := r) (b := t) h]
  | false :: r, false :: t, h => by rw [eqB_is (a := r) (b := t) h]
  | true :: r, false :: t, h => by cases h
  | false :: r, true :: t, h => by cases h
end Mine
end
section
open PySem PySem.W PySem.Spec PySem.Calls PyProof.Rows
set_option Elab.async false
set_option maxRecDepth 100000
set_option maxHeartbeats 4000000
set_option linter.unusedVariables false
namespace Mine
noncomputable def bS (b : Bool) : Str := if b = true then dotS else noSep
noncomputable def low (j : Nat) : Str := Txt.lower (Txt.item abc (j : Int))
noncomputable def allL (rs : List (Str × Str)) (k : Str) : List Str := (rs.filter fun r => Txt.lower r.1 == k).map (·.2)
noncomputable def ViewIs (rs : List (Str × Str)) (n d : Nat) : Prop := ∀ j, j < 6 → allL rs (low j) = (viewN n d j).map bS
/-! small tables of names -/
theorem name_tab : ((List.range 6).all fun i => (List.range 6).all fun j => ((Txt.item abc (i : Int) == ⟨#[abc.cps.getD j 0]⟩) == Nat.beq i j) && ((low i == low j) == Nat.beq i j)) = true := by decide +kernel
theorem mix_tab : ((List.range 6).all fun j => Txt.lower ⟨#[mixS.cps.getD j 0]⟩ == low j) = true := by decide +kernel
theorem bell_tab : ((List.range 7).all fun h => (Txt.lower (Txt.item (Str.ofString "abcdef") ((h : Int) - 1)) == low ((h + 5) % 6)) && (Txt.lower (Txt.item (Str.ofString "ABCDEF") ((h : Int) - 1)) == low ((h + 5) % 6))) = true := by decide +kernel
theorem name_eq {i j : Nat} (hi : i < 6) (hj : j < 6) : (Txt.item abc (i : Int) == (⟨#[abc.cps.getD j 0]⟩ : Str)) = Nat.beq i j := by
  have h := name_tab
  simp only [List.all_eq_true, List.mem_range, Bool.and_eq_true] at h
  exact eq_of_beq (h i hi j hj).1
theorem low_eq {i j : Nat} (hi : i < 6) (hj : j < 6) : (low i == low j) = Nat.beq i j := by
  have h := name_tab
  simp only [List.all_eq_true, List.mem_range, Bool.and_eq_true] at h
  exact eq_of_beq (h i hi j hj).2
theorem low_ne {i j : Nat} (hi : i < 6) (hj : j < 6) (h : i ≠ j) : low i ≠ low j := fun e => by
  have := low_eq hi hj
  rw [e, beq_self_eq_true] at this
  exact h (Nat.eq_of_beq_eq_true this.symm)
theorem mix_eq {j : Nat} (hj : j < 6) : Txt.lower ⟨#[mixS.cps.getD j 0]⟩ = low j := by
  have h := mix_tab
  simp only [List.all_eq_true, List.mem_range] at h
  exact eq_of_beq (h j hj)
theorem bell_eq (b : Int) {h : Nat} (hh : h < 7) : Txt.lower (nmF' b ((h : Int) - 1)) = low ((h + 5) % 6) := by
  have k := bell_tab
  simp only [List.all_eq_true, List.mem_range, Bool.and_eq_true] at k
  unfold nmF' namesF
  split
  · exact eq_of_beq (k h hh).1
  · exact eq_of_beq (k h hh).2
/-! what a table answers -/
theorem getAll_is (rs : List (Str × Str)) (nm : Str) : getAllF rs nm = allL rs (Txt.lower nm) := rfl
theorem get_is (rs : List (Str × Str)) (nm : Str) : getF rs nm = (allL rs (Txt.lower nm)).head? := by
  unfold getF allL
  rw [List.head?_map, List.head?_filter]
theorem del_view (nm k : Str) : ∀ rs : List (Str × Str), allL (delF rs nm) k = if Txt.lower nm = k then [] else allL rs k
  | [] => by unfold allL delF; split <;> rfl
  | r :: rs => by
    have ih := del_view nm k rs
    unfold allL delF at ih ⊢
    by_cases h1 : Txt.lower r.1 = Txt.lower nm
    · rw [List.filter_cons_of_neg (by simp [h1]), ih]
      by_cases h2 : Txt.lower nm = k
      · rw [if_pos h2, if_pos h2]
      · rw [if_neg h2, if_neg h2, List.filter_cons_of_neg (by rw [h1]; simpa using h2)]
    · rw [List.filter_cons_of_pos (by simpa using h1)]
      by_cases h2 : Txt.lower nm = k
      · rw [if_pos h2] at ih ⊢
        rw [List.filter_cons_of_neg (by rw [← h2]; simpa using h1)]
        exact ih
      · rw [if_neg h2] at ih ⊢
        by_cases h3 : Txt.lower r.1 = k
        · rw [List.filter_cons_of_pos (by simpa using h3), List.filter_cons_of_pos (by simpa using h3), List.map_cons, List.map_cons, ih]
        · rw [List.filter_cons_of_neg (by simpa using h3), List.filter_cons_of_neg (by simpa using h3)]
          exact ih
theorem allL_append (rs ts : List (Str × Str)) (k : Str) : allL (rs ++ ts) k = allL rs k ++ allL ts k := by
  unfold allL; rw [List.filter_append, List.map_append]
theorem allL_one (nm v k : Str) : allL [(nm, v)] k = if Txt.lower nm = k then [v] else [] := by
  unfold allL
  by_cases h : Txt.lower nm = k
  · rw [if_pos h, fil1 (p := fun r : Str × Str => Txt.lower r.1 == k) (by simpa using h)]; rfl
  · rw [if_neg h, fil0 (p := fun r : Str × Str => Txt.lower r.1 == k) (by simpa using h)]; rfl
theorem set_view (rs : List (Str × Str)) (nm v k : Str) : allL (setF rs nm v) k = if Txt.lower nm = k then [v] else allL rs k := by
  unfold setF
  rw [allL_append, del_view, allL_one]
  split
  · rfl
  · rw [List.append_nil]
theorem sd_view (rs : List (Str × Str)) (nm v k : Str) : allL (sdF rs nm v) k = if Txt.lower nm = k ∧ allL rs k = [] then [v] else allL rs k := by
  unfold sdF
  rw [get_is]
  cases h : allL rs (Txt.lower nm) with
  | nil =>
    show allL (rs ++ [(nm, v)]) k = _
    rw [allL_append, allL_one]
    by_cases h2 : Txt.lower nm = k
    · rw [← h2, h, if_pos rfl, if_pos ⟨rfl, rfl⟩]; rfl
    · rw [if_neg h2, if_neg (fun x => h2 x.1), List.append_nil]
  | cons a r =>
    show allL rs k = _
    rw [if_neg (fun x => by rw [x.1] at h; rw [h] at x; cases x.2)]
theorem town_view (k : Str) : ∀ (rows rs : List (Str × Str)), allL (rows.foldl (fun rs r => sdF rs r.1 (firstF r.2)) rs) k = if allL rs k = [] then ((rows.filter fun r => Txt.lower r.1 == k).take 1).map (fun r => firstF r.2) else allL rs k
  | [], rs => by simp only [List.foldl_nil]; split <;> simp_all
  | r :: rows, rs => by
    have ih := town_view k rows (sdF rs r.1 (firstF r.2))
    have hs := sd_view rs r.1 (firstF r.2) k
    simp only [List.foldl_cons]
    rw [ih]
    by_cases h1 : Txt.lower r.1 = k
    · rw [List.filter_cons_of_pos (by simpa using h1)]
      by_cases h2 : allL rs k = []
      · rw [if_pos ⟨h1, h2⟩] at hs
        rw [hs, if_neg (List.cons_ne_nil _ _), if_pos h2]; rfl
      · rw [if_neg (fun x => h2 x.2)] at hs
        rw [hs, if_neg h2, if_neg h2]
    · rw [if_neg (fun x => h1 x.1)] at hs
      rw [List.filter_cons_of_neg (by simpa using h1), hs]
/-! the rows that go, as the machine has them -/
theorem first_rel {x : Went} (h : WOk x) : firstF (rowW x).2 = bS (isS x.2) := by
  obtain ⟨i, o⟩ := x
  cases o with
  | none => exact first_empty
  | some t =>
    obtain ⟨a, b, c⟩ := h.t t rfl
    exact first_line a b c
theorem filt_rel {p : Str × Str → Bool} {q : Went → Bool} : ∀ {out : List Went}, (∀ x ∈ out, WOk x) → (∀ x ∈ out, p (rowW x) = q x) → ((out.map rowW).filter p).map (fun r => firstF r.2) = (out.filter q).map fun x => bS (isS x.2)
  | [], _, _ => rfl
  | x :: out, h1, h2 => by
    have ih := filt_rel (p := p) (q := q) (out := out) (fun y hy => h1 y (.tail _ hy)) fun y hy => h2 y (.tail _ hy)
    have hx := h2 x (.head _)
    rw [List.map_cons]
    cases c : q x with
    | true =>
      rw [List.filter_cons_of_pos (hx.trans c), List.filter_cons_of_pos c, List.map_cons, List.map_cons, ih, first_rel (h1 x (.head _))]
    | false =>
      rw [List.filter_cons_of_neg (by rw [hx, c]; decide), List.filter_cons_of_neg (by rw [c]; decide)]
      exact ih
theorem kind_rel {out : List Went} (h : ∀ x ∈ out, WOk x) {j : Nat} (hj : j < 6) : kindF (out.map rowW) ⟨#[abc.cps.getD j 0]⟩ = (kindN out j).map bS := by
  unfold kindF kindN
  rw [filt_rel (q := fun x : Went => Nat.beq x.1 j) h fun x hx => name_eq (h x hx).h hj, List.map_map]
  rfl
theorem town0_rel {out : List Went} (h : ∀ x ∈ out, WOk x) {j : Nat} (hj : j < 6) (h1 : (kindN out j).length ≤ 1) : allL (townF (out.map rowW)) (low j) = (kindN out j).map bS := by
  unfold townF
  rw [town_view, if_pos (show allL [] (low j) = [] from rfl)]
  have hf := filt_rel (p := fun r : Str × Str => Txt.lower r.1 == low j) (q := fun x : Went => Nat.beq x.1 j) h fun x hx => low_eq (h x hx).h hj
  have hk : (kindN out j).map bS = (out.filter fun x => Nat.beq x.1 j).map fun x => bS (isS x.2) := by unfold kindN; rw [List.map_map]; rfl
  rw [hk, ← hf]
  have hl : ((out.map rowW).filter fun r => Txt.lower r.1 == low j).length ≤ 1 := by
    have := congrArg List.length hf
    rw [List.length_map, List.length_map] at this
    unfold kindN at h1
    rw [List.length_map] at h1
    omega
  rw [List.take_of_length_le hl]
/-! the bell at the table -/
noncomputable def moveM (n i : Nat) : Nat := Nat.add (Nat.sub n (Nat.pow 2 i)) (Nat.pow 2 (Nat.mod (Nat.add i 5) 6))
theorem move_tab : ((List.range 64).all fun n => (List.range 6).all fun i => !(bt n i && !(bt n ((i + 5) % 6))) || (Nat.ble (moveM n i) 63 && (List.range 6).all fun j => bt (moveM n i) j == (Nat.beq j ((i + 5) % 6) || (!(Nat.beq j i) && bt n j)))) = true := by decide +kernel
theorem move_bits {n i : Nat} (hn : n < 64) (hi : i < 6) (h1 : bt n i = true) (h2 : bt n ((i + 5) % 6) = false) : moveM n i < 64 ∧ ∀ j, j < 6 → bt (moveM n i) j = (Nat.beq j ((i + 5) % 6) || (!(Nat.beq j i) && bt n j)) := by
  have h := move_tab
  simp only [List.all_eq_true, List.mem_range] at h
  have := h n hn i hi
  rw [h1, h2] at this
  simp only [Bool.not_false, Bool.and_self, Bool.not_true, Bool.false_or, Bool.and_eq_true, List.all_eq_true, List.mem_range, beq_iff_eq] at this
  exact ⟨Nat.lt_succ_of_le (Nat.le_of_ble_eq_true this.1), this.2⟩
theorem beq_ne {i j : Nat} (h : i ≠ j) : Nat.beq i j = false := by
  cases c : Nat.beq i j with
  | false => rfl
  | true => exact absurd (Nat.eq_of_beq_eq_true c) h
theorem bS_lt (a b : Bool) : (bS a).cps.toList < (bS b).cps.toList ↔ a = false ∧ b = true := by
  have h0 : noSep.cps.toList = [] := by decide +kernel
  have h1 : dotS.cps.toList = [46] := by decide +kernel
  cases a <;> cases b <;> simp [bS, h0, h1]
theorem tr_view {rs : List (Str × Str)} {n d i : Nat} (b : Int) (hn : n < 64) (hd : d < 64) (hi : i < 6) (sub : ∀ j, j < 6 → bt d j = true → bt n j = true) (v : ViewIs rs n d) :
    ViewIs (trF rs (i : Int) b) (rungM n i) (trD n d i) := by
  have ha6 : (i + 5) % 6 < 6 := Nat.mod_lt _ (by decide)
  have hai : i ≠ (i + 5) % 6 := by omega
  have hni : Txt.lower (nmF' b (i : Int)) = low i := by
    have := bell_eq b (h := i + 1) (by omega)
    rw [show (((i + 1 : Nat) : Int) - 1) = (i : Int) by omega, show (i + 1 + 5) % 6 = i by omega] at this
    exact this
  have hna : Txt.lower (nmF' b ((i : Int) - 1)) = low ((i + 5) % 6) := bell_eq b (h := i) (by omega)
  have hgi : getF rs (nmF' b (i : Int)) = ((viewN n d i).map bS).head? := by rw [get_is, hni, v i hi]
  have hga : getF rs (nmF' b ((i : Int) - 1)) = ((viewN n d ((i + 5) % 6)).map bS).head? := by rw [get_is, hna, v _ ha6]
  have hR : rungM n i = match bt n i with
    | true => (match bt n ((i + 5) % 6) with | true => n | false => moveM n i)
    | false => n := rfl
  have hD : trD n d i = match bt n i with
    | false => d
    | true => match bt n ((i + 5) % 6) with
      | false => (match bt d i with | true => moveM d i | false => d)
      | true => (match bt d i with
        | true => (match bt d ((i + 5) % 6) with | true => d | false => moveM d i)
        | false => d) := rfl
  generalize ha : (i + 5) % 6 = a at *
  have hia : low i ≠ low a := low_ne hi ha6 hai
  unfold trF
  cases c1 : bt n i with
  | false =>
    rw [c1] at hR hD
    rw [hR, hD, hgi]
    have : viewN n d i = [] := by unfold viewN; rw [c1]
    rw [this]
    exact v
  | true =>
    have hvi : viewN n d i = [bt d i] := by unfold viewN; rw [c1]
    rw [c1] at hR hD
    rw [hgi, hvi]
    cases c2 : bt n a with
    | false =>
      have hva : viewN n d a = [] := by unfold viewN; rw [c2]
      rw [c2] at hR hD
      rw [hga, hva, hR, hD]
      have hda : bt d a = false := by
        cases c : bt d a with
        | false => rfl
        | true => rw [sub a ha6 c] at c2; cases c2
      obtain ⟨_, hb⟩ := move_bits hn hi c1 (by rw [ha]; exact c2)
      rw [ha] at hb
      intro j hj
      show allL (delF (setF rs (nmF' b ((i : Int) - 1)) (bS (bt d i))) (nmF' b (i : Int))) (low j) = _
      rw [del_view, set_view, hni, hna]
      unfold viewN
      show _ = (match bt (moveM n i) j with | true => [bt (match bt d i with | true => moveM d i | false => d) j] | false => []).map bS
      rw [hb j hj]
      by_cases e1 : j = i
      · subst e1
        rw [if_pos rfl, beq_ne hai, show Nat.beq j j = true from Nat.beq_refl j]; rfl
      · rw [if_neg (low_ne hi hj (Ne.symm e1))]
        by_cases e2 : j = a
        · subst e2
          rw [if_pos rfl, show Nat.beq j j = true from Nat.beq_refl j]
          show _ = [bS _]
          cases c3 : bt d i with
          | true =>
            obtain ⟨_, hb2⟩ := move_bits hd hi c3 (by rw [ha]; exact hda)
            rw [ha] at hb2
            show _ = [bS (bt (moveM d i) j)]
            rw [hb2 j hj, show Nat.beq j j = true from Nat.beq_refl j]; rfl
          | false => show _ = [bS (bt d j)]; rw [hda]
        · rw [if_neg (low_ne ha6 hj (Ne.symm e2)), v j hj, beq_ne e2, beq_ne e1]
          unfold viewN
          cases bt n j with
          | false => rfl
          | true =>
            show [bS (bt d j)] = [bS _]
            cases c3 : bt d i with
            | true =>
              obtain ⟨_, hb2⟩ := move_bits hd hi c3 (by rw [ha]; exact hda)
              rw [ha] at hb2
              show _ = [bS (bt (moveM d i) j)]
              rw [hb2 j hj, beq_ne e2, beq_ne e1]; rfl
            | false => rfl
    | true =>
      have hva : viewN n d a = [bt d a] := by unfold viewN; rw [c2]
      rw [c2] at hR hD
      rw [hga, hva, hR, hD]
      show ViewIs (if (bS (bt d a)).cps.toList < (bS (bt d i)).cps.toList then setF (setF rs (nmF' b ((i : Int) - 1)) (bS (bt d i))) (nmF' b (i : Int)) (bS (bt d a)) else rs) n _
      cases c3 : bt d i with
      | false =>
        rw [if_neg (fun h => by have := ((bS_lt _ _).mp h).2; cases this)]
        exact v
      | true =>
        cases c4 : bt d a with
        | true =>
          rw [if_neg (fun h => by have := ((bS_lt _ _).mp h).1; cases this)]
          exact v
        | false =>
          rw [if_pos ((bS_lt _ _).mpr ⟨rfl, rfl⟩)]
          obtain ⟨_, hb2⟩ := move_bits hd hi c3 (by rw [ha]; exact c4)
          rw [ha] at hb2
          intro j hj
          rw [set_view, set_view, hni, hna]
          show _ = (viewN n (moveM d i) j).map bS
          unfold viewN
          by_cases e1 : j = i
          · subst e1
            rw [if_pos rfl, c1]
            show _ = [bS (bt (moveM d j) j)]
            rw [hb2 j hj, beq_ne hai, show Nat.beq j j = true from Nat.beq_refl j]; rfl
          · rw [if_neg (low_ne hi hj (Ne.symm e1))]
            by_cases e2 : j = a
            · subst e2
              rw [if_pos rfl, c2]
              show _ = [bS (bt (moveM d i) j)]
              rw [hb2 j hj, show Nat.beq j j = true from Nat.beq_refl j]; rfl
            · rw [if_neg (low_ne ha6 hj (Ne.symm e2)), v j hj]
              unfold viewN
              cases bt n j with
              | false => rfl
              | true =>
                show [bS (bt d j)] = [bS (bt (moveM d i) j)]
                rw [hb2 j hj, beq_ne e2, beq_ne e1]; rfl
end Mine
end
section
open PySem PySem.W PySem.Spec PySem.Calls PyProof.Rows
set_option Elab.async false
set_option maxRecDepth 100000
set_option maxHeartbeats 4000000
set_option linter.unusedVariables false
namespace Mine
/-! the bell at the lines -/
theorem behind_nat {i : Nat} (hi : i < 6) : Int.fmod ((i : Int) - 1) 6 = (((i + 5) % 6 : Nat) : Int) := by
  rw [Int.fmod_eq_emod_of_nonneg _ (by decide)]; omega
noncomputable def rungB (b : Bool) (i : Nat) (p : Int) : Int := if p = (i : Int) ∧ b = false then (((i + 5) % 6 : Nat) : Int) else p
theorem rung_tab : ((List.range 64).all fun m => (List.range 6).all fun i => decide (((bl m).map (rungB (bt m ((i + 5) % 6)) i)).Perm (bl (rungM m i))) && Nat.ble (rungM m i) 63) = true := by decide +kernel
theorem rung_rel {e : List Int} {m i : Nat} (hm : m < 64) (hi : i < 6) (p : e.Perm (bl m)) : (rungF e (i : Int)).Perm (bl (rungM m i)) ∧ rungM m i < 64 := by
  have h := rung_tab
  simp only [List.all_eq_true, List.mem_range, Bool.and_eq_true, decide_eq_true_eq] at h
  obtain ⟨h1, h2⟩ := h m hm i hi
  refine ⟨?_, Nat.lt_succ_of_le (Nat.le_of_ble_eq_true h2)⟩
  have hin := (al_perm p).mem _ (Nat.mod_lt (i + 5) (show 6 > 0 by decide))
  have e1 : rungF e (i : Int) = e.map (rungB (bt m ((i + 5) % 6)) i) := by
    unfold rungF
    rw [behind_nat hi]
    refine List.map_congr_left fun q _ => ?_
    unfold rungB
    have : (¬ (((i + 5) % 6 : Nat) : Int) ∈ e) ↔ bt m ((i + 5) % 6) = false := by
      rw [hin]; cases bt m ((i + 5) % 6) <;> simp
    simp only [this]
  rw [e1]
  exact (p.map _).trans h1
theorem next_rel {l : List Int} {n : Nat} (hl : Al l n) : ∀ (f p : Nat), p < 6 → nextF l f (p : Int) = ((nextM n f p : Nat) : Int)
  | 0, _, _ => rfl
  | f + 1, p, hp => by
    have ih := next_rel hl f ((p + 1) % 6) (Nat.mod_lt _ (by decide))
    have hm := hl.mem p hp
    have hg : nextM n (f + 1) p = match bt n p with
      | true => p
      | false => nextM n f ((p + 1) % 6) := rfl
    have hf : Int.fmod ((p : Int) + 1) 6 = (((p + 1) % 6 : Nat) : Int) := by rw [Int.fmod_eq_emod_of_nonneg _ (by decide)]; omega
    unfold nextF
    rw [hg, hf, ih]
    cases c : bt n p with
    | true => rw [if_pos (hm.mpr c)]
    | false => rw [if_neg (fun x => by rw [hm.mp x] at c; cases c)]
theorem nextM_lt (n : Nat) : ∀ (f p : Nat), p < 6 → nextM n f p < 6
  | 0, _, h => h
  | f + 1, p, h => by
    have hg : nextM n (f + 1) p = match bt n p with
      | true => p
      | false => nextM n f ((p + 1) % 6) := rfl
    rw [hg]
    cases bt n p with
    | true => exact h
    | false => exact nextM_lt n f _ (Nat.mod_lt _ (by decide))
theorem place_rel {l : List Int} {n i : Nat} (hl : Al l n) (hi : i < 6) : placeF l (i : Int) = ((placeM n i : Nat) : Int) ∧ placeM n i < 6 := by
  have hm := hl.mem _ (Nat.mod_lt (i + 5) (show 6 > 0 by decide))
  have hg : placeM n i = match bt n ((i + 5) % 6) with
    | true => nextM n 5 i
    | false => i := rfl
  unfold placeF
  rw [behind_nat hi, hg]
  cases c : bt n ((i + 5) % 6) with
  | true => rw [if_pos (hm.mpr c)]; exact ⟨next_rel hl 5 i hi, nextM_lt n 5 i hi⟩
  | false => rw [if_neg (fun x => by rw [hm.mp x] at c; cases c)]; exact ⟨rfl, hi⟩
/-! the lines drawn -/
noncomputable def maskB (a b c d e f : Bool) : Nat := nb a + 2 * nb b + 4 * nb c + 8 * nb d + 16 * nb e + 32 * nb f
theorem mask_tab : ∀ a b c d e f : Bool, maskB a b c d e f < 64 ∧ bt (maskB a b c d e f) 0 = a ∧ bt (maskB a b c d e f) 1 = b ∧ bt (maskB a b c d e f) 2 = c ∧ bt (maskB a b c d e f) 3 = d ∧ bt (maskB a b c d e f) 4 = e ∧ bt (maskB a b c d e f) 5 = f := by decide +kernel
theorem bits_rel (p : Int → Bool) : ∃ m, m < 64 ∧ sixI.filter p = bl m := by
  obtain ⟨h, h0, h1, h2, h3, h4, h5⟩ := mask_tab (p 0) (p 1) (p 2) (p 3) (p 4) (p 5)
  refine ⟨_, h, ?_⟩
  unfold bl
  refine List.filter_congr fun x hx => ?_
  unfold sixI at hx
  simp only [List.mem_cons, List.not_mem_nil, or_false] at hx
  rcases hx with rfl | rfl | rfl | rfl | rfl | rfl
  · exact h0.symm
  · exact h1.symm
  · exact h2.symm
  · exact h3.symm
  · exact h4.symm
  · exact h5.symm
theorem len_tab : ((List.range 64).all fun m => Nat.beq (bl m).length (popN m) && Nat.ble (popN m) 6) = true := by decide +kernel
theorem bl_len {m : Nat} (h : m < 64) : (bl m).length = popN m ∧ popN m ≤ 6 := by
  have k := len_tab
  simp only [List.all_eq_true, List.mem_range, Bool.and_eq_true] at k
  exact ⟨Nat.eq_of_beq_eq_true (k m h).1, Nat.le_of_ble_eq_true (k m h).2⟩
structure Rep (e l : List Int) (m n : Nat) : Prop where
  m6 : m < 64
  n6 : n < 64
  pop : popN m ≤ popN n
  e : e.Perm (bl m)
  l : l.Perm (bl n)
theorem rep0 (ns : List Int) : ∃ m n, Rep (line0 ns).1 (line0 ns).2 m n := by
  obtain ⟨m, hm, em⟩ := bits_rel fun h : Int => Int.fmod (Int.fdiv ((cellsF ns).getD 0 0) (2 ^ h.toNat)) 2 != 0
  obtain ⟨n, hn, en⟩ := bits_rel fun h : Int => Int.fmod (Int.fdiv ((cellsF ns).getD 1 0) (2 ^ h.toNat)) 2 != 0
  have em : bitsF ((cellsF ns).getD 0 0) = bl m := em
  have en : bitsF ((cellsF ns).getD 1 0) = bl n := en
  unfold line0
  rw [em, en, (bl_len hm).1, (bl_len hn).1]
  split
  · rename_i h
    exact ⟨n, m, hn, hm, by omega, .refl _, .refl _⟩
  · exact ⟨m, n, hm, hn, by omega, .refl _, .refl _⟩
/-! the tables of the machine, unpacked -/
theorem row_ok {m : Nat} (h : m < 64) : chkRow m = true := by
  rcases (show m < 8 ∨ (8 ≤ m ∧ m < 16) ∨ (16 ≤ m ∧ m < 24) ∨ (24 ≤ m ∧ m < 32) ∨ (32 ≤ m ∧ m < 40) ∨ (40 ≤ m ∧ m < 48) ∨ (48 ≤ m ∧ m < 56) ∨ (56 ≤ m ∧ m < 64) by omega) with k | k | k | k | k | k | k | k
  · exact List.all_eq_true.mp rows0 m (List.mem_range.mpr k)
  · have := List.all_eq_true.mp rows1 (m - 8) (List.mem_range.mpr (by omega)); rwa [show 8 + (m - 8) = m by omega] at this
  · have := List.all_eq_true.mp rows2 (m - 16) (List.mem_range.mpr (by omega)); rwa [show 16 + (m - 16) = m by omega] at this
  · have := List.all_eq_true.mp rows3 (m - 24) (List.mem_range.mpr (by omega)); rwa [show 24 + (m - 24) = m by omega] at this
  · have := List.all_eq_true.mp rows4 (m - 32) (List.mem_range.mpr (by omega)); rwa [show 32 + (m - 32) = m by omega] at this
  · have := List.all_eq_true.mp rows5 (m - 40) (List.mem_range.mpr (by omega)); rwa [show 40 + (m - 40) = m by omega] at this
  · have := List.all_eq_true.mp rows6 (m - 48) (List.mem_range.mpr (by omega)); rwa [show 48 + (m - 48) = m by omega] at this
  · have := List.all_eq_true.mp rows7 (m - 56) (List.mem_range.mpr (by omega)); rwa [show 56 + (m - 56) = m by omega] at this
theorem chk_ok {m n : Nat} (hm : m < 64) (hn : n < 64) (hp : popN m ≤ popN n) : chk m n = true := by
  have h := List.all_eq_true.mp (row_ok hm) n (List.mem_range.mpr hn)
  rw [Nat.ble_eq_true_of_le hp] at h
  exact h
theorem stepRow_ok {m : Nat} (h : m < 64) : chkStep m = true := by
  rcases (show m < 16 ∨ (16 ≤ m ∧ m < 32) ∨ (32 ≤ m ∧ m < 48) ∨ (48 ≤ m ∧ m < 64) by omega) with k | k | k | k
  · exact List.all_eq_true.mp steps0 m (List.mem_range.mpr k)
  · have := List.all_eq_true.mp steps1 (m - 16) (List.mem_range.mpr (by omega)); rwa [show 16 + (m - 16) = m by omega] at this
  · have := List.all_eq_true.mp steps2 (m - 32) (List.mem_range.mpr (by omega)); rwa [show 32 + (m - 32) = m by omega] at this
  · have := List.all_eq_true.mp steps3 (m - 48) (List.mem_range.mpr (by omega)); rwa [show 48 + (m - 48) = m by omega] at this
theorem six_nat {i : Nat} (h : i < 6) : i ∈ [0, 1, 2, 3, 4, 5] := by
  simp only [List.mem_cons, List.not_mem_nil, or_false]; omega
theorem step_ok {m n i : Nat} (hm : m < 64) (hn : n < 64) (hp : popN m ≤ popN n) (hi : i < 6) : popN (rungM m (placeM n i)) ≤ popN (rungM n i) ∧ dT (rungM m (placeM n i)) (rungM n i) = trD n (dT m n) i := by
  have h := List.all_eq_true.mp (stepRow_ok hm) n (List.mem_range.mpr hn)
  rw [Nat.ble_eq_true_of_le hp] at h
  have := List.all_eq_true.mp h i (six_nat hi)
  unfold stepOk at this
  rw [Bool.and_eq_true] at this
  exact ⟨Nat.le_of_ble_eq_true this.1, Nat.eq_of_beq_eq_true this.2⟩
theorem dT_lt (m n : Nat) : dT m n < 64 := by
  unfold dT
  exact Nat.lt_succ_of_le (Nat.and_le_right (n := Nat.shiftRight (tabR.getD m 0) (Nat.mul 6 n)) (m := 63))
/-- what the machine's check says -/
structure Chk (m n st : Nat) (out : List Went) : Prop where
  gst : startGo m n 6 0 = some st
  gout : out = runGo m n 6 st []
  told : out = toldGo m n 6 st
  waits : waitN out = mostN m n
  kinds : ∀ j, j < 6 → kindN out j = viewN n (dT m n) j
  sub : ∀ j, j < 6 → bt (dT m n) j = true → bt n j = true
theorem chk_get {m n : Nat} (h : chk m n = true) : ∃ st out, Chk m n st out := by
  unfold chk at h
  cases hs : startGo m n 6 0 with
  | none => rw [hs] at h; cases h
  | some st =>
    rw [hs] at h
    have h : chk1 m n (runGo m n 6 st []) st = true := h
    unfold chk1 at h
    simp only [Bool.and_eq_true] at h
    obtain ⟨h1, h2, h3⟩ := h
    refine ⟨st, _, hs, rfl, eqW_is h1, Nat.eq_of_beq_eq_true h2, fun j hj => ?_, fun j hj hd => ?_⟩
    · have := List.all_eq_true.mp h3 j (six_nat hj)
      rw [Bool.and_eq_true] at this
      exact eqB_is this.1
    · have := List.all_eq_true.mp h3 j (six_nat hj)
      rw [Bool.and_eq_true, hd] at this
      exact this.2
/-! what is asked holds -/
theorem gone_is {e l : List Int} {m n st : Nat} {out : List Went} (r : Rep e l m n) (c : Chk m n st out) : goneF e l = out.map rowW ∧ startF e l = (st : Int) ∧ st < 6 ∧ ∀ x ∈ out, WOk x := by
  have he := al_perm r.e
  have hl := al_perm r.l
  obtain ⟨h6, q, hq⟩ := start_rel he hl c.gst
  have hs : startF e l = (st : Int) := by unfold startF; rw [hq]; rfl
  have hr := run_rel he hl st 6 0 rfl
  rw [show (st + 0) % 6 = st by omega] at hr
  refine ⟨?_, hs, h6, fun x hx => ?_⟩
  · unfold goneF
    rw [hs, ← hr, c.gout]
    rfl
  · rw [c.gout] at hx
    exact runGo_ok m n 6 st [] (Nat.le_refl 6) h6 (fun t ht => by cases ht) x hx
theorem asked_of {e l : List Int} {rs : List (Str × Str)} {m n : Nat} (r : Rep e l m n) (v : ViewIs rs n (dT m n)) : Asked e l rs := by
  obtain ⟨st, out, c⟩ := chk_get (chk_ok r.m6 r.n6 r.pop)
  have he := al_perm r.e
  have hl := al_perm r.l
  obtain ⟨hg, hs, h6, hw⟩ := gone_is r c
  obtain ⟨_, q, hq⟩ := start_rel he hl c.gst
  refine ⟨⟨st, q, hq, by omega, by omega⟩, ?_, ?_, fun i hi => ?_⟩
  · have ht := told_rel he hl st 6 0 rfl
    rw [show (st + 0) % 6 = st by omega] at ht
    rw [hg, hs, ← ht, c.told]
    rfl
  · rw [hg, waits_rel out hw, most_rel he hl, c.waits]
  · rw [hg, kind_rel hw hi, getAll_is, mix_eq hi, v i hi, c.kinds i hi]
/-! the table stays fit -/
structure TOk (rs : List (Str × Str)) (k : Nat) : Prop where
  len : rs.length ≤ k
  low : ∀ r ∈ rs, LowOk r.1
  clean : RowsV rs
theorem set_ok {rs : List (Str × Str)} {nm v : Str} {k : Nat} (t : TOk rs k) (hn : LowOk nm) (hv : Clean v) : TOk (setF rs nm v) (k + 1) := by
  have hl : (delF rs nm).length ≤ rs.length := List.length_filter_le _ _
  have hm : ∀ r ∈ delF rs nm, r ∈ rs := fun r hr => (List.mem_filter.mp hr).1
  refine ⟨by unfold setF; have := t.len; rw [List.length_append, List.length_singleton]; omega, fun r hr => ?_, fun r hr => ?_⟩
  · rcases List.mem_append.mp hr with hr | hr
    · exact t.low r (hm r hr)
    · rw [List.mem_singleton.mp hr]; exact hn
  · rcases List.mem_append.mp hr with hr | hr
    · exact t.clean r (hm r hr)
    · rw [List.mem_singleton.mp hr]; exact hv
theorem del_ok {rs : List (Str × Str)} {nm : Str} {k : Nat} (t : TOk rs k) : TOk (delF rs nm) k := by
  have hl : (delF rs nm).length ≤ rs.length := List.length_filter_le _ _
  have hm : ∀ r ∈ delF rs nm, r ∈ rs := fun r hr => (List.mem_filter.mp hr).1
  exact ⟨by have := t.len; omega, fun r hr => t.low r (hm r hr), fun r hr => t.clean r (hm r hr)⟩
theorem TOk.more {rs : List (Str × Str)} {k k' : Nat} (t : TOk rs k) (h : k ≤ k') : TOk rs k' := ⟨by have := t.len; omega, t.low, t.clean⟩
theorem tr_ok {rs : List (Str × Str)} {k : Nat} {h b : Int} (t : TOk rs k) (h0 : 0 ≤ h) (h6 : h < 6) : TOk (trF rs h b) (k + 2) := by
  have n0 : LowOk (nmF' b h) := nm_low (by omega) (by omega)
  have n1 : LowOk (nmF' b (h - 1)) := nm_low (by omega) (by omega)
  unfold trF
  cases e1 : getF rs (nmF' b h) with
  | none => exact t.more (by omega)
  | some y =>
    have hy := getF_clean t.clean e1
    show TOk (match getF rs (nmF' b (h - 1)) with | none => _ | some z => _) _
    cases e2 : getF rs (nmF' b (h - 1)) with
    | none => exact (del_ok (set_ok t n1 hy)).more (by omega)
    | some z =>
      have hz := getF_clean t.clean e2
      show TOk (if _ then _ else _) _
      split
      · exact set_ok (set_ok t n1 hy) n0 hz
      · exact t.more (by omega)
theorem town0_ok {rows : List (Str × Str)} (h : ∀ r ∈ rows, RowFit r) (hl : rows.length ≤ 6) : TOk (townF rows) 6 := by
  obtain ⟨a, b⟩ := townF_bound (fun r => LowOk r.1 ∧ Clean r.2) rows [] (fun r hr => by cases hr) fun r hr => ⟨(h r hr).low, (h r hr).firstClean⟩
  refine ⟨?_, fun r hr => (b r hr).1, fun r hr => (b r hr).2⟩
  have a' : (townF rows).length ≤ 0 + rows.length := a
  omega
/-! through the bells -/
theorem law_state (ns : List Int) : ∀ b, ∃ m n, Rep (lineAt ns b).1 (lineAt ns b).2 m n ∧ ViewIs (townAt ns b) n (dT m n) ∧ TOk (townAt ns b) (6 + 2 * b)
  | 0 => by
    obtain ⟨m, n, r⟩ := rep0 ns
    have r : Rep (lineAt ns 0).1 (lineAt ns 0).2 m n := r
    obtain ⟨st, out, c⟩ := chk_get (chk_ok r.m6 r.n6 r.pop)
    obtain ⟨hg, hs, h6, hw⟩ := gone_is r c
    refine ⟨m, n, r, fun j hj => ?_, ?_⟩
    · show allL (townF (goneF (lineAt ns 0).1 (lineAt ns 0).2)) (low j) = _
      have hk := c.kinds j hj
      rw [hg, town0_rel hw hj (by rw [hk]; unfold viewN; cases bt n j <;> simp), hk]
    · exact town0_ok (runF_rows _ _ _ 6 (by decide)) (runF_len _ _ _ 6)
  | b + 1 => by
    obtain ⟨m, n, r, v, t⟩ := law_state ns b
    obtain ⟨h0, h6⟩ := hourAt_lt ns (b + 1)
    obtain ⟨i, hi⟩ : ∃ i : Nat, hourAt ns (b + 1) = (i : Int) := ⟨(hourAt ns (b + 1)).toNat, by omega⟩
    have hi6 : i < 6 := by omega
    obtain ⟨hp, hp6⟩ := place_rel (al_perm r.l) hi6
    obtain ⟨e1, e2⟩ := rung_rel r.m6 hp6 r.e
    obtain ⟨l1, l2⟩ := rung_rel r.n6 hi6 r.l
    obtain ⟨s1, s2⟩ := step_ok r.m6 r.n6 r.pop hi6
    obtain ⟨st, out, c⟩ := chk_get (chk_ok r.m6 r.n6 r.pop)
    refine ⟨rungM m (placeM n i), rungM n i, ⟨e2, l2, s1, ?_, ?_⟩, ?_, ?_⟩
    · show (rungF (lineAt ns b).1 (placeF (lineAt ns b).2 (hourAt ns (b + 1)))).Perm _
      rw [hi, hp]; exact e1
    · show (rungF (lineAt ns b).2 (hourAt ns (b + 1))).Perm _
      rw [hi]; exact l1
    · show ViewIs (trF (townAt ns b) (hourAt ns (b + 1)) ((b + 1 : Nat) : Int)) _ _
      rw [s2, hi]
      exact tr_view _ r.n6 (dT_lt m n) hi6 c.sub v
    · have := tr_ok (b := ((b + 1 : Nat) : Int)) t h0 h6
      exact this
theorem law_asked (ns : List Int) (b : Nat) (hb : b < 5) : Asked (lineAt ns b).1 (lineAt ns b).2 (townAt ns b) := by
  obtain ⟨m, n, r, v, t⟩ := law_state ns b
  exact asked_of r v
theorem law_fit (ns : List Int) (b : Nat) (hb : b < 5) : Fit (lineAt ns b).1 (lineAt ns b).2 (townAt ns b) := by
  obtain ⟨m, n, r, v, t⟩ := law_state ns b
  have he := r.e.length_eq
  have hl := r.l.length_eq
  have h1 := bl_len r.m6
  have h2 := bl_len r.n6
  have h3 := t.len
  exact ⟨by omega, by omega, ⟨by omega, t.low⟩, by omega, t.clean⟩
end Mine
end
section
open PySem PySem.W PySem.Spec PySem.Calls PyProof.Rows
set_option Elab.async false
set_option maxRecDepth 100000
set_option maxHeartbeats 4000000
set_option linter.unusedVariables false
namespace Mine
theorem hide_le {h : Heap} {a : Addr} : Le (h.hide a) h := fun b o e => by
  by_cases hb : b = a
  · subst hb; rw [Heap.hide_self] at e; cases e
  · rwa [Heap.hide_ne _ hb] at e
theorem hide_ns {h : Heap} {a L : Addr} {m : Str → Option Value} (x : h.Ns L m) (ne : L ≠ a) : (h.hide a).Ns L m :=
  let ⟨o, es, ep, ho, r⟩ := x; ⟨o, es, ep, (Heap.hide_ne h ne).trans ho, r⟩
section
variable {w : World} {s₁ : Shared} {mg mb : Str → Option Value}
theorem ne222 (K2 : s₁.heap.get? 222 = some (tabObj #[])) {b : Addr} {o : Obj} (ho : s₁.heap.get? b = some o) (hc : o ≠ tabObj #[]) : b ≠ 222 := fun e => by
  subst e
  rw [K2] at ho
  exact hc (Option.some.inj ho).symm
theorem wd_of (KX : (KK w).In s₁.heap) (K2 : s₁.heap.get? 222 = some (tabObj #[])) (G : s₁.heap.Ns mainGlobals mg) (B : s₁.heap.Ns builtinsNs mb) (hb : ∀ x : Str, x ≠ "__name__" → mb x = bootBuiltins x) (N : s₁.heap.NoLimit) : Wd (KK w) (s₁.heap.hide 222) where
  kin a o ha e := (Heap.hide_ne _ ha).trans (KX a o e)
  lim := by
    obtain ⟨mc, hn, hx⟩ := N
    have hn' := hn
    obtain ⟨o, es, ep, ho, hd, _⟩ := hn'
    refine ⟨mc, hide_ns hn (ne222 K2 ho fun e => ?_), hx⟩
    rw [e] at hd; cases hd
  glob := ⟨mg, mb, hide_ns G (by decide), hide_ns B (by decide), fun x v e => mg_of KX G e, fun x e => mg_none_of KX G e, hb⟩
theorem bm_of (K2 : s₁.heap.get? 222 = some (tabObj #[])) {bm : Addr} {ob : Obj} (M : BMod s₁.heap mainGlobals mg bm ob) : BM (s₁.heap.hide 222) := by
  refine ⟨mg, bm, ob, hide_ns M.ns (by decide), M.name, M.ne, (Heap.hide_ne _ (ne222 K2 M.obj fun e => ?_)).trans M.obj, M.cls, M.dict, M.data⟩
  have := M.cls
  rw [e] at this; cases this
theorem law_end {c : ClaimW} {cl : Str → Option Addr} {mean : ExcName → Option Value} {args : List WData} {l : Addr} {vs : List Value} {ns : List Int} {bm : Addr} {ob : Obj}
    (KX : (KK w).In s₁.heap) (K2 : s₁.heap.get? 222 = some (tabObj #[])) (G : s₁.heap.Ns mainGlobals mg) (B : s₁.heap.Ns builtinsNs mb) (hb : ∀ x : Str, x ≠ "__name__" → mb x = bootBuiltins x) (N : s₁.heap.NoLimit) (M : BMod s₁.heap mainGlobals mg bm ob) (hg : s₁.gens = #[])
    (hL : s₁.heap.IsList l vs.toArray) (hI : IntsAre vs ns) (hlen : ns.length ≤ 63) (hr : ∀ cls, c.raises args cls = false) (hp : c.post args (.bool true) args = true) :
    codeAny (model PR w) callerA (.call (.ref 317) ⟨[.ref l], []⟩) (GoodWG c cl mean args s₁) s₁ := by
  have W := wd_of KX K2 G B hb N
  have S : SS s₁ (s₁.heap.hide 222) [(222, TabP)] s₁ := by
    refine ⟨⟨hide_le, fun p hp => ?_, by simp⟩, Sh.refl _⟩
    rw [List.mem_singleton.mp hp]
    exact ⟨⟨_, K2, #[], rfl, .inl rfl⟩, Heap.hide_self _ _⟩
  have hL' : (s₁.heap.hide 222).IsList l vs.toArray := by
    obtain ⟨o, ho, hc, r⟩ := hL
    refine ⟨o, (Heap.hide_ne _ (ne222 K2 ho fun e => ?_)).trans ho, hc, r⟩
    rw [e] at hc; cases hc
  have hA : Rm 15 callerA := ⟨rfl, by decide +kernel, by decide +kernel⟩
  refine law_c (pts := []) hA S W (bm_of K2 M) ⟨l, vs, rfl, hL', hI⟩ (by omega) (law_asked ns) (law_fit ns) (fun g' s' hle S' => ?_)
  refine ⟨.inl ⟨_, _, [], rfl, hr, ReadsW.bool true, hp, fun _ => ⟨List.nodup_nil, fun _ hm => (nomatch hm)⟩⟩, ⟨fun b o e => ?_, fun b o e => ?_⟩, S'.2.1, S'.2.2 (AllBare.of_eq hg)⟩
  · by_cases h : b = 222
    · subst h
      rw [K2] at e
      cases e
      obtain ⟨o', ho', ps, rfl, _⟩ := (S'.1.own (222, TabP) (.head _)).1
      refine .inr (.inl ⟨⟨226, _, _, KX 226 _ rfl, rfl, rfl, rfl⟩, rfl, #[], ps, rfl, ?_⟩)
      rw [ho']
      simp
    · exact .inl (S'.1.keep _ _ (hle _ _ ((Heap.hide_ne _ h).trans e)))
  · by_cases h : b = 222
    · subst h
      obtain ⟨o', ho', _⟩ := (S'.1.own (222, TabP) (.head _)).1
      exact ⟨o', ho'⟩
    · exact ⟨o, S'.1.keep _ _ (hle _ _ ((Heap.hide_ne _ h).trans e))⟩
end
end Mine
end
open PySem PySem.W PySem.W.X PySem.Spec PySem.Calls PyProof.Rows
set_option Elab.async false
set_option maxRecDepth 100000
set_option maxHeartbeats 0
set_option linter.unusedVariables false
theorem PySem.Challenge.cw_tc0023_01_holds : PySem.Challenge.rw_tc0023_01.Holds := by
  refine Mine.hd ?_
  k_fill
  intro w s₀ s₁ mg mb G Y fa o pm cd doc dV kV ho hd hcd hD hmg hg args vals as hpre hlay hrd hwl hlo
  have KX := km_in_of Y
  have K2 := km_tabs_of Y 222 (.head _)
  have X := (Ground.X G).1
  have V := (Ground.X G).2
  refine Ground.open G ?_
  intro T B D TE TW
  wrow_args hpre hlay hrd hwl hlo
  first | refine callC_kw (enter_call ?_) | refine enter_call ?_ | refine callC_kw (enter_callW ?_) | refine enter_callW ?_ | w_how
  clear hd hcd hD ho
  obtain ⟨bm, ob, M⟩ := bmod_of_top T
  have hfa := mg_of KX (Top.g T) (n := Str.ofString "law") (v := .ref 317) (by kernel_rfl)
  have hmg' : mg (Str.ofString "law") = some (.ref fa) := hmg
  rw [hfa] at hmg'
  cases hmg'
  refine Mine.law_end KX K2 (Top.g T) (Top.b T) (Top.builtins T) (Top.nolimit T) M hg (by assumption) (by assumption) (by omega) (fun _ => rfl) ?_
  first | rfl | wrow_post
