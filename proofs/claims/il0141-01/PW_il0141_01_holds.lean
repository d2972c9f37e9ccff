import PyProof.Rows.All
import Wide.All
import OpenK.AllK
import Wide.FinOn
import PySem.Challenge.RW_il0141_01
open PySem PySem.W PyProof.Rows PySem.Calls
set_option Elab.async false
set_option maxRecDepth 100000
set_option maxHeartbeats 8000000
set_option rowWalk.seconds 0
namespace Mine
section
/-- the text without its assignments to «__name__» -/
noncomputable def vw : Program := { PySem.Challenge.pw_il0141_01 with main := { PySem.Challenge.pw_il0141_01.main with body := ([0, 2, 3, 4, 5, 7, 9, 11, 13, 15, 17, 18, 20, 22, 24, 25, 26, 28, 29, 30, 31, 32, 33, 34, 35] : List Nat).filterMap fun i => PySem.Challenge.pw_il0141_01.main.body[i]? } }
local macro_rules | `(tactic| o_head $H) => `(tactic| (
  refine holds_open (q := vw) (loose := [Str.ofString "filterfalse"]) (Xt := fun s => xlAt vw [] s && recOk (RowW.records (OpenRow.toRowW (OpenLaw.row PySem.Challenge.rw_il0141_01))) s) (XP := XL vw []) (Yf := Hook.obs $H) (Ya := Hook.val $H) (YP := Hook.says $H) (N := 3266) ?hl (Hook.of $H) (Hook.keeps $H) (fun s e => xl_of s (Bool.and_eq_true_iff.mp e).1) XL.keeps (by rfl) (by rfl) (by rfl) (fun s e => recFacts_of (Bool.and_eq_true_iff.mp e).2) (by rfl) (by first | assumption | decide +kernel) (by decide +kernel) ⟨rfl, rfl, rfl, rfl, rfl, by decide +kernel⟩ ?hw ?hc
  (case hl =>
    intro w
    unfold openEnds fencedOpening topFrom
    rw [PySem.W.Fast.te14364793385576792824, PySem.W.Fast.te10274390034422433532, PySem.W.Fast.te14082659384304107361, PySem.W.Fast.te14289696077712309145, PySem.W.Fast.te1435165496053646825, PySem.W.Fast.te4187177175401517315, PySem.W.Fast.te5923862056798008813, PySem.W.Fast.te8920871248978507458]
    kernel_rfl)))
open_top hd for PySem.Challenge.rw_il0141_01
/-- the walk's arms for a claim's top are shut again -/
theorem off_top : True := by
  (w_top off)
  trivial

end
section
/-- the frozen part of a heap -/
abbrev Fz := Addr → Option Obj
def Fz.Le (g g' : Fz) : Prop := ∀ a o, g a = some o → g' a = some o
theorem Fz.Le.refl (g : Fz) : g.Le g := fun _ _ e => e
theorem Fz.Le.trans {g g' g'' : Fz} (x : g.Le g') (y : g'.Le g'') : g.Le g'' := fun a o e => y a o (x a o e)
def Fz.put (g : Fz) (a : Addr) (o : Obj) : Fz := fun b => if b = a then some o else g b
theorem Fz.put_self (g : Fz) (a : Addr) (o : Obj) : g.put a o a = some o := if_pos rfl
theorem Fz.le_put {g : Fz} {a : Addr} {o : Obj} (h : g a = none) : g.Le (g.put a o) := fun b o' e => by
  unfold Fz.put; split
  · rename_i q; rw [q, h] at e; cases e
  · exact e

structure Wd where
  w : World
  mg : Str → Option Value
  mb : Str → Option Value
  os : OsState

structure Gnd (W : Wd) (h : Heap) : Prop where
  frag : (Mine.hd.heap_39 W.w.params).In h
  lim : h.NoLimit
  g : h.Ns mainGlobals W.mg
  b : h.Ns builtinsNs W.mb
  bi : ∀ x : Str, x ≠ "__name__" → W.mb x = bootBuiltins x

theorem Gnd.keeps {W : Wd} {h h' : Heap} (x : Gnd W h) (k : ∀ b o, h.get? b = some o → h'.get? b = some o) : Gnd W h' :=
  ⟨x.frag.keeps k, x.lim.keeps k, x.g.keeps k, x.b.keeps k, x.bi⟩

abbrev Fs := List (Addr × (Str → Option Value))
abbrev Ob := List (Addr × Obj)
abbrev Gs := List (Nat × GenState)

structure Own (W : Wd) (g : Fz) (fs : Fs) (fr : Ob) (gl : Gs) (s : Shared) : Prop where
  gnd : ∃ h₀ : Heap, Gnd W h₀ ∧ ∀ a o, h₀.get? a = some o → g a = some o
  fz : ∀ a o, g a = some o → s.heap.get? a = some o
  ns : ∀ p ∈ fs, s.heap.Ns p.1 p.2
  ex : ∀ p ∈ fr, s.heap.get? p.1 = some p.2
  nd : (fs.map (·.1) ++ fr.map (·.1)).Nodup
  ap : ∀ a ∈ fs.map (·.1) ++ fr.map (·.1), g a = none
  gx : ∀ p ∈ gl, s.gens[p.1]? = some p.2
  gd : (gl.map (·.1)).Nodup
  bare : ∀ (i : Nat) (x : GenState), s.gens[i]? = some x → i ∉ gl.map (·.1) → x.bare = true
  os : s.os = W.os

namespace Own
variable {W : Wd} {g g' : Fz} {fs : Fs} {fr : Ob} {gl : Gs} {s : Shared} {h' : Heap} {tk : Nat}

theorem ground (O : Own W g fs fr gl s) : Gnd W s.heap := let ⟨_, x, k⟩ := O.gnd; x.keeps fun a o e => O.fz a o (k a o e)
theorem tok (O : Own W g fs fr gl s) (tk : Nat) : Own W g fs fr gl { s with toks := tk } := ⟨O.gnd, O.fz, O.ns, O.ex, O.nd, O.ap, O.gx, O.gd, O.bare, O.os⟩
theorem grow (O : Own W g fs fr gl s) (k : ∀ b o, s.heap.get? b = some o → h'.get? b = some o) (tk : Nat) : Own W g fs fr gl { s with heap := h', toks := tk } :=
  ⟨O.gnd, fun a o e => k a o (O.fz a o e), fun p hp => (O.ns p hp).keeps k, fun p hp => k _ _ (O.ex p hp), O.nd, O.ap, O.gx, O.gd, O.bare, O.os⟩

theorem has (O : Own W g fs fr gl s) {a : Addr} (ha : a ∈ fs.map (·.1) ++ fr.map (·.1)) : ∃ o, s.heap.get? a = some o := by
  rcases List.mem_append.mp ha with h | h
  · obtain ⟨p, hp, rfl⟩ := List.mem_map.mp h
    obtain ⟨o, _, _, ho, _⟩ := O.ns p hp; exact ⟨o, ho⟩
  · obtain ⟨p, hp, rfl⟩ := List.mem_map.mp h
    exact ⟨_, O.ex p hp⟩
theorem not_mem (O : Own W g fs fr gl s) {a : Addr} (ha : s.heap.get? a = none) : a ∉ fs.map (·.1) ++ fr.map (·.1) := fun q => by
  obtain ⟨o, ho⟩ := O.has q; rw [ha] at ho; cases ho
theorem not_fz (O : Own W g fs fr gl s) {a : Addr} (ha : s.heap.get? a = none) : g a = none := by
  cases e : g a with
  | none => rfl
  | some o => have := O.fz a o e; rw [ha] at this; cases this

/-- a new object is frozen -/
theorem freeze (O : Own W g fs fr gl s) {a : Addr} {o : Obj} (ha : a ∉ fs.map (·.1) ++ fr.map (·.1)) (hg : g a = none) (ho : s.heap.get? a = some o) : Own W (g.put a o) fs fr gl s := by
  refine ⟨?_, fun b o' e => ?_, O.ns, O.ex, O.nd, fun b hb => ?_, O.gx, O.gd, O.bare, O.os⟩
  · obtain ⟨h₀, x, k⟩ := O.gnd; exact ⟨h₀, x, fun b o' e => Fz.le_put hg _ _ (k b o' e)⟩
  · unfold Fz.put at e; split at e
    · rename_i q; cases e; rw [q]; exact ho
    · exact O.fz b o' e
  · unfold Fz.put; rw [if_neg (by rintro rfl; exact ha hb)]; exact O.ap b hb
theorem made (O : Own W g fs fr gl s) (k : ∀ b o, s.heap.get? b = some o → h'.get? b = some o) {a : Addr} {o : Obj} (ha : s.heap.get? a = none) (ho : h'.get? a = some o) (tk : Nat) :
    g.Le (g.put a o) ∧ Own W (g.put a o) fs fr gl { s with heap := h', toks := tk } :=
  ⟨Fz.le_put (O.not_fz ha), (O.grow k tk).freeze (O.not_mem ha) (O.not_fz ha) ho⟩

theorem none_size {h : Heap} : h.get? h.objs.size = none := Heap.get?_none_of_le (Nat.le_refl _)

theorem pushF (O : Own W g fs fr gl s) (k : ∀ b o, s.heap.get? b = some o → h'.get? b = some o) {L : Addr} {m} (hL : s.heap.get? L = none) (hn : h'.Ns L m) (tk : Nat) :
    Own W g ((L, m) :: fs) fr gl { s with heap := h', toks := tk } := by
  refine ⟨O.gnd, fun a o e => k a o (O.fz a o e), fun p hp => ?_, fun p hp => k _ _ (O.ex p hp), ?_, fun a ha => ?_, O.gx, O.gd, O.bare, O.os⟩
  · rcases List.mem_cons.mp hp with rfl | hp
    · exact hn
    · exact (O.ns p hp).keeps k
  · exact List.nodup_cons.mpr ⟨O.not_mem hL, O.nd⟩
  · rcases List.mem_cons.mp ha with rfl | ha
    · exact O.not_fz hL
    · exact O.ap a ha
theorem perm_addr {α β : Type} {l l' : List (α × β)} (p : l.Perm l') : (l.map (·.1)).Perm (l'.map (·.1)) := p.map _
theorem permO (O : Own W g fs fr gl s) {fr' : Ob} (p : fr.Perm fr') : Own W g fs fr' gl s := by
  have q := (perm_addr p).append_left (fs.map (·.1))
  exact ⟨O.gnd, O.fz, O.ns, fun x hx => O.ex x (p.mem_iff.mpr hx), q.nodup_iff.mp O.nd, fun a ha => O.ap a (q.mem_iff.mpr ha), O.gx, O.gd, O.bare, O.os⟩
theorem permF (O : Own W g fs fr gl s) {fs' : Fs} (p : fs.Perm fs') : Own W g fs' fr gl s := by
  have q := (perm_addr p).append_right (fr.map (·.1))
  exact ⟨O.gnd, O.fz, fun x hx => O.ns x (p.mem_iff.mpr hx), O.ex, q.nodup_iff.mp O.nd, fun a ha => O.ap a (q.mem_iff.mpr ha), O.gx, O.gd, O.bare, O.os⟩
theorem permG (O : Own W g fs fr gl s) {gl' : Gs} (p : gl.Perm gl') : Own W g fs fr gl' s :=
  ⟨O.gnd, O.fz, O.ns, O.ex, O.nd, O.ap, fun x hx => O.gx x (p.mem_iff.mpr hx), (perm_addr p).nodup_iff.mp O.gd, fun i x e h => O.bare i x e fun q => h ((perm_addr p).mem_iff.mp q), O.os⟩
theorem dropF {p : Addr × (Str → Option Value)} (O : Own W g (p :: fs) fr gl s) : Own W g fs fr gl s :=
  ⟨O.gnd, O.fz, fun x hx => O.ns x (.tail _ hx), O.ex, (List.nodup_cons.mp O.nd).2, fun a ha => O.ap a (.tail _ ha), O.gx, O.gd, O.bare, O.os⟩
theorem dropO {p : Addr × Obj} (O : Own W g fs (p :: fr) gl s) : Own W g fs fr gl s := by
  have nd := O.nd
  rw [List.map_cons, List.nodup_append] at nd
  refine ⟨O.gnd, O.fz, O.ns, fun x hx => O.ex x (.tail _ hx), ?_, fun a ha => O.ap a ?_, O.gx, O.gd, O.bare, O.os⟩
  · exact List.nodup_append.mpr ⟨nd.1, (List.nodup_cons.mp nd.2.1).2, fun a ha b hb => nd.2.2 a ha b (.tail _ hb)⟩
  · rcases List.mem_append.mp ha with h | h
    · exact List.mem_append_left _ h
    · exact List.mem_append_right _ (.tail _ h)
theorem dropG {i : Nat} {x : GenState} (O : Own W g fs fr ((i, x) :: gl) s) (hb : x.bare = true) : Own W g fs fr gl s :=
  ⟨O.gnd, O.fz, O.ns, O.ex, O.nd, O.ap, fun x hx => O.gx x (.tail _ hx), (List.nodup_cons.mp O.gd).2, fun j y e h => by
    by_cases q : j = i
    · subst q
      have := O.gx _ (.head _)
      rw [e] at this
      cases this; exact hb
    · exact O.bare j y e (by rw [List.map_cons, List.mem_cons]; exact fun z => z.elim q h), O.os⟩
theorem pushG (O : Own W g fs fr gl s) (x : GenState) (tk : Nat) : Own W g fs fr ((s.gens.size, x) :: gl) { s with gens := s.gens.push x, toks := tk } := by
  have lt : ∀ p ∈ gl, p.1 < s.gens.size := fun p hp => (Array.getElem?_eq_some_iff.mp (O.gx p hp)).1
  refine ⟨O.gnd, O.fz, O.ns, O.ex, O.nd, O.ap, fun p hp => ?_, ?_, fun i y e h => ?_, O.os⟩
  · rcases List.mem_cons.mp hp with rfl | hp
    · simp
    · have := O.gx p hp
      show (s.gens.push x)[p.1]? = _
      rw [Array.getElem?_push, if_neg (Nat.ne_of_lt (lt p hp))]; exact this
  · exact List.nodup_cons.mpr ⟨fun q => by obtain ⟨p, hp, e⟩ := List.mem_map.mp q; exact Nat.lt_irrefl _ (e ▸ lt p hp), O.gd⟩
  · rw [List.map_cons, List.mem_cons] at h
    have e' : (s.gens.push x)[i]? = some y := e
    rw [Array.getElem?_push] at e'
    split at e'
    · rename_i q; exact absurd (.inl q) h
    · exact O.bare i y e' fun q => h (.inr q)
theorem setG {i : Nat} {x : GenState} (O : Own W g fs fr ((i, x) :: gl) s) (y : GenState) : Own W g fs fr ((i, y) :: gl) (s.setGen i y) := by
  have hi : i < s.gens.size := (Array.getElem?_eq_some_iff.mp (O.gx _ (.head _))).1
  have ni := (List.nodup_cons.mp O.gd).1
  refine ⟨O.gnd, O.fz, O.ns, O.ex, O.nd, O.ap, fun p hp => ?_, O.gd, fun j z e h => ?_, O.os⟩
  · show (s.gens.setIfInBounds i y)[p.1]? = _
    rcases List.mem_cons.mp hp with rfl | hq
    · simp [hi]
    · have hne : i ≠ p.1 := fun q => ni (by show i ∈ gl.map (·.1); rw [q]; exact List.mem_map_of_mem hq)
      rw [Array.getElem?_setIfInBounds_ne hne]; exact O.gx p (.tail _ hq)
  · have h' : j ≠ i := fun q => h (by rw [q]; exact .head _)
    have e' : (s.gens.setIfInBounds i y)[j]? = some z := e
    rw [Array.getElem?_setIfInBounds_ne h'.symm] at e'
    exact O.bare j z e' h

theorem pushO (O : Own W g fs fr gl s) (k : ∀ b o, s.heap.get? b = some o → h'.get? b = some o) {a : Addr} {o : Obj} (ha : s.heap.get? a = none) (ho : h'.get? a = some o) (tk : Nat) :
    Own W g fs ((a, o) :: fr) gl { s with heap := h', toks := tk } := by
  refine ⟨O.gnd, fun a o e => k a o (O.fz a o e), fun p hp => (O.ns p hp).keeps k, fun p hp => ?_, ?_, fun b hb => ?_, O.gx, O.gd, O.bare, O.os⟩
  · rcases List.mem_cons.mp hp with rfl | hp
    · exact ho
    · exact k _ _ (O.ex p hp)
  · exact (List.perm_middle (a := a) (l₁ := fs.map (·.1)) (l₂ := fr.map (·.1))).nodup_iff.mpr (List.nodup_cons.mpr ⟨O.not_mem ha, O.nd⟩)
  · have hb : b ∈ a :: (fs.map (·.1) ++ fr.map (·.1)) := (List.perm_middle (a := a) (l₁ := fs.map (·.1)) (l₂ := fr.map (·.1))).mem_iff.mp hb
    rcases List.mem_cons.mp hb with rfl | hb
    · exact O.not_fz ha
    · exact O.ap b hb

/-- an owned object is frozen -/
theorem shut {a : Addr} {o : Obj} (O : Own W g fs ((a, o) :: fr) gl s) : g.Le (g.put a o) ∧ Own W (g.put a o) fs fr gl s := by
  have hm : a ∈ fs.map (·.1) ++ ((a, o) :: fr).map (·.1) := List.mem_append_right _ (.head _)
  have hg := O.ap a hm
  have p := (List.perm_middle (a := a) (l₁ := fs.map (·.1)) (l₂ := fr.map (·.1))).nodup_iff.mp O.nd
  exact ⟨Fz.le_put hg, O.dropO.freeze (List.nodup_cons.mp p).1 hg (O.ex _ (.head _))⟩

theorem ne_of_mem (O : Own W g fs fr gl s) {a b : Addr} {o : Obj} (ha : a ∈ fs.map (·.1) ++ fr.map (·.1)) (hb : g b = some o) : b ≠ a := by
  rintro rfl; rw [O.ap _ ha] at hb; cases hb

/-- the frame's names are changed -/
theorem setF {L : Addr} {m m'} (O : Own W g ((L, m) :: fs) fr gl s) (hn : h'.Ns L m') (k : Heap.ExtBut L s.heap h') (tk : Nat) : Own W g ((L, m') :: fs) fr gl { s with heap := h', toks := tk } := by
  have hL : L ∈ ((L, m) :: fs).map (·.1) ++ fr.map (·.1) := .head _
  have nL : L ∉ fs.map (·.1) ++ fr.map (·.1) := (List.nodup_cons.mp O.nd).1
  refine ⟨O.gnd, fun a o e => k a o (O.ne_of_mem hL e) (O.fz a o e), fun p hp => ?_, fun p hp => k _ _ ?_ (O.ex p hp), O.nd, O.ap, O.gx, O.gd, O.bare, O.os⟩
  · rcases List.mem_cons.mp hp with rfl | hp
    · exact hn
    · exact (O.ns p (.tail _ hp)).extBut k (by intro q; refine nL (List.mem_append_left _ ?_); rw [← q]; exact List.mem_map_of_mem hp)
  · intro q; refine nL (List.mem_append_right _ ?_); rw [← q]; exact List.mem_map_of_mem hp
/-- an owned object is changed -/
theorem setO {d : Addr} {o o' : Obj} (O : Own W g fs ((d, o) :: fr) gl s) (ho : h'.get? d = some o') (k : Heap.ExtBut d s.heap h') (tk : Nat) : Own W g fs ((d, o') :: fr) gl { s with heap := h', toks := tk } := by
  have hm : d ∈ fs.map (·.1) ++ ((d, o) :: fr).map (·.1) := List.mem_append_right _ (.head _)
  have p := (List.perm_middle (a := d) (l₁ := fs.map (·.1)) (l₂ := fr.map (·.1))).nodup_iff.mp O.nd
  have nd : d ∉ fs.map (·.1) ++ fr.map (·.1) := (List.nodup_cons.mp p).1
  refine ⟨O.gnd, fun a o e => k a o (O.ne_of_mem hm e) (O.fz a o e), fun q hq => (O.ns q hq).extBut k ?_, fun q hq => ?_, O.nd, O.ap, O.gx, O.gd, O.bare, O.os⟩
  · intro e; refine nd (List.mem_append_left _ ?_); rw [← e]; exact List.mem_map_of_mem hq
  · rcases List.mem_cons.mp hq with rfl | hq
    · exact ho
    · exact k _ _ (by intro e; refine nd (List.mem_append_right _ ?_); rw [← e]; exact List.mem_map_of_mem hq) (O.ex q (.tail _ hq))
end Own

/-- room on the stacks -/
structure Rm (A : Around) (n : Nat) : Prop where
  hand : A.handled = none
  dep : A.depth + n ≤ 900
  un : A.units + 10 * n ≤ 9000
theorem Rm.room {A : Around} {n : Nat} (h : Rm A n) : A.depth < recursionLimit := by have := h.dep; show A.depth < 1000; omega
theorem Rm.units {A : Around} {n : Nat} (h : Rm A n) : A.units < cLine := by have := h.un; show A.units < 9900; omega
theorem Rm.deeper {A : Around} {n : Nat} (h : Rm A (n + 1)) (env : Env) : Rm (A.deeper env) n :=
  ⟨h.hand, by have := h.dep; show A.depth + 1 + n ≤ 900; omega, by have := h.un; show A.units + 3 + 10 * n ≤ 9000; omega⟩
theorem Rm.in1 {A : Around} {n : Nat} (h : Rm A (n + 1)) : Rm A.in1 n := ⟨h.hand, by have := h.dep; show A.depth + n ≤ 900; omega, by have := h.un; show A.units + 1 + 10 * n ≤ 9000; omega⟩
theorem Rm.le {A : Around} {n m : Nat} (h : Rm A n) (hm : m ≤ n) : Rm A m := ⟨h.hand, by have := h.dep; omega, by have := h.un; omega⟩

section
variable {W : Wd} {g : Fz} {fs : Fs} {fr : Ob} {gl : Gs} {prog : Program} {A : Around} {E : Value → Shared → Prop} {s : Shared} {env : Env}

theorem ld {x : Str} {pos : Pos} {v : Value} {m} {Q : Value → Shared → Prop} (O : Own W g ((env.locals, m) :: fs) fr gl s) (hv : m x = some v) (h : Q v s)
    (hk : env.scope.kind = .function := by rfl) (hl : env.kindOf x = some .local := by rfl) (hd : (x == ("__debug__" : Str)) = false := by decide) :
    wpAny (model prog W.w) A (eval (.Name x pos) env) Q E s := wpAny_Name (wpAny_loadName_local hk hl (O.ns _ (.head _)) hv h) hd

theorem st {x : Str} {v : Value} {m} {Q : Unit → Shared → Prop} (O : Own W g ((env.locals, m) :: fs) fr gl s)
    (h : ∀ s', Own W g ((env.locals, fun y => if y = x then some v else m y) :: fs) fr gl s' → Q () s')
    (hl : env.kindOf x = some .local := by rfl) (hp : (env.scope.kind == .class || (env.scope.kind == .module && env.locals != env.globals)) = false := by rfl) :
    wpAny (model prog W.w) A (storeName env x v) Q E s :=
  wpAny_storeName_local hl (O.ns _ (.head _)) (fun _ hn hs => h _ (O.setF hn hs.extBut _)) hp

theorem lg {x : Str} {pos : Pos} {v : Value} {Q : Value → Shared → Prop} (O : Own W g fs fr gl s) (e : nsIn (Mine.hd.heap_39 W.w.params) mainGlobals x = some (some v)) (h : Q v s)
    (hk : env.scope.kind = .function := by rfl) (hx : env.kindOf x = some .globalImplicit := by rfl) (hg : env.globals = mainGlobals := by rfl) (hd : (x == ("__debug__" : Str)) = false := by decide) :
    wpAny (model prog W.w) A (eval (.Name x pos) env) Q E s :=
  Name_function_global hk hx (loadGlobal_global (env := env) (hg ▸ O.ground.g) (mg_of O.ground.frag O.ground.g e) h) hd
theorem lb {x : Str} {pos : Pos} {v : Value} {Q : Value → Shared → Prop} (O : Own W g fs fr gl s) (e : nsIn (Mine.hd.heap_39 W.w.params) mainGlobals x = some none) (hv : bootBuiltins x = some v) (h : Q v s)
    (hn : x ≠ "__name__" := by decide) (hk : env.scope.kind = .function := by rfl) (hx : env.kindOf x = some .globalImplicit := by rfl) (hg : env.globals = mainGlobals := by rfl) (hb : env.builtins = builtinsNs := by rfl) (hd : (x == ("__debug__" : Str)) = false := by decide) :
    wpAny (model prog W.w) A (eval (.Name x pos) env) Q E s :=
  Name_function_global hk hx (loadGlobal_builtin (env := env) (hg ▸ O.ground.g) (mg_none_of O.ground.frag O.ground.g e) (hb ▸ O.ground.b) ((O.ground.bi x hn).trans hv) h) hd

/-- the def at an address of the written part -/
noncomputable def fnAt (P : Params) (f : Addr) : FuncData := match (Mine.hd.heap_39 P).lookup f with
  | some ⟨_, _, .func fd, _⟩ => fd
  | _ => default
noncomputable def isDef (P : Params) (f : Addr) : Bool := match (Mine.hd.heap_39 P).lookup f with
  | some ⟨_, _, .func fd, _⟩ => codeIn (Mine.hd.heap_39 P) fd.code fd.qualname && !fd.scope.isCoroutine && fd.scope.kind == .function
  | _ => false
theorem isDef_spec {P : Params} {f : Addr} (h : isDef P f = true) : ∃ oc od osl, (Mine.hd.heap_39 P).lookup f = some ⟨oc, od, .func (fnAt P f), osl⟩ ∧
    codeIn (Mine.hd.heap_39 P) (fnAt P f).code (fnAt P f).qualname = true ∧ (fnAt P f).scope.isCoroutine = false ∧ (fnAt P f).scope.kind = .function := by
  unfold isDef at h
  unfold fnAt
  split at h
  · rename_i oc od fd osl e
    simp only [Bool.and_eq_true, Bool.not_eq_true', beq_iff_eq] at h
    rw [e]
    exact ⟨oc, od, osl, rfl, h.1.1, h.1.2, h.2⟩
  · cases h

noncomputable abbrev envAt (P : Params) (f L : Addr) : Env := callEnv (fnAt P f) L f

theorem call_in {R : Result → Shared → Prop} {f : Addr} {body : List Stmt} {args : Args} (binds : List (Str × Value))
    (hA : A.depth < recursionLimit) (O : Own W g fs fr gl s) (hf : isDef W.w.params f = true)
    (hbody : (fnAt W.w.params f).body = .stmts body) (hbind : bindArgs (fnAt W.w.params f) args = pure binds) (hcell : ((fnAt W.w.params f).scope.names.all fun x => x.2 != .cell) = true)
    (hloc : (binds.all fun x => (fnAt W.w.params f).scope.names.lookup x.1 == some .local) = true)
    (hgen : (fnAt W.w.params f).scope.isGenerator = false)
    (h : ∀ s' L, Own W g ((L, fun y => binds.reverse.lookup y) :: fs) fr gl s' →
      wpAny (model prog W.w) (A.deeper (envAt W.w.params f L)) (execs body (envAt W.w.params f L)) (fun fl s' => R (.ok (.ret (match fl with | .ret v => v | _ => .none))) s')
        (fun e s' => wpAny (model prog W.w) (A.deeper (envAt W.w.params f L)) (leaving (envAt W.w.params f L) e) (fun _ s'' => R (.error e) s'') (fun e' s'' => R (.error e') s'') s') s') :
    codeAny (model prog W.w) A (.call (.ref f) args) R s := by
  obtain ⟨oc, od, osl, ho, hcd, hco, hk⟩ := isDef_spec hf
  refine codeAny_call_def (fd := fnAt W.w.params f) hA (O.ground.frag _ _ ho) rfl O.ground.lim (codeRec_of O.ground.frag hcd) hbody (BindsTo.of_eq hbind) (fun x hx => ?_) (fun x hx => ?_) (fun _ hn hk => h _ _ (O.pushF hk Own.none_size hn _)) hco hgen hk
  · have := List.all_eq_true.mp hcell x hx; simpa using this
  · have := List.all_eq_true.mp hloc x hx; simpa using this
end

end
section
/-! plain laws of path texts -/
theorem slashS : Str.ofString "/" = (⟨#[47]⟩ : Str) := by decide +kernel
def mk (l : List Nat) : Str := ⟨l.toArray⟩
theorem mk_list (x : Str) : mk x.cps.toList = x := rfl
theorem mk_cps (l : List Nat) : (mk l).cps.toList = l := by simp [mk]
theorem mk_length (l : List Nat) : (mk l).length = l.length := by simp [mk, Str.length]
theorem mk_append (a b : List Nat) : mk a ++ mk b = mk (a ++ b) := by
  apply Str.ext'; rw [Str.cps_append]; simp [mk]
theorem mk_inj {a b : List Nat} (h : mk a = mk b) : a = b := by
  have := congrArg (fun x => x.cps.toList) h; simpa [mk] using this
theorem slash_mk : (⟨#[47]⟩ : Str) = mk [47] := rfl

def GoodN (n : Str) : Prop := n.cps.toList ≠ [] ∧ 47 ∉ n.cps.toList
def GoodP (ns : List Str) : Prop := ∀ n ∈ ns, GoodN n
def catP (ns : List Str) : List Nat := ns.flatMap fun n => 47 :: n.cps.toList
def pathS (ns : List Str) : Str := if ns = [] then mk [47] else mk (catP ns)

theorem catP_append (a b : List Str) : catP (a ++ b) = catP a ++ catP b := by simp [catP]
theorem catP_cons (n : Str) (r : List Str) : catP (n :: r) = 47 :: (n.cps.toList ++ catP r) := by simp [catP]
theorem pathS_nil : pathS [] = mk [47] := if_pos rfl
theorem pathS_ne {ns : List Str} (h : ns ≠ []) : pathS ns = mk (catP ns) := if_neg h
theorem pathS_snoc (ns : List Str) (n : Str) : pathS (ns ++ [n]) = mk (catP ns ++ 47 :: n.cps.toList) := by
  rw [pathS_ne (by simp), catP_append]; simp [catP]
theorem GoodP.append {a b : List Str} : GoodP (a ++ b) ↔ GoodP a ∧ GoodP b := by
  simp only [GoodP, List.mem_append]; exact ⟨fun h => ⟨fun n hn => h n (.inl hn), fun n hn => h n (.inr hn)⟩, fun h n hn => hn.elim (h.1 n) (h.2 n)⟩
theorem GoodP.take {a : List Str} (h : GoodP a) (k : Nat) : GoodP (a.take k) := fun n hn => h n (List.mem_of_mem_take hn)
theorem GoodP.drop {a : List Str} (h : GoodP a) (k : Nat) : GoodP (a.drop k) := fun n hn => h n (List.mem_of_mem_drop hn)
theorem GoodP.nil : GoodP [] := fun _ h => nomatch h

theorem exists_snoc {α : Type} {l : List α} (h : l ≠ []) : ∃ a x, l = a ++ [x] := ⟨l.dropLast, l.getLast h, (List.dropLast_concat_getLast h).symm⟩

theorem catP_last {ns : List Str} (hg : GoodP ns) (h : ns ≠ []) : ∃ l c, catP ns = l ++ [c] ∧ c ≠ 47 := by
  obtain ⟨a, n, rfl⟩ := exists_snoc h
  have hn := hg n (by simp)
  obtain ⟨l, c, e⟩ := exists_snoc hn.1
  refine ⟨catP a ++ 47 :: l, c, ?_, ?_⟩
  · rw [catP_append, catP_cons, e]; simp [catP]
  · rintro rfl; exact hn.2 (by rw [e]; simp)

theorem takeWhile_rev {p : Nat → Bool} {l : List Nat} {c : Nat} (h : p c = false) : (l ++ [c]).reverse.takeWhile p = [] := by
  simp [h]
theorem rstrip_keep {l : List Nat} {c : Nat} (hc : c ≠ 47) : Txt.rstripChars (mk (l ++ [c])) (mk [47]) = mk (l ++ [c]) := by
  have hp : (mk [47]).cps.contains c = false := by simp [mk, hc]
  unfold Txt.rstripChars
  rw [PyProof.Rows.stripBy_eq]
  have e1 : stripLo (mk [47]).cps.contains false (mk (l ++ [c])) = 0 := rfl
  have e2 : stripHi (mk [47]).cps.contains true (mk (l ++ [c])) 0 = (mk (l ++ [c])).length := by
    unfold stripHi
    rw [if_pos rfl, List.drop_zero, mk_cps, takeWhile_rev hp]; rfl
  rw [e1, e2, strSub_whole]
theorem rstrip_slashes {l : List Nat} {c : Nat} (hc : c ≠ 47) (k : Nat) : Txt.rstripChars (mk (l ++ [c] ++ List.replicate k 47)) (mk [47]) = mk (l ++ [c]) := by
  have hp : (mk [47]).cps.contains c = false := by simp [mk, hc]
  have hq : (mk [47]).cps.contains 47 = true := by simp [mk]
  unfold Txt.rstripChars
  rw [PyProof.Rows.stripBy_eq]
  have e1 : stripLo (mk [47]).cps.contains false (mk (l ++ [c] ++ List.replicate k 47)) = 0 := rfl
  have e3 : ∀ k : Nat, (List.replicate k 47 ++ ([c] ++ l.reverse)).takeWhile (mk [47]).cps.contains = List.replicate k 47 := by
    intro k
    induction k with
    | zero =>
      show ((c :: l.reverse).takeWhile _) = []
      rw [List.takeWhile_cons, if_neg (by rw [hp]; exact Bool.false_ne_true)]
    | succ k ih => rw [List.replicate_succ, List.cons_append, List.takeWhile_cons, if_pos hq, ih]
  have e2 : stripHi (mk [47]).cps.contains true (mk (l ++ [c] ++ List.replicate k 47)) 0 = (l ++ [c]).length := by
    unfold stripHi
    rw [if_pos rfl, List.drop_zero, mk_cps, mk_length]
    have e4 : (l ++ [c] ++ List.replicate k 47).reverse = List.replicate k 47 ++ ([c] ++ l.reverse) := by simp
    rw [e4, e3]; simp only [List.length_append, List.length_replicate, List.length_singleton]; omega
  rw [e1, e2, strSub_mk, mk_cps]
  rw [List.drop_zero, Nat.sub_zero, List.take_left]
  rfl
theorem rstrip_one : Txt.rstripChars (mk [47]) (mk [47]) = mk [] := by decide +kernel

theorem rstrip_path {ns : List Str} (hg : GoodP ns) (h : ns ≠ []) : Txt.rstripChars (pathS ns) (mk [47]) = pathS ns := by
  rw [pathS_ne h]
  obtain ⟨l, c, e, hc⟩ := catP_last hg h
  rw [e, rstrip_keep hc]
theorem rstrip_head {ns : List Str} (hg : GoodP ns) (h : ns ≠ []) : Txt.rstripChars (mk (catP ns ++ [47])) (mk [47]) = pathS ns := by
  rw [pathS_ne h]
  obtain ⟨l, c, e, hc⟩ := catP_last hg h
  have := rstrip_slashes (l := l) hc 1
  rw [e]; simpa using this

theorem At_slash (l : List Nat) (i : Nat) : StrLaws.At (mk l) (mk [47]) (mk l).length i ↔ l[i]? = some 47 := by
  have := StrLaws.subAt_one (mk l) 47 i
  rw [mk_cps] at this
  exact this
theorem rfind_path (a b : List Nat) (hb : 47 ∉ b) : Txt.rfind (mk (a ++ 47 :: b)) (mk [47]) = (a.length : Int) := by
  rcases rfind_whole (mk (a ++ 47 :: b)) (mk [47]) with ⟨_, h⟩ | ⟨i, e, h, hk⟩
  · exact absurd ((At_slash _ a.length).mpr (by simp)) (h a.length)
  · rw [e]
    have hi := (At_slash _ i).mp h
    rcases Nat.lt_trichotomy i a.length with q | q | q
    · exact absurd ((At_slash _ a.length).mpr (by simp)) (hk _ q)
    · rw [q]
    · exfalso
      rw [List.getElem?_append_right (Nat.le_of_lt q)] at hi
      obtain ⟨j, hj⟩ : ∃ j, i - a.length = j + 1 := ⟨i - a.length - 1, by omega⟩
      rw [hj, List.getElem?_cons_succ] at hi
      exact hb (List.mem_of_getElem? hi)

theorem slice_to (a b : List Nat) : Txt.slice (mk (a ++ b)) none (some (a.length : Int)) = mk a := by
  have := StrLaws.sliceText_to (x := mk (a ++ b)) (j := (a.length : Int)) ⟨by omega, by rw [mk_cps, List.length_append]; omega⟩
  refine (show Txt.slice _ _ _ = StrLaws.sliceText _ _ _ from rfl).trans (this.trans ?_)
  rw [mk_cps, List.drop_zero, show ((a.length : Int) - 0).toNat = a.length from by omega, List.take_left]; rfl
theorem slice_from (a b : List Nat) : Txt.slice (mk (a ++ b)) (some (a.length : Int)) none = mk b := by
  have := StrLaws.sliceText_from (x := mk (a ++ b)) (i := (a.length : Int)) ⟨by omega, by rw [mk_cps, List.length_append]; omega⟩
  refine (show Txt.slice _ _ _ = StrLaws.sliceText _ _ _ from rfl).trans (this.trans ?_)
  rw [mk_cps, show ((a.length : Int)).toNat = a.length from by omega, List.drop_left, List.length_append, show (((a.length + b.length : Nat) : Int) - (a.length : Int)).toNat = b.length from by omega, List.take_length]; rfl

theorem rest_of (a b : List Str) (ha : a ≠ []) : Txt.slice (pathS (a ++ b)) (some ((pathS a).length : Int)) none = mk (catP b) := by
  rw [pathS_ne ha, mk_length]
  by_cases hb : b = []
  · subst hb
    rw [List.append_nil, pathS_ne ha]
    simpa [catP] using slice_from (catP a) []
  · rw [pathS_ne (by simp [ha]), catP_append]; exact slice_from _ _
theorem glue_rest (u : List Str) (n : Str) (b : List Str) : pathS (u ++ [n]) ++ mk (catP b) = pathS (u ++ [n] ++ b) := by
  rw [pathS_ne (by simp), pathS_ne (by simp), mk_append, catP_append (u ++ [n]) b]

theorem starts_no {n : Str} (h : GoodN n) : Txt.startswith n (mk [47]) = false := by
  unfold Txt.startswith
  rw [StrLaws.subAt_eq, List.drop_zero]
  obtain ⟨h1, h2⟩ := h
  cases e : n.cps.toList with
  | nil => exact absurd e h1
  | cons c r =>
    have : c ≠ 47 := by rintro rfl; exact h2 (by rw [e]; simp)
    simp [mk, Str.length, this]
theorem ends_nil : Txt.endswith (pathS []) (mk [47]) = true := by rw [pathS_nil]; decide +kernel
theorem ends_path {ns : List Str} (hg : GoodP ns) (h : ns ≠ []) : Txt.endswith (pathS ns) (mk [47]) = false := by
  rw [pathS_ne h]
  obtain ⟨l, c, e, hc⟩ := catP_last hg h
  rw [e]
  unfold Txt.endswith
  rw [StrLaws.subAt_eq, mk_length, mk_length, mk_cps, mk_cps]
  simp [hc]
theorem glue_nil (n : Str) : pathS [] ++ n = pathS [n] := by
  rw [pathS_nil, pathS_ne (by simp), ← mk_list n, mk_append]; simp [catP, mk_cps]
theorem glue_ne {ns : List Str} (h : ns ≠ []) (n : Str) : pathS ns ++ (mk [47] ++ n) = pathS (ns ++ [n]) := by
  rw [pathS_ne h, pathS_snoc, ← mk_list n, mk_append, mk_append, mk_cps]; rfl
theorem pathS_length_pos (ns : List Str) : 0 < (pathS ns).length := by
  unfold pathS; split
  · rw [mk_length]; decide
  · rename_i h
    rw [mk_length]
    cases ns with
    | nil => exact absurd rfl h
    | cons n r => rw [catP_cons]; simp

/-- texts joined by the bar -/
def bars : List (List Nat) → List Nat
  | [] => []
  | [x] => x
  | x :: y :: r => x ++ 47 :: bars (y :: r)
theorem join_bars : ∀ l : List Str, Str.join (mk [47]) l = mk (bars (l.map fun x => x.cps.toList))
  | [] => rfl
  | [x] => rfl
  | x :: y :: r => by
    show x ++ mk [47] ++ Str.join (mk [47]) (y :: r) = _
    rw [join_bars (y :: r)]
    show mk x.cps.toList ++ mk [47] ++ _ = _
    rw [mk_append, mk_append]; simp [bars]
theorem bars_cons (x : List Nat) {r : List (List Nat)} (h : r ≠ []) : bars (x :: r) = x ++ 47 :: bars r := by
  cases r with
  | nil => exact absurd rfl h
  | cons y r => rfl
theorem bar_split {x x' a b : List Nat} (hx : 47 ∉ x) (hx' : 47 ∉ x') (h : x ++ 47 :: a = x' ++ 47 :: b) : x = x' ∧ a = b := by
  induction x generalizing x' with
  | nil =>
    cases x' with
    | nil => exact ⟨rfl, by simpa using h⟩
    | cons c r => simp only [List.nil_append, List.cons_append, List.cons.injEq] at h; exact absurd (h.1 ▸ List.mem_cons_self) hx'
  | cons c r ih =>
    cases x' with
    | nil => simp only [List.nil_append, List.cons_append, List.cons.injEq] at h; exact absurd (h.1 ▸ List.mem_cons_self) hx
    | cons d q =>
      simp only [List.cons_append, List.cons.injEq] at h
      obtain ⟨e1, e2⟩ := ih (fun m => hx (.tail _ m)) (fun m => hx' (.tail _ m)) h.2
      exact ⟨by rw [h.1, e1], e2⟩
theorem bars_inj : ∀ {p q : List (List Nat)}, p ≠ [] → q ≠ [] → (∀ x ∈ p, 47 ∉ x) → (∀ x ∈ q, 47 ∉ x) → bars p = bars q → p = q
  | [], _, h, _, _, _, _ => absurd rfl h
  | _, [], _, h, _, _, _ => absurd rfl h
  | [x], [y], _, _, _, _, e => by simpa [bars] using e
  | [x], y :: z :: r, _, _, hp, hq, e => by
    exfalso; exact hp x (.head _) (by rw [show x = _ from e]; simp [bars])
  | x :: z :: r, [y], _, _, hp, hq, e => by
    exfalso; exact hq y (.head _) (by rw [show y = _ from e.symm]; simp [bars])
  | x :: z :: r, y :: w :: t, _, _, hp, hq, e => by
    obtain ⟨e1, e2⟩ := bar_split (hp x (.head _)) (hq y (.head _)) (show x ++ 47 :: bars (z :: r) = y ++ 47 :: bars (w :: t) from e)
    have := bars_inj (p := z :: r) (q := w :: t) (by simp) (by simp) (fun a ha => hp a (.tail _ ha)) (fun a ha => hq a (.tail _ ha)) e2
    rw [e1, this]
theorem bars_catP : ∀ {ns : List Str}, ns ≠ [] → 47 :: bars (ns.map fun x => x.cps.toList) = catP ns
  | [], h => absurd rfl h
  | [n], _ => by simp [bars, catP]
  | n :: k :: r, _ => by
    have ih := bars_catP (ns := k :: r) (by simp)
    rw [catP_cons, ← ih]; rfl
theorem slash_join {ns : List Str} (h : ns ≠ []) : mk [47] ++ Str.join (mk [47]) ns = pathS ns := by
  rw [join_bars, mk_append, pathS_ne h, ← bars_catP h]; rfl
theorem path_bars {ns : List Str} (h : ns ≠ []) : pathS ns = mk (bars ([] :: ns.map fun x => x.cps.toList)) := by
  rw [pathS_ne h, bars_cons _ (by simpa using h), ← bars_catP h]; rfl
theorem pathS_inj {a b : List Str} (ha : GoodP a) (hb : GoodP b) (h : pathS a = pathS b) : a = b := by
  have key : ∀ {ns : List Str}, GoodP ns → ∃ q : List (List Nat), pathS ns = mk (bars ([] :: q)) ∧ q ≠ [] ∧ (∀ x ∈ q, 47 ∉ x) ∧ ((ns = [] ∧ q = [[]]) ∨ (ns ≠ [] ∧ q = ns.map fun x => x.cps.toList)) := by
    intro ns hg
    by_cases h : ns = []
    · subst h; exact ⟨[[]], by rw [pathS_nil]; rfl, by simp, by simp, .inl ⟨rfl, rfl⟩⟩
    · refine ⟨ns.map fun x => x.cps.toList, path_bars h, by simpa using h, ?_, .inr ⟨h, rfl⟩⟩
      intro x hx
      obtain ⟨n, hn, rfl⟩ := List.mem_map.mp hx
      exact (hg n hn).2
  obtain ⟨p, e1, p1, p2, p3⟩ := key ha
  obtain ⟨q, f1, q1, q2, q3⟩ := key hb
  rw [e1, f1] at h
  have h' := mk_inj h
  have := bars_inj (p := [] :: p) (q := [] :: q) (by simp) (by simp) (fun x hx => by rcases List.mem_cons.mp hx with rfl | hx; simp; exact p2 x hx) (fun x hx => by rcases List.mem_cons.mp hx with rfl | hx; simp; exact q2 x hx) h'
  have hpq : p = q := by simpa using this
  have inj : ∀ {x y : List Str}, x.map (fun x => x.cps.toList) = y.map (fun x => x.cps.toList) → x = y := by
    intro x y e
    have := congrArg (List.map mk) e
    simpa [List.map_map, Function.comp_def, mk_list] using this
  have no : ∀ {ns : List Str}, GoodP ns → ns.map (fun x => x.cps.toList) ≠ [[]] := by
    intro ns hg e
    cases ns with
    | nil => cases e
    | cons n r => simp only [List.map_cons, List.cons.injEq] at e; exact (hg n (.head _)).1 e.1
  rcases p3 with ⟨r1, r2⟩ | ⟨r1, r2⟩ <;> rcases q3 with ⟨t1, t2⟩ | ⟨t1, t2⟩
  · rw [r1, t1]
  · exact absurd (t2.symm.trans (hpq.symm.trans r2)) (no hb)
  · exact absurd (r2.symm.trans (hpq.trans t2)) (no ha)
  · exact inj (r2.symm.trans (hpq.trans t2))
theorem split_path {ns : List Str} (hg : GoodP ns) (h : ns ≠ []) : Txt.split (pathS ns) (mk [47]) = mk [] :: ns := by
  have h1 := StrLaws.join_split (pathS ns) (mk [47])
  have h2 := StrLaws.split_free (pathS ns) 47
  rw [join_bars, path_bars h] at h1
  rw [path_bars h]
  rw [path_bars h] at h2
  generalize hp : Txt.split (mk (bars ([] :: ns.map fun x => x.cps.toList))) (mk [47]) = p at h1
  have h2' : ∀ x ∈ p, 47 ∉ x.cps.toList := fun x hx => h2 x (by rw [show (⟨#[47]⟩ : Str) = mk [47] from rfl, hp]; exact hx)
  have hpne : p ≠ [] := by
    rintro rfl
    have := mk_inj h1
    rw [bars_cons _ (by simpa using h)] at this
    simp [bars] at this
  have e := bars_inj (p := p.map fun x => x.cps.toList) (q := [] :: ns.map fun x => x.cps.toList) (by simpa using hpne) (by simp)
    (fun x hx => by obtain ⟨y, hy, rfl⟩ := List.mem_map.mp hx; exact h2' y hy)
    (fun x hx => by
      rcases List.mem_cons.mp hx with rfl | hx
      · simp
      · obtain ⟨y, hy, rfl⟩ := List.mem_map.mp hx; exact (hg y hy).2) (mk_inj h1)
  have := congrArg (List.map mk) e
  simpa [List.map_map, Function.comp_def, mk_list] using this

/-- what split reckons of a path of more than one name, and of one name -/
theorem mulOk_small {n : Nat} (h : n ≤ 100000) : MulOk (mk [47]) (n : Int) := by
  refine ⟨by simp; omega, fun h1 h2 => ?_, fun h1 h2 => ?_⟩
  · rw [mk_length]
    have : (1 : Int) ≤ (2 ^ 63 - 1) / (n : Int) := by
      rw [Int.le_ediv_iff_mul_le (by omega)]; omega
    simp only [List.length_singleton]; omega
  · rw [mk_length]
    unfold Builtin.Str.tooLong
    rw [decide_eq_false_iff_not, sizeLine_eq]
    simp only [List.length_singleton]; omega
theorem mul_one : Txt.mul (mk [47]) 1 = mk [47] := by decide +kernel
theorem mul_cps (n : Nat) : ∀ a : Array Nat, (List.replicate n (#[47] : Array Nat)).foldl (· ++ ·) a = a ++ (List.replicate n 47).toArray := by
  induction n with
  | zero => intro a; simp
  | succ n ih => intro a; rw [List.replicate_succ, List.foldl_cons, ih]; apply Array.toList_inj.mp; simp [List.replicate_succ]
theorem mul_many {n : Nat} : ∀ c ∈ (Txt.mul (mk [47]) (n : Int)).cps.toList, c = 47 := by
  unfold Txt.mul
  intro c hc
  split at hc
  · simp [Str.empty] at hc
  · split at hc
    · simp [mk] at hc; exact hc
    · have e := mul_cps n #[]
      simp only [Int.toNat_natCast] at hc
      rw [show (mk [47]).cps = #[47] from rfl, e] at hc
      simp at hc
      exact hc.2
theorem head_ne {ns : List Str} (hg : GoodP ns) (h : ns ≠ []) (n : Nat) : (mk (catP ns ++ [47]) != Txt.mul (mk [47]) (n : Int)) = true := by
  rw [bne_iff_ne]
  intro e
  obtain ⟨l, c, e1, hc⟩ := catP_last hg h
  refine hc (mul_many (n := n) c ?_)
  rw [← e, e1, mk_cps]; simp
/-- a size that a rule asks for ahead of its own fall -/
theorem sf0 : (mk []).length ≤ sizeLine := Nat.zero_le _

end
section
section
variable {W : Wd} {g : Fz} {fs : Fs} {fr : Ob} {gl : Gs} {prog : Program} {A : Around} {E : Value → Shared → Prop} {s : Shared} {env : Env}

abbrev lstO (vs : List Value) (n : Nat := 0) : Obj := { cls := .type "list", data := .seq vs.toArray n }
abbrev tupO (vs : List Value) (n : Nat := 0) : Obj := { cls := .type "tuple", data := .seq vs.toArray n }
abbrev slcO (l u st : Value) : Obj := { cls := .type "slice", data := .fields #[l, u, st] }
/-- a frozen list -/
def GL (g : Fz) (a : Addr) (vs : List Value) : Prop := ∃ o, g a = some o ∧ o.cls = .type "list" ∧ ∃ n, o.data = .seq vs.toArray n
def GT (g : Fz) (a : Addr) (vs : List Value) : Prop := ∃ o, g a = some o ∧ o.cls = .type "tuple" ∧ ∃ n, o.data = .seq vs.toArray n
theorem GL.mono {g g' : Fz} {a : Addr} {vs : List Value} (h : GL g a vs) (k : g.Le g') : GL g' a vs := let ⟨o, e, r⟩ := h; ⟨o, k _ _ e, r⟩
theorem GT.mono {g g' : Fz} {a : Addr} {vs : List Value} (h : GT g a vs) (k : g.Le g') : GT g' a vs := let ⟨o, e, r⟩ := h; ⟨o, k _ _ e, r⟩
theorem GL.is {a : Addr} {vs : List Value} (h : GL g a vs) (O : Own W g fs fr gl s) : s.heap.IsList a vs.toArray := let ⟨o, e, c, n, d⟩ := h; ⟨o, O.fz _ _ e, c, n, d⟩
theorem GT.is {a : Addr} {vs : List Value} (h : GT g a vs) (O : Own W g fs fr gl s) : IsTup s.heap a vs.toArray := let ⟨o, e, c, n, d⟩ := h; ⟨o, O.fz _ _ e, c, n, d⟩
theorem GL.put (g : Fz) (a : Addr) (vs : List Value) (n : Nat) : GL (g.put a (lstO vs n)) a vs := ⟨_, Fz.put_self _ _ _, rfl, n, rfl⟩
theorem GT.put (g : Fz) (a : Addr) (vs : List Value) (n : Nat) : GT (g.put a (tupO vs n)) a vs := ⟨_, Fz.put_self _ _ _, rfl, n, rfl⟩

theorem pushed (O : Own W g fs fr gl s) (o : Obj) (hf : o.isFreed = false) (tk : Nat) :
    g.Le (g.put s.heap.objs.size o) ∧ Own W (g.put s.heap.objs.size o) fs fr gl { s with heap := s.heap.push o, toks := tk } :=
  O.made (fun _ _ e => Heap.get?_push_of_some _ e) Own.none_size (Heap.get?_push_size _ hf) tk

theorem newTuple_ {vs : List Value} {Q : Value → Shared → Prop} (O : Own W g fs fr gl s)
    (h : ∀ s' g' a, g.Le g' → Own W g' fs fr gl s' → GT g' a vs → Q (.ref a) s') (hsz : vs.length ≤ sizeLine := by size_fits) : wpAny (model prog W.w) A (newTuple vs) Q E s :=
  let p := pushed O (tupO vs) rfl s.toks
  wpAny_newObj_type (h _ _ _ p.1 p.2 (GT.put _ _ _ _)) (by show vs.toArray.size ≤ sizeLine; rw [List.size_toArray]; exact hsz)
theorem newList_ {vs : List Value} {Q : Value → Shared → Prop} (O : Own W g fs fr gl s)
    (h : ∀ s' g' a, g.Le g' → Own W g' fs fr gl s' → GL g' a vs → Q (.ref a) s') (hsz : vs.length ≤ sizeLine := by size_fits) : wpAny (model prog W.w) A (newList vs) Q E s :=
  let p := pushed O (lstO vs) rfl s.toks
  wpAny_newObj_type (h _ _ _ p.1 p.2 (GL.put _ _ _ _)) (by show vs.toArray.size ≤ sizeLine; rw [List.size_toArray]; exact hsz)

/-- a slice object is made -/
def mkSl (l u st : Value) : Sem Value := newFields "slice" [l, u, st]
theorem Slice_ {lower upper step : Option Expr} {p : Pos} {Q : Value → Shared → Prop}
    (h : wpAny (model prog W.w) A (evalPart lower env) (fun l s₁ => wpAny (model prog W.w) A (evalPart upper env) (fun u s₂ => wpAny (model prog W.w) A (evalPart step env) (fun st s₃ =>
      wpAny (model prog W.w) A (mkSl l u st) Q E s₃) E s₂) E s₁) E s) : wpAny (model prog W.w) A (eval (.Slice lower upper step p) env) Q E s := by
  rw [arm_eval_Slice]
  exact wpAny_bind (wpAny_mono h (fun l s₁ h₁ => wpAny_bind (wpAny_holding (wpAny_mono h₁ (fun u s₂ h₂ => wpAny_bind (wpAny_holding (wpAny_mono h₂ (fun st s₃ h₃ => h₃) fun _ _ x => x))) fun _ _ x => x))) fun _ _ x => x)
theorem mkSl_ {l u st : Value} {Q : Value → Shared → Prop} (O : Own W g fs fr gl s) (h : ∀ s' g' a, g.Le g' → Own W g' fs fr gl s' → g' a = some (slcO l u st) → Q (.ref a) s') :
    wpAny (model prog W.w) A (mkSl l u st) Q E s :=
  let p := pushed O (slcO l u st) rfl s.toks
  wpAny_newObj_type (h _ _ _ p.1 p.2 (Fz.put_self _ _ _))

theorem strSlice {value slice : Expr} {x : Str} {t : Tok} {a : Addr} {l u : Option (Int × Tok)} {Q : Value → Shared → Prop} (O : Own W g fs fr gl s) (ha : g a = some (slcO (partValue l) (partValue u) .none))
    {z : Str} (hz : Txt.slice x (l.map (·.1)) (u.map (·.1)) = z) (hsz : x.length ≤ sizeLine) (h : ∀ s' t', Own W g fs fr gl s' → Q (.str z t') s')
    (hs : subscripted slice false (.str x t) (.ref a) = operate [.ref a, .str x t] (getItem (.str x t) (.ref a)) := by with_unfolding_all rfl) :
    wpAny (model prog W.w) A (subscriptTail value slice (.str x t) (.ref a)) Q E s := by
  subst hz
  refine tail_any (typeIs_str _ _ _) F.slot_str_getitem.lookup (wpAny_getItem_str_slice (l := l) (u := u) (st := none) ⟨_, O.fz _ _ ha, rfl, rfl⟩ rfl ?_) hs
  cases l <;> cases u <;> exact post_val_or_str ⟨Nat.le_trans (Txt.slice_le x _ _) hsz, fun t' k => h _ t' (O.tok k)⟩
theorem lstSlice {value slice : Expr} {b : Addr} {vs : List Value} {a : Addr} {vl vu vt : Value} {lo hi st : Option Int} {Q : Value → Shared → Prop} (O : Own W g fs fr gl s) (hb : GL g b vs) (ha : g a = some (slcO vl vu vt))
    (pl : IsPart vl lo) (pu : IsPart vu hi) (pt : IsPart vt st) (h0 : st ≠ some 0)
    (h : ∀ s' g' c, g.Le g' → Own W g' fs fr gl s' → GL g' c (slicePick vs.toArray lo hi st).toList → Q (.ref c) s') (hsz : vs.length ≤ sizeLine := by size_fits)
    (hs : subscripted slice false (.ref b) (.ref a) = operate [.ref a, .ref b] (getItem (.ref b) (.ref a)) := by with_unfolding_all rfl) :
    wpAny (model prog W.w) A (subscriptTail value slice (.ref b) (.ref a)) Q E s :=
  let hl := hb.is O
  let p := pushed O { cls := .type "list", data := .seq (slicePick vs.toArray lo hi st) } rfl s.toks
  tail_any hl.typeIs list_getitem_lookup (wpAny_getItem_list_slice hl ⟨_, O.fz _ _ ha, rfl, rfl⟩ pl pu pt h0
    (h _ _ _ p.1 p.2 ⟨_, Fz.put_self _ _ _, rfl, 0, by simp⟩) (by simpa using hsz)) hs

theorem keep_of_ext {h h' : Heap} (he : Heap.ExtBut h.objs.size h h') : ∀ b o, h.get? b = some o → h'.get? b = some o := fun b o e => he b o (Nat.ne_of_lt (Heap.lt_size e)) e
theorem unpackT {t : Addr} {vs : List Value} {n : Nat} {Q : List Value → Shared → Prop} (O : Own W g fs fr gl s) (ht : GT g t vs) (hh : A.handled = none) (hn : n = vs.length)
    (h : ∀ s', Own W g fs fr gl s' → Q vs s') : wpAny (model prog W.w) A (unpackItems (.ref t) n none) Q E s := by
  have := unpackItems_tuple (prog := prog) (w := W.w) (E := E) (Q := Q) hh (ht.is O) fun h' he => by simpa using h _ (O.grow (keep_of_ext he) s.toks)
  rw [hn]; simpa using this
theorem unpackL {t : Addr} {vs : List Value} {n : Nat} {Q : List Value → Shared → Prop} (O : Own W g fs fr gl s) (ht : GL g t vs) (hh : A.handled = none) (hn : n = vs.length)
    (h : ∀ s', Own W g fs fr gl s' → Q vs s') : wpAny (model prog W.w) A (unpackItems (.ref t) n none) Q E s := by
  have := kun_itemsOf (prog := prog) (w := W.w) (E := E) (Q := Q) hh (ht.is O) fun h' he => by simpa using h _ (O.grow (keep_of_ext he) s.toks)
  rw [hn]; simpa using this
theorem assignT {elts : List Expr} {k : Nat} {pos : Pos} {t : Addr} {vs : List Value} {Q : Unit → Shared → Prop} (O : Own W g fs fr gl s) (ht : GT g t vs ∨ GL g t vs) (hh : A.handled = none)
    (hn : (assignEach elts env).length = vs.length) (hstar : (assignEach elts env).findIdx? (·.1) = none)
    (h : ∀ s', Own W g fs fr gl s' → wpAny (model prog W.w) A (assignInOrder ((assignEach elts env).map (·.2)) vs) Q E s') :
    wpAny (model prog W.w) A (assign (.Tuple elts k pos) env (.ref t)) Q E s := by
  rw [assign_Tuple]
  refine wpAny_bind (wpAny_standAt ?_)
  unfold unpack
  rw [hn, hstar]
  refine wpAny_bind (wpAny_holding ?_)
  exact ht.elim (fun ht => unpackT O ht hh rfl h) fun ht => unpackL O ht hh rfl h

/-! texts, each with what it gives -/
theorem cInt {n : Int} {k : Nat} {pos : Pos} {Q : Value → Shared → Prop} (O : Own W g fs fr gl s) (h : ∀ s' t', Own W g fs fr gl s' → Q (.int n t') s') : wpAny (model prog W.w) A (eval (.Constant (.int n) k pos) env) Q E s :=
  wpAny_Constant_int (h _ _ (O.tok _))
theorem cStr {x : Str} {k : Nat} {pos : Pos} {Q : Value → Shared → Prop} (O : Own W g fs fr gl s) (h : ∀ s' t', Own W g fs fr gl s' → Q (.str x t') s') : wpAny (model prog W.w) A (eval (.Constant (.str x) k pos) env) Q E s :=
  Calls.Constant_str (h _ _ (O.tok _))
theorem tRfind {x y : Str} {z : Int} {t u : Tok} {Q : Value → Shared → Prop} (O : Own W g fs fr gl s) (hz : Txt.rfind x y = z) (h : ∀ s' t', Own W g fs fr gl s' → Q (.int z t') s') : wpAny (model prog W.w) A (call (.builtin "str.rfind") [.str x t, .str y u]) Q E s :=
  SC.rfind (hz ▸ h _ _ (O.tok _))
theorem tRstrip {x y z : Str} {t u : Tok} {Q : Value → Shared → Prop} (O : Own W g fs fr gl s) (hz : Txt.rstripChars x y = z) (hsz : x.length ≤ sizeLine) (h : ∀ s' t', Own W g fs fr gl s' → Q (.str z t') s') : wpAny (model prog W.w) A (call (.builtin "str.rstrip") [.str x t, .str y u]) Q E s :=
  SC.rstripChars (fun t' k => hz ▸ h _ t' (O.tok k)) hsz
theorem tStarts {x y : Str} {b : Bool} {t u : Tok} {Q : Value → Shared → Prop} (hz : Txt.startswith x y = b) (h : Q (.bool b) s) : wpAny (model prog W.w) A (call (.builtin "str.startswith") [.str x t, .str y u]) Q E s :=
  SC.startswith (hz ▸ h)
theorem tEnds {x y : Str} {b : Bool} {t u : Tok} {Q : Value → Shared → Prop} (hz : Txt.endswith x y = b) (h : Q (.bool b) s) : wpAny (model prog W.w) A (call (.builtin "str.endswith") [.str x t, .str y u]) Q E s :=
  SC.endswith (hz ▸ h)
theorem tAdd {x y z : Str} {t u : Tok} {Q : Value → Shared → Prop} (O : Own W g fs fr gl s) (hz : x ++ y = z) (hsz : x.length + y.length ≤ sizeLine) (h : ∀ s' t', Own W g fs fr gl s' → Q (.str z t') s') : wpAny (model prog W.w) A (binaryOp .Add (.str x t) (.str y u)) Q E s :=
  PyProof.Rows.add_str (fun t' k => hz ▸ h _ t' (O.tok k)) hsz
theorem tMul {x z : Str} {n : Int} {t u : Tok} {Q : Value → Shared → Prop} (O : Own W g fs fr gl s) (hok : MulOk x n ∧ Txt.mul x n = z) (h : ∀ s' t', Own W g fs fr gl s' → Q (.str z t') s') : wpAny (model prog W.w) A (binaryOp .Mult (.str x t) (.int n u)) Q E s :=
  SB.mul hok.1 (fun t' k => hok.2 ▸ h _ t' (O.tok k))
theorem tNe {x y : Str} {b : Bool} {t u : Tok} {Q : Value → Shared → Prop} (hz : (x != y) = b) (h : Q (.bool b) s) : wpAny (model prog W.w) A (compareOp .NotEq (.str x t) (.str y u)) Q E s :=
  PyProof.Rows.ne_str (hz ▸ h)
theorem tTruthy {x : Str} {b : Bool} {t : Tok} {Q : Bool → Shared → Prop} (O : Own W g fs fr gl s) (hz : ((x.length : Int) != 0) = b) (hsz : x.length ≤ sizeLine) (h : ∀ s', Own W g fs fr gl s' → Q b s') : wpAny (model prog W.w) A (truthy (.str x t)) Q E s :=
  P.truthy_str (by have : sizeLine = 16777216 := rfl; omega) (hz ▸ h _ (O.tok _))

theorem tLen {x : Str} {t : Tok} {Q : Value → Shared → Prop} (O : Own W g fs fr gl s) (hsz : x.length ≤ sizeLine) (h : ∀ s' t', Own W g fs fr gl s' → Q (.int x.length t') s') : wpAny (model prog W.w) A (call (.builtin "len") [.str x t]) Q E s :=
  PyProof.Rows.len_str (by have : sizeLine = 16777216 := rfl; omega) (h _ _ (O.tok _))

abbrev InK (W : Wd) (s : Shared) : Prop := (Mine.hd.heap_39 W.w.params).In s.heap
/-- a def of the text is called with plain arguments -/
theorem cwD {pos : Pos} {f : Addr} {e : Expr} {rest : List Expr} {Q : Value → Shared → Prop} (_O : Own W g fs fr gl s) (hf : isDef W.w.params f = true)
    (h : wpAny (model prog W.w) A (spliced (backTo pos (starEach (e :: rest) env))) (fun vs s₁ => InK W s₁ ∧ wpAny (model prog W.w) A (call (.ref f) vs) Q E s₁) E s)
    (he : starEach (e :: rest) env = (false, eval e env) :: starEach rest env := by rfl) :
    wpAny (model prog W.w) A (callWith pos (.ref f) [] (backTo pos (starEach (e :: rest) env)) []) Q E s := by
  obtain ⟨oc, od, osl, ho, _⟩ := isDef_spec hf
  exact callWith_def (o := ⟨oc, od, .func (fnAt W.w.params f), osl⟩) (fd := fnAt W.w.params f) rfl (wpAny_mono h (fun vs s₁ h₁ => ⟨h₁.1 _ _ ho, h₁.2⟩) fun _ _ x => x) he
end
section
variable (P : Params)
theorem g_sep : nsIn (Mine.hd.heap_39 P) mainGlobals "sep" = some (some (.str "/" 196)) := by kernel_rfl
theorem g_kind : nsIn (Mine.hd.heap_39 P) mainGlobals "_kind" = some (some (.ref 28)) := by kernel_rfl
theorem g_fspathU : nsIn (Mine.hd.heap_39 P) mainGlobals "_fspath" = some (some (.ref 35)) := by kernel_rfl
theorem g_split : nsIn (Mine.hd.heap_39 P) mainGlobals "split" = some (some (.ref 42)) := by kernel_rfl
theorem g_ancestry : nsIn (Mine.hd.heap_39 P) mainGlobals "_ancestry" = some (some (.ref 49)) := by kernel_rfl
theorem g_filterfalse : nsIn (Mine.hd.heap_39 P) mainGlobals "filterfalse" = some (some (.ref 82)) := by kernel_rfl
theorem g_difference : nsIn (Mine.hd.heap_39 P) mainGlobals "_difference" = some (some (.ref 93)) := by kernel_rfl
theorem g_fspath : nsIn (Mine.hd.heap_39 P) mainGlobals "fspath" = some (some (.ref 166)) := by kernel_rfl
theorem g_get_sep : nsIn (Mine.hd.heap_39 P) mainGlobals "_get_sep" = some (some (.ref 180)) := by kernel_rfl
theorem g_join : nsIn (Mine.hd.heap_39 P) mainGlobals "join" = some (some (.ref 187)) := by kernel_rfl
theorem g_basename : nsIn (Mine.hd.heap_39 P) mainGlobals "basename" = some (some (.ref 194)) := by kernel_rfl
theorem g_law_names : nsIn (Mine.hd.heap_39 P) mainGlobals "_law_names" = some (some (.ref 199)) := by kernel_rfl
theorem g_law_path : nsIn (Mine.hd.heap_39 P) mainGlobals "_law_path" = some (some (.ref 206)) := by kernel_rfl
theorem g_law_fronts : nsIn (Mine.hd.heap_39 P) mainGlobals "_law_fronts" = some (some (.ref 211)) := by kernel_rfl
theorem g_law_added : nsIn (Mine.hd.heap_39 P) mainGlobals "_law_added" = some (some (.ref 218)) := by kernel_rfl
theorem g_law_set : nsIn (Mine.hd.heap_39 P) mainGlobals "_law_set" = some (some (.ref 225)) := by kernel_rfl
theorem g_law_moved : nsIn (Mine.hd.heap_39 P) mainGlobals "_law_moved" = some (some (.ref 230)) := by kernel_rfl
theorem g_law_deed : nsIn (Mine.hd.heap_39 P) mainGlobals "_law_deed" = some (some (.ref 235)) := by kernel_rfl
theorem d_28 : isDef P 28 = true := by kernel_rfl
theorem d_35 : isDef P 35 = true := by kernel_rfl
theorem d_42 : isDef P 42 = true := by kernel_rfl
theorem d_49 : isDef P 49 = true := by kernel_rfl
theorem d_64 : isDef P 64 = true := by kernel_rfl
theorem d_71 : isDef P 71 = true := by kernel_rfl
theorem d_78 : isDef P 78 = true := by kernel_rfl
theorem d_93 : isDef P 93 = true := by kernel_rfl
theorem d_166 : isDef P 166 = true := by kernel_rfl
theorem d_180 : isDef P 180 = true := by kernel_rfl
theorem d_187 : isDef P 187 = true := by kernel_rfl
theorem d_194 : isDef P 194 = true := by kernel_rfl
theorem d_199 : isDef P 199 = true := by kernel_rfl
theorem d_206 : isDef P 206 = true := by kernel_rfl
theorem d_211 : isDef P 211 = true := by kernel_rfl
theorem d_218 : isDef P 218 = true := by kernel_rfl
theorem d_225 : isDef P 225 = true := by kernel_rfl
theorem d_230 : isDef P 230 = true := by kernel_rfl
theorem d_235 : isDef P 235 = true := by kernel_rfl
end

end
local macro_rules | `(tactic| size_fits) => `(tactic| with_reducible exact sf0)
local macro_rules | `(tactic| walk_at "eval Name") => `(tactic| first
  | refine ld (by walk_at "OWN") (by first | rfl | assumption) ?_
  | refine lg (by walk_at "OWN") (by walk_at "GLOB") ?_
  | refine lb (by walk_at "OWN") (by kernel_rfl) (by boot_by_name) ?_)
local macro_rules | `(tactic| walk_at "storeName") => `(tactic| (refine st (by walk_at "OWN") ?_; intro _ _))
local macro_rules | `(tactic| walk_at "newTuple") => `(tactic| (refine newTuple_ (by walk_at "OWN") ?_; intro _ _ _ _ _ _))
local macro_rules | `(tactic| walk_at "newList") => `(tactic| (refine newList_ (by walk_at "OWN") ?_; intro _ _ _ _ _ _))
local macro_rules | `(tactic| walk_at "eval Slice") => `(tactic| refine Slice_ ?_)
local macro_rules | `(tactic| walk_at "mkSl") => `(tactic| (refine mkSl_ (by walk_at "OWN") ?_; intro _ _ _ _ _ _))
-- the state's word, out of an elder one
local macro_rules | `(tactic| walk_at "OWN") => `(tactic| first | assumption | exact Own.dropF (by assumption) | exact Own.tok (by assumption) _ | exact Own.tok (Own.dropF (by assumption)) _)
local macro_rules | `(tactic| walk_at "LE") => `(tactic| first
  | assumption
  | exact Fz.Le.refl _
  | (refine Fz.Le.trans ?_ (by assumption); walk_at "LE"))
local macro_rules | `(tactic| walk_at "callWith ref") => `(tactic| refine cwD (by walk_at "OWN") (by walk_at "DEF") ?_)
local macro_rules | `(tactic| walk_at "And") => `(tactic| ((with_reducible show InK _ _ ∧ _); refine ⟨(Own.ground (by walk_at "OWN")).frag, ?_⟩))
local macro_rules | `(tactic| walk_at "RM") => `(tactic| first
  | assumption
  | exact Rm.le (by assumption) (by decide)
  | exact Rm.le (Rm.deeper (by assumption) _) (by decide)
  | exact Rm.le (Rm.in1 (by assumption)) (by decide))
local macro_rules | `(tactic| walk_at "VAL") => `(tactic| first | assumption | exact rfl)
local macro_rules | `(tactic| walk_at "SZ") => `(tactic| first | assumption | decide | (simp only [mk_length, Str.length, slashS] at *; have hSZ : sizeLine = 16777216 := rfl; omega))
local macro_rules | `(tactic| walk_at "subscriptTail") => `(tactic| ((with_reducible show wpAny _ _ (subscriptTail _ _ (Value.str _ _) (Value.ref _)) _ _ _); first
  | (refine strSlice (l := none) (u := some (_, _)) (by walk_at "OWN") (by assumption) (by walk_at "VAL") (by walk_at "SZ") ?_; intro _ _ _)
  | (refine strSlice (l := some (_, _)) (u := none) (by walk_at "OWN") (by assumption) (by walk_at "VAL") (by walk_at "SZ") ?_; intro _ _ _)))
local macro_rules | `(tactic| walk_at "call builtin:str.rfind") => `(tactic| (refine tRfind (by walk_at "OWN") (by walk_at "VAL") ?_; intro _ _ _))
local macro_rules | `(tactic| walk_at "call builtin:str.rstrip") => `(tactic| (refine tRstrip (by walk_at "OWN") (by walk_at "VAL") (by walk_at "SZ") ?_; intro _ _ _))
local macro_rules | `(tactic| walk_at "call builtin:str.startswith") => `(tactic| (refine tStarts (by walk_at "VAL") ?_))
local macro_rules | `(tactic| walk_at "call builtin:str.endswith") => `(tactic| (refine tEnds (by walk_at "VAL") ?_))
local macro_rules | `(tactic| walk_at "binaryOp Add str str") => `(tactic| (refine tAdd (by walk_at "OWN") (by walk_at "VAL") (by walk_at "SZ") ?_; intro _ _ _))
local macro_rules | `(tactic| walk_at "binaryOp Mult str int") => `(tactic| (refine tMul (by walk_at "OWN") (by assumption) ?_; intro _ _ _))
local macro_rules | `(tactic| walk_at "compareOp NotEq str str") => `(tactic| (refine tNe (by walk_at "VAL") ?_))
local macro_rules | `(tactic| walk_at "truthy str") => `(tactic| (refine tTruthy (by walk_at "OWN") (by walk_at "VAL") (by walk_at "SZ") ?_; intro _ _))
local macro_rules | `(tactic| walk_at "HH") => `(tactic| first | exact Rm.hand (by assumption) | exact Rm.hand (Rm.deeper (n := 0) (Rm.le (by assumption) (by decide)) _))
local macro_rules | `(tactic| walk_at "unpackItems ref") => `(tactic| ((with_reducible show wpAny _ _ (unpackItems (Value.ref _) _ none) _ _ _); first
  | (refine unpackT (by walk_at "OWN") (by assumption) (by walk_at "HH") (by rfl) ?_; intro _ _)
  | (refine unpackL (by walk_at "OWN") (by assumption) (by walk_at "HH") (by rfl) ?_; intro _ _)))
local macro_rules | `(tactic| walk_at "assign Tuple") => `(tactic| ((with_reducible show wpAny _ _ (assign (Expr.Tuple _ _ _) _ (Value.ref _)) _ _ _); first
  | (refine assignT (by walk_at "OWN") (.inl (by assumption)) (by walk_at "HH") (by rfl) (by rfl) ?_; intro _ _)
  | (refine assignT (by walk_at "OWN") (.inr (by assumption)) (by walk_at "HH") (by rfl) (by rfl) ?_; intro _ _)))
local macro_rules | `(tactic| walk_at "GLOB") => `(tactic| first | with_reducible exact g_sep _ | with_reducible exact g_kind _ | with_reducible exact g_fspathU _ | with_reducible exact g_split _ | with_reducible exact g_ancestry _ | with_reducible exact g_filterfalse _ | with_reducible exact g_difference _ | with_reducible exact g_fspath _ | with_reducible exact g_get_sep _ | with_reducible exact g_join _ | with_reducible exact g_basename _ | with_reducible exact g_law_names _ | with_reducible exact g_law_path _ | with_reducible exact g_law_fronts _ | with_reducible exact g_law_added _ | with_reducible exact g_law_set _ | with_reducible exact g_law_moved _ | with_reducible exact g_law_deed _)
local macro_rules | `(tactic| walk_at "call builtin:len") => `(tactic| ((with_reducible show wpAny _ _ (call (Value.builtin "len") [Value.str _ _]) _ _ _); refine tLen (by walk_at "OWN") (by walk_at "SZ") ?_; intro _ _ _))
local macro_rules | `(tactic| walk_at "DEF") => `(tactic| first | with_reducible exact d_28 _ | with_reducible exact d_35 _ | with_reducible exact d_42 _ | with_reducible exact d_49 _ | with_reducible exact d_64 _ | with_reducible exact d_71 _ | with_reducible exact d_78 _ | with_reducible exact d_93 _ | with_reducible exact d_166 _ | with_reducible exact d_180 _ | with_reducible exact d_187 _ | with_reducible exact d_194 _ | with_reducible exact d_199 _ | with_reducible exact d_206 _ | with_reducible exact d_211 _ | with_reducible exact d_218 _ | with_reducible exact d_225 _ | with_reducible exact d_230 _ | with_reducible exact d_235 _)
local macro_rules | `(tactic| walk_at "FZ") => `(tactic| first
  | assumption
  | exact GL.mono (by assumption) (by walk_at "LE")
  | exact GT.mono (by assumption) (by walk_at "LE"))
local macro_rules | `(tactic| walk_at "NZ") => `(tactic| first | assumption | decide | omega)
local macro_rules | `(tactic| walk_at "eval Constant int") => `(tactic| (refine cInt (by walk_at "OWN") ?_; intro _ _ _))
local macro_rules | `(tactic| walk_at "eval Constant str") => `(tactic| (refine cStr (by walk_at "OWN") ?_; intro _ _ _))

section
section
variable {W : Wd} {g : Fz} {fs : Fs} {fr : Ob} {gl : Gs} {prog : Program} {A : Around} {E : Value → Shared → Prop} {s : Shared}

theorem kind_spec {nm x : Str} {t1 t2 : Tok} {Q : Value → Shared → Prop} (hA : Rm A 4) (O : Own W g fs fr gl s)
    (k : ∀ s' t, Own W g fs fr gl s' → Q (.str "" t) s') : wpAny (model prog W.w) A (call (.ref 28) [.str nm t1, .str x t2]) Q E s := by
  refine wpAny_call (call_in [("name", .str nm t1), ("x", .str x t2)] hA.room O (by kernel_rfl) rfl (by kernel_rfl) (by kernel_rfl) (by kernel_rfl) (by kernel_rfl) ?_)
  intro s₁ L O₁
  iterate 21 walk1
  dsimp only
  exact k _ _ (by walk_at "OWN")

theorem fspath1_spec {nm x : Str} {t1 t2 : Tok} {Q : Value → Shared → Prop} (hA : Rm A 6) (O : Own W g fs fr gl s)
    (k : ∀ s', Own W g fs fr gl s' → Q (.str x t2) s') : wpAny (model prog W.w) A (call (.ref 35) [.str nm t1, .str x t2]) Q E s := by
  refine wpAny_call (call_in [("name", .str nm t1), ("x", .str x t2)] hA.room O (by kernel_rfl) rfl (by kernel_rfl) (by kernel_rfl) (by kernel_rfl) (by kernel_rfl) ?_)
  intro s₁ L O₁
  iterate 11 walk1
  refine kind_spec (by walk_at "RM") (by walk_at "OWN") ?_
  intro s₂ t O₂
  iterate 11 walk1
  exact k _ (by walk_at "OWN")

theorem split_spec {x hd tl mz hd' : Str} {t2 : Tok} {j : Int} {b : Bool} {Q : Value → Shared → Prop} (hA : Rm A 8) (O : Own W g fs fr gl s) (hz : x.length ≤ sizeLine)
    (h1 : Txt.rfind x "/" = j) (h2 : Txt.slice x none (some (j + 1)) = hd) (h3 : Txt.slice x (some (j + 1)) none = tl) (hz' : hd.length ≤ sizeLine) (h4 : ((hd.length : Int) != 0) = true)
    (h5 : MulOk "/" hd.length ∧ Txt.mul "/" hd.length = mz) (h6 : (hd != mz) = b) (h7 : b = true → Txt.rstripChars hd "/" = hd') (h8 : b = false → hd' = hd)
    (k : ∀ s' g' a t3 t4, Own W g' fs fr gl s' → GT g' a [.str hd' t3, .str tl t4] → g.Le g' → Q (.ref a) s') : wpAny (model prog W.w) A (call (.ref 42) [.str x t2]) Q E s := by
  refine wpAny_call (call_in [("p", .str x t2)] hA.room O (by kernel_rfl) rfl (by kernel_rfl) (by kernel_rfl) (by kernel_rfl) (by kernel_rfl) ?_)
  intro s₁ L O₁
  iterate 11 walk1
  refine fspath1_spec (by walk_at "RM") (by walk_at "OWN") ?_
  intro s₂ O₂
  cases b with
  | true =>
    have h7' := h7 rfl
    iterate 98 walk1
    exact k _ _ _ _ _ (by walk_at "OWN") (by assumption) (by walk_at "LE")
  | false =>
    obtain rfl := h8 rfl
    iterate 86 walk1
    exact k _ _ _ _ _ (by walk_at "OWN") (by assumption) (by walk_at "LE")

/-- split of a path -/
theorem split_path_spec {ns : List Str} {n x : Str} {t2 : Tok} {Q : Value → Shared → Prop} (hA : Rm A 8) (O : Own W g fs fr gl s) (hg : GoodP (ns ++ [n])) (hx : x = pathS (ns ++ [n])) (hz : x.length ≤ 100000)
    (k : ∀ s' g' a t3 t4, Own W g' fs fr gl s' → GT g' a [.str (pathS ns) t3, .str n t4] → g.Le g' → Q (.ref a) s') : wpAny (model prog W.w) A (call (.ref 42) [.str x t2]) Q E s := by
  have hs : Str.ofString "/" = mk [47] := slashS
  have hn := (GoodP.append.mp hg).2 n (by simp)
  have hgn := (GoodP.append.mp hg).1
  rw [pathS_snoc] at hx
  have hl : (catP ns).length + 1 ≤ 100000 := by rw [hx, mk_length, List.length_append, List.length_cons] at hz; omega
  have e1 : Txt.rfind x "/" = ((catP ns).length : Int) := by rw [hx, hs]; exact rfind_path _ _ hn.2
  have e0 : catP ns ++ 47 :: n.cps.toList = (catP ns ++ [47]) ++ n.cps.toList := by simp
  have el : ((catP ns).length : Int) + 1 = ((catP ns ++ [47]).length : Int) := by simp
  have e2 : Txt.slice x none (some (((catP ns).length : Int) + 1)) = mk (catP ns ++ [47]) := by rw [hx, e0, el]; exact slice_to _ _
  have e3 : Txt.slice x (some (((catP ns).length : Int) + 1)) none = n := by rw [hx, e0, el]; exact slice_from _ _
  have hSZ : sizeLine = 16777216 := rfl
  have hlen : (mk (catP ns ++ [47])).length = (catP ns).length + 1 := by rw [mk_length]; simp
  refine split_spec (b := !decide (ns = [])) (hd' := pathS ns) (mz := Txt.mul (mk [47]) (mk (catP ns ++ [47])).length) hA O (by omega) e1 e2 e3 (by omega) ?_ ⟨?_, by rw [hs]⟩ ?_ ?_ ?_ k
  · rw [hlen]; simp; omega
  · rw [hs]; exact mulOk_small (by omega)
  · by_cases h : ns = []
    · subst h; simp only [catP, List.flatMap_nil, List.nil_append]; decide +kernel
    · rw [head_ne hgn h]; simp [h]
  · intro hb
    rw [hs]; exact rstrip_head hgn (by simpa using hb)
  · intro hb
    have : ns = [] := by simpa using hb
    subst this; rw [pathS_nil]; rfl
end

end
section
/-! a generator's body: while TEST: yield E; REST -/
/-- what a generator's turn may move: its own names; new objects, new generators -/
structure Mv (L : Addr) (s₀ s₁ : Shared) : Prop where
  heap : ∀ b o, b ≠ L → s₀.heap.get? b = some o → s₁.heap.get? b = some o
  gens : ∀ (i : Nat) (x : GenState), s₀.gens[i]? = some x → s₁.gens[i]? = some x
  bare : ∀ (i : Nat) (x : GenState), s₁.gens[i]? = some x → s₀.gens[i]? = none → x.bare = true
  os : s₁.os = s₀.os
theorem Mv.refl (L : Addr) (s : Shared) : Mv L s s := ⟨fun _ _ _ e => e, fun _ _ e => e, fun _ _ e n => (by rw [e] at n; cases n), rfl⟩
theorem Mv.trans {L : Addr} {s₀ s₁ s₂ : Shared} (x : Mv L s₀ s₁) (y : Mv L s₁ s₂) : Mv L s₀ s₂ :=
  ⟨fun b o hb e => y.heap b o hb (x.heap b o hb e), fun i z e => y.gens i z (x.gens i z e), fun i z e n => (by
    cases q : s₁.gens[i]? with
    | none => exact y.bare i z e q
    | some z' =>
      have := y.gens i z' q
      rw [e] at this; cases this
      exact x.bare i z q n), y.os.trans x.os⟩

def genR (L : Addr) : GenEnd := fun n s₀ r s₁ => r = .ok (.ret .none) ∧ n = 0 ∧ Mv L s₀ s₁
def genY (L : Addr) (Yv : Nat → Value → Prop) (St : Nat → Shared → Prop) : Protocol := fun n s₀ v s₁ kap => Yv n v ∧ Mv L s₀ s₁ ∧ St (n + 1) s₁ ∧ ∀ s'', St (n + 1) s'' → kap (.send .none) s''

section
variable {prog : Program} {w : World} {A : Around} {L : Addr} {Yv : Nat → Value → Prop} {St : Nat → Shared → Prop} {test e : Expr} {rest : List Stmt} {ypos pos : Pos} {env : Env} {fs : List Frame} {N : Nat}
abbrev genBody (e : Expr) (ypos pos : Pos) (rest : List Stmt) : List Stmt := .Expr (.Yield (some e) ypos) pos :: rest
abbrev genLoop (test e : Expr) (ypos pos : Pos) (rest : List Stmt) (env : Env) : Code := .whileLoop test (genBody e ypos pos rest) [] env

theorem seg_gen_loop (hfs : splitAtGen fs = none) (hfg : fs.any Frame.guarded = false) (hco : env.scope.isCoroutine = false) (hi : interactive env = false)
    (htest : ∀ n s, n ≤ N → St n s → wpAny (model prog w) (A.over (genLoop test e ypos pos rest env) fs) (PySem.isTrue test env (eval test env)) (fun b s' => b = decide (n ≠ 0) ∧ St n s' ∧ Mv L s s') (fun _ _ => False) s)
    (hy : ∀ n s, n < N → St (n + 1) s → wpAny (model prog w) (A.over (genLoop test e ypos pos rest env) fs) (eval e env) (fun v s' => Yv n v ∧ St (n + 1) s' ∧ Mv L s s') (fun _ _ => False) s)
    (hrest : ∀ n s, n < N → St (n + 1) s → wpAny (model prog w) (A.over (genLoop test e ypos pos rest env) fs) (execs rest env) (fun f s' => f = .next ∧ St n s' ∧ Mv L s s') (fun _ _ => False) s)
    (hend : ∀ s₀ s, Mv L s₀ s → Seg (model prog w) A (genR L) (genY L Yv St) 0 s₀ (genLoop test e ypos pos rest env) (leafOf (.ok .next)) fs s) :
    ∀ n, n ≤ N → ∀ s₀ s, St n s → Mv L s₀ s → Seg (model prog w) A (genR L) (genY L Yv St) n s₀ (genLoop test e ypos pos rest env) ((model prog w).den (genLoop test e ypos pos rest env)) fs s
  | 0, _, s₀, s, hs, hm => by
    refine seg_whileLoop (wpAny_mono (htest 0 s (Nat.zero_le _) hs) (fun b s' hb => ?_) fun _ _ f => f.elim)
    obtain ⟨rfl, _, hm'⟩ := hb
    exact hend s₀ s' (hm.trans hm')
  | n + 1, hn, s₀, s, hs, hm => by
    have ih := seg_gen_loop hfs hfg hco hi htest hy hrest hend n (Nat.le_of_succ_le hn)
    refine seg_whileLoop (wpAny_mono (htest (n + 1) s hn hs) (fun b s' hb => ?_) fun _ _ f => f.elim)
    obtain ⟨rfl, hs', hm'⟩ := hb
    rw [if_pos (by simp)]
    refine seg_execs_cons (seg_Expr_Yield hfs rfl hfg (wpAny_mono (hy n s' hn hs') (fun v s₂ hv kap hk => ?_) fun _ _ f => f.elim) hco hi)
    obtain ⟨hYv, hs₂, hm₂⟩ := hv
    refine ⟨hYv, (hm.trans hm').trans hm₂, hs₂, fun s'' hs'' => hk _ _ ?_⟩
    refine seg_wrap (wpAny_mono (hrest n s'' hn hs'') (fun f s₃ hf => ?_) fun _ _ f => f.elim)
    obtain ⟨rfl, hs₃, hm₃⟩ := hf
    exact seg_again rfl (ih s'' s₃ hs₃ hm₃)
end
theorem own_of_mv {W : Wd} {g : Fz} {fs : Fs} {fr : Ob} {gl : Gs} {L : Addr} {s s' : Shared} {m m'} (O : Own W g ((L, m) :: fs) fr gl s) (M : Mv L s s') (hn : s'.heap.Ns L m') : Own W g ((L, m') :: fs) fr gl s' := by
  have O₁ := O.setF (h' := s'.heap) hn (fun b o hb e => M.heap b o hb e) 0
  refine ⟨O₁.gnd, O₁.fz, O₁.ns, O₁.ex, O₁.nd, O₁.ap, fun p hp => M.gens _ _ (O.gx p hp), O.gd, fun i x e h => ?_, M.os.trans O.os⟩
  cases q : s.gens[i]? with
  | none => exact M.bare i x e q
  | some z =>
    have := M.gens i z q
    rw [e] at this; cases this
    exact O.bare i x q h
theorem own_of_mv0 {W : Wd} {g : Fz} {fs : Fs} {fr : Ob} {gl : Gs} {L : Addr} {s s' : Shared} {m} (O : Own W g ((L, m) :: fs) fr gl s) (M : Mv L s s') : Own W g fs fr gl s' := by
  have hL : L ∈ ((L, m) :: fs).map (·.1) ++ fr.map (·.1) := .head _
  have nL : L ∉ fs.map (·.1) ++ fr.map (·.1) := (List.nodup_cons.mp O.nd).1
  have D := O.dropF
  refine ⟨D.gnd, fun a o e => M.heap a o (O.ne_of_mem hL e) (O.fz a o e), fun p hp => ?_, fun p hp => M.heap _ _ ?_ (O.ex p hp), D.nd, D.ap, fun p hp => M.gens _ _ (O.gx p hp), O.gd, fun i x e h => ?_, M.os.trans O.os⟩
  · refine (O.ns p (.tail _ hp)).extBut (b := L) (fun b o hb e => M.heap b o hb e) ?_
    intro q; refine nL (List.mem_append_left _ ?_); rw [← q]; exact List.mem_map_of_mem hp
  · intro q; refine nL (List.mem_append_right _ ?_); rw [← q]; exact List.mem_map_of_mem hp
  · cases q : s.gens[i]? with
    | none => exact M.bare i x e q
    | some z =>
      have := M.gens i z q
      rw [e] at this; cases this
      exact O.bare i x q h

/-! an iterator: what is left to give, and what it owns -/
/-- unpacking what it gave moves nothing -/
def NoGo (W : Wd) (prog : Program) (I v : Value) (s : Shared) : Prop := ∀ (target : Expr) (A : Around) (Q : Unit → Shared → Prop) (E : Value → Shared → Prop), Q () s → wpAny (model prog W.w) A (letOwnedTupleGo target I v) Q E s
def pairers : List String := ["enumerate", "zip", "dict_itemiterator", "dict_reverseitemiterator", "odict_iterator", "itertools.zip_longest", "itertools.pairwise"]
theorem noGo {W : Wd} {prog : Program} {J : Addr} {v : Value} {s : Shared} {o : Obj} (ho : s.heap.get? J = some o) (hc : ∀ n, o.cls = .type n → pairers.contains n = false) : NoGo W prog (.ref J) v s := by
  intro target A Q E h
  unfold letOwnedTupleGo
  split
  · cases v <;> (try exact wpAny_pure h)
    refine wpAny_bind (wpAny_load ho ?_)
    split
    · rename_i n vs e1 e2
      rw [show (["enumerate", "zip", "dict_itemiterator", "dict_reverseitemiterator", "odict_iterator", "itertools.zip_longest", "itertools.pairwise"] : List String).contains n = false from hc n e1]
      exact wpAny_pure h
    · exact wpAny_pure h
  · cases v <;> (try exact wpAny_pure h)
    refine wpAny_bind (wpAny_load ho ?_)
    split
    · rename_i n vs e1 e2
      rw [show (["enumerate", "zip", "dict_itemiterator", "dict_reverseitemiterator", "odict_iterator", "itertools.zip_longest", "itertools.pairwise"] : List String).contains n = false from hc n e1]
      exact wpAny_pure h
    · exact wpAny_pure h
  · exact wpAny_pure h
/-- the calls around, each a def with one of these frames -/
def Stk (A : Around) (fs : Fs) : Prop := ∃ l, A.frames = some l ∧ ∀ env ∈ l, env.scope.kind ≠ .module ∧ ∃ L, env.frame = some L ∧ L ∈ fs.map (·.1)
theorem Stk.in1 {A : Around} {fs : Fs} (h : Stk A fs) : Stk A.in1 fs := h
theorem Stk.sub {A : Around} {fs fs' : Fs} (h : Stk A fs) (k : ∀ L, L ∈ fs.map (·.1) → L ∈ fs'.map (·.1)) : Stk A fs' := let ⟨l, e, q⟩ := h; ⟨l, e, fun env he => let ⟨a, L, b, c⟩ := q env he; ⟨a, L, b, k L c⟩⟩
def Iter (W : Wd) (prog : Program) (I : Value) : List (Value → Prop) → Fz → Fs → Ob → Gs → (Z : Ob := []) → (b : Bool := false) → Prop
  | [], g, F, R, G, Z, b => ∀ (A : Around) (g₁ : Fz) (fs : Fs) (fr : Ob) (gl : Gs) (s : Shared) (Q : Option Value → Shared → Prop) (E : Value → Shared → Prop), Rm A 130 → (b = true → Stk A fs) → g.Le g₁ → Own W g₁ (F ++ fs) (R ++ fr) (G ++ gl) s →
      (∀ s' g', Own W g' fs (Z ++ fr) gl s' → g₁.Le g' → Q none s') → wpAny (model prog W.w) A (pyNext I) Q E s
  | x :: xs, g, F, R, G, Z, b => ∀ (A : Around) (g₁ : Fz) (fs : Fs) (fr : Ob) (gl : Gs) (s : Shared) (Q : Option Value → Shared → Prop) (E : Value → Shared → Prop), Rm A 130 → (b = true → Stk A fs) → g.Le g₁ → Own W g₁ (F ++ fs) (R ++ fr) (G ++ gl) s →
      (∀ s' g' F' R' G' v, Own W g' (F' ++ fs) (R' ++ fr) (G' ++ gl) s' → g₁.Le g' → x v → NoGo W prog I v s' → Iter W prog I xs g' F' R' G' Z b → Q (some v) s') → wpAny (model prog W.w) A (pyNext I) Q E s
theorem Iter.mono {W : Wd} {prog : Program} {I : Value} {g g' : Fz} {F : Fs} {R : Ob} {G : Gs} {Z : Ob} {b : Bool} (k : g.Le g') : ∀ {xs : List (Value → Prop)}, Iter W prog I xs g F R G Z b → Iter W prog I xs g' F R G Z b
  | [], h => fun A g₁ fs fr gl s Q E hA hS hl => h A g₁ fs fr gl s Q E hA hS (k.trans hl)
  | _ :: _, h => fun A g₁ fs fr gl s Q E hA hS hl => h A g₁ fs fr gl s Q E hA hS (k.trans hl)
theorem noStk {A : Around} {fs : Fs} : false = true → Stk A fs := fun h => nomatch h

/-- «__next__» is there -/
def LookN (W : Wd) (prog : Program) (I : Value) (g : Fz) (F : Fs) (R : Ob) (G : Gs) : Prop := ∀ (A : Around) (g₁ : Fz) (fs : Fs) (fr : Ob) (gl : Gs) (s : Shared) (Q : Option Value → Shared → Prop) (E : Value → Shared → Prop), g.Le g₁ → Own W g₁ (F ++ fs) (R ++ fr) (G ++ gl) s →
  (∀ f, Q (some f) s) → wpAny (model prog W.w) A (specialOf I "__next__") Q E s
/-- the same, at the call of «__next__» -/
def IterN (W : Wd) (prog : Program) (I : Value) : List (Value → Prop) → Fz → Fs → Ob → Gs → (Z : Ob := []) → Prop
  | [], g, F, R, G, Z => LookN W prog I g F R G ∧ ∀ (A : Around) (g₁ : Fz) (fs : Fs) (fr : Ob) (gl : Gs) (s : Shared) (Q : Option Value → Shared → Prop) (E : Value → Shared → Prop), Rm A 110 → g.Le g₁ → Own W g₁ (F ++ fs) (R ++ fr) (G ++ gl) s →
      (∀ s' g' h' e, Own W g' fs (Z ++ fr) gl s' → g₁.Le g' → Heap.MadeExc s'.heap h' e "StopIteration" [] → E (.ref e) { s' with heap := h' }) → wpAny (model prog W.w) A (callSpecial? I "__next__") Q E s
  | x :: xs, g, F, R, G, Z => LookN W prog I g F R G ∧ ∀ (A : Around) (g₁ : Fz) (fs : Fs) (fr : Ob) (gl : Gs) (s : Shared) (Q : Option Value → Shared → Prop) (E : Value → Shared → Prop), Rm A 110 → g.Le g₁ → Own W g₁ (F ++ fs) (R ++ fr) (G ++ gl) s →
      (∀ s' g' F' R' G' v, Own W g' (F' ++ fs) (R' ++ fr) (G' ++ gl) s' → g₁.Le g' → x v → NoGo W prog I v s' → IterN W prog I xs g' F' R' G' Z → Q (some v) s') → wpAny (model prog W.w) A (callSpecial? I "__next__") Q E s
theorem LookN.mono {W : Wd} {prog : Program} {I : Value} {g g' : Fz} {F : Fs} {R : Ob} {G : Gs} (k : g.Le g') (h : LookN W prog I g F R G) : LookN W prog I g' F R G := fun A g₁ fs fr gl s Q E hl => h A g₁ fs fr gl s Q E (k.trans hl)
theorem IterN.mono {W : Wd} {prog : Program} {I : Value} {g g' : Fz} {F : Fs} {R : Ob} {G : Gs} {Z : Ob} (k : g.Le g') : ∀ {xs : List (Value → Prop)}, IterN W prog I xs g F R G Z → IterN W prog I xs g' F R G Z
  | [], h => ⟨h.1.mono k, fun A g₁ fs fr gl s Q E hA hl => h.2 A g₁ fs fr gl s Q E hA (k.trans hl)⟩
  | _ :: _, h => ⟨h.1.mono k, fun A g₁ fs fr gl s Q E hA hl => h.2 A g₁ fs fr gl s Q E hA (k.trans hl)⟩
theorem IterN.iter {W : Wd} {prog : Program} {I : Value} {Z : Ob} : ∀ {xs : List (Value → Prop)} {g : Fz} {F : Fs} {R : Ob} {G : Gs}, IterN W prog I xs g F R G Z → Iter W prog I xs g F R G Z
  | [], g, F, R, G, h => fun A g₁ fs fr gl s Q E hA _ hl O k => by
    unfold pyNext
    refine wpAny_bind (wpAny_attempt (h.2 A g₁ fs fr gl s _ _ (Rm.le hA (by decide)) hl O fun s' g' h' e O' hle hx => ?_))
    obtain ⟨t, he, _⟩ := hx.there
    refine wpAny_bind (wpAny_isInstance (T := "StopIteration") (b := true) ⟨_, he, rfl⟩ isSubtype_stop ?_)
    exact wpAny_pure (k _ _ (O'.grow hx.keeps s'.toks) hle)
  | x :: xs, g, F, R, G, h => fun A g₁ fs fr gl s Q E hA _ hl O k => by
    unfold pyNext
    refine wpAny_bind (wpAny_attempt (h.2 A g₁ fs fr gl s _ _ (Rm.le hA (by decide)) hl O fun s' g' F' R' G' v O' hle hv hn hI => ?_))
    exact wpAny_pure (k _ _ _ _ _ _ O' hle hv hn hI.iter)
theorem mk_stop {M : Model} {A : Around} {Q : Value → Shared → Prop} {E : Value → Shared → Prop} {s : Shared}
    (h : ∀ h' e, Heap.MadeExc s.heap h' e "StopIteration" [] → Q (.ref e) { s with heap := h' }) : wpAny M A (newExc (.type "StopIteration") []) Q E s := by
  simp only [newExc, newTuple]
  refine wpAny_bind (wpAny_newObj_type ?_ (by size_fits))
  refine wpAny_bind (m := firstArgMember _ _) (wpAny_of_eq (a := Value.none) (by first | rfl | (simp only [firstArgMember]; rfl)) ?_)
  refine wpAny_newObj_type ?_ (by size_fits)
  exact h _ _ ⟨fun b o hb => Heap.get?_push_of_some _ (Heap.get?_push_of_some _ hb), Heap.get?_none_of_le (by simp), s.heap.objs.size, Heap.get?_push_size _ rfl, Heap.get?_none_of_le (Nat.le_refl _), Heap.get?_push_of_some _ (Heap.get?_push_size _ rfl)⟩
theorem next_gen {W : Wd} {prog : Program} {A : Around} {E : Value → Shared → Prop} {s : Shared} {a : Addr} {g n : Nat} {gs : GenState} {P : Nat → Shared → Shared → Prop} {Y : Protocol} {Q : Option Value → Shared → Prop} (hh : A.handled = none)
    (hl : s.heap.NoLimit) (hroom : A.depth < recursionLimit)
    (hg : s.heap.IsGen a g) (hgs : s.gens[g]? = some gs)
    (hgo : gs.Goes (model prog W.w) A.in1 (fun n s₀ r s₁ => r = .ok (.ret .none) ∧ P n s₀ s₁) Y n (.send .none) (s.setGen g .running))
    (hY : ∀ v s₁ gs', Y (n - 1) (s.setGen g .running) v s₁ (fun r' s'' => match n with
        | 0 => False
        | m + 1 => gs'.Goes (model prog W.w) A.in1 (fun n s₀ r s₁ => r = .ok (.ret .none) ∧ P n s₀ s₁) Y m r' s'') → Q (some v) (s₁.setGen g gs'))
    (hP : ∀ s₁, P n (s.setGen g .running) s₁ → ∀ h' e, Heap.MadeExc s₁.heap h' e "StopIteration" [] → E (.ref e) { s₁.setGen g .finished with heap := h' }) :
    wpAny (model prog W.w) A (callSpecial? (.ref a) "__next__") Q E s := by
  refine wpAny_callSpecial?_slot (name := Str.ofString "__next__") hg.typeIs slot_gen_next
    (wpAny_call_entry slot_gen_next hg.typeIs entry_gen_next ?_ (args_gen_next _))
  show wpAny _ _ (Builtin.Generator.genWake (.ref a) (.send .none)) _ _ s
  unfold Builtin.Generator.genWake
  refine wpAny_bind (wpAny_holding (wpAny_genNumber hg (wpAny_bind (wpAny_genState hgs ?_))))
  cases gs with
  | running => exact hgo.elim
  | finished => exact hgo.elim
  | _ =>
    refine wpAny_bind (wpAny_roomToWake hl hroom ?_)
    show wpAny _ _ (.resume g (.send .none) [] _) _ _ s
    refine wpAny_resume hgs hgo (fun x s₁ hx => ?_) (fun v s₁ gs' hv => ?_)
    · obtain ⟨rfl, hp⟩ := hx
      show wpAny _ _ (newExc (.type "StopIteration") [] >>= _) _ _ _
      exact wpAny_bind (mk_stop fun h' e hx => wpAny_bind (wpAny_raiseNew_none (A := A.in1) hh (hP s₁ hp h' e hx)))
    · exact wpAny_pure ⟨v, rfl, hY v s₁ gs' hv⟩

theorem wpAny_weak {α : Type} {M : Model} {A A' : Around} {t : Sem α} {Q : α → Shared → Prop} {E : Value → Shared → Prop} {s : Shared} (h : wpAny M A' t Q E s)
    (h1 : A.handled = A'.handled) (h2 : A.depth ≤ A'.depth) (h3 : A'.frames = none) (h4 : A'.guards = none) (h5 : A.units ≤ A'.units) : wpAny M A t Q E s :=
  fun Γ p hΓ => h Γ p ⟨hΓ.1.trans h1, Nat.le_trans hΓ.2.1 h2, (fun l e => by rw [h3] at e; cases e), (fun l e => by rw [h4] at e; cases e), Nat.le_trans hΓ.2.2.2.2 h5⟩
/-- a text -/
def SV (x : Str) (v : Value) : Prop := ∃ t, v = .str x t

end
section
/-! _ancestry -/
def Base (W : Wd) (L : Addr) (s : Shared) : Prop :=
  (∃ h₀ : Heap, Gnd W h₀ ∧ (∀ a o, h₀.get? a = some o → s.heap.get? a = some o) ∧ h₀.get? L = none) ∧ s.os = W.os
noncomputable def allGens (s : Shared) : Gs := (List.range s.gens.size).map fun i => (i, s.gens.getD i .finished)
theorem allGens_mem {s : Shared} {i : Nat} {x : GenState} (h : s.gens[i]? = some x) : (i, x) ∈ allGens s := by
  obtain ⟨hi, rfl⟩ := Array.getElem?_eq_some_iff.mp h
  exact List.mem_map.mpr ⟨i, List.mem_range.mpr hi, by simp [Array.getD, hi]⟩
noncomputable def butL (L : Addr) (s : Shared) : Fz := fun b => if b = L then none else s.heap.get? b
theorem own_of_base {W : Wd} {L : Addr} {s : Shared} {m} (B : Base W L s) (hn : s.heap.Ns L m) : Own W (butL L s) [(L, m)] [] (allGens s) s where
  gnd := let ⟨h₀, x, k, n⟩ := B.1; ⟨h₀, x, fun a o e => by
    unfold butL; rw [if_neg (by rintro rfl; rw [n] at e; cases e)]; exact k a o e⟩
  fz := fun a o e => by unfold butL at e; split at e; cases e; exact e
  ns := fun p hp => by rcases List.mem_singleton.mp hp with rfl; exact hn
  ex := fun p hp => nomatch hp
  nd := by simp
  ap := fun a ha => by simp at ha; subst ha; exact if_pos rfl
  gx := fun p hp => by
    obtain ⟨i, hi, rfl⟩ := List.mem_map.mp hp
    have hi := List.mem_range.mp hi
    simp [Array.getD, hi]
  gd := by
    unfold allGens; rw [List.map_map]
    exact (by simpa [Function.comp_def] using List.nodup_range)
  bare := fun i x e h => absurd (List.mem_map_of_mem (f := Prod.fst) (allGens_mem e)) h
  os := B.2
theorem mv_of_own {W : Wd} {L : Addr} {s s' : Shared} {g' : Fz} {m'} (B : Base W L s) (O : Own W g' [(L, m')] [] (allGens s) s') (k : (butL L s).Le g') : Mv L s s' ∧ Base W L s' ∧ s'.heap.Ns L m' :=
  ⟨⟨fun b o hb e => O.fz b o (k b o (by unfold butL; rw [if_neg hb]; exact e)), fun i x e => O.gx _ (allGens_mem e), fun i x e n => O.bare i x e fun q => by
      obtain ⟨p, hp, rfl⟩ := List.mem_map.mp q
      obtain ⟨j, hj, rfl⟩ := List.mem_map.mp hp
      rw [Array.getElem?_eq_none_iff] at n
      exact absurd (List.mem_range.mp hj) (Nat.not_lt.mpr n), O.os.trans B.2.symm⟩,
   ⟨let ⟨h₀, x, q, n⟩ := B.1; ⟨h₀, x, fun a o e => O.fz a o (k a o (by unfold butL; rw [if_neg (by rintro rfl; rw [n] at e; cases e)]; exact q a o e)), n⟩, O.os⟩, O.ns _ (.head _)⟩

def AR : Around := { handled := none, depth := 800, frames := none, guards := none, units := 8000 }
theorem rm_func (body : List Stmt) (env : Env) : Rm (AR.over (.func body env) []) 30 := ⟨rfl, by show 800 + 0 + 1 + 30 ≤ 900; decide, by show 8000 + 0 + 3 + 10 * 30 ≤ 9000; decide⟩
theorem rm_loop (test : Expr) (b o : List Stmt) (env : Env) (k : Result → Sem Fin) (gd : Bool) (lv : List Value) (body : List Stmt) (env' : Env) (p : Pos) (kp : List Value) :
    Rm (AR.over (.whileLoop test b o env) [.ret k none gd lv (.func body env') p kp]) 30 := ⟨rfl, by show 800 + (1 + 0) + 0 + 30 ≤ 900; decide, by show 8000 + (3 + 0) + 0 + 10 * 30 ≤ 9000; decide⟩

section
variable {W : Wd} {prog : Program} {L : Addr} {ns : List Str}

theorem at_any {α : Type} {M : Model} {A : Around} {n : Nat} {tr : Sem α} {Q : α → Shared → Prop} {E : Value → Shared → Prop} {s : Shared} (h : Rm A n) (k : ∀ A', Rm A' n → wpAny M A' tr Q E s) : wpAny M A tr Q E s := k A h

/-- the generator's names: the path is what is told -/
def AncL (W : Wd) (L : Addr) (x : Str) (s : Shared) : Prop := Base W L s ∧ ∃ m t, s.heap.Ns L m ∧ m "path" = some (.str x t)
def AncX (ns : List Str) (n : Nat) (x : Str) : Prop := x = pathS (ns.take n) ∨ (n = 0 ∧ x = mk [])
def AncSt (W : Wd) (ns : List Str) (L : Addr) (n : Nat) (s : Shared) : Prop := ∃ x, AncX ns n x ∧ AncL W L x s
def AncV (ns : List Str) (n : Nat) (v : Value) : Prop := ∃ t, v = .str (pathS (ns.take (n + 1))) t

/-- a generator that has n paths to give -/
def AncRdy (W : Wd) (prog : Program) (ns : List Str) (L : Addr) (St : Shared → Prop) (n : Nat) (gs : GenState) : Prop :=
  ∀ s, St s → gs.Goes (model prog W.w) AR (genR L) (genY L (AncV ns) (AncSt W ns L)) n (.send .none) s

theorem catP_take_le : ∀ (ns : List Str) (k : Nat), (catP (ns.take k)).length ≤ (catP ns).length := fun ns k => by
  conv => rhs; rw [← List.take_append_drop k ns, catP_append, List.length_append]
  omega
theorem pathS_take_le (ns : List Str) (k : Nat) : (pathS (ns.take k)).length ≤ (pathS ns).length := by
  by_cases h : ns.take k = []
  · rw [h, pathS_nil]; have := pathS_length_pos ns; rw [mk_length]; exact this
  · rw [pathS_ne h, pathS_ne (by rintro rfl; simp at h), mk_length, mk_length]; exact catP_take_le ns k
theorem ancX_rstrip {n : Nat} {x : Str} (hg : GoodP ns) (hn : n ≤ ns.length) (h : AncX ns n x) : Txt.rstripChars x (mk [47]) = if n = 0 then mk [] else pathS (ns.take n) := by
  by_cases h0 : n = 0
  · subst h0
    rcases h with rfl | ⟨_, rfl⟩
    · rw [List.take_zero, pathS_nil, if_pos rfl]; exact rstrip_one
    · rw [if_pos rfl]; decide +kernel
  · rw [if_neg h0]
    rcases h with rfl | ⟨e, _⟩
    · refine rstrip_path (hg.take n) ?_
      intro e; rw [List.take_eq_nil_iff] at e
      rcases e with e | rfl
      · exact h0 e
      · simp at hn; exact h0 hn
    · exact absurd e h0
theorem ancX_len {n : Nat} {x : Str} (h : AncX ns n x) : x.length ≤ (pathS ns).length := by
  rcases h with rfl | ⟨_, rfl⟩
  · exact pathS_take_le ns n
  · exact Nat.zero_le _

def GenF (W : Wd) (ns : List Str) (L : Addr) (n : Nat) (s : Shared) (f : Flow) (s' : Shared) : Prop := f = .next ∧ AncSt W ns L n s' ∧ Mv L s s'
def GenB (W : Wd) (ns : List Str) (L : Addr) (n : Nat) (s : Shared) (b : Bool) (s' : Shared) : Prop := b = decide (n ≠ 0) ∧ AncSt W ns L n s' ∧ Mv L s s'
def GenV (W : Wd) (ns : List Str) (L : Addr) (n : Nat) (s : Shared) (v : Value) (s' : Shared) : Prop := AncV ns n v ∧ AncSt W ns L (n + 1) s' ∧ Mv L s s'
theorem genB_of {n : Nat} {s s' : Shared} {b : Bool} {g' : Fz} {m'} {x : Str} {t : Tok} (B : Base W L s) (O : Own W g' [(L, m')] [] (allGens s) s') (k : (butL L s).Le g') (hb : b = decide (n ≠ 0)) (hx : AncX ns n x) (hm : m' "path" = some (.str x t)) : GenB W ns L n s b s' :=
  let ⟨h1, h2, h3⟩ := mv_of_own B O k
  ⟨hb, ⟨x, hx, h2, _, _, h3, hm⟩, h1⟩
theorem take_ne {n : Nat} (hn : n < ns.length) : ns.take (n + 1) ≠ [] := by
  intro e; rw [List.take_eq_nil_iff] at e
  rcases e with e | rfl
  · omega
  · simp at hn

theorem anc_seg {body : List Stmt} (hb : (fnAt W.w.params 49).body = .stmts body) (hg : GoodP ns) (hz : (pathS ns).length ≤ 100000) :
    AncRdy W prog ns L (AncL W L (pathS ns)) ns.length (.fresh (.func body (envAt W.w.params 49 L))) := by
  have hb' : (fnAt W.w.params 49).body = .stmts _ := rfl
  obtain rfl := FuncBody.stmts.inj (hb.symm.trans hb')
  clear hb' hb
  have hS : Str.ofString "/" = mk [47] := slashS
  have hSZ : sizeLine = 16777216 := rfl
  intro s hs
  refine ⟨rfl, seg_func (seg_execs_cons (seg_wrap (wpAny_mono (Q := GenF W ns L ns.length s) (E := fun _ _ => False) ?_ (fun f s' hf => ?_) fun _ _ f => f.elim)))⟩
  · obtain ⟨B, m, t, hn, hm⟩ := hs
    have O := own_of_base B hn
    refine at_any (rm_func _ _) fun A hA => ?_
    have e1 := ancX_rstrip (ns := ns) (n := ns.length) (x := pathS ns) hg (Nat.le_refl _) (.inl (by rw [List.take_length]))
    rw [← hS] at e1
    iterate 10 walk1
    obtain ⟨h1, h2, h3⟩ := mv_of_own B (by walk_at "OWN") (by walk_at "LE")
    refine ⟨rfl, ⟨_, ?_, h2, _, _, h3, rfl⟩, h1⟩
    by_cases h0 : ns.length = 0
    · rw [if_pos h0]; exact .inr ⟨h0, rfl⟩
    · rw [if_neg h0]; exact .inl rfl
  · obtain ⟨rfl, hst, hmv⟩ := hf
    refine seg_execs_cons (seg_While fun p => ?_)
    refine seg_gen_loop (N := ns.length) (St := AncSt W ns L) (Yv := AncV ns) rfl rfl rfl rfl ?_ ?_ ?_ ?_ _ (Nat.le_refl _) s s' hst hmv
    · intro n s₁ hle ⟨x, hx, B, m, t, hn, hm⟩
      have O := own_of_base B hn
      refine at_any (rm_loop _ _ _ _ _ _ _ _ _ _ _) fun A hA => ?_
      have e1 := ancX_rstrip hg hle hx
      have e2 := ancX_len hx
      rw [← hS] at e1
      by_cases h0 : n = 0
      · rw [if_pos h0] at e1
        show wpAny _ A _ (GenB W ns L n s₁) _ _
        iterate 10 walk1
        exact genB_of B (by walk_at "OWN") (by walk_at "LE") (by rw [h0]; rfl) hx hm
      · rw [if_neg h0] at e1
        have e3 := pathS_length_pos (ns.take n)
        have e4 := pathS_take_le ns n
        have e5 : (((pathS (ns.take n)).length : Int) != 0) = true := by rw [bne_iff_ne]; omega
        show wpAny _ A _ (GenB W ns L n s₁) _ _
        iterate 10 walk1
        exact genB_of B (by walk_at "OWN") (by walk_at "LE") (by simp [h0]) hx hm
    · intro n s₁ hlt ⟨x, hx, B, m, t, hn, hm⟩
      have hx' : x = pathS (ns.take (n + 1)) := hx.elim id fun h => absurd h.1 (Nat.succ_ne_zero n)
      have O := own_of_base B hn
      refine at_any (rm_loop _ _ _ _ _ _ _ _ _ _ _) fun A hA => ?_
      show wpAny _ A _ (GenV W ns L n s₁) _ _
      iterate 1 walk1
      exact ⟨⟨t, by rw [hx']⟩, ⟨x, hx, B, m, t, hn, hm⟩, Mv.refl _ _⟩
    · intro n s₁ hlt ⟨x, hx, B, m, t, hn, hm⟩
      have hx' : x = pathS (ns.take (n + 1)) := hx.elim id fun h => absurd h.1 (Nat.succ_ne_zero n)
      have O := own_of_base B hn
      have e2 := ancX_len hx
      have e3 : ns.take (n + 1) = ns.take n ++ [ns[n]] := by rw [List.take_add_one, List.getElem?_eq_getElem hlt]; rfl
      refine at_any (rm_loop _ _ _ _ _ _ _ _ _ _ _) fun A hA => ?_
      show wpAny _ A _ (GenF W ns L n s₁) _ _
      iterate 9 walk1
      refine split_path_spec (ns := ns.take n) (n := ns[n]) (by walk_at "RM") (by walk_at "OWN") (e3 ▸ hg.take (n + 1)) (by rw [hx', e3]) (by omega) ?_
      intro s₂ g' a t3 t4 O₂ hT hle
      iterate 9 walk1
      obtain ⟨h1, h2, h3⟩ := mv_of_own B (by walk_at "OWN") (by walk_at "LE")
      exact ⟨rfl, ⟨_, .inl rfl, h2, _, _, h3, rfl⟩, h1⟩
    · intro s₀ s₁ hm
      refine seg_leaf (.ok .next) ?_
      exact seg_end (.ok (.ret .none)) ⟨rfl, rfl, hm⟩

def AncNow (W : Wd) (prog : Program) (ns : List Str) (L : Addr) (n : Nat) (gs : GenState) (m : Str → Option Value) : Prop :=
  ∃ St, AncRdy W prog ns L St n gs ∧ ∀ s, Base W L s → s.heap.Ns L m → St s
/-- a frozen generator object -/
def GG (g : Fz) (a : Addr) (i : Nat) : Prop := ∃ o nm qn, g a = some o ∧ o.cls = .type "generator" ∧ o.data = .fields #[.int i 0, nm, qn] ∧ o.slots = #[]
theorem GG.mono {g g' : Fz} {a : Addr} {i : Nat} (h : GG g a i) (k : g.Le g') : GG g' a i := let ⟨o, nm, qn, e, r⟩ := h; ⟨o, nm, qn, k _ _ e, r⟩
theorem GG.is {g : Fz} {fs : Fs} {fr : Ob} {gl : Gs} {s : Shared} {a : Addr} {i : Nat} (h : GG g a i) (O : Own W g fs fr gl s) : s.heap.IsGen a i := let ⟨o, nm, qn, e, r⟩ := h; ⟨o, nm, qn, O.fz _ _ e, r⟩
theorem base_of_own {g : Fz} {fs : Fs} {fr : Ob} {gl : Gs} {s : Shared} {m} (O : Own W g ((L, m) :: fs) fr gl s) : Base W L s :=
  ⟨let ⟨h₀, x, k⟩ := O.gnd; ⟨h₀, x, fun a o e => O.fz a o (k a o e), by
    cases e : h₀.get? L with
    | none => rfl
    | some o => have := k _ _ e; rw [O.ap L (.head _)] at this; cases this⟩, O.os⟩

def anc (ns : List Str) : Nat → List Str
  | 0 => []
  | n + 1 => pathS (ns.take (n + 1)) :: anc ns n

def AR0 : Around := { AR with units := 7999 }
theorem weak_AR0 {α : Type} {M : Model} {A : Around} {t : Sem α} {Q : α → Shared → Prop} {E : Value → Shared → Prop} {s : Shared} (hA : Rm A 110) (h : wpAny M AR0 t Q E s) : wpAny M A t Q E s :=
  wpAny_weak h hA.hand (by have := hA.dep; show A.depth ≤ 800; omega) rfl rfl (by have := hA.un; show A.units ≤ 7999; omega)

theorem gg_noGo {g : Fz} {fs : Fs} {fr : Ob} {gl : Gs} {s : Shared} {a : Addr} {i : Nat} {v : Value} (h : GG g a i) (O : Own W g fs fr gl s) : NoGo W prog (.ref a) v s := by
  obtain ⟨o, nm, qn, e, hc, r⟩ := h
  refine noGo (O.fz _ _ e) fun n hn => ?_
  rw [hc] at hn; cases hn; rfl
theorem gg_look {g : Fz} {F : Fs} {R : Ob} {G : Gs} {a : Addr} {i : Nat} (h : GG g a i) : LookN W prog (.ref a) g F R G := by
  intro A g₁ fs fr gl s Q E hl O k
  exact wpAny_specialOf ((h.mono hl).is O).typeIs slot_gen_next.lookup (k _)
theorem anc_iter {a : Addr} {gi : Nat} : ∀ (n : Nat) {g : Fz} {gs : GenState} {m}, GG g a gi → AncNow W prog ns L n gs m → IterN W prog (.ref a) ((anc ns n).map SV) g [(L, m)] [] [(gi, gs)]
  | 0, g, gs, m, hG, ⟨St, hr, hs⟩ => by
    refine ⟨gg_look hG, ?_⟩
    intro A g₁ fs fr gl s Q E hA hl O k
    have O₀ := O.setG .running
    refine weak_AR0 hA (next_gen (A := AR0) (n := 0) (P := fun n s₀ s₁ => n = 0 ∧ Mv L s₀ s₁) (Y := genY L (AncV ns) (AncSt W ns L)) rfl O.ground.lim (by decide) ((hG.mono hl).is O) (O.gx _ (.head _)) (hr _ (hs _ (base_of_own O₀) (O₀.ns _ (.head _)))) (fun v s₁ gs' hy => ?_) fun s₁ hp h' e hk => ?_)
    · obtain ⟨_, _, ⟨x, hx, B, m', t, hn, hm⟩, hkap⟩ := hy
      exact (hkap s₁ ⟨x, hx, B, m', t, hn, hm⟩).elim
    · have O₁ := own_of_mv0 O₀ hp.2
      have O₂ := O₁.setG .finished
      exact k (s₁.setGen gi .finished) _ h' e (O₂.dropG rfl) (Fz.Le.refl _) hk
  | n + 1, g, gs, m, hG, ⟨St, hr, hs⟩ => by
    refine ⟨gg_look hG, ?_⟩
    intro A g₁ fs fr gl s Q E hA hl O k
    have O₀ := O.setG .running
    refine weak_AR0 hA (next_gen (A := AR0) (n := n + 1) (P := fun n s₀ s₁ => n = 0 ∧ Mv L s₀ s₁) (Y := genY L (AncV ns) (AncSt W ns L)) rfl O.ground.lim (by decide) ((hG.mono hl).is O) (O.gx _ (.head _)) (hr _ (hs _ (base_of_own O₀) (O₀.ns _ (.head _)))) (fun v s₁ gs' hy => ?_) fun s₁ hp h' e hk => ?_)
    · obtain ⟨⟨tv, hv⟩, hmv, ⟨x, hx, B, m', t, hn, hm⟩, hkap⟩ := hy
      have O₁ := own_of_mv O₀ hmv hn
      have O₂ := O₁.setG gs'
      refine k _ _ [(L, m')] [] [(gi, gs')] v O₂ (Fz.Le.refl _) ⟨tv, hv⟩ (gg_noGo (hG.mono hl) O₂) (anc_iter n (hG.mono hl) ⟨AncSt W ns L (n + 1), fun s'' h'' => hkap s'' h'', fun s'' B'' hn'' => ⟨x, hx, B'', m', t, hn'', hm⟩⟩)
    · exact absurd hp.1 (Nat.succ_ne_zero n)

theorem anc_call {g : Fz} {fs : Fs} {fr : Ob} {gl : Gs} {s : Shared} {A : Around} {x : Str} {t : Tok} {Q : Value → Shared → Prop} {E : Value → Shared → Prop} (hA : Rm A 5) (O : Own W g fs fr gl s) (hg : GoodP ns) (hx : x = pathS ns) (hz : (pathS ns).length ≤ 100000)
    (k : ∀ s' g' a F G, Own W g' (F ++ fs) fr (G ++ gl) s' → (∃ i, GG g' a i) → IterN W prog (.ref a) ((anc ns ns.length).map SV) g' F [] G → g.Le g' → Q (.ref a) s') :
    wpAny (model prog W.w) A (call (.ref 49) [.str x t]) Q E s := by
  subst hx
  obtain ⟨oc, od, osl, ho, hcd, hco, hk⟩ := isDef_spec (P := W.w.params) (f := 49) (by kernel_rfl)
  obtain ⟨body, hb⟩ : ∃ body, (fnAt W.w.params 49).body = .stmts body := ⟨_, rfl⟩
  have hbind : bindArgs (fnAt W.w.params 49) ⟨[Value.str (pathS ns) t], []⟩ = pure [(Str.ofString "path", Value.str (pathS ns) t)] := by kernel_rfl
  have hcell : ((fnAt W.w.params 49).scope.names.all fun x => x.2 != .cell) = true := by kernel_rfl
  refine wpAny_call (codeAny_call_generator (fd := fnAt W.w.params 49) hA.room (O.ground.frag _ _ ho) rfl hco (by kernel_rfl) hb (codeRec_of O.ground.frag hcd) ?_)
  rw [hbind]
  refine wpAny_pure (wpAny_newFunctionEnv (fun x hx => by have := List.all_eq_true.mp hcell x hx; simpa using this) (fun x hx => by rcases List.mem_singleton.mp hx with rfl; rfl) (fun h₁ hn hs => ?_) hk)
  have keep : ∀ b o, s.heap.get? b = some o → h₁.get? b = some o := fun b o e => hs.extBut b o (Nat.ne_of_lt (Heap.lt_size e)) (Heap.get?_push_of_some _ e)
  have O₁ := O.pushF keep Own.none_size hn (s.toks + 1)
  refine ⟨O₁.ground.lim, ?_⟩
  have hr := anc_seg (W := W) (prog := prog) (L := s.heap.objs.size) hb hg hz
  have O₂ := O₁.pushG (.fresh (.func body (envAt W.w.params 49 s.heap.objs.size))) 0
  let og : Obj := { cls := .type "generator", data := .fields #[.int s.gens.size 0, .str (fnAt W.w.params 49).name (s.toks + 1), .str (fnAt W.w.params 49).qualname (s.toks + 1 + 1)] }
  have p := pushed O₂ og rfl (s.toks + 1 + 1 + 1)
  have hG : GG (g.put h₁.objs.size og) h₁.objs.size s.gens.size := ⟨og, _, _, Fz.put_self _ _ _, rfl, rfl, rfl⟩
  exact k _ _ _ [(s.heap.objs.size, _)] [(s.gens.size, _)] p.2 ⟨_, hG⟩ (anc_iter ns.length hG ⟨_, hr, fun s'' B hn'' => ⟨B, _, _, hn'', rfl⟩⟩) p.1
end

end
section
/-! list(x) of what gives an iterator -/
def FzIn (g : Fz) (s : Shared) : Prop := ∀ a o, g a = some o → s.heap.get? a = some o
structure Src (W : Wd) (prog : Program) (I : Addr) (xs : List (Value → Prop)) (g : Fz) (F : Fs) (R : Ob) (G : Gs) (Z : Ob := []) (b : Bool := false) : Prop where
  ty : ∃ T : Value, T ≠ .type "list" ∧ T ≠ .type "tuple" ∧ ∀ (s : Shared) (A : Around) (Q : Value → Shared → Prop) (E : Value → Shared → Prop), FzIn g s → Gnd W s.heap → Q T s → wpAny (model prog W.w) A (typeOf (.ref I)) Q E s
  noLen : ∀ (s : Shared) (A : Around) (Q : Option Value → Shared → Prop) (E : Value → Shared → Prop), FzIn g s → Gnd W s.heap → Q none s → wpAny (model prog W.w) A (specialOf (.ref I) "__len__") Q E s
  noHint : ∀ (s : Shared) (A : Around) (Q : Option Value → Shared → Prop) (E : Value → Shared → Prop), FzIn g s → Gnd W s.heap → Q none s → wpAny (model prog W.w) A (specialOf (.ref I) "__length_hint__") Q E s
  known : ∃ o, g I = some o
  iter : ∀ (A : Around) (g₁ : Fz) (fs : Fs) (fr : Ob) (gl : Gs) (s : Shared) (Q : Value → Shared → Prop) (E : Value → Shared → Prop), Rm A 140 → (b = true → Stk A fs) → g.Le g₁ → Own W g₁ (F ++ fs) (R ++ fr) (G ++ gl) s →
      (∀ s' g' F' R' G' J, Own W g' (F' ++ fs) (R' ++ fr) (G' ++ gl) s' → g₁.Le g' → Iter W prog (.ref J) xs g' F' R' G' Z b → Q (.ref J) s') → wpAny (model prog W.w) A (pyIter (.ref I)) Q E s

def AllV : List (Value → Prop) → List Value → Prop
  | [], [] => True
  | x :: xs, v :: vs => x v ∧ AllV xs vs
  | _, _ => False
theorem AllV.length : ∀ {xs : List (Value → Prop)} {vs : List Value}, AllV xs vs → xs.length = vs.length
  | [], [], _ => rfl
  | _ :: _, _ :: _, h => by rw [List.length_cons, List.length_cons, h.2.length]
  | [], _ :: _, h => h.elim
  | _ :: _, [], h => h.elim
theorem AllV.snoc : ∀ {xs : List (Value → Prop)} {vs : List Value} {x : Value → Prop} {v : Value}, AllV xs vs → x v → AllV (xs ++ [x]) (vs ++ [v])
  | [], [], _, _, _, h => ⟨h, trivial⟩
  | _ :: _, _ :: _, _, _, h, hx => ⟨h.1, h.2.snoc hx⟩
  | [], _ :: _, _, _, h, _ => h.elim
  | _ :: _, [], _, _, h, _ => h.elim
theorem AllV.snoc' : ∀ {xs ys : List (Value → Prop)} {vs us : List Value}, AllV xs vs → AllV ys us → AllV (xs ++ ys) (vs ++ us)
  | [], _, [], _, _, h => h
  | _ :: _, _, _ :: _, _, h, h' => ⟨h.1, AllV.snoc' h.2 h'⟩
  | [], _, _ :: _, _, h, _ => h.elim
  | _ :: _, _, [], _, h, _ => h.elim
abbrev SVs (l : List Str) (vs : List Value) : Prop := AllV (l.map SV) vs

namespace Own
variable {W : Wd} {g : Fz} {fs : Fs} {R fr : Ob} {gl : Gs} {s : Shared} {h' : Heap}
theorem setM {d : Addr} {o o' : Obj} (O : Own W g fs (R ++ (d, o) :: fr) gl s) (ho : h'.get? d = some o') (k : Heap.ExtBut d s.heap h') (tk : Nat) : Own W g fs (R ++ (d, o') :: fr) gl { s with heap := h', toks := tk } :=
  ((O.permO List.perm_middle).setO ho k tk).permO List.perm_middle.symm
theorem atM {d : Addr} {o : Obj} (O : Own W g fs (R ++ (d, o) :: fr) gl s) : s.heap.get? d = some o := O.ex (d, o) (by simp)
end Own

section
variable {W : Wd} {prog : Program} {A : Around} {E : Value → Shared → Prop}

theorem extend_loop {Z : Ob} {b : Bool} {J : Addr} {S : Addr} {res : Value} {RR : Result → Shared → Prop} {fs : Fs} {fr : Ob} {gl : Gs} : ∀ (xs : List (Value → Prop)) (acc : List Value) (n : Nat) (g : Fz) (F : Fs) (R : Ob) (G : Gs) (s : Shared), Rm A 140 → (b = true → Stk A fs) → Iter W prog (.ref J) xs g F R G Z b →
    Own W g (F ++ fs) (R ++ (S, lstO acc n) :: fr) (G ++ gl) s → acc.length + xs.length ≤ sizeLine →
    (∀ s' g' vs n', Own W g' fs ((S, lstO (acc ++ vs) n') :: (Z ++ fr)) gl s' → g.Le g' → AllV xs vs → RR (.ok (.ret res)) s') →
    codeAny (model prog W.w) A (.builtin "list.extend.loop" ⟨[.ref S, .ref J, res], []⟩) RR s
  | [], acc, n, g, F, R, G, s, hA, hS, hI, O, hz, k => by
    refine codeAny_builtin PySem.F.entry_extend_loop ?_
    rw [Around.under_plainId PySem.F.plain_extend_loop _]
    show wpAny _ A.in1 (pyNext (.ref J) >>= _) _ _ s
    refine wpAny_bind (hI _ _ _ _ _ _ _ _ (Rm.le (Rm.in1 hA) (by decide)) (fun e => (hS e).in1) (Fz.Le.refl _) O fun s' g' O' hle => ?_)
    exact wpAny_pure (k s' g' [] n (by simpa using O'.permO List.perm_middle) hle trivial)
  | x :: xs, acc, n, g, F, R, G, s, hA, hst, hI, O, hz, k => by
    refine codeAny_builtin PySem.F.entry_extend_loop ?_
    rw [Around.under_plainId PySem.F.plain_extend_loop _]
    show wpAny _ A.in1 (pyNext (.ref J) >>= _) _ _ s
    refine wpAny_bind (hI _ _ _ _ _ _ _ _ (Rm.le (Rm.in1 hA) (by decide)) (fun e => (hst e).in1) (Fz.Le.refl _) O fun s' g' F' R' G' v O' hle hv _ hI' => ?_)
    show wpAny _ A.in1 (updateSeq S (·.push v) >>= _) _ _ _
    rw [List.length_cons] at hz
    have hS := O'.atM
    have hup := Heap.get?_update_self (Obj.mapSeq (·.push v)) hS rfl
    have O₂ := O'.setM hup (fun b o hb e => (Heap.get?_update_other _ _ (Ne.symm hb)).trans e) s'.toks
    refine wpAny_bind (wpAny_updateSeq hS rfl ?_ (by rw [List.size_toArray]; omega) (by show (acc.toArray.push v).size ≤ _; rw [Array.size_push, List.size_toArray]; omega))
    have e : Obj.mapSeq (·.push v) (lstO acc n) = lstO (acc ++ [v]) (n + 1) := by simp [Obj.mapSeq]
    rw [e] at O₂
    refine wpAny_pure ⟨plainId_quiet PySem.F.plain_extend_loop _, extend_loop xs (acc ++ [v]) (n + 1) g' F' R' G' _ hA hst hI' O₂ (by rw [List.length_append, List.length_singleton]; omega) fun s'' g'' vs n' O'' hle' hvs => ?_⟩
    exact k s'' g'' (v :: vs) n' (by simpa using O'') (hle.trans hle') ⟨hv, hvs⟩

theorem list_init {Z : Ob} {b : Bool} {I S : Addr} {xs : List (Value → Prop)} {g : Fz} {F : Fs} {R : Ob} {G : Gs} {fs : Fs} {fr : Ob} {gl : Gs} {s : Shared} {n : Nat} {RR : Result → Shared → Prop} (hA : Rm A 142) (hS₀ : b = true → Stk A fs) (X : Src W prog I xs g F R G Z b)
    (O : Own W g (F ++ fs) (R ++ (S, lstO [] n) :: fr) (G ++ gl) s) (hz : xs.length ≤ sizeLine)
    (k : ∀ s' g' vs n', Own W g' fs ((S, lstO vs n') :: (Z ++ fr)) gl s' → g.Le g' → AllV xs vs → RR (.ok (.ret .none)) s') :
    wpAny (model prog W.w) A.in1 (Builtin.«list.__init__» ⟨[.ref S, .ref I], []⟩)
      (fun fin s' => match fin with | .done f => RR (.ok f) s' | .again c' => c'.quiet = true ∧ codeAny (model prog W.w) A c' RR s') (fun e s' => RR (.error e) s') s := by
  have hSI : S ≠ I := by
    rintro rfl
    obtain ⟨o, ho⟩ := X.known
    exact O.ne_of_mem (a := S) (by simp) ho rfl
  show wpAny _ A.in1 (do let old ← Builtin.List.listItems (.ref S); Builtin.List.listUpdate (.ref S) (fun _ => #[]); letGo old.toList.reverse; Builtin.List.listExtendWith (.ref S) (.ref I) .none) _ _ s
  refine wpAny_bind ?_
  unfold Builtin.List.listItems
  have hS := O.atM
  refine wpAny_bind (wpAny_seqItems hS rfl (wpAny_pure ?_))
  show wpAny _ A.in1 (updateSeq S (fun _ => #[]) >>= fun _ => letGo (#[] : Array Value).toList.reverse >>= fun _ => Builtin.List.listExtendWith (.ref S) (.ref I) .none) _ _ s
  have up : ∀ (s : Shared) (acc : List Value) (n : Nat) (f : Array Value → Array Value) (ys : List Value), Own W g (F ++ fs) (R ++ (S, lstO acc n) :: fr) (G ++ gl) s → f acc.toArray = ys.toArray → ∃ n', Own W g (F ++ fs) (R ++ (S, lstO ys n') :: fr) (G ++ gl) { s with heap := s.heap.update S (Obj.mapSeq f) } := by
    intro s acc n f ys O hf
    have h1 := Heap.get?_update_self (Obj.mapSeq f) O.atM rfl
    have := O.setM h1 (fun b o hb e => (Heap.get?_update_other _ _ (Ne.symm hb)).trans e) s.toks
    refine ⟨if (f acc.toArray).size == acc.toArray.size then n else n + 1, ?_⟩
    have e : Obj.mapSeq f (lstO acc n) = lstO ys (if (f acc.toArray).size == acc.toArray.size then n else n + 1) := by simp only [Obj.mapSeq, lstO]; rw [hf]
    rw [e] at this; exact this
  obtain ⟨n₁, O₁⟩ := up s [] n (fun _ => #[]) [] O rfl
  refine wpAny_bind (wpAny_updateSeq hS rfl ?_ (Nat.zero_le _) (Nat.zero_le _))
  refine wpAny_bind (wpAny_letGo ?_)
  generalize hs₁ : ({ s with heap := s.heap.update S (Obj.mapSeq fun _ => #[]) } : Shared) = s₁ at O₁ ⊢
  obtain ⟨T, hT1, hT2, hT⟩ := X.ty
  unfold Builtin.List.listExtendWith
  refine wpAny_bind (hT _ _ _ _ O₁.fz O₁.ground ?_)
  have h1 : Builtin.List.listSameRef (.ref S) (.ref I) = false := by simp [Builtin.List.listSameRef, hSI]
  have h2 : (T == Value.type "list") = false := beq_false_of_ne hT1
  have h3 : (T == Value.type "tuple") = false := beq_false_of_ne hT2
  simp only [h1, h2, h3, Bool.or_false, Bool.false_eq_true, if_false]
  refine wpAny_bind (X.iter _ _ _ _ _ _ _ _ (Rm.le (Rm.in1 hA) (by decide)) (fun e => (hS₀ e).in1) (Fz.Le.refl _) O₁ fun s₂ g₂ F₂ R₂ G₂ J O₂ hle₂ hI => ?_)
  refine wpAny_bind (wpAny_holding ?_)
  unfold Builtin.List.listLengthHint
  have hF₂ : FzIn g s₂ := fun a o e => O₂.fz _ _ (hle₂ _ _ e)
  refine wpAny_bind (X.noLen _ _ _ _ hF₂ O₂.ground ?_)
  show wpAny _ A.in1 (specialOf (Value.ref I) (Str.ofString "__length_hint__") >>= _) _ _ _
  refine wpAny_bind (X.noHint _ _ _ _ hF₂ O₂.ground ?_)
  refine wpAny_pure ?_
  show wpAny _ A.in1 (rule "list.extend.makes-room" >>= fun _ => Builtin.List.listTouch (.ref S) >>= fun _ =>
    again (.builtin "list.extend.loop" ⟨[.ref S, .ref J, .none], []⟩)) _ _ _
  refine wpAny_bind (wpAny_rule ?_)
  refine wpAny_bind ?_
  show wpAny _ A.in1 (updateSeq S (·.push .none) >>= fun _ => updateSeq S (·.pop)) _ _ _
  have hS₂ := O₂.atM
  have h3' := Heap.get?_update_self (Obj.mapSeq (·.push Value.none)) hS₂ rfl
  have O₃ := O₂.setM h3' (fun b o hb e => (Heap.get?_update_other _ _ (Ne.symm hb)).trans e) s₂.toks
  have h4' := Heap.get?_update_self (Obj.mapSeq (·.pop)) h3' rfl
  have O₄ := O₃.setM h4' (fun b o hb e => (Heap.get?_update_other _ _ (Ne.symm hb)).trans e) s₂.toks
  refine wpAny_bind (wpAny_updateSeq hS₂ rfl ?_ (Nat.zero_le _) (by show 1 ≤ _; decide))
  refine wpAny_updateSeq h3' rfl ?_ (by show 1 ≤ _; decide) (by show 0 ≤ _; exact Nat.zero_le _)
  refine wpAny_pure ⟨plainId_quiet PySem.F.plain_extend_loop _, extend_loop xs [] _ g₂ F₂ R₂ G₂ _ (Rm.le hA (by decide)) hS₀ hI O₄ (by simpa using hz) fun s' g' vs n' O' hle hvs => ?_⟩
  exact k s' g' vs n' (by simpa using O') (hle₂.trans hle) hvs

theorem list_src {Z : Ob} {b : Bool} {I : Addr} {xs : List (Value → Prop)} {g : Fz} {F : Fs} {R : Ob} {G : Gs} {fs : Fs} {fr : Ob} {gl : Gs} {s : Shared} {Q : Value → Shared → Prop} (hA : Rm A 144) (hS₀ : b = true → Stk A fs) (X : Src W prog I xs g F R G Z b)
    (O : Own W g (F ++ fs) (R ++ fr) (G ++ gl) s) (hz : xs.length ≤ sizeLine)
    (k : ∀ s' g' S vs, Own W g' fs (Z ++ fr) gl s' → GL g' S vs → AllV xs vs → g.Le g' → Q (.ref S) s') : wpAny (model prog W.w) A (call (.type "list") [.ref I]) Q E s := by
  refine callType_codes (Q₁ := fun obj s₁ => obj = .ref s.heap.objs.size ∧ s₁ = { s with heap := s.heap.push { cls := .type "list", data := .seq #[] } }) PySem.F.called_list (PySem.F.typeCall_list_1 _) PySem.F.entry_list_init
    (code_list_new _ ⟨rfl, rfl⟩) fun obj s₁ h₁ => ?_
  obtain ⟨rfl, rfl⟩ := h₁
  have hS : (s.heap.push { cls := .type "list", data := .seq #[] }).get? s.heap.objs.size = some { cls := .type "list", data := .seq #[] } := Heap.get?_push_size _ rfl
  have O₁ := (O.pushO (h' := s.heap.push (lstO [])) (fun _ _ e => Heap.get?_push_of_some _ e) Own.none_size (Heap.get?_push_size _ rfl) s.toks).permO List.perm_middle.symm
  refine ⟨⟨_, hS, rfl⟩, PySem.F.args_list_init_2 _ _, list_init (A := A.in1) (Rm.le (Rm.in1 hA) (by decide)) (fun e => (hS₀ e).in1) X O₁ hz fun s' g' vs n' O' hle hvs => ?_⟩
  have p := O'.shut
  exact ⟨rfl, k _ _ _ vs p.2 (GL.put _ _ _ _) hvs (hle.trans p.1)⟩
end

end
section
/-! lists, ranges and dicts as iterators; for and comprehension over an iterator -/
section
variable {W : Wd} {prog : Program}

def SelfIt (W : Wd) (prog : Program) (J : Addr) (g : Fz) (F : Fs) (R : Ob) (G : Gs) : Prop := ∀ (A : Around) (g₁ : Fz) (fs : Fs) (fr : Ob) (gl : Gs) (s : Shared) (Q : Value → Shared → Prop) (E : Value → Shared → Prop),
  g.Le g₁ → Own W g₁ (F ++ fs) (R ++ fr) (G ++ gl) s → Q (.ref J) s → wpAny (model prog W.w) A (pyIter (.ref J)) Q E s
theorem AllV.get : ∀ {xs : List (Value → Prop)} {vs : List Value} {x v}, AllV (x :: xs) (v :: vs) → x v ∧ AllV xs vs := fun h => h

theorem nj {g : Fz} {fs : Fs} {fr : Ob} {gl : Gs} {s : Shared} {J : Addr} {o : Obj} (O : Own W g fs ((J, o) :: fr) gl s) {h₁ : Heap} (he : Heap.ExtBut J s.heap h₁) (tk : Nat) : Own W g fs fr gl { s with heap := h₁, toks := tk } := by
  have D := O.dropO
  have nJ : J ∉ fs.map (·.1) ++ fr.map (·.1) := by
    have := (List.perm_middle (a := J) (l₁ := fs.map (·.1)) (l₂ := fr.map (·.1))).nodup_iff.mp O.nd
    exact (List.nodup_cons.mp this).1
  have hJ : J ∈ fs.map (·.1) ++ ((J, o) :: fr).map (·.1) := List.mem_append_right _ (.head _)
  refine ⟨D.gnd, fun a o e => he a o (O.ne_of_mem hJ e) (O.fz a o e), fun p hp => (O.ns p hp).extBut he ?_, fun p hp => he _ _ ?_ (O.ex p (.tail _ hp)), D.nd, D.ap, O.gx, O.gd, O.bare, O.os⟩
  · intro e; exact nJ (List.mem_append_left _ (e ▸ List.mem_map_of_mem hp))
  · intro e; exact nJ (List.mem_append_right _ (e ▸ List.mem_map_of_mem hp))
theorem li_look {J : Addr} {o : Obj} {g : Fz} {F : Fs} {R : Ob} {G : Gs} (hc : o.cls = .type "list_iterator") : LookN W prog (.ref J) g F ((J, o) :: R) G := by
  intro A g₁ fs fr gl s Q E hl O k
  exact wpAny_specialOf (T := "list_iterator") ⟨o, O.ex _ (.head _), hc⟩ slot_listiter_next.lookup (k _)
theorem list_iter {J l : Addr} {g : Fz} : ∀ (vs done : List Value) (xs : List (Value → Prop)) (o : Obj), GL g l (done ++ vs) → AllV xs vs → o.cls = .type "list_iterator" → o.data = .fields #[.ref l, .int done.length 0] → IterN W prog (.ref J) xs g [] [(J, o)] []
  | [], done, [], o, hG, _, hc, hd => by
    refine ⟨li_look hc, ?_⟩
    intro A g₁ fs fr gl s Q E hA hl O k
    have ho := O.ex _ (.head _)
    have hit : s.heap.IsListIter J l done.length := ⟨o, ho, hc, hd⟩
    obtain ⟨ol, hol, _, nl, hdl⟩ := (hG.mono hl).is O
    refine wpAny_callSpecial?_slot (name := Str.ofString "__next__") hit.typeIs slot_listiter_next
      (wpAny_call_entry slot_listiter_next hit.typeIs entry_listiter_next ?_ (args_listiter_next _))
    show wpAny _ _ (field (.ref J) 0 >>= _) _ _ s
    refine wpAny_bind (wpAny_field ho hd (x := .ref l) rfl ?_)
    show wpAny _ _ (if (Value.ref l == Value.none) = true then _ else _) _ _ s
    rw [if_neg (show ¬ ((Value.ref l == Value.none) = true) from Bool.false_ne_true)]
    show wpAny _ _ (field (.ref J) 1 >>= _) _ _ s
    refine wpAny_bind (wpAny_field ho hd (x := .int done.length 0) rfl ?_)
    show wpAny _ _ (seqItems? (.ref l) >>= _) _ _ s
    refine wpAny_bind (wpAny_seqItems hol hdl ?_)
    have hx : (done ++ ([] : List Value)).toArray[((done.length : Int)).toNat]? = none := by simp
    simp only [hx]
    refine wpAny_bind (wpAny_rule (wpAny_bind (wpAny_setField ho hd (by simp) ?_)))
    show wpAny _ _ (newExc (.type "StopIteration") [] >>= _) _ _ _
    refine wpAny_bind (mk_stop fun h' e hm => ?_)
    refine wpAny_raiseNew_none (A := A.in1) hA.hand ?_
    exact k { s with heap := s.heap.update J (Obj.mapFields (·.setIfInBounds 0 .none)) } g₁ h' e (nj O (Heap.SameBut.update ..).extBut s.toks) (Fz.Le.refl _) hm
  | v :: vs, done, x :: xs, o, hG, hx, hc, hd => by
    refine ⟨li_look hc, ?_⟩
    intro A g₁ fs fr gl s Q E hA hl O k
    have ho := O.ex _ (.head _)
    have hit : s.heap.IsListIter J l done.length := ⟨o, ho, hc, hd⟩
    obtain ⟨ol, hol, _, nl, hdl⟩ := (hG.mono hl).is O
    refine wpAny_callSpecial?_slot (name := Str.ofString "__next__") hit.typeIs slot_listiter_next
      (wpAny_call_entry slot_listiter_next hit.typeIs entry_listiter_next ?_ (args_listiter_next _))
    show wpAny _ _ (field (.ref J) 0 >>= _) _ _ s
    refine wpAny_bind (wpAny_field ho hd (x := .ref l) rfl ?_)
    show wpAny _ _ (if (Value.ref l == Value.none) = true then _ else _) _ _ s
    rw [if_neg (show ¬ ((Value.ref l == Value.none) = true) from Bool.false_ne_true)]
    show wpAny _ _ (field (.ref J) 1 >>= _) _ _ s
    refine wpAny_bind (wpAny_field ho hd (x := .int done.length 0) rfl ?_)
    show wpAny _ _ (seqItems? (.ref l) >>= _) _ _ s
    refine wpAny_bind (wpAny_seqItems hol hdl ?_)
    have hx' : (done ++ v :: vs).toArray[((done.length : Int)).toNat]? = some v := by simp
    simp only [hx']
    refine wpAny_bind (wpAny_setField ho hd (by simp) (wpAny_pure ⟨v, rfl, ?_⟩))
    have ho' := Heap.get?_update_self (Obj.mapFields (·.setIfInBounds 1 (rawInt ((done.length : Int) + 1)))) ho (Obj.isFreed_of_fields (Obj.data_mapFields hd _))
    have hc' : (Obj.mapFields (·.setIfInBounds 1 (rawInt ((done.length : Int) + 1))) o).cls = .type "list_iterator" := (Obj.cls_mapFields ..).trans hc
    refine k _ _ [] [(J, _)] [] v (O.setO ho' (Heap.SameBut.update ..).extBut s.toks) (Fz.Le.refl _) hx.1 (noGo ho' fun n hn => by rw [hc'] at hn; cases hn; rfl) (list_iter (l := l) vs (done ++ [v]) xs _ ?_ hx.2 hc' (by rw [Obj.data_mapFields hd]; simp [rawInt]))
    have : done ++ [v] ++ vs = done ++ v :: vs := by simp
    rw [this]; exact hG.mono hl
  | [], _, _ :: _, _, _, h, _, _ => h.elim
  | _ :: _, _, [], _, _, h, _, _ => h.elim

section
variable {A : Around} {E : Value → Shared → Prop}
theorem iter_list {l : Addr} {vs : List Value} {xs : List (Value → Prop)} {g : Fz} {fs : Fs} {fr : Ob} {gl : Gs} {s : Shared} {Q : Value → Shared → Prop} (O : Own W g fs fr gl s) (hG : GL g l vs) (hx : AllV xs vs)
    (k : ∀ s' J o, o.cls = .type "list_iterator" → Own W g fs ((J, o) :: fr) gl s' → IterN W prog (.ref J) xs g [] [(J, o)] [] → SelfIt W prog J g [] [(J, o)] [] → Q (.ref J) s') : wpAny (model prog W.w) A (pyIter (.ref l)) Q E s := by
  refine wpAny_pyIter_list (hG.is O) ?_
  refine k _ _ { cls := .type "list_iterator", data := .fields #[.ref l, .int 0 0] } rfl (O.pushO (fun _ _ e => Heap.get?_push_of_some _ e) Own.none_size (Heap.get?_push_size _ rfl) s.toks) (list_iter vs [] xs _ hG hx rfl rfl) ?_
  intro A g₁ fs fr gl s Q E hl O h
  exact wpAny_pyIter_listiter ⟨_, O.ex _ (.head _), rfl, rfl⟩ h
end

def IV (n : Int) (v : Value) : Prop := ∃ t, v = .int n t
def upI (a c : Int) : Nat → List (Value → Prop)
  | 0 => []
  | n + 1 => IV a :: upI (a + c) c n
theorem upI_length (a c : Int) : ∀ n, (upI a c n).length = n
  | 0 => rfl
  | n + 1 => by rw [upI, List.length_cons, upI_length]
theorem upI_get : ∀ (n : Nat) (a c : Int) (i : Nat) (x), (upI a c n)[i]? = some x → i < n ∧ x = IV (a + c * i)
  | 0, _, _, _, _, h => by simp [upI] at h
  | n + 1, a, c, 0, x, h => by
    simp only [upI, List.getElem?_cons_zero, Option.some.injEq] at h
    refine ⟨by omega, ?_⟩
    rw [← h]; simp
  | n + 1, a, c, i + 1, x, h => by
    rw [upI, List.getElem?_cons_succ] at h
    obtain ⟨h1, rfl⟩ := upI_get n (a + c) c i x h
    refine ⟨by omega, ?_⟩
    congr 1
    rw [show ((i + 1 : Nat) : Int) = (i : Int) + 1 by omega, Int.mul_add]; omega
abbrev rngO (x left step : Int) : Obj := { cls := .type "range_iterator", dict := none, data := .fields #[rawInt x, rawInt left, rawInt step], slots := #[] }
theorem range_iter {J : Addr} {c : Int} {g : Fz} : ∀ (n : Nat) (a : Int), Iter W prog (.ref J) (upI a c n) g [] [(J, rngO a n c)] []
  | 0, a => by
    intro A g₁ fs fr gl s Q E hA _ hl O k
    refine wpAny_pyNext_range_end hA.hand (O.ex _ (.head _)) (Int.le_refl _) fun h₁ he => ?_
    have D := O.dropO
    have nJ : J ∉ fs.map (·.1) ++ fr.map (·.1) := by
      have := (List.perm_middle (a := J) (l₁ := fs.map (·.1)) (l₂ := fr.map (·.1))).nodup_iff.mp O.nd
      exact (List.nodup_cons.mp this).1
    have hJ : J ∈ fs.map (·.1) ++ ((J, rngO a 0 c) :: fr).map (·.1) := List.mem_append_right _ (.head _)
    refine k _ _ ⟨D.gnd, fun a o e => he a o (O.ne_of_mem hJ e) (O.fz a o e), fun p hp => (O.ns p hp).extBut he ?_, fun p hp => he _ _ ?_ (O.ex p (.tail _ hp)), D.nd, D.ap, O.gx, O.gd, O.bare, O.os⟩ (Fz.Le.refl _)
    · intro e; exact nJ (List.mem_append_left _ (e ▸ List.mem_map_of_mem hp))
    · intro e; exact nJ (List.mem_append_right _ (e ▸ List.mem_map_of_mem hp))
  | n + 1, a => by
    intro A g₁ fs fr gl s Q E hA _ hl O k
    refine wpAny_pyNext_range_item (O.ex _ (.head _)) (by omega) fun h₁ ho' he => ?_
    have e : ((n + 1 : Nat) : Int) - 1 = (n : Int) := by omega
    have ho'' : h₁.get? J = some (rngO (a + c) n c) := by rw [← e]; exact ho'
    exact k _ _ [] [(J, rngO (a + c) n c)] [] _ (O.setO ho'' he.extBut _) (Fz.Le.refl _) ⟨_, rfl⟩ (noGo ho'' fun n hn => by cases hn; rfl) (range_iter n (a + c))
theorem iter_range {A : Around} {E : Value → Shared → Prop} {r : Addr} {a b c : Int} {t u v : Tok} {n : Nat} {g : Fz} {fs : Fs} {fr : Ob} {gl : Gs} {s : Shared} {Q : Value → Shared → Prop} (O : Own W g fs fr gl s)
    (hr : g r = some { cls := .type "range", dict := none, data := .fields #[.int a t, .int b u, .int c v], slots := #[] }) (hsm : Builtin.Range.small a b c = true) (hn : Builtin.Range.rangeSize a b c = n)
    (k : ∀ s' J, Own W g fs ((J, rngO a n c) :: fr) gl s' → Iter W prog (.ref J) (upI a c n) g [] [(J, rngO a n c)] [] → SelfIt W prog J g [] [(J, rngO a n c)] [] → Q (.ref J) s') : wpAny (model prog W.w) A (pyIter (.ref r)) Q E s := by
  refine wpAny_pyIter_range (O.fz _ _ hr) hsm ?_
  rw [hn]
  refine k _ _ (O.pushO (fun _ _ e => Heap.get?_push_of_some _ e) Own.none_size (Heap.get?_push_size _ rfl) s.toks) (range_iter n a) ?_
  intro A g₁ fs fr gl s Q E hl O h
  exact wpAny_pyIter_rangeiter (O.ex _ (.head _)) h

theorem tup_iter {J l : Addr} {g : Fz} : ∀ (vs done : List Value) (xs : List (Value → Prop)) (o : Obj), GT g l (done ++ vs) → AllV xs vs → o.cls = .type "tuple_iterator" → o.data = .fields #[.ref l, .int done.length 0] → Iter W prog (.ref J) xs g [] [(J, o)] []
  | [], done, [], o, hG, _, hc, hd => by
    intro A g₁ fs fr gl s Q E hA _ hl O k
    have hit : s.heap.IsTupleIter J l done.length := ⟨o, O.ex _ (.head _), hc, hd⟩
    exact wpAny_pyNext_tuple_end hA.hand hit ((hG.mono hl).is O) (by simp) fun h₁ he => k _ _ (nj O he s.toks) (Fz.Le.refl _)
  | v :: vs, done, x :: xs, o, hG, hx, hc, hd => by
    intro A g₁ fs fr gl s Q E hA _ hl O k
    have hit : s.heap.IsTupleIter J l done.length := ⟨o, O.ex _ (.head _), hc, hd⟩
    refine wpAny_pyNext_tuple_item hit ((hG.mono hl).is O) (x := v) (by simp) fun h₁ hi he => ?_
    obtain ⟨o', ho', hc', hd'⟩ := hi
    refine k _ _ [] [(J, o')] [] v (O.setO ho' he.extBut s.toks) (Fz.Le.refl _) hx.1 (noGo ho' fun n hn => by rw [hc'] at hn; cases hn; rfl) (tup_iter (l := l) vs (done ++ [v]) xs o' ?_ hx.2 hc' (by simpa using hd'))
    have : done ++ [v] ++ vs = done ++ v :: vs := by simp
    rw [this]; exact hG.mono hl
  | [], _, _ :: _, _, _, h, _, _ => h.elim
  | _ :: _, _, [], _, _, h, _, _ => h.elim
theorem iter_tup {A : Around} {E : Value → Shared → Prop} {l : Addr} {vs : List Value} {xs : List (Value → Prop)} {g : Fz} {fs : Fs} {fr : Ob} {gl : Gs} {s : Shared} {Q : Value → Shared → Prop} (O : Own W g fs fr gl s) (hG : GT g l vs) (hx : AllV xs vs)
    (k : ∀ s' J o, Own W g fs ((J, o) :: fr) gl s' → Iter W prog (.ref J) xs g [] [(J, o)] [] → Q (.ref J) s') : wpAny (model prog W.w) A (pyIter (.ref l)) Q E s := by
  refine wpAny_pyIter_tuple (hG.is O) ?_
  exact k _ _ { cls := .type "tuple_iterator", data := .fields #[.ref l, .int 0 0] } (O.pushO (fun _ _ e => Heap.get?_push_of_some _ e) Own.none_size (Heap.get?_push_size _ rfl) s.toks) (tup_iter vs [] xs _ hG hx rfl rfl)

/-! for -/
theorem permR {α : Type} (a b c : List α) : (a ++ (b ++ c)).Perm (b ++ (a ++ c)) := by
  rw [← List.append_assoc, ← List.append_assoc]; exact List.perm_append_comm.append_right c
theorem for_loopS {A : Around} {J : Addr} {target : Expr} {body : List Stmt} {env : Env} {g : Fz} {F : Fs} {R : Ob} {G : Gs} {Z : Ob} {m : Str → Option Value} {fs : Fs} {fr fr₀ : Ob} {gl : Gs} {s : Shared} {RR : Result → Shared → Prop} {xs : List (Value → Prop)}
    (Inv : Nat → Fz → (Str → Option Value) → Ob → Prop) (hMono : ∀ k g m fr g', Inv k g m fr → g.Le g' → Inv k g' m fr) (hA : Rm A 130) (hI : Iter W prog (.ref J) xs g F R G Z) (O : Own W g ((env.locals, m) :: (F ++ fs)) (R ++ (fr ++ fr₀)) (G ++ gl) s) (h0 : Inv 0 g m fr)
    (step : ∀ i x v g' m' fr' fs' fr₀ gl' s', (∀ L', L' ∈ fs.map (·.1) → L' ∈ fs'.map (·.1)) → xs[i]? = some x → x v → Inv i g' m' fr' → g.Le g' → Own W g' ((env.locals, m') :: fs') (fr' ++ fr₀) gl' s' →
      ∀ (K : Flow → Shared → Prop) (E' : Value → Shared → Prop), (∀ s'' g'' m'' fr'', Own W g'' ((env.locals, m'') :: fs') (fr'' ++ fr₀) gl' s'' → g'.Le g'' → Inv (i + 1) g'' m'' fr'' → K .next s'') →
        wpAny (model prog W.w) A (assign target env v) (fun _ s₂ => wpAny (model prog W.w) A (execs body env) K E' s₂) E' s')
    (hR : ∀ s' g' m' fr', Own W g' ((env.locals, m') :: fs) (Z ++ (fr' ++ fr₀)) gl s' → g.Le g' → Inv xs.length g' m' fr' → RR (.ok .next) s') :
    codeAny (model prog W.w) A (.forLoop target (.ref J) body [] env) RR s := by
  refine codeAny_forLoop_any
    (fun n s' => ∃ k g' F' R' G' m' fr', n + k = xs.length ∧ Iter W prog (.ref J) (xs.drop k) g' F' R' G' Z ∧ Own W g' ((env.locals, m') :: (F' ++ fs)) (R' ++ (fr' ++ fr₀)) (G' ++ gl) s' ∧ Inv k g' m' fr' ∧ g.Le g') ?_ xs.length
    ⟨0, g, F, R, G, m, fr, rfl, hI, O, h0, Fz.Le.refl _⟩
  rintro n s' ⟨k, g', F', R', G', m', fr', hk, hI', O', hInv, hle⟩
  have O₁ := O'.permF List.perm_middle.symm
  cases hx : xs[k]? with
  | none =>
    have hkl : xs.length ≤ k := by simpa using hx
    rw [List.drop_eq_nil_of_le hkl] at hI'
    refine hI' _ _ _ _ _ _ _ _ hA noStk (Fz.Le.refl _) O₁ fun s'' g'' O'' hle' => ?_
    have e : k = xs.length := by omega
    subst e
    exact wpAny_pure (hR _ _ _ _ O'' (hle.trans hle') (hMono _ _ _ _ _ hInv hle'))
  | some x =>
    have hkl : k < xs.length := (List.getElem?_eq_some_iff.mp hx).1
    rw [List.drop_eq_getElem_cons hkl] at hI'
    have ex : xs[k] = x := (List.getElem?_eq_some_iff.mp hx).2
    rw [ex] at hI'
    refine hI' _ _ _ _ _ _ _ _ hA noStk (Fz.Le.refl _) O₁ fun s'' g'' F'' R'' G'' v O'' hle' hv hgo hI'' => ?_
    refine hgo _ _ _ _ ?_
    refine step k x v g'' m' fr' (F'' ++ fs) (R'' ++ fr₀) (G'' ++ gl) s'' (fun L' hL' => by rw [List.map_append]; exact List.mem_append_right _ hL') hx hv (hMono _ _ _ _ _ hInv hle') (hle.trans hle') ((O''.permF List.perm_middle).permO (permR _ _ _)) _ _ fun s₃ g₃ m₃ fr₃ O₃ hle₃ hInv₃ => ?_
    exact ⟨n - 1, by omega, k + 1, g₃, F'', R'', G'', m₃, fr₃, by omega, hI''.mono hle₃, (O₃.permO (permR _ _ _)), hInv₃, (hle.trans hle').trans hle₃⟩

theorem for_loop {A : Around} {J : Addr} {target : Expr} {body : List Stmt} {env : Env} {g : Fz} {F : Fs} {R : Ob} {G : Gs} {Z : Ob} {m : Str → Option Value} {fs : Fs} {fr fr₀ : Ob} {gl : Gs} {s : Shared} {RR : Result → Shared → Prop} {xs : List (Value → Prop)}
    (Inv : Nat → Fz → (Str → Option Value) → Ob → Prop) (hMono : ∀ k g m fr g', Inv k g m fr → g.Le g' → Inv k g' m fr) (hA : Rm A 130) (hI : Iter W prog (.ref J) xs g F R G Z) (O : Own W g ((env.locals, m) :: (F ++ fs)) (R ++ (fr ++ fr₀)) (G ++ gl) s) (h0 : Inv 0 g m fr)
    (step : ∀ i x v g' m' fr' fs' fr₀ gl' s', xs[i]? = some x → x v → Inv i g' m' fr' → g.Le g' → Own W g' ((env.locals, m') :: fs') (fr' ++ fr₀) gl' s' →
      ∀ (K : Flow → Shared → Prop) (E' : Value → Shared → Prop), (∀ s'' g'' m'' fr'', Own W g'' ((env.locals, m'') :: fs') (fr'' ++ fr₀) gl' s'' → g'.Le g'' → Inv (i + 1) g'' m'' fr'' → K .next s'') →
        wpAny (model prog W.w) A (assign target env v) (fun _ s₂ => wpAny (model prog W.w) A (execs body env) K E' s₂) E' s')
    (hR : ∀ s' g' m' fr', Own W g' ((env.locals, m') :: fs) (Z ++ (fr' ++ fr₀)) gl s' → g.Le g' → Inv xs.length g' m' fr' → RR (.ok .next) s') :
    codeAny (model prog W.w) A (.forLoop target (.ref J) body [] env) RR s :=
  for_loopS Inv hMono hA hI O h0 (fun i x v g' m' fr' fs' fr₀ gl' s' _ => step i x v g' m' fr' fs' fr₀ gl' s') hR

/-! comprehension -/
/-- an owned list -/
def IsL (o : Obj) (vs : List Value) : Prop := o.cls = .type "list" ∧ ∃ n, o.data = .seq vs.toArray n
theorem dropNs {g : Fz} {fs : Fs} {fr : Ob} {gl : Gs} {s : Shared} {C : Addr} {m} {h' : Heap} (O : Own W g ((C, m) :: fs) fr gl s) (he : Heap.ExtBut C s.heap h') (tk : Nat) : Own W g fs fr gl { s with heap := h', toks := tk } := by
  have hL : C ∈ ((C, m) :: fs).map (·.1) ++ fr.map (·.1) := .head _
  have nL : C ∉ fs.map (·.1) ++ fr.map (·.1) := (List.nodup_cons.mp O.nd).1
  have D := O.dropF
  refine ⟨D.gnd, fun a o e => he a o (O.ne_of_mem hL e) (O.fz a o e), fun p hp => (O.ns p (.tail _ hp)).extBut he ?_, fun p hp => he _ _ ?_ (O.ex p hp), D.nd, D.ap, O.gx, O.gd, O.bare, O.os⟩
  · intro q; exact nL (List.mem_append_left _ (q ▸ List.mem_map_of_mem hp))
  · intro q; exact nL (List.mem_append_right _ (q ▸ List.mem_map_of_mem hp))
def CompBody (W : Wd) (prog : Program) (A : Around) (E : Value → Shared → Prop) (elt : Expr) (x : Str) (px : Pos) (iter : Expr) (ifs : List Expr) (scope : Scope) (cl : List (Str × Addr)) (pos : Pos) (env : Env) (RR : Value → Addr → Result → Shared → Prop) (it : Value) (s₂ : Shared) : Prop :=
  wpAny (model prog W.w) A (newList []) (fun acc s₃ => wpAny (model prog W.w) A (newFunctionEnv scope env.globals cl [] env.qual none .none (some env)) (fun cenv s₄ =>
      codeAny (model prog W.w) A (.compStart (.ListComp elt [⟨.Name x px, iter, ifs, 0⟩] scope pos) 0 it acc { cenv with scope := relabel scope env }) (RR acc cenv.locals) s₄) E s₃) E s₂
abbrev testsOf (ifs : List Expr) (env : Env) : Sem Bool := forIn ifs true fun c r => if r = true then do let ok ← isTrue c env (eval c env); pure (ForInStep.yield ok) else pure (ForInStep.yield r)
theorem comp_block {A : Around} {E : Value → Shared → Prop} {J : Addr} {elt : Expr} {x : Str} {px : Pos} {iter : Expr} {ifs : List Expr} {scope : Scope} {cl : List (Str × Addr)} {pos : Pos} {env : Env} {RR : Value → Addr → Result → Shared → Prop}
    {g : Fz} {F : Fs} {R : Ob} {G : Gs} {Z : Ob} {fs : Fs} {fr fr₀ : Ob} {gl : Gs} {s : Shared} {xs : List (Value → Prop)}
    (Inv : Nat → Fz → List Value → Ob → Prop) (hMono : ∀ k g m fr g', Inv k g m fr → g.Le g' → Inv k g' m fr) (hA : Rm A 130) (hI : Iter W prog (.ref J) xs g F R G Z) (hself : SelfIt W prog J g F R G) (O : Own W g (F ++ fs) (R ++ (fr ++ fr₀)) (G ++ gl) s) (h0 : Inv 0 g [] fr)
    (hcell : ∀ y ∈ scope.names, y.2 ≠ .cell) (hkind : scope.kind = .function) (hx : scope.names.lookup x = some .local) (hsz : xs.length ≤ sizeLine)
    (step : ∀ C i p v g' ys m' fr' fs' fr₀ gl' s', xs[i]? = some p → p v → Inv i g' ys fr' → g.Le g' → m' x = some v → Own W g' ((C, m') :: fs') (fr' ++ fr₀) gl' s' →
      ∀ (Kt : Value → Shared → Prop) (Kf : Shared → Prop) (E' : Value → Shared → Prop), (∀ s'' g'' fr'' y, Own W g'' ((C, m') :: fs') (fr'' ++ fr₀) gl' s'' → g'.Le g'' → Inv (i + 1) g'' (ys ++ [y]) fr'' → Kt y s'') →
        (∀ s'' g'' fr'', Own W g'' ((C, m') :: fs') (fr'' ++ fr₀) gl' s'' → g'.Le g'' → Inv (i + 1) g'' ys fr'' → Kf s'') →
        wpAny (model prog W.w) A (testsOf ifs (compEnvC scope cl C env)) (fun ok s₃ => if ok = true then wpAny (model prog W.w) A (eval elt (compEnvC scope cl C env)) Kt E' s₃ else Kf s₃) E' s')
    (hRR : ∀ s' g' C D m' o ys fr', Own W g' ((C, m') :: fs) ((D, o) :: (Z ++ (fr' ++ fr₀))) gl s' → IsL o ys → g.Le g' → Inv xs.length g' ys fr' → RR (.ref D) C (.ok .next) s') :
    CompBody W prog A E elt x px iter ifs scope cl pos env RR (.ref J) s := by
  unfold CompBody
  have O₁ := O.pushO (h' := s.heap.push (lstO [])) (fun _ _ e => Heap.get?_push_of_some _ e) Own.none_size (Heap.get?_push_size _ rfl) s.toks
  refine wpAny_newObj_type (wpAny_newFunctionEnv hcell (by intro y hy; simp at hy) (fun h₁ hns₁ hsb₁ => ?_) hkind)
  have O₂ := O₁.pushF (h' := h₁) (fun b o e => hsb₁.extBut b o (Nat.ne_of_lt (Heap.lt_size e)) (Heap.get?_push_of_some _ e)) Own.none_size hns₁ (s.toks + ([] : List (Str × Value)).length)
  dsimp only at O₂ hns₁ ⊢
  generalize hC : (s.heap.push (lstO [])).objs.size = C at O₂ hns₁ hsb₁ ⊢
  generalize hD : s.heap.objs.size = D at O₂ hns₁ hsb₁ ⊢
  have O₃ : Own W g (F ++ (C, _) :: fs) (R ++ ((D, lstO []) :: (fr ++ fr₀))) (G ++ gl) _ := (O₂.permF List.perm_middle.symm).permO List.perm_middle.symm
  have loop : codeAny (model prog W.w) A (.compLoop (.ListComp elt [⟨.Name x px, iter, ifs, 0⟩] scope pos) 0 (.ref J) (.ref D) (compEnvC scope cl C env)) (RR (.ref D) C) { s with heap := h₁, toks := s.toks + ([] : List (Str × Value)).length } := by
    refine codeAny_compLoop_tests
      (fun n s' => ∃ k g' F' R' G' m' o ys fr', n + k = xs.length ∧ Iter W prog (.ref J) (xs.drop k) g' F' R' G' Z ∧ Own W g' (F' ++ (C, m') :: fs) (R' ++ ((D, o) :: (fr' ++ fr₀))) (G' ++ gl) s' ∧ IsL o ys ∧ ys.length ≤ k ∧ Inv k g' ys fr' ∧ g.Le g') ?_ xs.length
      ⟨0, g, F, R, G, _, _, [], fr, rfl, hI, O₃, ⟨rfl, 0, rfl⟩, Nat.le_refl _, h0, Fz.Le.refl _⟩
    rintro n s' ⟨k, g', F', R', G', m', o, ys, fr', hk, hI', O', hL, hys, hInv, hle⟩
    cases hxk : xs[k]? with
    | none =>
      have hkl : xs.length ≤ k := by simpa using hxk
      rw [List.drop_eq_nil_of_le hkl] at hI'
      refine hI' _ _ _ _ _ _ _ _ hA noStk (Fz.Le.refl _) O' fun s'' g'' O'' hle' => ?_
      have e : k = xs.length := by omega
      subst e
      exact hRR _ _ _ _ _ _ _ _ (O''.permO List.perm_middle) hL (hle.trans hle') (hMono _ _ _ _ _ hInv hle')
    | some p =>
      have hkl : k < xs.length := (List.getElem?_eq_some_iff.mp hxk).1
      rw [List.drop_eq_getElem_cons hkl] at hI'
      have ex : xs[k] = p := (List.getElem?_eq_some_iff.mp hxk).2
      rw [ex] at hI'
      refine hI' _ _ _ _ _ _ _ _ hA noStk (Fz.Le.refl _) O' fun s'' g'' F'' R'' G'' v O'' hle' hv _ hI'' => ?_
      have O₄ := O''.permF (List.perm_middle (a := (C, m')) (l₁ := F'') (l₂ := fs))
      refine wpAny_assign_Name (st (env := compEnvC scope cl C env) O₄ (fun s₃ O₅ => ?_) (lookup_relabel_local hx) (by simp [compEnvC, relabel, hkind]))
      have O₆ := O₅.permO (fr' := fr' ++ (R'' ++ (D, o) :: fr₀)) (by
        refine (List.perm_middle (a := (D, o)) (l₁ := R'') (l₂ := fr' ++ fr₀)).trans ?_
        refine ((permR R'' fr' fr₀).cons (D, o)).trans ?_
        have := (List.perm_middle (a := (D, o)) (l₁ := fr' ++ R'') (l₂ := fr₀)).symm
        simpa using this)
      refine step C k p v g'' ys _ fr' (F'' ++ fs) _ (G'' ++ gl) s₃ hxk hv (hMono _ _ _ _ _ hInv hle') (hle.trans hle') (if_pos rfl) O₆ _ _ _ ?_ ?_
      · intro s₄ g₄ fr₄ y O₇ hle₄ hInv₄
        have O₈ := O₇.permO (fr' := (D, o) :: (R'' ++ (fr₄ ++ fr₀))) (by
          have := (List.perm_middle (a := (D, o)) (l₁ := fr₄ ++ R'') (l₂ := fr₀))
          refine (by simpa using this : (fr₄ ++ (R'' ++ (D, o) :: fr₀)).Perm ((D, o) :: (fr₄ ++ (R'' ++ fr₀)))).trans ?_
          exact ((permR fr₄ R'' fr₀)).cons _)
        have hLD : s₄.heap.IsList D ys.toArray := ⟨o, O₈.ex _ (.head _), hL⟩
        refine wpAny_list_append (hsz := by rw [List.size_toArray]; omega) hLD fun h' hl' hs' => ?_
        obtain ⟨o', ho', hc', n', hd'⟩ := hl'
        have O₉ := O₈.setO ho' hs'.extBut s₄.toks
        refine ⟨n - 1, by omega, k + 1, g₄, F'', R'', G'', _, o', ys ++ [y], fr₄, by omega, hI''.mono hle₄, (O₉.permF List.perm_middle.symm).permO List.perm_middle.symm, ⟨hc', n', by simpa using hd'⟩, by simp; omega, hInv₄, (hle.trans hle').trans hle₄⟩
      · intro s₄ g₄ fr₄ O₇ hle₄ hInv₄
        have O₈ := O₇.permO (fr' := R'' ++ (D, o) :: (fr₄ ++ fr₀)) (by
          have := (List.perm_middle (a := (D, o)) (l₁ := fr₄ ++ R'') (l₂ := fr₀))
          refine (by simpa using this : (fr₄ ++ (R'' ++ (D, o) :: fr₀)).Perm ((D, o) :: (fr₄ ++ (R'' ++ fr₀)))).trans ?_
          exact (((permR fr₄ R'' fr₀)).cons _).trans List.perm_middle.symm)
        exact ⟨n - 1, by omega, k + 1, g₄, F'', R'', G'', _, o, ys, fr₄, by omega, hI''.mono hle₄, O₈.permF List.perm_middle.symm, hL, by omega, hInv₄, (hle.trans hle').trans hle₄⟩
  exact codeAny_compStart_list loop (hself _ _ _ _ _ _ _ _ (Fz.Le.refl _) O₃ loop)
end

end
section
/-! dicts from texts to whole numbers -/
def KV : List (Str × Int) → List (Str × Value) → Prop
  | [], [] => True
  | p :: ps, kv :: kvs => kv.1 = p.1 ∧ IV p.2 kv.2 ∧ KV ps kvs
  | _, _ => False
def getI (ps : List (Str × Int)) (k : Str) : Option Int := (ps.find? fun p => p.1 = k).map (·.2)
def putI (ps : List (Str × Int)) (k : Str) (n : Int) : List (Str × Int) := if ps.any (fun p => p.1 = k) then ps.map (fun p => if p.1 = k then (p.1, n) else p) else ps ++ [(k, n)]
def outI (ps : List (Str × Int)) (k : Str) : List (Str × Int) := ps.filter fun p => decide (p.1 ≠ k)
theorem KV.length : ∀ {ps : List (Str × Int)} {kvs : List (Str × Value)}, KV ps kvs → kvs.length = ps.length
  | [], [], _ => rfl
  | _ :: _, _ :: _, h => by rw [List.length_cons, List.length_cons, h.2.2.length]
  | [], _ :: _, h => h.elim
  | _ :: _, [], h => h.elim
theorem KV.get : ∀ {ps : List (Str × Int)} {kvs : List (Str × Value)} (k : Str), KV ps kvs → (getI ps k = none ∧ valueAt kvs k = none) ∨ ∃ n t, getI ps k = some n ∧ valueAt kvs k = some (.int n t)
  | [], [], k, _ => .inl ⟨rfl, rfl⟩
  | p :: ps, kv :: kvs, k, h => by
    obtain ⟨h1, ⟨t, h2⟩, h3⟩ := h
    unfold getI valueAt
    rw [List.find?_cons, List.find?_cons, h1]
    by_cases e : p.1 = k
    · rw [decide_eq_true e]; exact .inr ⟨p.2, t, rfl, by show some kv.2 = _; rw [h2]⟩
    · rw [decide_eq_false e]; exact KV.get k h3
  | [], _ :: _, _, h => h.elim
  | _ :: _, [], _, h => h.elim
theorem KV.any : ∀ {ps : List (Str × Int)} {kvs : List (Str × Value)} (k : Str), KV ps kvs → kvs.any (fun p => p.1 = k) = ps.any (fun p => p.1 = k)
  | [], [], _, _ => rfl
  | p :: ps, kv :: kvs, k, h => by rw [List.any_cons, List.any_cons, h.1, KV.any k h.2.2]
  | [], _ :: _, _, h => h.elim
  | _ :: _, [], _, h => h.elim
theorem KV.snoc : ∀ {ps : List (Str × Int)} {kvs : List (Str × Value)} (k : Str) (n : Int) (t : Tok), KV ps kvs → KV (ps ++ [(k, n)]) (kvs ++ [(k, .int n t)])
  | [], [], _, _, t, _ => ⟨rfl, ⟨t, rfl⟩, trivial⟩
  | _ :: _, _ :: _, k, n, t, h => ⟨h.1, h.2.1, KV.snoc k n t h.2.2⟩
  | [], _ :: _, _, _, _, h => h.elim
  | _ :: _, [], _, _, _, h => h.elim
theorem KV.set : ∀ {ps : List (Str × Int)} {kvs : List (Str × Value)} (k : Str) (n : Int) (t : Tok), KV ps kvs → KV (ps.map (fun p => if p.1 = k then (p.1, n) else p)) (kvs.map (fun kv => if kv.1 = k then (kv.1, .int n t) else kv))
  | [], [], _, _, _, _ => trivial
  | p :: ps, kv :: kvs, k, n, t, h => by
    rw [List.map_cons, List.map_cons, h.1]
    by_cases e : p.1 = k
    · rw [if_pos e, if_pos e]; exact ⟨rfl, ⟨t, rfl⟩, KV.set k n t h.2.2⟩
    · rw [if_neg e, if_neg e]; exact ⟨h.1, h.2.1, KV.set k n t h.2.2⟩
  | [], _ :: _, _, _, _, h => h.elim
  | _ :: _, [], _, _, _, h => h.elim
theorem KV.put {ps : List (Str × Int)} {kvs : List (Str × Value)} (k : Str) (n : Int) (t : Tok) (h : KV ps kvs) : KV (putI ps k n) (stored kvs k (.int n t)) := by
  unfold putI stored
  rw [h.any k]
  split
  · exact h.set k n t
  · exact h.snoc k n t
theorem KV.out : ∀ {ps : List (Str × Int)} {kvs : List (Str × Value)} (k : Str), KV ps kvs → KV (outI ps k) (without kvs k)
  | [], [], _, _ => trivial
  | p :: ps, kv :: kvs, k, h => by
    unfold outI without
    rw [List.filter_cons, List.filter_cons, h.1]
    by_cases e : p.1 = k
    · simp only [e, ne_eq, not_true_eq_false, decide_false, Bool.false_eq_true, if_false]; exact KV.out k h.2.2
    · simp only [e, ne_eq, not_false_eq_true, decide_true, if_true]; exact ⟨h.1, h.2.1, KV.out k h.2.2⟩
  | [], _ :: _, _, h => h.elim
  | _ :: _, [], _, h => h.elim
theorem KV.keys : ∀ {ps : List (Str × Int)} {kvs : List (Str × Value)}, KV ps kvs → kvs.map (·.1) = ps.map (·.1)
  | [], [], _ => rfl
  | _ :: _, _ :: _, h => by rw [List.map_cons, List.map_cons, h.1, KV.keys h.2.2]
  | [], _ :: _, h => h.elim
  | _ :: _, [], h => h.elim

section
variable {W : Wd} {prog : Program} {A : Around} {E : Value → Shared → Prop} {g : Fz} {fs : Fs} {fr : Ob} {gl : Gs} {s : Shared} {d : Addr} {o : Obj} {ps : List (Str × Int)}
/-- a dict object's word -/
def DI (W : Wd) (prog : Program) (d : Addr) (o : Obj) (ps : List (Str × Int)) : Prop := (d == sysModules) = false ∧ ∃ kvs, o.IsDictOf (strKind prog W.w) kvs ∧ KV ps kvs
theorem DI.is {kvs : List (Str × Value)} (h : o.IsDictOf (strKind prog W.w) kvs) (ho : s.heap.get? d = some o) : s.heap.DictOf (strKind prog W.w) d kvs := Heap.dictOf_iff.mpr ⟨o, ho, h⟩

theorem dMethodGet {pl : Sem Bool} {Q : Value × List Value → Shared → Prop} (O : Own W g fs fr gl s) (hm : (d, o) ∈ fr) (hd : DI W prog d o ps) (h : Q (.builtin "dict.get", [.ref d]) s) : wpAny (model prog W.w) A (getMethod (.ref d) "get" pl) Q E s := by
  obtain ⟨lo, kvs, hd, hk⟩ := hd
  have hD := DI.is hd (O.ex _ hm)
  exact getMethod_builtin hD.typeIs PySem.F.plainAttrs_dict PySem.F.slot_dict_get PySem.F.type_dict_get hD.mapOf.noDict h
theorem dMethodPop {pl : Sem Bool} {Q : Value × List Value → Shared → Prop} (O : Own W g fs fr gl s) (hm : (d, o) ∈ fr) (hd : DI W prog d o ps) (h : Q (.builtin "dict.pop", [.ref d]) s) : wpAny (model prog W.w) A (getMethod (.ref d) "pop" pl) Q E s := by
  obtain ⟨lo, kvs, hd, hk⟩ := hd
  have hD := DI.is hd (O.ex _ hm)
  exact getMethod_builtin hD.typeIs PySem.F.plainAttrs_dict PySem.F.slot_dict_pop PySem.F.type_dict_pop hD.mapOf.noDict h
theorem dGet {k : Str} {t : Tok} {n : Int} {u : Tok} {Q : Value → Shared → Prop} (O : Own W g fs fr gl s) (hm : (d, o) ∈ fr) (hd : DI W prog d o ps)
    (h : ∀ s' t', Own W g fs fr gl s' → Q (.int ((getI ps k).getD n) t') s') : wpAny (model prog W.w) A (call (.builtin "dict.get") [.ref d, .str k t, .int n u]) Q E s := by
  obtain ⟨lo, kvs, hd, hk⟩ := hd
  have hD := DI.is hd (O.ex _ hm)
  refine call_meetsIn PySem.F.slot_dict_get hD.typeIs PySem.F.entry_dict_get (PySem.F.args_dict_get_3 _ _ _) (meets_dict_get_default (strKind prog W.w) d (strKind_is _ _ _ _) lo (.int n u)) ⟨_, hD.mapOf, ?_⟩
  rcases hk.get k with ⟨e1, e2⟩ | ⟨m, t', e1, e2⟩
  · rw [e2]; have := h { s with toks := s.toks + 1 } u (O.tok _); rw [e1] at this; exact this
  · rw [e2]; have := h { s with toks := s.toks + 1 } t' (O.tok _); rw [e1] at this; exact this
theorem dPop {k : Str} {t : Tok} {n : Int} {Q : Value → Shared → Prop} (O : Own W g fs ((d, o) :: fr) gl s) (hd : DI W prog d o ps) (hn : getI ps k = some n) (hz : ps.length ≤ sizeLine)
    (h : ∀ s' o' t', Own W g fs ((d, o') :: fr) gl s' → DI W prog d o' (outI ps k) → Q (.int n t') s') : wpAny (model prog W.w) A (call (.builtin "dict.pop") [.ref d, .str k t]) Q E s := by
  obtain ⟨lo, kvs, hd, hk⟩ := hd
  have hD := DI.is hd (O.ex _ (.head _))
  rcases hk.get k with ⟨e1, e2⟩ | ⟨m, t', e1, e2⟩
  · rw [hn] at e1; cases e1
  rw [hn] at e1; cases e1
  refine call_meetsIn PySem.F.slot_dict_pop hD.typeIs PySem.F.entry_dict_pop (PySem.F.args_dict_pop_2 _ _) (meets_dict_pop_there (strKind prog W.w) d (strKind_is _ _ _ _) [] (.inl rfl) rfl) ⟨kvs, _, hD, by rw [hk.length]; exact hz, e2, fun h' hmm hs => ?_⟩
  obtain ⟨o', ho', hd'⟩ := Heap.dictOf_iff.mp hmm
  exact h _ o' t' (O.setO ho' hs.extBut _) ⟨lo, _, hd', hk.out k⟩
theorem dSet {k : Str} {t : Tok} {n : Int} {u : Tok} {Q : Unit → Shared → Prop} (O : Own W g fs ((d, o) :: fr) gl s) (hd : DI W prog d o ps) (hz : ps.length ≤ sizeLine)
    (h : ∀ s' o', Own W g fs ((d, o') :: fr) gl s' → DI W prog d o' (putI ps k n) → Q () s') : wpAny (model prog W.w) A (setItem (.ref d) (.str k t) (.int n u)) Q E s := by
  obtain ⟨lo, kvs, hd, hk⟩ := hd
  have hD := DI.is hd (O.ex _ (.head _))
  refine wpAny_setItem_pairs (hsz := by rw [hk.length]; exact hz) (strKind_is _ _ _ _) hD fun h' hmm hs => ?_
  obtain ⟨o', ho', hd'⟩ := Heap.dictOf_iff.mp hmm
  exact h _ o' (O.setO ho' hs.extBut _) ⟨lo, _, hd', hk.put k n u⟩
theorem dNew {env : Env} {pos : Pos} {Q : Value → Shared → Prop} (O : Own W g fs fr gl s) (h : ∀ s' d o, Own W g fs ((d, o) :: fr) gl s' → DI W prog d o [] → Q (.ref d) s') : wpAny (model prog W.w) A (eval (.Dict [] [] pos) env) Q E s := by
  refine wpAny_Dict_empty ?_
  have hN := Heap.DictOf.new (knd := strKind prog W.w) s.heap
  obtain ⟨o', ho', hd'⟩ := Heap.dictOf_iff.mp hN
  refine h _ _ o' (O.pushO (fun _ _ e => Heap.get?_push_of_some _ e) Own.none_size ho' s.toks) ⟨?_, [], hd', trivial⟩
  have := modules_low O.ground.lim
  exact beq_eq_false_iff_ne.mpr (Nat.ne_of_gt this)

theorem getKV : ∀ {ps : List (Str × Int)} {kvs : List (Str × Value)} {i : Nat} {k : Str} {x : Value}, KV ps kvs → kvs[i]? = some (k, x) → (ps.map (·.1))[i]? = some k := by
  intro ps kvs i k x h e
  rw [← h.keys, List.getElem?_map, e]; rfl
theorem allV_of : ∀ (l : List Str) (vs : List Value), vs.length = l.length → (∀ (j : Nat) v, vs[j]? = some v → ∃ k, l[j]? = some k ∧ SV k v) → AllV (l.map SV) vs
  | [], [], _, _ => trivial
  | k :: l, v :: vs, hl, h => by
    refine ⟨?_, allV_of l vs (by simpa using hl) fun j v e => ?_⟩
    · obtain ⟨k', e1, e2⟩ := h 0 v rfl
      have : k = k' := by simpa using e1
      rw [this]; exact e2
    · obtain ⟨k', e1, e2⟩ := h (j + 1) v (by simpa using e)
      exact ⟨k', by simpa using e1, e2⟩
  | [], _ :: _, hl, _ => by simp at hl
  | _ :: _, [], hl, _ => by simp at hl
/-- list(d) -/
theorem list_dict {Q : Value → Shared → Prop} (hA : Rm A 2) (O : Own W g fs fr gl s) (hm : (d, o) ∈ fr) (hd : DI W prog d o ps) (hz : ps.length ≤ sizeLine)
    (k : ∀ s' g' S vs, Own W g' fs fr gl s' → GL g' S vs → SVs (ps.map (·.1)) vs → g.Le g' → Q (.ref S) s') : wpAny (model prog W.w) A (call (.type "list") [.ref d]) Q E s := by
  obtain ⟨lo, kvs, hd, hk⟩ := hd
  obtain ⟨ep, hat⟩ := (DI.is hd (O.ex _ hm)).dictAt
  refine kdl_call (kdl_dict (knd := strKind prog W.w) (kvs := kvs) (ep := ep) lo) hA.hand hat (by rw [hk.length]; exact hz) fun h' tk acc' c' hkeep hS hacc => ?_
  have p := O.made hkeep Own.none_size hS tk
  refine k _ _ _ acc'.toList p.2 ⟨_, Fz.put_self _ _ _, rfl, c', by simp⟩ (allV_of _ _ ?_ fun j v e => ?_) p.1
  · rw [Array.length_toList, hacc.1, List.length_map, hk.length]
  · obtain ⟨k', x, e1, e2⟩ := hacc.2 j v (by rw [← Array.getElem?_toList]; exact e)
    exact ⟨k', getKV hk e1, Value.isStrOf_shape e2⟩

abbrev kitO (d : Addr) (i n ep : Nat) : Obj := { cls := .type "dict_keyiterator", data := .fields #[.ref d, .int i 0, .int n 0, .int ep 0] }
theorem dict_iter {J : Addr} {kvs : List (Str × Value)} {ep : Nat} (ha : ∃ es, o.ExactDict ∧ o.data = .dict es ep ∧ KeysOf (strKind prog W.w) es ∧ Pairs (strKind prog W.w) es.toList kvs ∧ (kvs.map (·.1)).Nodup) : ∀ (rest done : List (Str × Value)) (oJ : Obj) (g : Fz), kvs = done ++ rest →
    oJ.cls = .type "dict_keyiterator" → oJ.data = .fields #[.ref d, .int done.length 0, .int kvs.length 0, .int ep 0] → Iter W prog (.ref J) ((rest.map (·.1)).map SV) g [] [(J, oJ), (d, o)] [] [(d, o)]
  | [], done, oJ, g, hk, hc, hd => by
    intro A g₁ fs fr gl s Q E hA _ hl O k
    have hit : s.heap.IsKeyIter J d done.length kvs.length ep := ⟨oJ, O.ex _ (.head _), hc, hd⟩
    obtain ⟨es, r⟩ := ha
    have hat : s.heap.DictAt (strKind prog W.w) d kvs ep := ⟨o, es, O.ex _ (.tail _ (.head _)), r⟩
    refine wpAny_pyNext_dict_end hA.hand hit hat (by rw [hk]; simp) fun h₁ he => ?_
    have D := O.dropO
    have nJ : J ∉ fs.map (·.1) ++ ((d, o) :: fr).map (·.1) := by
      have := (List.perm_middle (a := J) (l₁ := fs.map (·.1)) (l₂ := ((d, o) :: fr).map (·.1))).nodup_iff.mp O.nd
      exact (List.nodup_cons.mp this).1
    have hJ : J ∈ fs.map (·.1) ++ ((J, oJ) :: (d, o) :: fr).map (·.1) := List.mem_append_right _ (.head _)
    refine k _ _ ⟨D.gnd, fun a o e => he a o (O.ne_of_mem hJ e) (O.fz a o e), fun p hp => (O.ns p hp).extBut he ?_, fun p hp => he _ _ ?_ (O.ex p (.tail _ hp)), D.nd, D.ap, O.gx, O.gd, O.bare, O.os⟩ (Fz.Le.refl _)
    · intro e; exact nJ (List.mem_append_left _ (e ▸ List.mem_map_of_mem hp))
    · intro e; exact nJ (List.mem_append_right _ (e ▸ List.mem_map_of_mem hp))
  | (x, v) :: rest, done, oJ, g, hk, hc, hd => by
    intro A g₁ fs fr gl s Q E hA _ hl O k
    have hit : s.heap.IsKeyIter J d done.length kvs.length ep := ⟨oJ, O.ex _ (.head _), hc, hd⟩
    obtain ⟨es, r⟩ := id ha
    have hat : s.heap.DictAt (strKind prog W.w) d kvs ep := ⟨o, es, O.ex _ (.tail _ (.head _)), r⟩
    refine wpAny_pyNext_dict_item (k := x) (v := v) hit hat (by rw [hk]; simp) fun key h₁ hkey hi he => ?_
    obtain ⟨o', ho', hc', hd'⟩ := hi
    exact k _ _ [] [(J, o'), (d, o)] [] _ (O.setO ho' he.extBut s.toks) (Fz.Le.refl _) (Value.isStrOf_shape hkey) (noGo ho' fun n hn => by rw [hc'] at hn; cases hn; rfl)
      (dict_iter ha rest (done ++ [(x, v)]) o' _ (by rw [hk]; simp) hc' (by simpa using hd'))
/-- iter(d): the dict is lent to the iterator -/
theorem iter_dict {Q : Value → Shared → Prop} (O : Own W g fs ((d, o) :: fr) gl s) (hd : DI W prog d o ps)
    (k : ∀ s' J oJ, Own W g fs ([(J, oJ), (d, o)] ++ fr) gl s' → Iter W prog (.ref J) ((ps.map (·.1)).map SV) g [] [(J, oJ), (d, o)] [] [(d, o)] → SelfIt W prog J g [] [(J, oJ), (d, o)] [] → Q (.ref J) s') : wpAny (model prog W.w) A (pyIter (.ref d)) Q E s := by
  obtain ⟨lo, kvs, hd, hk⟩ := hd
  have hD := DI.is hd (O.ex _ (.head _))
  obtain ⟨ep, hat⟩ := hD.dictAt
  refine wpAny_pyIter_dict lo hat ?_
  have hat' := hat
  obtain ⟨o', es, ho', r⟩ := hat'
  have : o' = o := by have := O.ex _ (.head _); rw [ho'] at this; exact Option.some.inj this
  subst this
  rw [← hk.keys] at k
  refine k _ _ (kitO d 0 kvs.length ep) (O.pushO (fun _ _ e => Heap.get?_push_of_some _ e) Own.none_size (Heap.get?_push_size _ rfl) s.toks) (dict_iter ⟨es, r⟩ kvs [] _ _ rfl rfl rfl) ?_
  intro A g₁ fs fr gl s Q E hl O h
  exact wpAny_pyIter_keyiter ⟨_, O.ex _ (.head _), rfl, rfl⟩ h
end

end
section
/-! an exception leaves a def -/
section
variable {W : Wd} {M : Model} {A : Around} {E : Value → Shared → Prop} {g : Fz} {fs : Fs} {fr : Ob} {gl : Gs} {s : Shared}
theorem funFrames_own (O : Own W g fs fr gl s) : ∀ {l : List Env}, (∀ env ∈ l, env.scope.kind ≠ .module ∧ ∃ L, env.frame = some L ∧ L ∈ fs.map (·.1)) → s.heap.FunFrames (hideAll s.heap (fs.map (·.1))) l
  | [], _ => trivial
  | env :: l, h => by
    obtain ⟨hk, L, hf, hL⟩ := h env (.head _)
    obtain ⟨p, hp, rfl⟩ := List.mem_map.mp hL
    obtain ⟨o, es, n, ho, hd, _⟩ := O.ns p hp
    exact ⟨hk, ⟨p.1, o, hf, hideAll_none _ hL, ho, fun vs q => by rw [hd] at q; cases q⟩, funFrames_own O fun e he => h e (.tail _ he)⟩
theorem leave_stop {env : Env} {L : Addr} {m : Str → Option Value} {Q : Unit → Shared → Prop} {h' : Heap} {e : Addr} (hS : Stk A fs) (hf : env.frame = some L) (hk : env.scope.kind ≠ .module) (O : Own W g ((L, m) :: fs) fr gl s)
    (hx : Heap.MadeExc s.heap h' e "StopIteration" []) (k : ∀ s'', Own W g fs fr gl s'' → (∃ ob, s''.heap.get? e = some ob ∧ ob.cls = .type "StopIteration") → Q () s'') :
    wpAny M (A.deeper env) (leaving env (.ref e)) Q E { s with heap := h' } := by
  obtain ⟨l, hl, hall⟩ := hS
  have hfr : (A.deeper env).frames = some (env :: l) := Around.frames_deeper hl
  have hall' : ∀ x ∈ env :: l, x.scope.kind ≠ .module ∧ ∃ L', x.frame = some L' ∧ L' ∈ ((L, m) :: fs).map (·.1) := fun x hx => by
    rcases List.mem_cons.mp hx with rfl | hx
    · exact ⟨hk, L, hf, .head _⟩
    · obtain ⟨a, L', b, c⟩ := hall x hx; exact ⟨a, L', b, .tail _ c⟩
  have FF := funFrames_own O hall'
  refine wpAny_leaves_madeW (s := { s with heap := h' }) hfr hf (fun b o q => of_hideAll _ q) FF (cls := .type "StopIteration") ⟨hx.keeps, hx.new, hx.there⟩ fun h₂ t x1 x2 x3 x4 => ?_
  have up : s.heap.UpToSlots h₂ := (Heap.UpToSlots.of_keeps hx.keeps).trans x4
  have st : ∀ b o, s.heap.get? b = some o → b ∉ ((L, m) :: fs).map (·.1) → h₂.get? b = some o := fun b o e hb => x1.1 b o (hideAll_get _ e hb)
  have nd := O.nd
  refine k _ ⟨O.gnd, fun a o q => st a o (O.fz a o q) (fun hb => by have := O.ap a (List.mem_append_left _ hb); rw [this] at q; cases q), fun p hp => up.ns (O.ns p (.tail _ hp)), fun p hp => st _ _ (O.ex p hp) (fun hb => ?_), O.dropF.nd, O.dropF.ap, O.gx, O.gd, O.bare, O.os⟩ x1.there
  exact (List.nodup_append.mp nd).2.2 _ hb _ (List.mem_map_of_mem hp) rfl
end

end
section
/-! a set of texts, made of a generator; the bound word «in it» -/
def inL (l : List Str) (k : Str) : Bool := l.any fun x => decide (k = x)
def SetW (prog : Program) (w : World) (o : Obj) (l : List Str) : Prop := ∃ n, n ≤ l.length ∧ o.SetObjOf (strKind prog w) (inL l) n
theorem inL_snoc (l : List Str) (x : Str) : (fun k => inL l k || decide (k = x)) = inL (l ++ [x]) := by funext k; simp [inL, List.any_append]
def GS (W : Wd) (prog : Program) (g : Fz) (a : Addr) (l : List Str) : Prop := l.length < scanBound ∧ ∃ o, g a = some o ∧ SetW prog W.w o l
theorem GS.mono {W : Wd} {prog : Program} {g g' : Fz} {a : Addr} {l : List Str} (h : GS W prog g a l) (k : g.Le g') : GS W prog g' a l := let ⟨z, o, e, r⟩ := h; ⟨z, o, k _ _ e, r⟩
theorem sub_gen_set : isSubtype (.type "generator") (.type "set") = pure false := by rw [isSubtype_type]; kernel_rfl
theorem sub_gen_frozenset : isSubtype (.type "generator") (.type "frozenset") = pure false := by rw [isSubtype_type]; kernel_rfl
section
variable {W : Wd} {prog : Program} {A : Around} {E : Value → Shared → Prop}
theorem set_loop {J S : Addr} {RR : Result → Shared → Prop} {fs : Fs} {fr : Ob} {gl : Gs} : ∀ (l acc : List Str) (o : Obj) (g : Fz) (F : Fs) (R : Ob) (G : Gs) (s : Shared), Rm A 140 → Iter W prog (.ref J) (l.map SV) g F R G →
    Own W g (F ++ fs) (R ++ (S, o) :: fr) (G ++ gl) s → SetW prog W.w o acc → acc.length + l.length + 1 < scanBound →
    (∀ s' g' o', Own W g' fs ((S, o') :: fr) gl s' → g.Le g' → SetW prog W.w o' (acc ++ l) → RR (.ok (.ret .none)) s') →
    codeAny (model prog W.w) A (.builtin "set.update.loop" ⟨[.ref S, .ref J], []⟩) RR s
  | [], acc, o, g, F, R, G, s, hA, hI, O, hS, hz, k => by
    refine codeAny_builtin PyProof.Rows.F.entry_set_update_loop ?_
    rw [Around.under_plainId PyProof.Rows.F.plain_set_update_loop _]
    show wpAny _ A.in1 (pyNext (.ref J) >>= _) _ _ s
    refine wpAny_bind (hI _ _ _ _ _ _ _ _ (Rm.le (Rm.in1 hA) (by decide)) noStk (Fz.Le.refl _) O fun s' g' O' hle => ?_)
    exact wpAny_pure (k s' g' o O' hle (by simpa using hS))
  | x :: l, acc, o, g, F, R, G, s, hA, hI, O, hS, hz, k => by
    refine codeAny_builtin PyProof.Rows.F.entry_set_update_loop ?_
    rw [Around.under_plainId PyProof.Rows.F.plain_set_update_loop _]
    show wpAny _ A.in1 (pyNext (.ref J) >>= _) _ _ s
    refine wpAny_bind (hI _ _ _ _ _ _ _ _ (Rm.le (Rm.in1 hA) (by decide)) noStk (Fz.Le.refl _) O fun s' g' F' R' G' v O' hle hv _ hI' => ?_)
    obtain ⟨t, rfl⟩ := hv
    obtain ⟨n, hn, hSo⟩ := hS
    rw [List.length_cons] at hz
    have hS' := hSo.setOf O'.atM (by omega)
    show wpAny _ A.in1 (holding [Value.str x t] (setAdd S (.str x t)) >>= _) _ _ s'
    refine wpAny_bind (wpAny_holding ?_)
    unfold setAdd
    refine wpAny_holding ?_
    refine wpAny_bind ((strKind prog W.w).pyHash (k := x) (strKind_is _ _ _ _) ?_)
    refine wpAny_setAddHashed_of (knd := strKind prog W.w) (s := { s' with toks := s'.toks + 1 }) (strKind_is _ _ _ _) rfl hS' (by omega) fun h' hsb hS2 => ?_
    obtain ⟨o', ho', hso'⟩ := hS2.objOf
    have O₂ := O'.setM ho' hsb.extBut (s'.toks + 1)
    refine wpAny_pure ⟨plainId_quiet PyProof.Rows.F.plain_set_update_loop _, set_loop l (acc ++ [x]) o' g' F' R' G' _ hA hI' O₂ ⟨_, ?_, inL_snoc acc x ▸ hso'⟩ (by rw [List.length_append, List.length_singleton]; omega) fun s'' g'' o'' O'' hle' hs'' => ?_⟩
    · rw [List.length_append, List.length_singleton]; split <;> omega
    · exact k s'' g'' o'' O'' (hle.trans hle') (by simpa using hs'')

/-- set(of a generator) -/
theorem set_gen {a : Addr} {gi : Nat} {l : List Str} {g : Fz} {F : Fs} {R : Ob} {G : Gs} {fs : Fs} {fr : Ob} {gl : Gs} {s : Shared} {Q : Value → Shared → Prop} (hA : Rm A 144) (hG : GG g a gi) (hI : Iter W prog (.ref a) (l.map SV) g F R G)
    (O : Own W g (F ++ fs) (R ++ fr) (G ++ gl) s) (hz : l.length + 1 < scanBound)
    (k : ∀ s' g' S, Own W g' fs fr gl s' → GS W prog g' S l → g.Le g' → Q (.ref S) s') : wpAny (model prog W.w) A (call (.type "set") [.ref a]) Q E s := by
  obtain ⟨c, tl, hmro⟩ := PySem.F.called_set.mro
  have hmade := PySem.F.called_set.made
  have hsub := PySem.F.called_set.sub
  refine wpAny_call (codeAny_of_tree ?_)
  show wpAny _ _ (callAny (.type "set") _) _ _ _
  refine wpAny_pure ⟨Code.quiet_builtin _ (by decide +kernel), codeAny_builtin PySem.F.entry_type_call ?_⟩
  rw [Around.under_plain (weight_type_call_type "set" [.ref a] []) rfl]
  have h1 := PySem.F.called_set.notType
  have h2 := PySem.F.called_set.canCreate
  have hct := PySem.F.typeCall_set_1 (.ref a)
  repeat (any_goals (first | assumption | wp_step))
  refine codeAny_mono (code_set_new_1 (.ref a) (E := E) (Q₁ := fun obj s₁ => ∃ led : Bool, obj = .ref s.heap.objs.size ∧ s₁ = { s with heap := s.heap.push { cls := .type "set", dict := none, data := .set #[] 0 (.fresh 0 0 led) } }) fun led => ⟨led, rfl, rfl⟩) fun r s₁ hr => ?_
  cases r with
  | error e => exact hr
  | ok fl =>
    cases fl with
    | next => exact hr.elim
    | brk => exact hr.elim
    | cont => exact hr.elim
    | ret obj =>
      obtain ⟨led, rfl, rfl⟩ := hr
      have hS : (s.heap.push { cls := .type "set", dict := none, data := .set #[] 0 (.fresh 0 0 led) }).get? s.heap.objs.size = some { cls := .type "set", dict := none, data := .set #[] 0 (.fresh 0 0 led) } := Heap.get?_push_size _ rfl
      have hT : Shared.TypeIs { s with heap := s.heap.push { cls := .type "set", dict := none, data := .set #[] 0 (.fresh 0 0 led) } } (.ref s.heap.objs.size) "set" := ⟨_, hS, rfl⟩
      have hli := PySem.F.called_set.init.lookup
      have hbi := PySem.F.called_set.init.bind (.ref s.heap.objs.size)
      have O₁ := (O.pushO (h' := s.heap.push { cls := .type "set", dict := none, data := .set #[] 0 (.fresh 0 0 led) }) (fun _ _ e => Heap.get?_push_of_some _ e) Own.none_size hS s.toks).permO List.perm_middle.symm
      repeat (any_goals (first | assumption | wp_step))
      refine codeAny_mono (codeAny_call_builtin (R := wants (fun r s₂ => r = .none ∧ ∃ g' o', Own W g' fs ((s.heap.objs.size, o') :: fr) gl s₂ ∧ g.Le g' ∧ SetW prog W.w o' l) E) PySem.F.called_set.init.plain PySem.F.entry_set_init (check_set_init_1 hT ?_)) fun r₂ s₂ hr₂ => ?_
      · obtain ⟨o, nm, qn, ho, hc, hd, hsl⟩ := id hG
        obtain ⟨ocls, odict, odata, oslots⟩ := o
        simp only at hc hd hsl
        subst hc; subst hd; subst hsl
        have hol' := O₁.fz _ _ ho
        have hsls := sub_gen_set
        have hslf := sub_gen_frozenset
        have hne : (Value.type "generator" == Value.type "dict") = false := by decide
        unfold Builtin.«set.__init__» noKeywords Builtin.Frozenset.updateFrom
        generalize hPI : pyIter = PI
        wp_walk
        subst hPI
        refine wpAny_pyIter_gen (hG.is O₁) ?_
        refine wpAny_bind (wpAny_runValue ?_)
        refine set_loop l [] _ g F R G _ (Rm.le (Rm.in1 (Rm.in1 hA)) (by decide)) hI O₁ ⟨0, Nat.le_refl _, setObjOf_fresh led⟩ (by simpa using hz) fun s' g' o' O' hle hw => ?_
        show wpAny _ _ _ _ _ _
        refine wpAny_pure ?_
        show wpAny _ _ (ret Value.none) _ _ _
        exact wpAny_pure ⟨rfl, g', o', O', hle, hw⟩
      · cases r₂ with
        | error e => exact hr₂
        | ok fl₂ =>
          cases fl₂ with
          | next => exact hr₂.elim
          | brk => exact hr₂.elim
          | cont => exact hr₂.elim
          | ret r =>
            obtain ⟨rfl, g', o', O', hle, hw⟩ := hr₂
            have p := O'.shut
            have fin : Q (.ref s.heap.objs.size) s₂ := k _ _ _ p.2 ⟨by omega, o', Fz.put_self _ _ _, hw⟩ (hle.trans p.1)
            repeat (any_goals (first | assumption | wp_step))
end

end
section
/-! the bound word of a set: s.__contains__ -/
theorem slot_md_get : Slot "method_descriptor" "__get__" "method_descriptor.__get__" :=
  .of (owner := "method_descriptor") (n := "__get__") (by rw [typeLookup_type, builtinLookup_eq_fast]; kernel_rfl) (by decide +kernel) (by decide +kernel) (by decide +kernel)
    (by first | exact .inl (by decide +kernel) | exact .inr (by decide +kernel)) (by rw [isSubtype_type]; kernel_rfl)
theorem entry_md_get : entryFor table "method_descriptor.__get__" = some Builtin.«method_descriptor.__get__» := entryFor_of_tree (by kernel_rfl)
theorem args_md_get (a b c : Value) : argsOk "method_descriptor.__get__" ⟨[a, b, c], []⟩ := by unfold argsOk; kernel_rfl
theorem ty_contains : typeOf (.builtin "set.__contains__") = pure (.type "method_descriptor") := by kernel_rfl
theorem lk_contains : typeLookup (.type "set") "__contains__" = pure (some (.builtin "set.__contains__")) := PySem.F.slot_set_contains.lookup
theorem md_no_set : typeLookup (.type "method_descriptor") "__set__" = pure none := by rw [typeLookup_type, builtinLookup_eq_fast]; kernel_rfl
theorem md_no_del : typeLookup (.type "method_descriptor") "__delete__" = pure none := by rw [typeLookup_type, builtinLookup_eq_fast]; kernel_rfl
theorem sub_contains_owner : isSubtype (.type "set") (.type (".".intercalate ("set.__contains__".cutAt '.').dropLast)) = pure true := by
  rw [show (".".intercalate ("set.__contains__".cutAt '.').dropLast) = "set" from by decide +kernel, isSubtype_type]; kernel_rfl
abbrev boundO (S : Addr) : Obj := { cls := .type "builtin_function_or_method", data := .fields #[.builtin "set.__contains__", .ref S] }

section
variable {prog : Program} {w : World} {A : Around} {E : Value → Shared → Prop} {h : Heap} {g : Array GenState} {d : Drawn} {t : Nat} {os : OsState} {a : Addr} {o : Obj}
theorem contains_get {R : Result → Shared → Prop} (hx : h.get? a = some o) (hc : o.cls = .type "set") (hq : R (.ok (.ret (.ref h.objs.size))) ⟨h.push (boundO a), g, d, t, os⟩) :
    codeAny (model prog w) A (.call (.builtin "method_descriptor.__get__") ⟨[.builtin "set.__contains__", .ref a, .type "set"], []⟩) R ⟨h, g, d, t, os⟩ := by
  have hT : (⟨h, g, d, t, os⟩ : Shared).TypeIs (.ref a) "set" := ⟨_, hx, hc⟩
  have hT5 : (⟨h, g, d, t, os⟩ : Shared).TypeIs (.builtin "set.__contains__") "method_descriptor" := ty_contains
  have f8 := sub_contains_owner
  have f9 : Manifest.toldItsClass.contains "set.__contains__" = false := by decide +kernel
  refine codeAny_call_builtin slot_md_get.plain entry_md_get (slot_md_get.check _ _ _ _ _ _ _ _ hT5 (args_md_get _ _ _) ?_)
  repeat (any_goals (first | assumption | wp_step))
theorem contains_entry {tk : Tok} {Q : Fin → Shared → Prop} {es : Array (Int × Value)} {ep : Nat} {tb : SetTable} (hx : h.get? a = some { cls := .type "set", dict := none, data := .set es ep tb, slots := #[] }) (hq : Q (.done (.ret (.ref h.objs.size))) ⟨h.push (boundO a), g, d, t, os⟩) :
    wpAny (model prog w) A (Builtin.«object.__getattribute__» ⟨[.ref a, .str "__contains__" tk], []⟩) Q E ⟨h, g, d, t, os⟩ := by
  have hT : (⟨h, g, d, t, os⟩ : Shared).TypeIs (.ref a) "set" := ⟨_, hx, rfl⟩
  have hT5 : (⟨h, g, d, t, os⟩ : Shared).TypeIs (.builtin "set.__contains__") "method_descriptor" := ty_contains
  have f4 := lk_contains
  have f5 := ty_contains
  have f6 := slot_md_get.lookup
  have f7 := md_no_set
  have f8 := md_no_del
  repeat (any_goals (first | assumption | wp_step))
  refine contains_get hx rfl ?_
  repeat (any_goals (first | assumption | wp_step))
theorem contains_call {tk : Tok} {R : Result → Shared → Prop} {es : Array (Int × Value)} {ep : Nat} {tb : SetTable} (hx : h.get? a = some { cls := .type "set", dict := none, data := .set es ep tb, slots := #[] }) (hq : R (.ok (.ret (.ref h.objs.size))) ⟨h.push (boundO a), g, d, t, os⟩) :
    codeAny (model prog w) A (.call (.builtin "set.__getattribute__") ⟨[.ref a, .str "__contains__" tk], []⟩) R ⟨h, g, d, t, os⟩ :=
  codeAny_call_builtin PySem.F.slot_set_getattribute.plain PySem.F.entry_set_ga (PySem.F.slot_set_getattribute.check _ _ _ _ _ _ _ _ (show (⟨h, g, d, t, os⟩ : Shared).TypeIs (.ref a) "set" from ⟨_, hx, rfl⟩) (PySem.F.args_set_getattribute_2 _ _) (contains_entry hx hq))
theorem contains_by {tk : Tok} {fl ex : Bool} {Q : Value → Shared → Prop} {es : Array (Int × Value)} {ep : Nat} {tb : SetTable} (hx : h.get? a = some { cls := .type "set", dict := none, data := .set es ep tb, slots := #[] }) (hq : Q (.ref h.objs.size) ⟨h.push (boundO a), g, d, t, os⟩) : wpAny (model prog w) A (getAttrBy (.ref a) (.str "__contains__" tk) fl ex) Q E ⟨h, g, d, t, os⟩ := by
  have hT : (⟨h, g, d, t, os⟩ : Shared).TypeIs (.ref a) "set" := ⟨_, hx, rfl⟩
  have f2 := PySem.F.slot_set_getattribute.lookup
  have f3 := PySem.F.slot_set_getattribute.bind (.ref a)
  have e0 : (ex && onTheHeap (Value.builtin "set.__getattribute__")) = false := by cases ex <;> rfl
  repeat (any_goals (first | assumption | wp_step))
  refine contains_call hx ?_
  repeat (any_goals (first | assumption | wp_step))
theorem in_entry {k : Str} {tk : Tok} {l : List Str} {o : Obj} {P : Fin → Shared → Prop} (hx : h.get? a = some o) (hl : l.length < scanBound) (hw : SetW prog w o l) (hq : P (.done (.ret (.bool (inL l k)))) ⟨h, g, d, t + 1, os⟩) :
    wpAny (model prog w) A (Builtin.«frozenset.__contains__» ⟨[.ref a, .str k tk], []⟩) P E ⟨h, g, d, t, os⟩ := by
  obtain ⟨n, hn, hs⟩ := hw
  have hS := hs.setOf hx (by omega)
  unfold Builtin.«frozenset.__contains__» Builtin.Frozenset.oneOther
  simp only [List.isEmpty_nil, bind_assoc]
  unfold Builtin.Frozenset.addrOf Builtin.Frozenset.withSetAsKey setContains
  refine wpAny_bind (wpAny_pure ?_)
  try dsimp only
  refine wpAny_bind (wpAny_pure ?_)
  try dsimp only
  refine wpAny_bind (wpAny_tryCatch ?_)
  refine wpAny_holding ?_
  refine wpAny_bind ((strKind prog w).pyHash (k := k) (strKind_is _ _ _ _) ?_)
  refine wpAny_bind (wpAny_setFind_of (s := ⟨h, g, d, t + 1, os⟩) (strKind_is _ _ _ _) rfl hS fun r hr => ?_)
  refine wpAny_pure ?_
  show wpAny _ _ (ret (Value.bool r.isSome)) _ _ _
  rw [hr]
  exact wpAny_pure hq
theorem sig_contains : Manifest.signature? "set.__contains__" = some ⟨.oneArg, "set.__contains__", "__contains__", .self, [⟨"object", .posOnly, true⟩]⟩ := by kernel_rfl
theorem kind_contains : builtinKind "set.__contains__" = some .method := by decide +kernel
theorem sub_set_module : isSubtype (.type "set") (.type "module") = pure false := by rw [isSubtype_type]; kernel_rfl
theorem sub_set_type : isSubtype (.type "set") (.type "type") = pure false := by rw [isSubtype_type]; kernel_rfl
theorem chk_args (a v : Value) : Bind.checkArgs "set.__contains__" ⟨.oneArg, "set.__contains__", "__contains__", .self, [⟨"object", .posOnly, true⟩]⟩ ⟨[a, v], []⟩ = pure () := by kernel_rfl
theorem check_bound {M : Model} {v : Value} {Q : Unit → Shared → Prop} {s : Shared} (hx : s.heap.get? a = some o) (hc : o.cls = .type "set") (hd : ∃ es ep tb, o.data = .set es ep tb) (hq : Q () s) : wpAny M A (checkBoundCall "set.__contains__" ⟨[.ref a, v], []⟩) Q E s := by
  have hT : s.TypeIs (.ref a) "set" := ⟨_, hx, hc⟩
  obtain ⟨es, ep, tb, hd⟩ := hd
  have e1 : Manifest.varargsMethods.contains "set.__contains__" = false := by decide +kernel
  have e2 : (Manifest.AttrKind.method != .method && Manifest.AttrKind.method != .classMethod) = false := by decide
  have e3 : (s!"{Bind.lastOf "set"}.{Bind.lastOf "set.__contains__"}" : String) = "set.__contains__" := by decide +kernel
  unfold checkBoundCall
  rw [sig_contains, kind_contains]
  dsimp only
  rw [e2]
  simp only [Bool.false_eq_true, if_false]
  refine wpAny_bind (wpAny_isInstance hT sub_set_module ?_)
  rw [e1]
  simp only [Bool.or_false, Bool.false_eq_true, if_false]
  unfold isType
  refine wpAny_bind (wpAny_bind (nd_load hx (wpAny_pure (wpAny_pure ?_))))
  rw [hd]
  simp only [Bool.false_eq_true, if_false]
  refine wpAny_bind (wpAny_typeOf hT ?_)
  dsimp only
  rw [e3, chk_args]
  exact wpAny_pure hq
theorem bound_in {b : Addr} {k : Str} {tk : Tok} {l : List Str} {o : Obj} {Q : Value → Shared → Prop} (hb : h.get? b = some (boundO a)) (hx : h.get? a = some o) (hl : l.length < scanBound) (hw : SetW prog w o l)
    (hq : Q (.bool (inL l k)) ⟨h, g, d, t + 1, os⟩) : wpAny (model prog w) A (call (.ref b) [.str k tk]) Q E ⟨h, g, d, t, os⟩ := by
  have hT : (⟨h, g, d, t, os⟩ : Shared).TypeIs (.ref a) "set" := ⟨_, hx, hw.choose_spec.2.1.1⟩
  refine wpAny_call (codeAny_of_tree ?_)
  show wpAny _ _ (callAny (.ref b) _) _ _ _
  refine nd_load hb ?_
  show wpAny _ _ (checkBoundCall "set.__contains__" ⟨[.ref a, .str k tk], []⟩ >>= fun _ => again (.builtin "set.__contains__" ⟨[.ref a, .str k tk], []⟩)) _ _ _
  refine wpAny_bind (check_bound hx hw.choose_spec.2.1.1 (let ⟨_, es, ep, tb, e, _⟩ := hw.choose_spec.2; ⟨es, ep, tb, e⟩) ?_)
  refine wpAny_pure ⟨Code.quiet_builtin _ (by decide +kernel), codeAny_builtin entry_set_contains ?_⟩
  exact in_entry hx hl hw hq
end

end
section
/-! filterfalse -/
section
variable (P : Params)
theorem ff_it : findIn (Mine.hd.heap_39 P) (.ref 82) "_it" = some (some (.ref 84)) := by kernel_rfl
theorem ff_func : findIn (Mine.hd.heap_39 P) (.ref 82) "_func" = some (some (.ref 83)) := by kernel_rfl
theorem ff_s_it : slotIn (Mine.hd.heap_39 P) 84 82 = some 1 := by kernel_rfl
theorem ff_s_func : slotIn (Mine.hd.heap_39 P) 83 82 = some 0 := by kernel_rfl
theorem ff_setattr : findIn (Mine.hd.heap_39 P) (.ref 82) "__setattr__" = some (some (.builtin "object.__setattr__")) := by kernel_rfl
theorem ff_next : findIn (Mine.hd.heap_39 P) (.ref 82) "__next__" = some (some (.ref 78)) := by kernel_rfl
theorem ff_iter : findIn (Mine.hd.heap_39 P) (.ref 82) "__iter__" = some (some (.ref 71)) := by kernel_rfl
theorem ff_init : findIn (Mine.hd.heap_39 P) (.ref 82) "__init__" = some (some (.ref 64)) := by kernel_rfl
theorem ff_len : findIn (Mine.hd.heap_39 P) (.ref 82) "__len__" = some none := by kernel_rfl
theorem ff_hint : findIn (Mine.hd.heap_39 P) (.ref 82) "__length_hint__" = some none := by kernel_rfl
theorem ff_makes : makesIn (Mine.hd.heap_39 P) 82 = true := by kernel_rfl
theorem ff_over : plainOver (Mine.hd.heap_39 P) 82 = true := by kernel_rfl
theorem ff_isCls : isClsIn (Mine.hd.heap_39 P) 82 = true := by kernel_rfl
end
abbrev ffO (dx : Addr) (sl : Array (Option Value)) : Obj := { cls := .ref 82, dict := some dx, data := .plain, slots := sl }
/-- the frozen object -/
structure FFI (g : Fz) (x : Addr) (fn it : Value) : Prop where
  ex : ∃ dx, g x = some (ffO dx #[some fn, some it]) ∧ g dx = some emptyDict

section
variable {W : Wd} {prog : Program} {A : Around} {E : Value → Shared → Prop} {g : Fz} {fs : Fs} {fr : Ob} {gl : Gs} {s : Shared} {x dx : Addr}
theorem FFI.mono {fn it : Value} {g' : Fz} (h : FFI g x fn it) (k : g.Le g') : FFI g' x fn it := let ⟨dx, a, b⟩ := h.ex; ⟨dx, k _ _ a, k _ _ b⟩
theorem FFI.at {fn it : Value} (h : FFI g x fn it) (O : Own W g fs fr gl s) : ∃ dx, InstAt s.heap x (ffO dx #[some fn, some it]) 82 (some emptyDict) := let ⟨dx, a, b⟩ := h.ex; ⟨dx, O.fz _ _ a, rfl, rfl, O.fz _ _ b⟩
theorem slot_put {R : Result → Shared → Prop} {ox : Obj} {od : Option Obj} {v : Value} {p i : Nat} (O : Own W g fs ((x, ox) :: fr) gl s) (I : InstAt s.heap x ox 82 od) (hp : slotIn (Mine.hd.heap_39 W.w.params) p 82 = some i) (hi : i < 1000) (hf : ∀ sl, ({ ox with slots := sl } : Obj).isFreed = false)
    (h : ∀ s', Own W g fs ((x, { ox with slots := (ox.slots ++ Array.replicate (i + 1 - ox.slots.size) none).setIfInBounds i (some v) }) :: fr) gl s' → R (.ok (.ret .none)) s') :
    codeAny (model prog W.w) A (.call (.builtin "member_descriptor.__set__") ⟨[.ref p, .ref x, v], []⟩) R s := by
  have X := O.ground.frag
  obtain ⟨n, tn, owner, behind, tb, d, sl, cd, ho, hc, hm, hb, rfl⟩ := slot_of X hp
  have hx := I.at_
  have hf' : ({ ox with slots := (ox.slots ++ Array.replicate (cd.slotNames.length - 1 - behind.toNat + 1 - ox.slots.size) none).setIfInBounds (cd.slotNames.length - 1 - behind.toNat) (some v) } : Obj).isFreed = false := hf _
  have O' := O.setO (Heap.get?_update_self (fun o => { o with slots := (o.slots ++ Array.replicate (cd.slotNames.length - 1 - behind.toNat + 1 - o.slots.size) none).setIfInBounds (cd.slotNames.length - 1 - behind.toNat) (some v) }) hx hf')
    (fun b o hb e => (Heap.get?_update_other _ _ (Ne.symm hb)).trans e) s.toks
  obtain ⟨hh, g', dr, t, os⟩ := s
  have L0 := I.type (M := model prog W.w)
  have L1 := looks_mroIn (M := model prog W.w) X hm
  have L2 : Looks (model prog W.w) hh (Builtin.Slots.slotNamesOf (.ref 82)) cd.slotNames := (looks_clsIn X hc).andThen .now
  dsimp only at ho hx L0 L1
  have f0 := looks_field (M := model prog W.w) ho 0 (v := .str n tn) rfl
  have f1 := looks_field (M := model prog W.w) ho 1 (v := owner) rfl
  have f3 := looks_field (M := model prog W.w) ho 3 (v := .builtin "proto.slot#set") rfl
  have f4 := looks_field (M := model prog W.w) ho 4 (v := .int behind tb) rfl
  refine codeAny_call_builtin KF.slot_mset.plain KF.entry_mset (KF.slot_mset.check _ _ _ _ _ _ _ _ ⟨_, ho, rfl⟩ (KF.args_mset _ _ _) ?_)
  unfold Builtin.«member_descriptor.__set__» Builtin.Getset_descriptor.descrSet Builtin.Getset_descriptor.descrStoreThrough Builtin.Getset_descriptor.descrCheckInstance Builtin.Getset_descriptor.descrNameAndClass isInstance
  have f5 : Looks (model prog W.w) hh (Builtin.Getset_descriptor.descrItself (.ref p)) [.ref p] := ((Looks.ld (part := none) ho).andThen .now).andThen (Looks.of_pure (by kernel_rfl))
  repeat lk
  refine ⟨Code.quiet_builtin _ (by decide +kernel), codeAny_builtin KF.entry_slotset ?_⟩
  unfold Builtin.«proto.slot#set» Builtin.Slots.target
  repeat lk
  rw [if_neg hb]
  refine wpAny_pure (wpAny_bind ?_)
  unfold setSlotAt
  dsimp only
  rw [if_neg (by rw [sizeLine_eq]; omega)]
  exact wpAny_updatePart hx (wpAny_pure (h _ O'))
theorem ffSet {name : Str} {v : Value} {p i : Nat} {sl : Array (Option Value)} {Q : Unit → Shared → Prop} (O : Own W g fs ((x, ffO dx sl) :: fr) gl s) (hdx : g dx = some emptyDict)
    (ht : takerIn (Mine.hd.heap_39 W.w.params) 82 name = some (some (.ref p))) (hT : typeIn (Mine.hd.heap_39 W.w.params) (.ref p) = some (.type "member_descriptor")) (hp : slotIn (Mine.hd.heap_39 W.w.params) p 82 = some i) (hi : i < 1000)
    (h : ∀ s', Own W g fs ((x, ffO dx ((sl ++ Array.replicate (i + 1 - sl.size) none).setIfInBounds i (some v))) :: fr) gl s' → Q () s') : wpAny (model prog W.w) A (setAttr (.ref x) name v) Q E s := by
  have I : InstAt s.heap x (ffO dx sl) 82 (some emptyDict) := ⟨O.ex _ (.head _), rfl, rfl, O.fz _ _ hdx⟩
  exact set_plain O.ground.frag I (ff_setattr _) (osa_descr (s := { s with toks := s.toks + 1 }) KF.slot_mset O.ground.frag I (ff_over _) ht hT (slot_put (s := { s with toks := s.toks + 1 }) (O.tok _) I hp hi (fun _ => rfl) h))
theorem ffGet {name : Str} {v : Value} {p i : Nat} {fn it : Value} {Q : Value → Shared → Prop} {expr : Bool} (O : Own W g fs fr gl s) (hX : FFI g x fn it) (hg : plainGet (Mine.hd.heap_39 W.w.params) 82 name = true)
    (ha : findIn (Mine.hd.heap_39 W.w.params) (.ref 82) name = some (some (.ref p))) (hn : specialIn (Mine.hd.heap_39 W.w.params) (.ref p) "__get__" = some (some (.builtin "member_descriptor.__get__"))) (ht : takesIn (Mine.hd.heap_39 W.w.params) (.ref p) = some true)
    (hp : slotIn (Mine.hd.heap_39 W.w.params) p 82 = some i) (hv : ((#[some fn, some it] : Array (Option Value))[i]?).join = some v) (hh : handedIn v = true)
    (h : ∀ s', Own W g fs fr gl s' → Q v s') : wpAny (model prog W.w) A (getAttr (.ref x) name expr) Q E s := by
  obtain ⟨dx, I⟩ := hX.at O
  exact get_bind O.ground.frag I (plainGet_of hg).1 (findObj_data (ff_isCls _) ha hn ht) (plainGet_of hg).2 (wpAny_call (slot_get (s := { s with toks := s.toks + 1 }) O.ground.frag I hp hv (handed_on hh (h _ (O.tok _)))))
end

end
section
section
variable {W : Wd} {prog : Program} {A : Around} {E : Value → Shared → Prop} {g : Fz} {fs : Fs} {fr : Ob} {gl : Gs} {s : Shared}
/-- what iter() makes of a value -/
def SrcN (W : Wd) (prog : Program) (I : Addr) (xs : List (Value → Prop)) (g : Fz) (F : Fs) (R : Ob) (G : Gs) : Prop := ∀ (A : Around) (g₁ : Fz) (fs : Fs) (fr : Ob) (gl : Gs) (s : Shared) (Q : Value → Shared → Prop) (E : Value → Shared → Prop), g.Le g₁ → Own W g₁ (F ++ fs) (R ++ fr) (G ++ gl) s →
  (∀ s' F' R' G' J, Own W g₁ (F' ++ fs) (R' ++ fr) (G' ++ gl) s' → IterN W prog (.ref J) xs g₁ F' R' G' → Q (.ref J) s') → wpAny (model prog W.w) A (pyIter (.ref I)) Q E s
theorem SrcN.mono {I : Addr} {xs : List (Value → Prop)} {g g' : Fz} {F : Fs} {R : Ob} {G : Gs} (h : SrcN W prog I xs g F R G) (k : g.Le g') : SrcN W prog I xs g' F R G := fun A g₁ fs fr gl s Q E hl => h A g₁ fs fr gl s Q E (k.trans hl)
theorem srcN_list {l : Addr} {vs : List Value} {xs : List (Value → Prop)} (hG : GL g l vs) (hx : AllV xs vs) : SrcN W prog l xs g [] [] [] := fun A g₁ fs fr gl s Q E hl O k =>
  iter_list (g := g₁) O (hG.mono hl) hx fun s' J o _ O' hI _ => k s' [] [(J, o)] [] J O' hI
theorem srcN_gen {a : Addr} {i : Nat} {xs : List (Value → Prop)} {F : Fs} {R : Ob} {G : Gs} (hG : GG g a i) (hI : IterN W prog (.ref a) xs g F R G) : SrcN W prog a xs g F R G := fun A g₁ fs fr gl s Q E hl O k =>
  wpAny_pyIter_gen ((hG.mono hl).is O) (k s F R G a O (hI.mono hl))

theorem iterB {I : Addr} {xs : List (Value → Prop)} {F : Fs} {R : Ob} {G : Gs} {Q : Value → Shared → Prop} (X : SrcN W prog I xs g F R G) (O : Own W g (F ++ fs) (R ++ fr) (G ++ gl) s)
    (k : ∀ s' F' R' G' J, Own W g (F' ++ fs) (R' ++ fr) (G' ++ gl) s' → IterN W prog (.ref J) xs g F' R' G' → Q (.ref J) s') : wpAny (model prog W.w) A (call (.builtin "iter") [.ref I]) Q E s := by
  refine call_function_entry (by decide +kernel) (by decide +kernel) kdk_entry_iter (kdk_args_iter _) ?_
  unfold Builtin.«iter»
  refine wpAny_bind (m := someArgs "iter" 1 2 _) (wpAny_of_eq (a := [Value.ref I]) (by first | rfl | kernel_rfl!) ?_)
  show wpAny _ _ (pyIter (.ref I) >>= _) _ _ _
  exact wpAny_bind (X _ _ _ _ _ _ _ _ (Fz.Le.refl _) O fun s' F' R' G' J O' hI => wpAny_pure ⟨_, rfl, k _ _ _ _ _ O' hI⟩)
theorem nextB {J : Addr} {x : Value → Prop} {xs : List (Value → Prop)} {F : Fs} {R : Ob} {G : Gs} {Q : Value → Shared → Prop} (hA : Rm A 120) (X : IterN W prog (.ref J) (x :: xs) g F R G) (O : Own W g (F ++ fs) (R ++ fr) (G ++ gl) s)
    (k : ∀ s' g' F' R' G' v, Own W g' (F' ++ fs) (R' ++ fr) (G' ++ gl) s' → g.Le g' → x v → IterN W prog (.ref J) xs g' F' R' G' → Q v s') : wpAny (model prog W.w) A (call (.builtin "next") [.ref J]) Q E s := by
  refine call_function_entry (by decide +kernel) (by decide +kernel) kdk_entry_next (kdk_args_next _) ?_
  unfold Builtin.«next»
  refine wpAny_bind (m := someArgs "next" 1 2 _) (wpAny_of_eq (a := [Value.ref J]) (by first | rfl | kernel_rfl!) ?_)
  dsimp only
  refine wpAny_bind (X.1 _ _ _ _ _ _ _ _ (Fz.Le.refl _) O fun f => ?_)
  refine wpAny_ite_split (fun hab => absurd hab (by simp)) (fun _ => ?_)
  refine wpAny_bind (X.2 _ _ _ _ _ _ _ _ (Rm.le (Rm.in1 hA) (by decide)) (Fz.Le.refl _) O fun s' g' F' R' G' v O' hle hv _ hI => ?_)
  exact wpAny_pure ⟨_, rfl, k _ _ _ _ _ _ O' hle hv hI⟩
theorem nextB0 {J : Addr} {F : Fs} {R : Ob} {G : Gs} {Q : Value → Shared → Prop} (hA : Rm A 120) (X : IterN W prog (.ref J) [] g F R G) (O : Own W g (F ++ fs) (R ++ fr) (G ++ gl) s)
    (k : ∀ s' g' h' e, Own W g' fs fr gl s' → g.Le g' → Heap.MadeExc s'.heap h' e "StopIteration" [] → E (.ref e) { s' with heap := h' }) : wpAny (model prog W.w) A (call (.builtin "next") [.ref J]) Q E s := by
  refine call_function_entry (by decide +kernel) (by decide +kernel) kdk_entry_next (kdk_args_next _) ?_
  unfold Builtin.«next»
  refine wpAny_bind (m := someArgs "next" 1 2 _) (wpAny_of_eq (a := [Value.ref J]) (by first | rfl | kernel_rfl!) ?_)
  dsimp only
  refine wpAny_bind (X.1 _ _ _ _ _ _ _ _ (Fz.Le.refl _) O fun f => ?_)
  refine wpAny_ite_split (fun hab => absurd hab (by simp)) (fun _ => ?_)
  refine wpAny_bind (X.2 _ _ _ _ _ _ _ _ (Rm.le (Rm.in1 hA) (by decide)) (Fz.Le.refl _) O fun s' g' h' e O' hle hx => ?_)
  exact k _ _ _ _ O' hle hx

theorem Rm.under {A : Around} {n : Nat} (h : Rm A (n + 2)) (C : Addr) (vals : List Value) : Rm (A.under (.builtin "type.__call__" ⟨.ref C :: vals, []⟩)) n :=
  ⟨h.hand, by have := h.dep; show A.depth + 1 + n ≤ 900; omega, by
    have := h.un
    have e : (Code.builtin "type.__call__" ⟨.ref C :: vals, []⟩).cUnits ≤ 10 := Nat.le_of_ble_eq_true rfl
    show A.units + (Code.builtin "type.__call__" ⟨.ref C :: vals, []⟩).cUnits + 10 * n ≤ 9000; omega⟩

theorem ff_make {b I : Addr} {xs : List (Value → Prop)} {F : Fs} {R : Ob} {G : Gs} {Q : Value → Shared → Prop} (hA : Rm A 140) (X : SrcN W prog I xs g F R G) (O : Own W g (F ++ fs) (R ++ fr) (G ++ gl) s)
    (k : ∀ s' g' F' R' G' x J, Own W g' (F' ++ fs) (R' ++ fr) (G' ++ gl) s' → g.Le g' → FFI g' x (.ref b) (.ref J) → IterN W prog (.ref J) xs g' F' R' G' → Q (.ref x) s') : wpAny (model prog W.w) A (call (.ref 82) [.ref b, .ref I]) Q E s := by
  have X₀ := O.ground.frag
  refine wpAny_call ?_
  have O₁ := O.made (h' := s.heap.push emptyDict) (fun _ _ e => Heap.get?_push_of_some _ e) Own.none_size (Heap.get?_push_size _ rfl) s.toks
  have hdx : (g.put s.heap.objs.size emptyDict) s.heap.objs.size = some emptyDict := Fz.put_self _ _ _
  have O₂ := O₁.2.pushO (h' := (s.heap.push emptyDict).push (instObj 82 s.heap.objs.size)) (fun _ _ e => Heap.get?_push_of_some _ e) Own.none_size (Heap.get?_push_size _ rfl) s.toks
  dsimp only at O₂
  rw [Heap.size_push] at O₂
  have le₁ := O₁.1
  generalize hg₂ : g.put s.heap.objs.size emptyDict = g₂ at O₂ hdx le₁
  obtain ⟨hh, gg, d, t, os⟩ := s
  refine make_core (makes_of X₀ (ff_makes _)) (looks_findIn X₀ (ff_init _)) (fun self => bind_fn X₀ self (by kernel_rfl)) (.inl rfl) ?_
  refine call_in [("self", .ref (hh.objs.size + 1)), ("function", .ref b), ("iterable", .ref I)] (Rm.room (Rm.under (n := 138) hA _ _)) O₂ (by kernel_rfl) rfl (by kernel_rfl) (by kernel_rfl) (by kernel_rfl) (by kernel_rfl) ?_
  intro s₁ L O₃
  iterate 8 walk1
  refine iterB (X.mono le₁) ((O₃.permF List.perm_middle.symm).permO List.perm_middle.symm) ?_
  intro s₂ F' R' G' J O₄ hI
  have O₅ := (O₄.permF List.perm_middle).permO List.perm_middle
  iterate 1 walk1
  refine ffSet (i := 1) (p := 84) O₅ hdx (by kernel_rfl) (by kernel_rfl) (ff_s_it _) (by decide) ?_
  intro s₃ O₆
  iterate 4 walk1
  refine ffSet (i := 0) (p := 83) O₆ hdx (by kernel_rfl) (by kernel_rfl) (ff_s_func _) (by decide) ?_
  intro s₄ O₇
  iterate 1 walk1
  have p := O₇.dropF.shut
  exact ⟨rfl, k _ _ _ _ _ _ _ p.2 (le₁.trans p.1) ⟨_, Fz.put_self _ _ _, p.1 _ _ hdx⟩ (hI.mono p.1)⟩
end

end
section
section
variable {W : Wd} {prog : Program} {A : Around} {E : Value → Shared → Prop} {g : Fz} {fs : Fs} {fr : Ob} {gl : Gs} {s : Shared}
theorem keeps_B {M : Model} {b S : Addr} (h : Heap) (X : h.get? b = some (boundO S)) : ∃ k, (k = Keeper.frame ∨ k = Keeper.machine ∨ k = Keeper.boundFrame) ∧ Looks M h (keeperOf (.ref b)) k :=
  ⟨.machine, .inr (.inl rfl), (Looks.ld (part := none) X).andThen .now⟩
theorem cwB {env : Env} {pos : Pos} {b S : Addr} {e : Expr} {rest : List Expr} {Q : Value → Shared → Prop}
    (h : wpAny (model prog W.w) A (spliced (backTo pos (starEach (e :: rest) env))) (fun vs s₁ => s₁.heap.get? b = some (boundO S) ∧ wpAny (model prog W.w) A (call (.ref b) vs) Q E s₁) E s)
    (he : starEach (e :: rest) env = (false, eval e env) :: starEach rest env := by rfl) (hplain : (backTo pos (starEach rest env)).any (·.1) = false := by rfl) :
    wpAny (model prog W.w) A (callWith pos (.ref b) [] (backTo pos (starEach (e :: rest) env)) []) Q E s := by
  rw [he] at h ⊢
  exact callWith_of (by show ((false || (backTo pos (starEach rest env)).any (·.1)) || false) = false; rw [hplain]; rfl) keeps_B (evalArgs_plain h)
theorem boundIn {b S : Addr} {k : Str} {t : Tok} {l : List Str} {Q : Value → Shared → Prop} (O : Own W g fs fr gl s) (hb : g b = some (boundO S)) (hs : GS W prog g S l) (h : ∀ s', Own W g fs fr gl s' → Q (.bool (inL l k)) s') :
    wpAny (model prog W.w) A (call (.ref b) [.str k t]) Q E s := by
  obtain ⟨hl, o, ho, hw⟩ := hs
  have e1 := O.fz _ _ hb
  have e2 := O.fz _ _ ho
  have e3 := h _ (O.tok (s.toks + 1))
  obtain ⟨hp, gg, dd, tt, os⟩ := s
  exact bound_in e1 e2 hl hw e3
abbrev outOf (sub l : List Str) : List Str := l.filter fun y => !inL sub y
def FFInv (W : Wd) (prog : Program) (x b J L : Addr) (sub l₀ : List Str) (g₀ : Fz) (fs : Fs) (fr : Ob) (gl : Gs) (n : Nat) (s : Shared) : Prop :=
  ∃ (l : List Str) (g : Fz) (m : Str → Option Value) (F : Fs) (R : Ob) (G : Gs), l.length = n ∧ outOf sub l = outOf sub l₀ ∧ g₀.Le g ∧ Own W g ((L, m) :: (F ++ fs)) (R ++ fr) (G ++ gl) s ∧ m "self" = some (.ref x) ∧ m "func" = some (.ref b) ∧ IterN W prog (.ref J) (l.map SV) g F R G
def FFOut (W : Wd) (prog : Program) (J : Addr) (sub l₀ : List Str) (g₀ : Fz) (fs : Fs) (fr : Ob) (gl : Gs) (v : Value) (s : Shared) : Prop :=
  ∃ (y : Str) (l : List Str) (g : Fz) (F : Fs) (R : Ob) (G : Gs), outOf sub l₀ = y :: outOf sub l ∧ SV y v ∧ g₀.Le g ∧ Own W g (F ++ fs) (R ++ fr) (G ++ gl) s ∧ IterN W prog (.ref J) (l.map SV) g F R G

theorem ff_call {x b J S : Addr} {sub l₀ : List Str} {F : Fs} {R : Ob} {G : Gs} {Q : Value → Shared → Prop} (hA : Rm A 125) (hS : Stk A fs) (O : Own W g (F ++ fs) (R ++ fr) (G ++ gl) s) (hX : FFI g x (.ref b) (.ref J)) (hb : g b = some (boundO S)) (hsub : GS W prog g S sub)
    (hI : IterN W prog (.ref J) (l₀.map SV) g F R G) (k1 : ∀ v s', FFOut W prog J sub l₀ g fs fr gl v s' → Q v s')
    (k2 : outOf sub l₀ = [] → ∀ s' g' e, Own W g' fs fr gl s' → g.Le g' → (∃ ob, s'.heap.get? e = some ob ∧ ob.cls = .type "StopIteration") → E (.ref e) s') : wpAny (model prog W.w) A (call (.ref 78) [.ref x]) Q E s := by
  refine wpAny_call (call_in [("self", .ref x)] hA.room O (by kernel_rfl) rfl (by kernel_rfl) (by kernel_rfl) (by kernel_rfl) (by kernel_rfl) ?_)
  intro s₁ L O₁
  iterate 4 walk1
  refine ffGet (p := 83) (i := 0) (by walk_at "OWN") hX (by kernel_rfl) (by kernel_rfl) (by kernel_rfl) (by kernel_rfl) (by kernel_rfl) rfl rfl ?_
  intro s₂ O₂
  iterate 2 walk1
  rename_i s₃ O₃
  refine wpAny_While (codeAny_whileLoop (FFInv W prog x b J L sub l₀ g fs fr gl) ?_ l₀.length ⟨l₀, g, _, F, R, G, rfl, rfl, Fz.Le.refl _, O₃, rfl, rfl, hI⟩)
  clear O₁ O₂ O₃ hI
  rintro n s₄ ⟨l, g₁, m, F₁, R₁, G₁, hn, hl, hle, O₄, hm1, hm2, hI⟩
  have hX := hX.mono hle
  have hb := hle _ _ hb
  have hsub := hsub.mono hle
  have hA' := Rm.deeper (n := 124) hA (envAt W.w.params 78 L)
  iterate 12 walk1
  have hk8 : (envAt W.w.params 78 L).scope.kind = .function := by kernel_rfl
  refine ffGet (p := 84) (i := 1) (by walk_at "OWN") hX (by kernel_rfl) (by kernel_rfl) (by kernel_rfl) (by kernel_rfl) (by kernel_rfl) rfl rfl ?_
  intro s₅ O₅
  iterate 1 walk1
  cases l with
  | nil =>
    refine nextB0 (Rm.le hA' (by decide)) hI (O₅.permF List.perm_middle.symm) fun s' g' h' e O' hle' hx => ?_
    refine (by passes_own : PassesOwn (model prog W.w) (A.deeper (envAt W.w.params 78 L)) (envAt W.w.params 78 L) _) _ _ ?_
    exact leave_stop hS rfl (by rw [hk8]; decide) O' hx fun s'' O'' ho => k2 hl.symm _ _ _ O'' (hle.trans hle') ho
  | cons y l =>
    refine nextB (Rm.le hA' (by decide)) hI (O₅.permF List.perm_middle.symm) fun s₆ g₂ F₂ R₂ G₂ v O₆ hle₂ hv hI₂ => ?_
    have O₇ := O₆.permF (List.perm_middle (a := (L, m)) (l₁ := F₂) (l₂ := fs))
    obtain ⟨t, rfl⟩ := hv
    iterate 14 walk1
    refine wpAny_of_eq (a := Value.bool false) (by with_unfolding_all rfl) ?_
    iterate 10 walk1
    refine cwB (S := S) ?_
    iterate 4 walk1
    · exact Own.fz (by walk_at "OWN") _ _ (hle₂ _ _ hb)
    refine boundIn (by walk_at "OWN") (hle₂ _ _ hb) (hsub.mono hle₂) fun s₈ O₈ => ?_
    cases hy : inL sub y with
    | true =>
      have hl' : outOf sub l = outOf sub l₀ := by rw [← hl]; simp [outOf, hy]
      iterate 7 walk1
      rotate_left
      · exact (⟨l, g₂, _, F₂, R₂, G₂, rfl, hl', hle.trans hle₂, O₈, hm1, hm2, hI₂⟩ : FFInv W prog x b J L sub l₀ g fs fr gl l.length _)
      · simp at hn; omega
    | false =>
      have hl' : outOf sub l₀ = y :: outOf sub l := by rw [← hl]; simp [outOf, hy]
      iterate 5 walk1
      exact k1 _ _ ⟨y, l, g₂, F₂, R₂, G₂, hl', ⟨_, rfl⟩, hle.trans hle₂, by walk_at "OWN", hI₂⟩
end

end
section
section
variable {W : Wd} {prog : Program} {A : Around} {E : Value → Shared → Prop} {g : Fz} {fs : Fs} {fr : Ob} {gl : Gs} {s : Shared}
theorem ff_noGo {x : Addr} {fn it v : Value} (hX : FFI g x fn it) (O : Own W g fs fr gl s) : NoGo W prog (.ref x) v s := by
  obtain ⟨dx, I⟩ := hX.at O
  exact noGo I.at_ fun n hn => nomatch hn
theorem ff_it_ {x b J S : Addr} {sub : List Str} : ∀ (outs l : List Str) (g : Fz) (F : Fs) (R : Ob) (G : Gs), outOf sub l = outs → FFI g x (.ref b) (.ref J) → g b = some (boundO S) → GS W prog g S sub → IterN W prog (.ref J) (l.map SV) g F R G → Iter W prog (.ref x) (outs.map SV) g F R G [] true
  | [], l, g, F, R, G, he, hX, hb, hs, hI => by
    intro A g₁ fs fr gl s Q E hA hS hl O k
    obtain ⟨dx, I⟩ := (hX.mono hl).at O
    unfold pyNext
    refine wpAny_bind (wpAny_attempt (special_fn (name := "__next__") (args := []) O.ground.frag I (ff_next _) (by kernel_rfl) ?_))
    refine ff_call (Rm.le hA (by decide)) (hS rfl) O (hX.mono hl) (hl _ _ hb) (hs.mono hl) (hI.mono hl) (fun v s' ⟨y, l', g', F', R', G', ho, _⟩ => ?_) fun _ s' g' e O' hle ⟨ob, ho, hc⟩ => ?_
    · rw [he] at ho; cases ho
    · refine wpAny_bind (wpAny_isInstance (T := "StopIteration") (b := true) ⟨ob, ho, hc⟩ isSubtype_stop ?_)
      exact wpAny_pure (k _ _ O' hle)
  | y :: outs, l, g, F, R, G, he, hX, hb, hs, hI => by
    intro A g₁ fs fr gl s Q E hA hS hl O k
    obtain ⟨dx, I⟩ := (hX.mono hl).at O
    unfold pyNext
    refine wpAny_bind (wpAny_attempt (special_fn (name := "__next__") (args := []) O.ground.frag I (ff_next _) (by kernel_rfl) ?_))
    refine ff_call (Rm.le hA (by decide)) (hS rfl) O (hX.mono hl) (hl _ _ hb) (hs.mono hl) (hI.mono hl) (fun v s' ⟨y', l', g', F', R', G', ho, hv, hle, O', hI'⟩ => ?_) fun h0 s' g' e O' hle ⟨ob, ho, hc⟩ => ?_
    · rw [he] at ho
      obtain ⟨e1, e2⟩ := List.cons.inj ho
      subst e1
      exact wpAny_pure (k _ _ _ _ _ _ O' hle hv (ff_noGo ((hX.mono hl).mono hle) O') (ff_it_ outs l' g' F' R' G' e2.symm ((hX.mono hl).mono hle) (hle _ _ (hl _ _ hb)) ((hs.mono hl).mono hle) hI'))
    · rw [he] at h0; cases h0

theorem ff_iter_call {x : Addr} {fn it : Value} {Q : Value → Shared → Prop} (hA : Rm A 10) (O : Own W g fs fr gl s) (k : ∀ s', Own W g fs fr gl s' → Q (.ref x) s') : wpAny (model prog W.w) A (call (.ref 71) [.ref x]) Q E s := by
  refine wpAny_call (call_in [("self", .ref x)] hA.room O (by kernel_rfl) rfl (by kernel_rfl) (by kernel_rfl) (by kernel_rfl) (by kernel_rfl) ?_)
  intro s₁ L O₁
  iterate 3 walk1
  exact k _ (by walk_at "OWN")
theorem ff_pyIter {x : Addr} {fn it : Value} {Q : Value → Shared → Prop} (hA : Rm A 10) (O : Own W g fs fr gl s) (hX : FFI g x fn it) (k : ∀ s', Own W g fs fr gl s' → Q (.ref x) s') : wpAny (model prog W.w) A (pyIter (.ref x)) Q E s := by
  obtain ⟨dx, I⟩ := hX.at O
  have X := O.ground.frag
  have fin : wpAny (model prog W.w) A (call (.ref 71) [.ref x] >>= fun v => pure (some v)) (fun r s' => r = some (.ref x) ∧ Own W g fs fr gl s') E s :=
    wpAny_bind (ff_iter_call (fn := fn) (it := it) hA O fun s' O' => wpAny_pure ⟨rfl, O'⟩)
  have one : ∀ refuse : Sem Value, wpAny (model prog W.w) A (callSpecialIfBoundUnlessNone? (.ref x) "__iter__" refuse) (fun r s' => r = some (.ref x) ∧ Own W g fs fr gl s') E s := by
    intro refuse
    simp only [callSpecialIfBoundUnlessNone?, bindSpecialIfBound?]
    refine wpAny_holding (wpAny_bind (wpAny_bind (wpAny_bind (I.type.here ((looks_findIn X (ff_iter _)).here ?_)))))
    refine wpAny_bind (wpAny_askSetting (wpAny_ite ?_))
    have fin2 : wpAny (model prog W.w) A (if (Value.ref 71 == Value.none) = true then (refuse >>= fun v => pure (some v)) else (call (.ref 71) [.ref x] >>= fun v => pure (some v))) (fun r s' => r = some (.ref x) ∧ Own W g fs fr gl s') E s := by
      rw [if_neg (show ¬ ((Value.ref 71 == Value.none) = true) from Bool.false_ne_true)]
      exact fin
    split
    · exact wpAny_bind ((bind_fn X _ (by kernel_rfl)).here (wpAny_pure (by exact fin2)))
    · exact wpAny_tryCatch (wpAny_bind ((bind_fn X _ (by kernel_rfl)).here (wpAny_pure (by exact fin2))))
  unfold pyIter
  refine wpAny_bind (wpAny_bind (I.type.here ((looks_findIn X (ff_iter _)).here ?_)))
  show wpAny (model prog W.w) A (callSpecialIfBoundUnlessNone? (.ref x) "__iter__" _ >>= _) Q E s
  refine wpAny_bind (wpAny_mono (one _) (fun r s' hr => ?_) fun _ _ z => z)
  obtain ⟨rfl, O'⟩ := hr
  obtain ⟨dx', I'⟩ := hX.at O'
  unfold specialOf
  refine wpAny_bind (wpAny_bind (I'.type.here ((looks_findIn O'.ground.frag (ff_next _)).here ?_)))
  exact wpAny_pure (k _ O')
theorem FFI.inFz {x : Addr} {fn it : Value} (h : FFI g x fn it) {s : Shared} (hz : FzIn g s) : ∃ dx, InstAt s.heap x (ffO dx #[some fn, some it]) 82 (some emptyDict) := let ⟨dx, a, b⟩ := h.ex; ⟨dx, hz _ _ a, rfl, rfl, hz _ _ b⟩
theorem ff_src {x b J S : Addr} {sub l : List Str} {F : Fs} {R : Ob} {G : Gs} (hX : FFI g x (.ref b) (.ref J)) (hb : g b = some (boundO S)) (hs : GS W prog g S sub) (hI : IterN W prog (.ref J) (l.map SV) g F R G) : Src W prog x ((outOf sub l).map SV) g F R G [] true where
  ty := ⟨.ref 82, nofun, nofun, fun s A Q E hz hg k => by obtain ⟨dx, I⟩ := hX.inFz hz; exact I.type.here k⟩
  noLen := fun s A Q E hz hg k => by
    obtain ⟨dx, I⟩ := hX.inFz hz
    unfold specialOf
    exact wpAny_bind (I.type.here ((looks_findIn hg.frag (ff_len _)).here k))
  noHint := fun s A Q E hz hg k => by
    obtain ⟨dx, I⟩ := hX.inFz hz
    unfold specialOf
    exact wpAny_bind (I.type.here ((looks_findIn hg.frag (ff_hint _)).here k))
  known := let ⟨dx, a, _⟩ := hX.ex; ⟨_, a⟩
  iter := fun A g₁ fs fr gl s Q E hA hS hl O k => ff_pyIter (Rm.le hA (by decide)) O (hX.mono hl) fun s' O' => k s' g₁ F R G x O' (Fz.Le.refl _) (ff_it_ _ l g₁ F R G rfl (hX.mono hl) (hl _ _ hb) (hs.mono hl) (hI.mono hl))
theorem gen_src {a : Addr} {i : Nat} {xs : List (Value → Prop)} {F : Fs} {R : Ob} {G : Gs} (hG : GG g a i) (hI : Iter W prog (.ref a) xs g F R G) : Src W prog a xs g F R G where
  ty := ⟨.type "generator", nofun, nofun, fun s A Q E hz hg k => by obtain ⟨o, nm, qn, e, hc, hd, _⟩ := hG; exact wpAny_typeOf ⟨o, hz _ _ e, hc⟩ k⟩
  noLen := fun s A Q E hz hg k => by obtain ⟨o, nm, qn, e, hc, hd, _⟩ := hG; exact wpAny_specialOf (T := "generator") ⟨o, hz _ _ e, hc⟩ PySem.F.gen_no_len k
  noHint := fun s A Q E hz hg k => by obtain ⟨o, nm, qn, e, hc, hd, _⟩ := hG; exact wpAny_specialOf (T := "generator") ⟨o, hz _ _ e, hc⟩ PySem.F.gen_no_hint k
  known := let ⟨o, _, _, e, _⟩ := hG; ⟨o, e⟩
  iter := fun A g₁ fs fr gl s Q E hA _ hl O k => wpAny_pyIter_gen ((hG.mono hl).is O) (k s g₁ F R G a O (Fz.Le.refl _) (hI.mono hl))
end

end
section
section
variable {W : Wd} {prog : Program} {A : Around} {E : Value → Shared → Prop} {g : Fz} {fs : Fs} {fr : Ob} {gl : Gs} {s : Shared}
theorem containsA {S : Addr} {l : List Str} {ex : Bool} {Q : Value → Shared → Prop} (O : Own W g fs fr gl s) (hs : GS W prog g S l) (h : ∀ s' g' b, Own W g' fs fr gl s' → g.Le g' → g' b = some (boundO S) → Q (.ref b) s') :
    wpAny (model prog W.w) A (getAttr (.ref S) "__contains__" ex) Q E s := by
  obtain ⟨hl, o, ho, n, hn, ⟨h1, h2, h3⟩, es, ep, t, hd, hw⟩ := hs
  obtain ⟨ocls, odict, odata, oslots⟩ := o
  simp only at h1 h2 h3 hd
  subst h1; subst h2; subst h3; subst hd
  have e2 := O.fz _ _ ho
  have p := pushed O (boundO S) rfl (s.toks + 1)
  have e3 := h _ _ _ p.2 p.1 (Fz.put_self _ _ _)
  obtain ⟨hp, gg, dd, tt, os⟩ := s
  unfold getAttr
  refine wpAny_bind (wpAny_mkText ?_)
  exact contains_by e2 e3
theorem difference_spec {I a : Addr} {i : Nat} {l sub : List Str} {F F₂ : Fs} {R R₂ : Ob} {G G₂ : Gs} {Q : Value → Shared → Prop} (hA : Rm A 150) (X : SrcN W prog I (l.map SV) g F R G) (hG : GG g a i) (hI : Iter W prog (.ref a) (sub.map SV) g F₂ R₂ G₂)
    (O : Own W g (F₂ ++ (F ++ fs)) (R₂ ++ (R ++ fr)) (G₂ ++ (G ++ gl)) s) (hz : sub.length ≤ 1000)
    (k : ∀ s' g' F' R' G' x, Own W g' (F' ++ fs) (R' ++ fr) (G' ++ gl) s' → g.Le g' → Src W prog x ((outOf sub l).map SV) g' F' R' G' [] true → Q (.ref x) s') : wpAny (model prog W.w) A (call (.ref 93) [.ref I, .ref a]) Q E s := by
  refine wpAny_call (call_in [("minuend", .ref I), ("subtrahend", .ref a)] hA.room O (by kernel_rfl) rfl (by kernel_rfl) (by kernel_rfl) (by kernel_rfl) (by kernel_rfl) ?_)
  intro s₁ L O₁
  iterate 4 walk1
  refine callWith_K O₁.ground.frag (by kernel_rfl) ?_
  iterate 1 walk1
  refine Attribute_any_ ?_
  iterate 6 walk1
  refine set_gen (Rm.le (Rm.deeper (n := 149) hA _) (by decide)) hG hI (O₁.permF List.perm_middle.symm) (by have : scanBound = 4096 := rfl; omega) ?_
  intro s₂ g₂ S O₂ hs hle₂
  refine containsA (by walk_at "OWN") hs ?_
  intro s₃ g₃ b O₃ hle₃ hb
  iterate 4 walk1
  refine ff_make (Rm.le (Rm.deeper (n := 149) hA _) (by decide)) ((X.mono hle₂).mono hle₃) (O₃.permF List.perm_middle.symm) ?_
  intro s₄ g₄ F' R' G' x J O₄ hle₄ hX hI'
  repeat' (first | walk1 | (dsimp only; walk1))
  exact k _ _ F' R' G' x (O₄.permF List.perm_middle).dropF ((hle₂.trans hle₃).trans hle₄) (ff_src hX (hle₄ _ _ hb) ((hs.mono hle₃).mono hle₄) hI')
end

end
section
theorem sub_str_str : isSubtype (.type "str") (.type "str") = pure true := by rw [isSubtype_type]; kernel_rfl
theorem sub_tup_tup : isSubtype (.type "tuple") (.type "tuple") = pure true := by rw [isSubtype_type]; kernel_rfl
theorem sub_tup_union : isSubtype (.type "tuple") (.type "types.UnionType") = pure false := by rw [isSubtype_type]; kernel_rfl
theorem ty_str : typeOf (.type "str") = pure (.type "type") := by kernel_rfl
theorem kind_nested : builtinKind "issubclass.nested" = none := by decide +kernel
theorem args_nested (a b c : Value) : argsOk "issubclass.nested" ⟨[a, b, c], []⟩ := by unfold argsOk; kernel_rfl
theorem entry_nested_ : entryFor table "issubclass.nested" = some Builtin.«issubclass.nested» := PySem.F.entry_issubclass_nested
theorem check_nested (a b c : Value) : checkBuiltinCall "issubclass.nested" ⟨[a, b, c], []⟩ = pure () := by
  simp only [checkBuiltinCall, kind_nested]
  have ha := args_nested a b c
  cases hsig : Manifest.signature? "issubclass.nested" with
  | none => rfl
  | some sig =>
    simp only [argsOk, hsig] at ha
    exact ha
section
variable {prog : Program} {w : World} {A : Around} {E : Value → Shared → Prop} {s : Shared}
theorem nested_str {n : Int} {u : Tok} {Q : Fin → Shared → Prop} (hq : Q (.done (.ret (.bool true))) s) : wpAny (model prog w) A (Builtin.«issubclass.nested» ⟨[.type "str", .type "str", .int n u], []⟩) Q E s := by
  have hm := ty_str
  have hself := sub_str_str
  repeat (any_goals (first | assumption | (rw [if_pos hm]) | (rw [hself]) | wp_step))
theorem nested_tup {T : Addr} {o : Obj} {n : Nat} {Q : Fin → Shared → Prop} (ho : s.heap.get? T = some o) (hc : o.cls = .type "tuple") (hd : o.data = .seq #[.type "str", .type "bytes"] n) (hq : Q (.done (.ret (.bool true))) s) :
    wpAny (model prog w) A (Builtin.«issubclass.nested» ⟨[.type "str", .ref T, rawInt 0], []⟩) Q E s := by
  have hT : s.TypeIs (.ref T) "tuple" := ⟨_, ho, hc⟩
  have hself := sub_tup_tup
  have hu := sub_tup_union
  obtain ⟨c, dd, da, sl⟩ := o
  simp only at hc hd
  subst hc; subst hd
  repeat (any_goals (first | assumption | wp_step))
  have hsz : ((some #[Value.type "str", Value.type "bytes"]).getD #[]).size = 2 := rfl
  unfold Array.forIn'.loop
  dsimp only [Option.getD, Array.size, List.length]
  refine codeAny_call_builtin (by decide +kernel) entry_nested_ (wpAny_of_eq (a := ()) (check_nested _ _ _) ?_)
  refine nested_str ?_
  dsimp only
  refine wpAny_bind (wpAny_truthy_bool ?_)
  exact wpAny_pure (wpAny_pure (wpAny_pure hq))
end
theorem subTup {prog : Program} {w : World} {A : Around} {E : Value → Shared → Prop} {s : Shared} {T : Addr} {o : Obj} {n : Nat} {Q : Value → Shared → Prop} (ho : s.heap.get? T = some o) (hc : o.cls = .type "tuple") (hd : o.data = .seq #[.type "str", .type "bytes"] n) (h : Q (.bool true) s) :
    wpAny (model prog w) A (call (.builtin "issubclass") [.type "str", .ref T]) Q E s := by
  refine wpAny_call (codeAny_call_builtin PySem.F.plain_issubclass PySem.F.entry_issubclass (wpAny_of_eq (a := ()) ?_ (issubclass_outer (nested_tup ho hc hd h))))
  simp only [checkBuiltinCall, PySem.F.kind_issubclass]
  have ha := PySem.F.args_issubclass_2 (.type "str") (.ref T)
  cases hsig : Manifest.signature? "issubclass" with
  | none => rfl
  | some sig =>
    simp only [argsOk, hsig] at ha
    exact ha
section
variable {W : Wd} {prog : Program} {A : Around} {E : Value → Shared → Prop} {g : Fz} {fs : Fs} {fr : Ob} {gl : Gs} {s : Shared}
theorem fspath_spec {x : Str} {t : Tok} {Q : Value → Shared → Prop} (hA : Rm A 4) (O : Own W g fs fr gl s) (k : ∀ s' g', Own W g' fs fr gl s' → g.Le g' → Q (.str x t) s') : wpAny (model prog W.w) A (call (.ref 166) [.str x t]) Q E s := by
  refine wpAny_call (call_in [("path", .str x t)] hA.room O (by kernel_rfl) rfl (by kernel_rfl) (by kernel_rfl) (by kernel_rfl) (by kernel_rfl) ?_)
  intro s₁ L O₁
  iterate 27 walk1
  rename_i T hT
  obtain ⟨o, ho, hc, n, hd⟩ := hT
  refine subTup (Own.fz (by walk_at "OWN") _ _ ho) hc hd ?_
  iterate 5 walk1
  exact k _ _ (by walk_at "OWN") (by walk_at "LE")
theorem get_sep_spec {x : Str} {t : Tok} {Q : Value → Shared → Prop} (hA : Rm A 4) (O : Own W g fs fr gl s) (k : ∀ s' g' t', Own W g' fs fr gl s' → g.Le g' → Q (.str "/" t') s') : wpAny (model prog W.w) A (call (.ref 180) [.str x t]) Q E s := by
  refine wpAny_call (call_in [("path", .str x t)] hA.room O (by kernel_rfl) rfl (by kernel_rfl) (by kernel_rfl) (by kernel_rfl) (by kernel_rfl) ?_)
  intro s₁ L O₁
  iterate 17 walk1
  exact k _ _ _ (by walk_at "OWN") (Fz.Le.refl _)
end

end
section
/-! defs with cells -/
theorem Own.addO {W : Wd} {g : Fz} {fs : Fs} {fr : Ob} {gl : Gs} {s : Shared} {a : Addr} {o : Obj} (O : Own W g fs fr gl s) (ha : a ∉ fs.map (·.1) ++ fr.map (·.1)) (hg : g a = none) (ho : s.heap.get? a = some o) : Own W g fs ((a, o) :: fr) gl s := by
  refine ⟨O.gnd, O.fz, O.ns, fun p hp => ?_, ?_, fun b hb => ?_, O.gx, O.gd, O.bare, O.os⟩
  · rcases List.mem_cons.mp hp with rfl | hp
    · exact ho
    · exact O.ex _ hp
  · exact (List.perm_middle (a := a) (l₁ := fs.map (·.1)) (l₂ := fr.map (·.1))).nodup_iff.mpr (List.nodup_cons.mpr ⟨ha, O.nd⟩)
  · have hb : b ∈ a :: (fs.map (·.1) ++ fr.map (·.1)) := (List.perm_middle (a := a) (l₁ := fs.map (·.1)) (l₂ := fr.map (·.1))).mem_iff.mp hb
    rcases List.mem_cons.mp hb with rfl | hb
    · exact hg
    · exact O.ap b hb
/-- a frozen cell; an owned one -/
def GC (g : Fz) (c : Addr) (v : Value) : Prop := ∃ o, g c = some o ∧ o.data = .cell (some v)
theorem GC.mono {g g' : Fz} {c : Addr} {v : Value} (h : GC g c v) (k : g.Le g') : GC g' c v := let ⟨o, e, r⟩ := h; ⟨o, k _ _ e, r⟩
noncomputable abbrev envC (P : Params) (f L : Addr) : Env := callEnvC (fnAt P f) L f
noncomputable abbrev cellsAt (P : Params) (f L : Addr) : List (Str × Addr) := cellsFrom (L + 1) (fnAt P f).scope.names []
section
variable {W : Wd} {prog : Program} {A : Around} {E : Value → Shared → Prop} {g : Fz} {fs : Fs} {fr : Ob} {gl : Gs} {s : Shared} {env : Env}
theorem addAll {ob : Str → Obj} : ∀ {cs : List (Str × Addr)} {fs : Fs} {fr : Ob}, Own W g fs fr gl s → (cs.Pairwise fun x y => x.2 ≠ y.2) → (∀ p ∈ cs, p.2 ∉ fs.map (·.1) ++ fr.map (·.1) ∧ g p.2 = none ∧ s.heap.get? p.2 = some (ob p.1)) → Own W g fs (cs.map (fun p => (p.2, ob p.1)) ++ fr) gl s
  | [], _, _, O, _, _ => O
  | p :: cs, fs, fr, O, hp, h => by
    obtain ⟨h1, h2⟩ := List.pairwise_cons.mp hp
    have O' := addAll (ob := ob) O h2 fun q hq => h q (.tail _ hq)
    refine O'.addO (fun hm => ?_) (h p (.head _)).2.1 (h p (.head _)).2.2
    rw [List.map_append, ← List.append_assoc, List.mem_append, List.mem_append] at hm
    have hn := (h p (.head _)).1
    rw [List.mem_append] at hn
    rcases hm with (hm | hm) | hm
    · exact hn (.inl hm)
    · rw [List.map_map] at hm
      obtain ⟨q, hq, e⟩ := List.mem_map.mp hm
      exact h1 q hq (by simpa using e.symm)
    · exact hn (.inr hm)
theorem lookup_mem {α : Type} : ∀ {l : List (Str × α)} {n : Str} {c : α}, (l.map (·.1)).Nodup → (n, c) ∈ l → l.lookup n = some c
  | (k, v) :: r, n, c, hnd, hm => by
    rw [List.lookup_cons]
    have hnd := List.nodup_cons.mp hnd
    rcases List.mem_cons.mp hm with e | hm'
    · cases e; simp
    · have hne : (n == k) = false := by
        rw [beq_eq_false_iff_ne]; rintro rfl
        exact hnd.1 (List.mem_map.mpr ⟨(n, c), hm', rfl⟩)
      rw [hne]; exact lookup_mem hnd.2 hm'
theorem call_cells {R : Result → Shared → Prop} {f : Addr} {body : List Stmt} {vals : List Value} (binds : List (Str × Value)) (mL mC : Str → Option Value)
    (hA : A.depth < recursionLimit) (O : Own W g fs fr gl s) (hf : isDef W.w.params f = true)
    (hbody : (fnAt W.w.params f).body = .stmts body) (hbind : bindArgs (fnAt W.w.params f) ⟨vals, []⟩ = pure binds) (hclo : (fnAt W.w.params f).closure = [])
    (hkind : (binds.all fun x => (fnAt W.w.params f).scope.names.lookup x.1 == some .local || ((fnAt W.w.params f).scope.names.lookup x.1 == some .cell)) = true)
    (hin : ∀ L, (binds.all fun x => (fnAt W.w.params f).scope.names.lookup x.1 == some .local || ((cellsAt W.w.params f L).lookup x.1).isSome) = true)
    (hnd : ∀ L, ((cellsAt W.w.params f L).map (·.1)).Nodup)
    (hL : ∀ L, bindL (envC W.w.params f L).kindOf binds (fun _ => none) = mL) (hC : ∀ L, bindC (envC W.w.params f L).kindOf binds (fun _ => none) = mC)
    (hgen : (fnAt W.w.params f).scope.isGenerator = false)
    (h : ∀ s' L (ob : Str → Obj), (∀ n c, (cellsAt W.w.params f L).lookup n = some c → (ob n).data = .cell (mC n)) → Own W g ((L, mL) :: fs) ((cellsAt W.w.params f L).map (fun p => (p.2, ob p.1)) ++ fr) gl s' →
      wpAny (model prog W.w) (A.deeper (envC W.w.params f L)) (execs body (envC W.w.params f L)) (fun fl s' => R (.ok (.ret (match fl with | .ret v => v | _ => .none))) s')
        (fun e s' => wpAny (model prog W.w) (A.deeper (envC W.w.params f L)) (leaving (envC W.w.params f L) e) (fun _ s'' => R (.error e) s'') (fun e' s'' => R (.error e') s'') s') s') :
    codeAny (model prog W.w) A (.call (.ref f) ⟨vals, []⟩) R s := by
  obtain ⟨oc, od, osl, ho, hcd, hco, hk⟩ := isDef_spec hf
  refine codeAny_call_cells (fd := fnAt W.w.params f) hA (O.ground.frag _ _ ho) rfl O.ground.lim (codeRec_of O.ground.frag hcd) hbody hbind hclo (fun x hx => ?_) (fun s₁ I => ?_) hco hgen hk
  · have h1 := List.all_eq_true.mp hkind x hx
    have h2 := List.all_eq_true.mp (hin s.heap.objs.size) x hx
    rw [Bool.or_eq_true, beq_iff_eq] at h1 h2
    rcases h1 with h1 | h1
    · exact .inl h1
    · refine .inr ⟨beq_iff_eq.mp h1, h2.resolve_left fun q => ?_⟩
      rw [beq_iff_eq.mp h1] at q; cases q
  · rw [hL, hC] at I
    obtain ⟨h', tk, rfl, hkeep⟩ := I.done
    let ob : Str → Obj := fun n => match (cellsAt W.w.params f s.heap.objs.size).lookup n with
      | some c => (h'.get? c).getD (lstO [])
      | none => lstO []
    have O₁ := O.pushF (h' := h') hkeep Own.none_size I.toInCall.ns tk
    have hob : ∀ n c, (cellsAt W.w.params f s.heap.objs.size).lookup n = some c → h'.get? c = some (ob n) ∧ (ob n).data = .cell (mC n) := fun n c hc => by
      obtain ⟨o, ho, hd⟩ := I.cell n c hc
      have e : ob n = o := by
        show (match (cellsAt W.w.params f s.heap.objs.size).lookup n with | some c => (h'.get? c).getD (lstO []) | none => lstO []) = o
        rw [hc]
        show (h'.get? c).getD (lstO []) = o
        have ho' : h'.get? c = some o := ho
        rw [ho']; rfl
      rw [e]; exact ⟨ho, hd⟩
    refine h _ _ ob (fun n c hc => (hob n c hc).2) (addAll O₁ I.apart fun p hp => ?_)
    have hlk := lookup_mem (hnd _) (show (p.1, p.2) ∈ cellsAt W.w.params f s.heap.objs.size from hp)
    have hlt : s.heap.objs.size < p.2 := I.above p.1 p.2 hp
    have hnone : s.heap.get? p.2 = none := Heap.get?_none_of_le (Nat.le_of_lt hlt)
    refine ⟨fun hm => ?_, O.not_fz hnone, (hob _ _ hlk).1⟩
    rcases List.mem_append.mp hm with hm | hm
    · rcases List.mem_cons.mp hm with e | hm
      · exact absurd e (Nat.ne_of_gt hlt)
      · exact O.not_mem hnone (List.mem_append_left _ hm)
    · exact O.not_mem hnone (List.mem_append_right _ hm)

theorem ldG {x : Str} {pos : Pos} {c : Addr} {v : Value} {Q : Value → Shared → Prop} (O : Own W g fs fr gl s) (hl : env.kindOf x = some .cell) (hc : env.cells.lookup x = some c) (hv : GC g c v) (h : Q v s)
    (hk : env.scope.kind = .function := by rfl) (hd : (x == ("__debug__" : Str)) = false := by decide) : wpAny (model prog W.w) A (eval (.Name x pos) env) Q E s :=
  let ⟨o, ho, hdd⟩ := hv
  wpAny_Name (wpAny_loadName_cell hk hl hc ⟨o, O.fz _ _ ho, hdd⟩ h) hd
theorem ldO {x : Str} {pos : Pos} {c : Addr} {o : Obj} {v : Value} {Q : Value → Shared → Prop} (O : Own W g fs fr gl s) (hl : env.kindOf x = some .cell) (hc : env.cells.lookup x = some c) (hm : (c, o) ∈ fr) (hv : o.data = .cell (some v)) (h : Q v s)
    (hk : env.scope.kind = .function := by rfl) (hd : (x == ("__debug__" : Str)) = false := by decide) : wpAny (model prog W.w) A (eval (.Name x pos) env) Q E s :=
  wpAny_Name (wpAny_loadName_cell hk hl hc ⟨o, O.ex _ hm, hv⟩ h) hd
theorem stO {x : Str} {c : Addr} {o : Obj} {v : Value} {v₀ : Option Value} {Q : Unit → Shared → Prop} (O : Own W g fs ((c, o) :: fr) gl s) (hl : env.kindOf x = some .cell) (hc : env.cells.lookup x = some c) (hv : o.data = .cell v₀)
    (h : ∀ s' o', Own W g fs ((c, o') :: fr) gl s' → o'.data = .cell (some v) → Q () s') (hk : env.scope.kind = .function := by rfl) : wpAny (model prog W.w) A (storeName env x v) Q E s := by
  refine wpAny_storeName_cell hk hl hc ⟨o, O.ex _ (.head _), hv⟩ fun h' ⟨o', ho', hd'⟩ hs => h _ o' (O.setO ho' hs.extBut s.toks) hd'
theorem call_star {R : Result → Shared → Prop} {f : Addr} {body : List Stmt} {args : Args} {vs : List Value} (binds : Value → List (Str × Value))
    (hA : A.depth < recursionLimit) (O : Own W g fs fr gl s) (hf : isDef W.w.params f = true)
    (hbody : (fnAt W.w.params f).body = .stmts body) (hbind : bindArgs (fnAt W.w.params f) args = (newTuple vs >>= fun T => pure (binds T))) (hcell : ((fnAt W.w.params f).scope.names.all fun x => x.2 != .cell) = true)
    (hloc : ∀ T, ((binds T).all fun x => (fnAt W.w.params f).scope.names.lookup x.1 == some .local) = true)
    (hgen : (fnAt W.w.params f).scope.isGenerator = false) (hz : vs.length ≤ sizeLine)
    (h : ∀ s' g' T L, Own W g' ((L, fun y => (binds (.ref T)).reverse.lookup y) :: fs) fr gl s' → g.Le g' → GT g' T vs →
      wpAny (model prog W.w) (A.deeper (envAt W.w.params f L)) (execs body (envAt W.w.params f L)) (fun fl s' => R (.ok (.ret (match fl with | .ret v => v | _ => .none))) s')
        (fun e s' => wpAny (model prog W.w) (A.deeper (envAt W.w.params f L)) (leaving (envAt W.w.params f L) e) (fun _ s'' => R (.error e) s'') (fun e' s'' => R (.error e') s'') s') s') :
    codeAny (model prog W.w) A (.call (.ref f) args) R s := by
  obtain ⟨oc, od, osl, ho, hcd, hco, hk⟩ := isDef_spec hf
  refine codeAny_call_function (fd := fnAt W.w.params f) hA (O.ground.frag _ _ ho) rfl hco hgen hbody (codeRec_of O.ground.frag hcd) ?_
  rw [hbind]
  refine wpAny_bind (newTuple_ O (fun s₁ g₁ T hle O₁ hT => wpAny_pure ?_) hz)
  refine wpAny_newFunctionEnv (fun x hx => ?_) (fun x hx => ?_) (fun h₀ hns hsb => ?_) hk
  · have := List.all_eq_true.mp hcell x hx; simpa using this
  · have := List.all_eq_true.mp (hloc _) x hx; simpa using this
  · have keep : ∀ b o, s₁.heap.get? b = some o → h₀.get? b = some o := fun b o e => hsb.extBut b o (Nat.ne_of_lt (Heap.lt_size e)) (Heap.get?_push_of_some _ e)
    have O₂ := O₁.pushF keep Own.none_size hns (s₁.toks + (binds (.ref T)).length)
    exact ⟨O₂.ground.lim, codeAny_func (h _ _ _ _ O₂ hle hT)⟩
theorem ldn {x : Str} {v : Value} {m} {Q : Value → Shared → Prop} (O : Own W g ((env.locals, m) :: fs) fr gl s) (hv : m x = some v) (h : Q v s)
    (hk : env.scope.kind = .function := by rfl) (hl : env.kindOf x = some .local := by rfl) :
    wpAny (model prog W.w) A (loadName env x) Q E s := wpAny_loadName_local hk hl (O.ns _ (.head _)) hv h
theorem tIadd {x y z : Str} {t u : Tok} {Q : Value → Shared → Prop} (O : Own W g fs fr gl s) (hz : x ++ y = z) (hsz : x.length + y.length ≤ sizeLine) (h : ∀ s' t', Own W g fs fr gl s' → Q (.str z t') s') : wpAny (model prog W.w) A (inplaceOp .Add (.str x t) (.str y u)) Q E s :=
  PyProof.Rows.iadd_str (fun t' k => hz ▸ h _ t' (O.tok k)) hsz
/-! whole numbers, each with what it gives -/
theorem tFdiv {a b c : Int} {t u : Tok} {Q : Value → Shared → Prop} (O : Own W g fs fr gl s) (hc : a.fdiv b = c) (hb : b ≠ 0) (hs : b.natAbs < 1073741824) (h : ∀ s' t', Own W g fs fr gl s' → Q (.int c t') s') : wpAny (model prog W.w) A (binaryOp .FloorDiv (.int a t) (.int b u)) Q E s :=
  floordiv_int hb (hc ▸ h _ _ (O.tok _)) (.inl (PyProof.noPylong_small hs))
theorem tMod {a b c : Int} {t u : Tok} {Q : Value → Shared → Prop} (O : Own W g fs fr gl s) (hc : a.fmod b = c) (hb : b ≠ 0) (h : ∀ s' t', Own W g fs fr gl s' → Q (.int c t') s') : wpAny (model prog W.w) A (binaryOp .Mod (.int a t) (.int b u)) Q E s :=
  mod_int' hb (hc ▸ h _ _ (O.tok _))
theorem tPow {a b c : Int} {t u : Tok} {Q : Value → Shared → Prop} (O : Own W g fs fr gl s) (hc : a ^ b.toNat = c) (h0 : 0 ≤ b) (h1 : b ≤ 1000000) (h2 : a.natAbs < 2 ^ 64) (h : ∀ s' t', Own W g fs fr gl s' → Q (.int c t') s') : wpAny (model prog W.w) A (binaryOp .Pow (.int a t) (.int b u)) Q E s :=
  pow_int_small h0 h1 h2 (hc ▸ h _ _ (O.tok _))
theorem tAddI {a b c : Int} {t u : Tok} {Q : Value → Shared → Prop} (O : Own W g fs fr gl s) (hc : a + b = c) (h : ∀ s' t', Own W g fs fr gl s' → Q (.int c t') s') : wpAny (model prog W.w) A (binaryOp .Add (.int a t) (.int b u)) Q E s :=
  PyProof.Rows.add_int (hc ▸ h _ _ (O.tok _))
theorem tSubI {a b c : Int} {t u : Tok} {Q : Value → Shared → Prop} (O : Own W g fs fr gl s) (hc : a - b = c) (h : ∀ s' t', Own W g fs fr gl s' → Q (.int c t') s') : wpAny (model prog W.w) A (binaryOp .Sub (.int a t) (.int b u)) Q E s :=
  PyProof.Rows.sub_int' (hc ▸ h _ _ (O.tok _))
theorem lIdx {value slice : Expr} {l : Addr} {vs : List Value} {i : Int} {t : Tok} {v : Value} {Q : Value → Shared → Prop} (O : Own W g fs fr gl s) (hG : GL g l vs) (h0 : 0 ≤ i) (hi : vs[i.toNat]? = some v) (hz : i < 2 ^ 63) (h : Q v s)
    (hs : subscripted slice false (.ref l) (.int i t) = operate [.ref l, .int i t] (getItem (.ref l) (.int i t)) := by with_unfolding_all rfl) : wpAny (model prog W.w) A (subscriptTail value slice (.ref l) (.int i t)) Q E s :=
  let hl := hG.is O
  tail_any hl.typeIs list_getitem_lookup (wpAny_getItem_list hl h0 hz (by simpa using hi) h) hs
end

end
local macro_rules | `(tactic| walk_at "eval Name") => `(tactic| refine ldG (by walk_at "OWN") (by rfl) (by rfl) (by walk_at "FZ") ?_)
local macro_rules | `(tactic| walk_at "FZ") => `(tactic| first
  | assumption
  | exact GC.mono (by assumption) (by walk_at "LE"))
local macro_rules | `(tactic| walk_at "binaryOp FloorDiv int int") => `(tactic| (refine tFdiv (by walk_at "OWN") (by walk_at "VAL") (by walk_at "NZ") (by walk_at "NZ") ?_; intro _ _ _))
local macro_rules | `(tactic| walk_at "binaryOp Mod int int") => `(tactic| (refine tMod (by walk_at "OWN") (by walk_at "VAL") (by walk_at "NZ") ?_; intro _ _ _))
local macro_rules | `(tactic| walk_at "binaryOp Pow int int") => `(tactic| (refine tPow (by walk_at "OWN") (by walk_at "VAL") (by walk_at "NZ") (by walk_at "NZ") (by walk_at "NZ") ?_; intro _ _ _))
local macro_rules | `(tactic| walk_at "binaryOp Add int int") => `(tactic| (refine tAddI (by walk_at "OWN") (by walk_at "VAL") ?_; intro _ _ _))
local macro_rules | `(tactic| walk_at "binaryOp Sub int int") => `(tactic| (refine tSubI (by walk_at "OWN") (by walk_at "VAL") ?_; intro _ _ _))

section
section
variable {W : Wd} {prog : Program} {A : Around} {E : Value → Shared → Prop} {g : Fz} {fs : Fs} {fr : Ob} {gl : Gs} {s : Shared}
/-- join of a path and a name: what is put between, by what the first ends with -/
theorem join_spec {x b z : Str} {t u : Tok} {e : Bool} {Q : Value → Shared → Prop} (hA : Rm A 140) (O : Own W g fs fr gl s) (h1 : Txt.startswith b "/" = false) (h2 : ((x.length : Int) != 0) = true) (h3 : Txt.endswith x "/" = e)
    (h4 : e = true → x ++ b = z) (h5 : e = false → x ++ ((Str.ofString "/") ++ b) = z) (hx : x.length ≤ 100000) (hb : b.length ≤ 100000)
    (k : ∀ s' g' t', Own W g' fs fr gl s' → g.Le g' → Q (.str z t') s') : wpAny (model prog W.w) A (call (.ref 187) [.str x t, .str b u]) Q E s := by
  have hSZ : sizeLine = 16777216 := rfl
  refine wpAny_call (call_star (vs := [.str b u]) (fun T => [("a", .str x t), ("p", T)]) hA.room O (by kernel_rfl) rfl (by kernel_rfl) (by kernel_rfl) (by intro T; kernel_rfl) (by kernel_rfl) (by show 1 ≤ _; decide) ?_)
  intro s₁ g₁ T L O₁ hle hT
  iterate 9 walk1
  refine fspath_spec (by walk_at "RM") (by walk_at "OWN") ?_
  intro s₂ g₂ O₂ hle₂
  iterate 10 walk1
  refine get_sep_spec (by walk_at "RM") (by walk_at "OWN") ?_
  intro s₃ g₃ t₃ O₃ hle₃
  iterate 6 walk1
  rename_i s₄ O₄
  refine wpAny_Try_except ?_
  iterate 1 walk1
  refine wpAny_For ?_
  iterate 1 walk1
  refine iter_tup (by walk_at "OWN") ((hT.mono hle₂).mono hle₃) (xs := [SV b]) ⟨⟨u, rfl⟩, trivial⟩ ?_
  intro s₅ J o O₅ hI
  refine for_loop (fun n g m fr' => fr' = [] ∧ ∃ t₁ t₂, m "path" = some (.str (if n = 0 then x else z) t₁) ∧ m "sep" = some (.str "/" t₂)) (fun _ _ _ _ _ h _ => h) (fr := []) (Rm.le (Rm.deeper (n := 139) hA _) (by decide)) hI O₅ ⟨rfl, _, _, rfl, rfl⟩ ?_ ?_
  · intro i p v g' m' fr' fs' fr₀ gl' s' hi hv ⟨hfr, t₁, t₂, hm1, hm2⟩ hle' O' K E' hK
    subst hfr
    have hi0 : i = 0 := by
      cases i with
      | zero => rfl
      | succ i => simp at hi
    subst hi0
    simp only [List.getElem?_cons_zero, Option.some.injEq] at hi
    subst hi
    obtain ⟨u', rfl⟩ := hv
    rw [if_pos rfl] at hm1
    have hs1 : (Str.ofString "/").length = 1 := by decide
    cases e with
    | true =>
      have h4' := h4 rfl
      iterate 11 walk1
      refine fspath_spec (by walk_at "RM") (by walk_at "OWN") ?_
      intro s₆ g₆ O₆ hle₆
      iterate 38 walk1
      refine ldn (by walk_at "OWN") (by exact hm1) ?_
      walk1
      refine tIadd (by walk_at "OWN") h4' (by omega) ?_
      intro _ _ _
      iterate 4 walk1
      refine hK _ _ _ [] (by walk_at "OWN") (by walk_at "LE") ?_
      exact ⟨rfl, _, _, rfl, hm2⟩
    | false =>
      have h5' := h5 rfl
      iterate 11 walk1
      refine fspath_spec (by walk_at "RM") (by walk_at "OWN") ?_
      intro s₆ g₆ O₆ hle₆
      iterate 38 walk1
      refine ldn (by walk_at "OWN") (by exact hm1) ?_
      walk1
      walk1
      walk1
      refine tAdd (by walk_at "OWN") rfl (by omega) ?_
      intro _ _ _
      dsimp only
      refine tIadd (by walk_at "OWN") h5' (by rw [Str.length_append, hs1]; omega) ?_
      intro _ _ _
      iterate 4 walk1
      refine hK _ _ _ [] (by walk_at "OWN") (by walk_at "LE") ?_
      exact ⟨rfl, _, _, rfl, hm2⟩
  · intro s' g' m' fr' O' hle' ⟨hfr, t₁, t₂, hm, _⟩
    subst hfr
    iterate 5 walk1
    exact k _ _ _ (by walk_at "OWN") (by walk_at "LE")
end

end
section
/-! the comprehension's value, and the assignment of one -/
section
variable {W : Wd} {prog : Program} {A : Around} {E : Value → Shared → Prop} {g : Fz} {fs : Fs} {fr : Ob} {gl : Gs} {s : Shared} {env : Env}
abbrev bodyQ (W : Wd) (prog : Program) (A : Around) (E : Value → Shared → Prop) (elt : Expr) (x : Str) (px : Pos) (iter : Expr) (ifs : List Expr) (scope : Scope) (cl : List (Str × Addr)) (pos : Pos) (env : Env) (Q : Value → Shared → Prop) : Value → Shared → Prop :=
  CompBody W prog A E elt x px iter ifs scope cl pos env (compPost (model prog W.w) A E none Q)
abbrev bodyA (W : Wd) (prog : Program) (A : Around) (E : Value → Shared → Prop) (elt : Expr) (x : Str) (px : Pos) (iter : Expr) (ifs : List Expr) (scope : Scope) (cl : List (Str × Addr)) (pos : Pos) (env : Env) (y : Str) (py : Pos) (Q : Flow → Shared → Prop) : Value → Shared → Prop :=
  CompBody W prog A E elt x px iter ifs scope cl pos env (compPost (model prog W.w) A E (some (assign (.Name y py) env)) (fun _ s' => Q .next s'))
theorem listcomp_ {elt iter : Expr} {x : Str} {px : Pos} {ifs : List Expr} {scope : Scope} {pos : Pos} {Q : Value → Shared → Prop} (cl : List (Str × Addr)) (hclos : closureFor scope env = pure cl) (hkind : scope.kind = .function)
    (hnames : (scope.names.all fun x => x.2 != .local || scope.names.lookup x.1 == some .local) = true)
    (h : wpAny (model prog W.w) A (eval iter env) (fun xv s₁ => wpAny (model prog W.w) A (pyIter xv) (bodyQ W prog A E elt x px iter ifs scope cl pos env Q) E s₁) E s)
    (hs : ∀ x, foldedSetIterable iter env x = pure x := by intro _; rfl) : wpAny (model prog W.w) A (eval (.ListComp elt [⟨.Name x px, iter, ifs, 0⟩] scope pos) env) Q E s := by
  rw [eval_ListComp]
  refine wpAny_comprehension_free (use := none) rfl hs hclos hkind (fun x hx hl => ?_) h
  have := List.all_eq_true.mp hnames x hx
  rw [hl] at this
  simpa using this
theorem assigncomp_ {elt iter : Expr} {x y : Str} {px py : Pos} {ifs : List Expr} {scope : Scope} {pos spos : Pos} {Q : Flow → Shared → Prop} (cl : List (Str × Addr))
    (hsw : swapsWith (.ListComp elt [⟨.Name x px, iter, ifs, 0⟩] scope pos) (some (.Name y py)) spos.line env = pure true) (hclos : closureFor scope env = pure cl) (hkind : scope.kind = .function)
    (hnames : (scope.names.all fun x => x.2 != .local || scope.names.lookup x.1 == some .local) = true)
    (h : wpAny (model prog W.w) A (eval iter env) (fun xv s₁ => wpAny (model prog W.w) A (pyIter xv) (bodyA W prog A E elt x px iter ifs scope cl pos env y py Q) E s₁) E s)
    (hs : ∀ x, foldedSetIterable iter env x = pure x := by intro _; rfl) : wpAny (model prog W.w) A (exec (.Assign [.Name y py] (.ListComp elt [⟨.Name x px, iter, ifs, 0⟩] scope pos) spos) env) Q E s := by
  rw [exec_Assign_Name_used _ _ _ _ hsw]
  refine wpAny_bind (wpAny_standAt (wpAny_bind ?_))
  show wpAny _ A (do let _ ← comprehension (.ListComp elt [⟨.Name x px, iter, ifs, 0⟩] scope pos) scope env _ (newList []) false (eval iter env) (some (assign (.Name y py) env))) _ _ s
  refine wpAny_bind (wpAny_mono (wpAny_comprehension_free (use := some (assign (.Name y py) env)) (Q := fun _ s' => Q .next s') rfl hs hclos hkind (fun x hx hl => ?_) h) (fun _ s' hq => wpAny_pure (wpAny_pure hq)) fun _ _ e => e)
  have := List.all_eq_true.mp hnames x hx
  rw [hl] at this
  simpa using this

theorem comp_list {J : Addr} {elt : Expr} {x : Str} {px : Pos} {iter : Expr} {ifs : List Expr} {scope : Scope} {cl : List (Str × Addr)} {pos : Pos} {Q : Value → Shared → Prop}
    {F : Fs} {R : Ob} {G : Gs} {Z : Ob} {fr₀ : Ob} {xs : List (Value → Prop)}
    (Inv : Nat → Fz → List Value → Ob → Prop) (hMono : ∀ k g m fr g', Inv k g m fr → g.Le g' → Inv k g' m fr) (hA : Rm A 130) (hI : Iter W prog (.ref J) xs g F R G Z) (hself : SelfIt W prog J g F R G) (O : Own W g (F ++ fs) (R ++ (fr ++ fr₀)) (G ++ gl) s) (h0 : Inv 0 g [] fr)
    (hcell : (scope.names.all fun y => y.2 != .cell) = true) (hkind : scope.kind = .function) (hx : scope.names.lookup x = some .local) (hsz : xs.length ≤ sizeLine)
    (step : ∀ C i p v g' ys m' fr' fs' fr₀ gl' s', xs[i]? = some p → p v → Inv i g' ys fr' → g.Le g' → m' x = some v → Own W g' ((C, m') :: fs') (fr' ++ fr₀) gl' s' →
      ∀ (Kt : Value → Shared → Prop) (Kf : Shared → Prop) (E' : Value → Shared → Prop), (∀ s'' g'' fr'' y, Own W g'' ((C, m') :: fs') (fr'' ++ fr₀) gl' s'' → g'.Le g'' → Inv (i + 1) g'' (ys ++ [y]) fr'' → Kt y s'') →
        (∀ s'' g'' fr'', Own W g'' ((C, m') :: fs') (fr'' ++ fr₀) gl' s'' → g'.Le g'' → Inv (i + 1) g'' ys fr'' → Kf s'') →
        wpAny (model prog W.w) A (testsOf ifs (compEnvC scope cl C env)) (fun ok s₃ => if ok = true then wpAny (model prog W.w) A (eval elt (compEnvC scope cl C env)) Kt E' s₃ else Kf s₃) E' s')
    (hQ : ∀ s' g' D ys fr', Own W g' fs (Z ++ (fr' ++ fr₀)) gl s' → GL g' D ys → g.Le g' → Inv xs.length g' ys fr' → Q (.ref D) s') :
    bodyQ W prog A E elt x px iter ifs scope cl pos env Q (.ref J) s := by
  refine comp_block Inv hMono hA hI hself O h0 (fun y hy => by have := List.all_eq_true.mp hcell y hy; simpa using this) hkind hx hsz step fun s' g' C D m' o ys fr' O' hL hle hInv => ?_
  refine ⟨m', O'.ns _ (.head _), fun h'' hs'' => ?_⟩
  have O₂ := dropNs O' hs''.extBut s'.toks
  have p := O₂.shut
  exact hQ _ _ D ys fr' p.2 ⟨o, Fz.put_self _ _ _, hL⟩ (hle.trans p.1) (hMono _ _ _ _ _ hInv p.1)
theorem comp_assign {J : Addr} {elt : Expr} {x y : Str} {px py : Pos} {iter : Expr} {ifs : List Expr} {scope : Scope} {cl : List (Str × Addr)} {pos : Pos} {Q : Flow → Shared → Prop} {m : Str → Option Value}
    {F : Fs} {R : Ob} {G : Gs} {Z : Ob} {fr₀ : Ob} {xs : List (Value → Prop)}
    (Inv : Nat → Fz → List Value → Ob → Prop) (hMono : ∀ k g m fr g', Inv k g m fr → g.Le g' → Inv k g' m fr) (hA : Rm A 130) (hI : Iter W prog (.ref J) xs g F R G Z) (hself : SelfIt W prog J g F R G) (O : Own W g (F ++ ((env.locals, m) :: fs)) (R ++ (fr ++ fr₀)) (G ++ gl) s) (h0 : Inv 0 g [] fr)
    (hcell : (scope.names.all fun y => y.2 != .cell) = true) (hkind : scope.kind = .function) (hx : scope.names.lookup x = some .local) (hsz : xs.length ≤ sizeLine)
    (step : ∀ C i p v g' ys m' fr' fs' fr₀ gl' s', xs[i]? = some p → p v → Inv i g' ys fr' → g.Le g' → m' x = some v → Own W g' ((C, m') :: fs') (fr' ++ fr₀) gl' s' →
      ∀ (Kt : Value → Shared → Prop) (Kf : Shared → Prop) (E' : Value → Shared → Prop), (∀ s'' g'' fr'' y, Own W g'' ((C, m') :: fs') (fr'' ++ fr₀) gl' s'' → g'.Le g'' → Inv (i + 1) g'' (ys ++ [y]) fr'' → Kt y s'') →
        (∀ s'' g'' fr'', Own W g'' ((C, m') :: fs') (fr'' ++ fr₀) gl' s'' → g'.Le g'' → Inv (i + 1) g'' ys fr'' → Kf s'') →
        wpAny (model prog W.w) A (testsOf ifs (compEnvC scope cl C env)) (fun ok s₃ => if ok = true then wpAny (model prog W.w) A (eval elt (compEnvC scope cl C env)) Kt E' s₃ else Kf s₃) E' s')
    (hQ : ∀ s' g' D ys fr', Own W g' ((env.locals, fun z => if z = y then some (.ref D) else m z) :: fs) (Z ++ (fr' ++ fr₀)) gl s' → GL g' D ys → g.Le g' → Inv xs.length g' ys fr' → Q .next s')
    (hl : env.kindOf y = some .local := by rfl) (hp : (env.scope.kind == .class || (env.scope.kind == .module && env.locals != env.globals)) = false := by rfl) :
    bodyA W prog A E elt x px iter ifs scope cl pos env y py Q (.ref J) s := by
  refine comp_block Inv hMono hA hI hself O h0 (fun y hy => by have := List.all_eq_true.mp hcell y hy; simpa using this) hkind hx hsz step fun s' g' C D m' o ys fr' O' hL hle hInv => ?_
  show wpAny _ A (assign (.Name y py) env (.ref D)) _ _ _
  have O₁ := O'.permF (.swap (env.locals, m) (C, m') fs)
  refine wpAny_assign_Name (st O₁ (fun s₂ O₂ => ?_) hl hp)
  have O₃ := O₂.permF (.swap (C, m') _ fs)
  refine ⟨m', O₃.ns _ (.head _), fun h'' hs'' => ?_⟩
  have O₄ := dropNs O₃ hs''.extBut s₂.toks
  have p := O₄.shut
  exact hQ _ _ D ys fr' p.2 ⟨o, Fz.put_self _ _ _, hL⟩ (hle.trans p.1) (hMono _ _ _ _ _ hInv p.1)
theorem tests0 {env' : Env} {Q : Bool → Shared → Prop} (h : Q true s) : wpAny (model prog W.w) A (testsOf [] env') Q E s := wpAny_tests_nil h
theorem tests1 {env' : Env} {c : Expr} {Q : Bool → Shared → Prop} (h : wpAny (model prog W.w) A (isTrue c env' (eval c env')) Q E s) : wpAny (model prog W.w) A (testsOf [c] env') Q E s := wpAny_tests_one h
abbrev rgO (a b c : Int) (t u v : Tok) : Obj := { cls := .type "range", dict := none, data := .fields #[.int a t, .int b u, .int c v], slots := #[] }
theorem range1_ {n : Int} {t : Tok} {Q : Value → Shared → Prop} (O : Own W g fs fr gl s) (h : ∀ s' g' r t' u' v', Own W g' fs fr gl s' → g.Le g' → g' r = some (rgO 0 n 1 t' u' v') → Q (.ref r) s') :
    wpAny (model prog W.w) A (call (.type "range") [.int n t]) Q E s :=
  let p := pushed O (rgO 0 n 1 s.toks t (s.toks + 1)) rfl (s.toks + 1 + 1)
  call_range_1 (h _ _ _ _ _ _ p.2 p.1 (Fz.put_self _ _ _))
theorem range3_ {a b c : Int} {t u v : Tok} {Q : Value → Shared → Prop} (O : Own W g fs fr gl s) (hc : c ≠ 0) (hp : Builtin.divisionGoesByPylong (b - a) c = false) (h : ∀ s' g' r t' u' v', Own W g' fs fr gl s' → g.Le g' → g' r = some (rgO a b c t' u' v') → Q (.ref r) s') :
    wpAny (model prog W.w) A (call (.type "range") [.int a t, .int b u, .int c v]) Q E s :=
  let p := pushed O (rgO a b c t u v) rfl s.toks
  call_range_3 hc (h _ _ _ _ _ _ p.2 p.1 (Fz.put_self _ _ _)) (.inl hp)
theorem rangeSize_up (n : Nat) : Builtin.Range.rangeSize 0 n 1 = n := by rw [rangeSize_one]; split <;> omega
theorem rangeSize_down (n : Nat) : Builtin.Range.rangeSize n 0 (-1) = n := by
  unfold Builtin.Range.rangeSize
  simp only [show ¬ ((-1 : Int) > 0) by decide, if_false]
  rw [show (-(-1 : Int)) = 1 by decide, Int.ediv_one]
  split <;> omega
theorem small_down {n : Nat} (h : n < 2 ^ 60) : Builtin.Range.small n 0 (-1) = true := by
  unfold Builtin.Range.small
  rw [rangeSize_down]
  simp only [Builtin.Range.rangeFitsLong, Bool.and_eq_true, Bool.or_eq_true, decide_eq_true_eq, beq_iff_eq, show ¬ ((-1 : Int) > 0) by decide, if_false]
  omega
end

end
section
def nmS (i : Nat) : Str := match i with | 0 => "a" | 1 => "ab" | _ => "c"
def namesOf (y : Nat) : List Str := (List.range (1 + y % 3)).map fun k => nmS (y / 3 / 3 ^ k % 3)
section
variable {W : Wd} {prog : Program} {A : Around} {E : Value → Shared → Prop} {g : Fz} {fs : Fs} {fr : Ob} {gl : Gs} {s : Shared}
theorem names_spec {y : Nat} {t : Tok} {Q : Value → Shared → Prop} (hA : Rm A 140) (O : Own W g fs fr gl s)
    (k : ∀ s' g' a vs, Own W g' fs fr gl s' → g.Le g' → GL g' a vs → SVs (namesOf y) vs → Q (.ref a) s') : wpAny (model prog W.w) A (call (.ref 199) [.int y t]) Q E s := by
  refine wpAny_call (call_cells [("y", .int y t)] (fun _ => none) (fun z => if z = "y" then some (.int y t) else none) hA.room O (by kernel_rfl) rfl (by kernel_rfl) rfl (by kernel_rfl) (by intro L; kernel_rfl) (by intro L; exact (by decide : (["y"] : List Str).Nodup)) (by intro L; kernel_rfl) (by intro L; kernel_rfl) (by kernel_rfl) ?_)
  intro s₁ L ob hob O₁
  have hy := hob "y" (L + 1) (by rfl)
  have O₂ : Own W g ((L, fun _ => none) :: fs) ((L + 1, ob "y") :: fr) gl s₁ := O₁
  have p := O₂.shut
  have O₃ := p.2
  have hc : GC (g.put (L + 1) (ob "y")) (L + 1) (.int y t) := ⟨_, Fz.put_self _ _ _, hy⟩
  have hle := p.1
  clear O₁ O₂ p hob
  generalize g.put (L + 1) (ob "y") = g₁ at O₃ hc hle
  iterate 2 walk1
  have hm : (y : Int).fmod 3 = ((y % 3 : Nat) : Int) := by rw [Int.fmod_eq_emod_of_nonneg _ (by omega)]; rfl
  refine listcomp_ [("y", L + 1)] (by kernel_rfl) (by kernel_rfl) (by kernel_rfl) ?_
  iterate 12 walk1
  have hn : (1 : Int) + ((y % 3 : Nat) : Int) = ((1 + y % 3 : Nat) : Int) := by omega
  refine range1_ (by walk_at "OWN") ?_
  intro s₂ g₂ r _ _ _ O₄ hle₂ hr
  rw [hn] at hr
  have hy3 : y % 3 < 3 := Nat.mod_lt _ (by decide)
  refine iter_range O₄ hr (small_one (by omega) (by omega) (by omega) (by omega)) (rangeSize_up _) ?_
  intro s₃ J O₅ hI hself
  refine comp_list (fr := []) (F := []) (G := []) (R := [(J, rngO 0 (1 + y % 3 : Nat) 1)]) (fun i g ys fr' => fr' = [] ∧ SVs ((List.range i).map fun k => nmS (y / 3 / 3 ^ k % 3)) ys) (fun _ _ _ _ _ h _ => h) (Rm.le (Rm.deeper (n := 139) hA _) (by decide)) hI hself O₅ ⟨rfl, trivial⟩ (by kernel_rfl) (by kernel_rfl) (by kernel_rfl) (by rw [upI_length]; have : sizeLine = 16777216 := rfl; omega) ?_ ?_
  · intro C i p v g' ys m' fr' fs' fr₀ gl' s' hi hv ⟨hfr, hys⟩ hle' hm' O' Kt Kf E' hKt hKf
    subst hfr
    obtain ⟨hi, rfl⟩ := upI_get _ _ _ _ _ hi
    obtain ⟨tv, rfl⟩ := hv
    have hc' := (hc.mono hle₂).mono hle'
    have hv1 : (y : Int).fdiv 3 = ((y / 3 : Nat) : Int) := by rw [Int.fdiv_eq_ediv_of_nonneg _ (by omega)]; omega
    have hv2 : (3 : Int) ^ ((0 : Int) + 1 * (i : Int)).toNat = ((3 ^ i : Nat) : Int) := by rw [show ((0 : Int) + 1 * (i : Int)).toNat = i by omega]; simp
    have hv3 : ((y / 3 : Nat) : Int).fdiv ((3 ^ i : Nat) : Int) = ((y / 3 / 3 ^ i : Nat) : Int) := by rw [Int.fdiv_eq_ediv_of_nonneg _ (Int.natCast_nonneg _)]; rfl
    have hv4 : ((y / 3 / 3 ^ i : Nat) : Int).fmod 3 = ((y / 3 / 3 ^ i % 3 : Nat) : Int) := by rw [Int.fmod_eq_emod_of_nonneg _ (by omega)]; rfl
    have hi3 : i < 3 := by omega
    have hb1 : ((3 ^ i : Nat) : Int) ≠ 0 := by have := Nat.pow_pos (n := i) (show 0 < 3 by decide); omega
    have hb2 : ((3 ^ i : Nat) : Int).natAbs < 1073741824 := by
      rw [Int.natAbs_natCast]
      exact Nat.lt_of_le_of_lt (Nat.pow_le_pow_right (by decide) (show i ≤ 3 by omega)) (by decide)
    refine tests0 ?_
    rw [if_pos rfl]
    iterate 23 walk1
    have fin : ∀ s₄ g₄ v, Own W g₄ ((C, m') :: fs') ([] ++ fr₀) gl' s₄ → g'.Le g₄ → SV (nmS (y / 3 / 3 ^ i % 3)) v → Kt v s₄ := fun s₄ g₄ v O₄ hle₄ hv => by
      refine hKt _ _ [] _ O₄ hle₄ ⟨rfl, ?_⟩
      show SVs _ _
      rw [List.range_succ, List.map_append]
      show AllV (List.map SV _) _
      rw [List.map_append]
      exact AllV.snoc hys hv
    have hj : y / 3 / 3 ^ i % 3 < 3 := Nat.mod_lt _ (by decide)
    generalize y / 3 / 3 ^ i % 3 = j at hj fin ⊢
    rcases (by omega : j = 0 ∨ j = 1 ∨ j = 2) with rfl | rfl | rfl
    · exact lIdx (by walk_at "OWN") (by walk_at "FZ") (by decide) rfl (by decide) (fin _ _ _ (by walk_at "OWN") (by walk_at "LE") ⟨_, rfl⟩)
    · exact lIdx (by walk_at "OWN") (by walk_at "FZ") (by decide) rfl (by decide) (fin _ _ _ (by walk_at "OWN") (by walk_at "LE") ⟨_, rfl⟩)
    · exact lIdx (by walk_at "OWN") (by walk_at "FZ") (by decide) rfl (by decide) (fin _ _ _ (by walk_at "OWN") (by walk_at "LE") ⟨_, rfl⟩)
  · intro s' g' D ys fr' O' hG hle' ⟨hfr, hys⟩
    subst hfr
    rw [upI_length] at hys
    exact k _ _ _ _ (by walk_at "OWN") (hle.trans (hle₂.trans hle')) hG hys
end

end
section
section
variable {W : Wd} {prog : Program} {A : Around} {E : Value → Shared → Prop} {g : Fz} {fs : Fs} {fr : Ob} {gl : Gs} {s : Shared}
theorem goodP_single {n : Str} (h : GoodN n) : GoodP [n] := fun x hx => by rw [List.mem_singleton.mp hx]; exact h
theorem join_path {ns : List Str} {n x : Str} {t u : Tok} {Q : Value → Shared → Prop} (hA : Rm A 140) (O : Own W g fs fr gl s) (hg : GoodP ns) (hn : GoodN n) (hx : x = pathS ns) (hz : (pathS ns).length ≤ 100000) (hb : n.length ≤ 100000)
    (k : ∀ s' g' t', Own W g' fs fr gl s' → g.Le g' → Q (.str (pathS (ns ++ [n])) t') s') : wpAny (model prog W.w) A (call (.ref 187) [.str x t, .str n u]) Q E s := by
  subst hx
  have hs : Str.ofString "/" = mk [47] := slashS
  have h2 : (((pathS ns).length : Int) != 0) = true := by
    have := pathS_length_pos ns
    rw [bne_iff_ne]; omega
  by_cases h : ns = []
  · subst h
    exact join_spec (e := true) hA O (hs ▸ starts_no hn) h2 (hs ▸ ends_nil) (fun _ => glue_nil n) nofun hz hb k
  · exact join_spec (e := false) hA O (hs ▸ starts_no hn) h2 (hs ▸ ends_path hg h) nofun (fun _ => hs ▸ glue_ne h n) hz hb k
theorem basename_spec {ns : List Str} {n x : Str} {t : Tok} {Q : Value → Shared → Prop} (hA : Rm A 20) (O : Own W g fs fr gl s) (hg : GoodP (ns ++ [n])) (hx : x = pathS (ns ++ [n])) (hz : x.length ≤ 100000)
    (k : ∀ s' g' t', Own W g' fs fr gl s' → g.Le g' → Q (.str n t') s') : wpAny (model prog W.w) A (call (.ref 194) [.str x t]) Q E s := by
  have hs : Str.ofString "/" = mk [47] := slashS
  have hn := (GoodP.append.mp hg).2 n (by simp)
  rw [pathS_snoc] at hx
  have e1 : Txt.rfind x "/" = ((catP ns).length : Int) := by rw [hx, hs]; exact rfind_path _ _ hn.2
  have e0 : catP ns ++ 47 :: n.cps.toList = (catP ns ++ [47]) ++ n.cps.toList := by simp
  have el : ((catP ns).length : Int) + 1 = ((catP ns ++ [47]).length : Int) := by simp
  have e3 : Txt.slice x (some (((catP ns).length : Int) + 1)) none = n := by rw [hx, e0, el]; exact slice_from _ _
  have hSZ : sizeLine = 16777216 := rfl
  clear hx e0 el
  refine wpAny_call (call_in [("p", .str x t)] hA.room O (by kernel_rfl) rfl (by kernel_rfl) (by kernel_rfl) (by kernel_rfl) (by kernel_rfl) ?_)
  intro s₁ L O₁
  iterate 9 walk1
  refine fspath_spec (by walk_at "RM") (by walk_at "OWN") ?_
  intro s₂ g₂ O₂ hle₂
  iterate 10 walk1
  refine get_sep_spec (by walk_at "RM") (by walk_at "OWN") ?_
  intro s₃ g₃ t₃ O₃ hle₃
  iterate 26 walk1
  exact k _ _ _ (by walk_at "OWN") (by walk_at "LE")
/-- _law_path -/
theorem path_spec {a : Addr} {ns : List Str} {vs : List Value} {Q : Value → Shared → Prop} (hA : Rm A 150) (O : Own W g fs fr gl s) (hG : GL g a vs) (hv : SVs ns vs) (hg : GoodP ns) (hz : (pathS ns).length ≤ 100000) (hnz : ∀ n ∈ ns, n.length ≤ 100000)
    (k : ∀ s' g' t', Own W g' fs fr gl s' → g.Le g' → Q (.str (pathS ns) t') s') : wpAny (model prog W.w) A (call (.ref 206) [.ref a]) Q E s := by
  refine wpAny_call (call_in [("names", .ref a)] hA.room O (by kernel_rfl) rfl (by kernel_rfl) (by kernel_rfl) (by kernel_rfl) (by kernel_rfl) ?_)
  intro s₁ L O₁
  iterate 5 walk1
  refine wpAny_For ?_
  iterate 1 walk1
  refine iter_list (by walk_at "OWN") hG hv ?_
  intro s₅ J o _ O₅ hI _
  refine for_loop (fun n g m fr' => fr' = [] ∧ ∃ t₁, m "path" = some (.str (pathS (ns.take n)) t₁)) (fun _ _ _ _ _ h _ => h) (fr := []) (Rm.le (Rm.deeper (n := 149) hA _) (by decide)) hI.iter O₅ ⟨rfl, _, rfl⟩ ?_ ?_
  · intro i p v g' m' fr' fs' fr₀ gl' s' hi hv ⟨hfr, t₁, hm⟩ hle' O' K E' hK
    subst hfr
    rw [List.getElem?_map] at hi
    obtain ⟨n, hn, rfl⟩ := Option.map_eq_some_iff.mp hi
    obtain ⟨hin, hn'⟩ := List.getElem?_eq_some_iff.mp hn
    obtain ⟨tv, rfl⟩ := hv
    have e3 : ns.take (i + 1) = ns.take i ++ [n] := by rw [List.take_add_one, hn]; rfl
    have hgn : GoodN n := hg n (hn' ▸ List.getElem_mem hin)
    iterate 13 walk1
    refine join_path (Rm.le (Rm.deeper (n := 149) hA _) (by decide)) (by walk_at "OWN") (hg.take i) hgn rfl (Nat.le_trans (pathS_take_le ns i) hz) (hnz n (hn' ▸ List.getElem_mem hin)) ?_
    intro s₆ g₆ t₆ O₆ hle₆
    iterate 2 walk1
    refine hK _ _ _ [] (by walk_at "OWN") (by walk_at "LE") ?_
    refine ⟨rfl, t₆, ?_⟩
    rw [e3]; exact rfl
  · intro s' g' m' fr' O' hle' ⟨hfr, t₁, hm⟩
    subst hfr
    rw [List.length_map, List.take_length] at hm
    iterate 3 walk1
    exact k _ _ _ (by walk_at "OWN") (by walk_at "LE")
end

end
section
/-! lists of texts, compared -/
def Oks (l : List Str) : Prop := ∀ x ∈ l, x.cps.all (· < 0x110000) = true
def dS (l : List Str) : PyData := .list (l.map .str)
theorem canLay_strs : ∀ {l : List Str}, Oks l → PyData.canLayAll0 (l.map PyData.str) = true
  | [], _ => rfl
  | x :: l, h => by
    show (PyData.canLay0 (.str x) && PyData.canLayAll0 (l.map PyData.str)) = true
    rw [canLay_strs fun y hy => h y (.tail _ hy), Bool.and_true]
    exact h x (.head _)
theorem depth_strs : ∀ l : List Str, PyData.depthAll (l.map PyData.str) = 0
  | [] => rfl
  | x :: l => by simp [PyData.depthAll, PyData.depth, depth_strs l]
theorem shaped_strs {l : List Str} (h : Oks l) : SeqAt.shaped (dS l) = true := by
  simp [SeqAt.shaped, dS, PyData.canLay0, canLay_strs h, PyData.depth, depth_strs]
theorem eqv_strs : ∀ l m : List Str, PyData.eqvAll (l.map PyData.str) (m.map PyData.str) = decide (l = m)
  | [], [] => by simp [PyData.eqvAll]
  | [], _ :: _ => by simp [PyData.eqvAll]
  | _ :: _, [] => by simp [PyData.eqvAll]
  | a :: r, b :: t => by
    simp only [List.map_cons, PyData.eqvAll, PyData.eqv, eqv_strs r t]
    by_cases h : a = b <;> by_cases h' : r = t <;> simp [h, h']
theorem eqv_dS (l m : List Str) : PyData.eqv (dS l) (dS m) = decide (l = m) := eqv_strs l m
section
variable {W : Wd} {prog : Program} {A : Around} {E : Value → Shared → Prop} {g : Fz} {fs : Fs} {fr : Ob} {gl : Gs} {s : Shared}
theorem readsAll_strs {h : Heap} : ∀ {l : List Str} {vs : List Value}, SVs l vs → ReadsAll h vs (l.map PyData.str) []
  | [], [], _ => .nil
  | x :: l, v :: vs, ⟨⟨t, hv⟩, hr⟩ => by subst hv; exact ReadsAll.cons (.str x t) (readsAll_strs hr)
  | [], _ :: _, h => h.elim
  | _ :: _, [], h => h.elim
theorem reads_dS {a : Addr} {l : List Str} {vs : List Value} (O : Own W g fs fr gl s) (hG : GL g a vs) (hv : SVs l vs) : Reads s.heap (.ref a) (dS l) [a] := by
  obtain ⟨o, ho, hc, n, hd⟩ := hG.is O
  exact reads_list_at ho hc hd (by simpa using readsAll_strs hv)
theorem roomU (hA : Rm A 10) : A.units + 64 < cLine := by have := hA.un; show A.units + 64 < 9900; omega
theorem neStrs {a b : Addr} {l m : List Str} {vs us : List Value} {Q : Value → Shared → Prop} (hA : Rm A 10) (O : Own W g fs fr gl s) (ha : GL g a vs) (hv : SVs l vs) (hb : GL g b us) (hu : SVs m us) (hl : Oks l) (hm : Oks m) (h : Q (.bool (!decide (l = m))) s) :
    wpAny (model prog W.w) A (compareOp .NotEq (.ref a) (.ref b)) Q E s :=
  ne_dataH (reads_dS O ha hv) (reads_dS O hb hu) (shaped_strs hl) (shaped_strs hm) (roomU hA) (by rw [eqv_dS]; exact h)
theorem eqStrs {a b : Addr} {l m : List Str} {vs us : List Value} {Q : Value → Shared → Prop} (hA : Rm A 10) (O : Own W g fs fr gl s) (ha : GL g a vs) (hv : SVs l vs) (hb : GL g b us) (hu : SVs m us) (hl : Oks l) (hm : Oks m) (h : Q (.bool (decide (l = m))) s) :
    wpAny (model prog W.w) A (compareOp .Eq (.ref a) (.ref b)) Q E s :=
  eq_dataH (reads_dS O ha hv) (reads_dS O hb hu) (shaped_strs hl) (shaped_strs hm) (roomU hA) (by rw [eqv_dS]; exact h)
/-- two lists of lists of texts, alike -/
theorem neSame2 {a b a1 a2 b1 b2 : Addr} {l m : List Str} {v1 v2 u1 u2 : List Value} {Q : Value → Shared → Prop} (hA : Rm A 10) (O : Own W g fs fr gl s) (ha : GL g a [.ref a1, .ref a2]) (hb : GL g b [.ref b1, .ref b2])
    (h1 : GL g a1 v1) (k1 : SVs l v1) (h2 : GL g a2 v2) (k2 : SVs m v2) (h3 : GL g b1 u1) (k3 : SVs l u1) (h4 : GL g b2 u2) (k4 : SVs m u2) (hl : Oks l) (hm : Oks m) (h : Q (.bool false) s) :
    wpAny (model prog W.w) A (compareOp .NotEq (.ref a) (.ref b)) Q E s := by
  obtain ⟨o, ho, hc, n, hd⟩ := ha.is O
  obtain ⟨o', ho', hc', n', hd'⟩ := hb.is O
  have r1 : Reads s.heap (.ref a) (.list [dS l, dS m]) _ := reads_list_at ho hc hd (.cons (reads_dS O h1 k1) (.cons (reads_dS O h2 k2) .nil))
  have r2 : Reads s.heap (.ref b) (.list [dS l, dS m]) _ := reads_list_at ho' hc' hd' (.cons (reads_dS O h3 k3) (.cons (reads_dS O h4 k4) .nil))
  have hs : SeqAt.shaped (.list [dS l, dS m]) = true := by
    simp [SeqAt.shaped, dS, PyData.canLay0, PyData.canLayAll0, canLay_strs hl, canLay_strs hm, PyData.depth, PyData.depthAll, depth_strs]
  refine ne_dataH r1 r2 hs hs (roomU hA) ?_
  have e : PyData.eqv (.list [dS l, dS m]) (.list [dS l, dS m]) = true := by simp [PyData.eqv, PyData.eqvAll, eqv_dS]
  rw [e]; exact h
end

end
section
/-! split and join; slices of lists -/
section
open Builtin Builtin.Str
variable {W : Wd} {prog : Program} {A : Around} {E : Value → Shared → Prop} {g : Fz} {fs : Fs} {fr : Ob} {gl : Gs} {s : Shared}
theorem svs_numbered : ∀ (tk : Nat) (l : List Str), SVs l (strValues (numbered tk l))
  | _, [] => trivial
  | tk, x :: l => ⟨⟨tk, rfl⟩, svs_numbered (tk + 1) l⟩
theorem splitO {x y : Str} {t u : Tok} {l : List Str} {Q : Value → Shared → Prop} (O : Own W g fs fr gl s) (hl : Txt.split x y = l) (hy : (y.length == 0) = false) (hsz : x.length ≤ 100000)
    (h : ∀ s' g' D vs, Own W g' fs fr gl s' → g.Le g' → GL g' D vs → SVs l vs → Q (.ref D) s') : wpAny (model prog W.w) A (call (.builtin "str.split") [.str x t, .str y u]) Q E s := by
  have hSZ : sizeLine = 16777216 := rfl
  have hsz2 : (partsBetween x (occurrences x y 0 x.length (x.length + 1)) y.length).length ≤ sizeLine := by
    rw [length_partsBetween]
    have := StrLaws.occ_length_le x y 0 x.length (x.length + 1)
    omega
  have fin : ∀ (vs : List Value) (tk : Nat), SVs l vs → Q (.ref s.heap.objs.size) { s with toks := tk, heap := s.heap.push (lstO vs) } := fun vs tk hv => by
    have p := pushed O (lstO vs) rfl tk
    exact h _ _ _ vs p.2 p.1 (GL.put _ _ _ 0) hv
  cases h1 : (decide (x.length < y.length) || decide (strKind x < strKind y))
  · cases hf : (occurrences x y 0 x.length (x.length + 1)).isEmpty
    · refine call_meets PySem.F.slot_str_split (typeIs_str _ _ _) PySem.F.entry_str_split (PySem.F.args_str_split_2 _ _) (meets_str_split_sep x y t u h1 hy hf (by omega) hsz2) ?_
      show wants Q E _ { s with toks := _, heap := s.heap.push { cls := .type "list", data := .seq (strsFrom s.toks (partsBetween x (occurrences x y 0 x.length (x.length + 1)) y.length)).toArray } }
      rw [strsFrom_eq]
      refine fin _ _ ?_
      have e : l = partsBetween x (occurrences x y 0 x.length (x.length + 1)) y.length := hl.symm.trans ((if_neg (ne_true_of_eq_false h1)).trans (if_neg (ne_true_of_eq_false hf)))
      rw [e]; exact svs_numbered _ _
    · refine call_meets PySem.F.slot_str_split (typeIs_str _ _ _) PySem.F.entry_str_split (PySem.F.args_str_split_2 _ _) (meets_str_split_not_found x y t u h1 hy hf) ?_
      have e : l = [x] := hl.symm.trans ((if_neg (ne_true_of_eq_false h1)).trans (if_pos hf))
      subst e
      exact fin [.str x t] _ ⟨⟨t, rfl⟩, trivial⟩
  · refine call_meets PySem.F.slot_str_split (typeIs_str _ _ _) PySem.F.entry_str_split (PySem.F.args_str_split_2 _ _) (meets_str_split_cannot_occur x y t u h1) ?_
    have e : l = [x] := hl.symm.trans (if_pos h1)
    subst e
    exact fin [.str x t] _ ⟨⟨t, rfl⟩, trivial⟩
theorem strValues_of : ∀ {l : List Str} {vs : List Value}, SVs l vs → ∃ p : List (Str × Tok), vs = strValues p ∧ p.map (·.1) = l
  | [], [], _ => ⟨[], rfl, rfl⟩
  | x :: l, v :: vs, ⟨⟨t, hv⟩, hr⟩ => by
    obtain ⟨p, rfl, hp⟩ := strValues_of hr
    subst hv
    exact ⟨(x, t) :: p, rfl, by rw [List.map_cons, hp]⟩
  | [], _ :: _, h => h.elim
  | _ :: _, [], h => h.elim
theorem foldl_len (sep : Str) : ∀ (l : List Str) (n : Nat), l.foldl (fun a (x : Str) => a + x.length + sep.length) n = n + (l.map (·.length)).sum + l.length * sep.length
  | [], n => by simp
  | x :: l, n => by
    rw [List.foldl_cons, foldl_len sep l, List.map_cons, List.sum_cons, List.length_cons, Nat.add_mul]; omega
theorem joinO {x z : Str} {t : Tok} {D : Addr} {l : List Str} {vs : List Value} {Q : Value → Shared → Prop} (O : Own W g fs fr gl s) (hG : GL g D vs) (hv : SVs l vs) (hz : Txt.join x l = z) (hsz : (l.map (·.length)).sum + l.length * x.length ≤ 100000)
    (h : ∀ s' t', Own W g fs fr gl s' → Q (.str z t') s') : wpAny (model prog W.w) A (call (.builtin "str.join") [.str x t, .ref D]) Q E s := by
  obtain ⟨p, rfl, hp⟩ := strValues_of hv
  refine SC.join (hG.is O) hp ?_ fun t' k => hz ▸ h _ t' (O.tok k)
  unfold JoinOk tooLong
  rw [List.foldl_toArray, foldl_len]
  have hSZ : sizeLine = 16777216 := rfl
  simp; omega

/-! slices -/
theorem svs_drop : ∀ {l : List Str} {vs : List Value} (n : Nat), SVs l vs → SVs (l.drop n) (vs.drop n)
  | _, _, 0, h => h
  | [], [], n + 1, _ => trivial
  | _ :: _, _ :: _, n + 1, h => svs_drop n h.2
  | [], _ :: _, _ + 1, h => h.elim
  | _ :: _, [], _ + 1, h => h.elim
theorem svs_take : ∀ {l : List Str} {vs : List Value} (n : Nat), SVs l vs → SVs (l.take n) (vs.take n)
  | _, _, 0, _ => trivial
  | [], [], n + 1, _ => trivial
  | _ :: _, _ :: _, n + 1, h => ⟨h.1, svs_take n h.2⟩
  | [], _ :: _, _ + 1, h => h.elim
  | _ :: _, [], _ + 1, h => h.elim
theorem svs_append : ∀ {l m : List Str} {vs us : List Value}, SVs l vs → SVs m us → SVs (l ++ m) (vs ++ us)
  | [], _, [], _, _, h => h
  | _ :: _, _, _ :: _, _, h, h' => ⟨h.1, svs_append h.2 h'⟩
  | [], _, _ :: _, _, h, _ => h.elim
  | _ :: _, _, [], _, h, _ => h.elim
theorem svs_reverse : ∀ {l : List Str} {vs : List Value}, SVs l vs → SVs l.reverse vs.reverse
  | [], [], _ => trivial
  | x :: l, v :: vs, h => by rw [List.reverse_cons, List.reverse_cons]; exact svs_append (svs_reverse h.2) ⟨h.1, trivial⟩
  | [], _ :: _, h => h.elim
  | _ :: _, [], h => h.elim
theorem svs_length {l : List Str} {vs : List Value} (h : SVs l vs) : vs.length = l.length := by have := h.length; rw [List.length_map] at this; exact this.symm
variable {value slice : Expr} {a b : Addr} {l : List Str} {vs : List Value} {Q : Value → Shared → Prop}
theorem sliceFrom {n : Int} {k : Nat} {t : Tok} (O : Own W g fs fr gl s) (hb : GL g b vs) (ha : g a = some (slcO (.int n t) .none .none)) (hn : n = k) (hz : vs.length ≤ sizeLine)
    (h : ∀ s' g' c, Own W g' fs fr gl s' → g.Le g' → GL g' c (vs.drop k) → Q (.ref c) s')
    (hs : subscripted slice false (.ref b) (.ref a) = operate [.ref a, .ref b] (getItem (.ref b) (.ref a)) := by with_unfolding_all rfl) : wpAny (model prog W.w) A (subscriptTail value slice (.ref b) (.ref a)) Q E s := by
  subst hn
  exact lstSlice O hb ha (lo := some k) (hi := none) (st := none) (.int _ _) .none .none nofun (fun s' g' c hle O' hG => h s' g' c O' hle (by rw [slicePick_from'] at hG; simpa using hG)) hz hs
theorem sliceTo {n : Int} {k : Nat} {t : Tok} (O : Own W g fs fr gl s) (hb : GL g b vs) (ha : g a = some (slcO .none (.int n t) .none)) (hn : n = k) (hz : vs.length ≤ sizeLine)
    (h : ∀ s' g' c, Own W g' fs fr gl s' → g.Le g' → GL g' c (vs.take k) → Q (.ref c) s')
    (hs : subscripted slice false (.ref b) (.ref a) = operate [.ref a, .ref b] (getItem (.ref b) (.ref a)) := by with_unfolding_all rfl) : wpAny (model prog W.w) A (subscriptTail value slice (.ref b) (.ref a)) Q E s := by
  subst hn
  exact lstSlice O hb ha (lo := none) (hi := some k) (st := none) .none (.int _ _) .none nofun (fun s' g' c hle O' hG => h s' g' c O' hle (by rw [slicePick_upto'] at hG; simpa using hG)) hz hs
theorem sliceLast {t : Tok} (O : Own W g fs fr gl s) (hb : GL g b vs) (ha : g a = some (slcO (.int (-1) t) .none .none)) (hz : vs.length ≤ sizeLine)
    (h : ∀ s' g' c, Own W g' fs fr gl s' → g.Le g' → GL g' c (vs.drop (vs.length - 1)) → Q (.ref c) s')
    (hs : subscripted slice false (.ref b) (.ref a) = operate [.ref a, .ref b] (getItem (.ref b) (.ref a)) := by with_unfolding_all rfl) : wpAny (model prog W.w) A (subscriptTail value slice (.ref b) (.ref a)) Q E s :=
  lstSlice O hb ha (lo := some (-1)) (hi := none) (st := none) (.int _ _) .none .none nofun (fun s' g' c hle O' hG => h s' g' c O' hle (by have := slicePick_last vs.toArray 1 (by decide); rw [show (-((1 : Nat) : Int)) = -1 from rfl] at this; rw [this] at hG; simpa using hG)) hz hs
theorem sliceRev {t : Tok} (O : Own W g fs fr gl s) (hb : GL g b vs) (ha : g a = some (slcO .none .none (.int (-1) t))) (hz : vs.length ≤ sizeLine)
    (h : ∀ s' g' c, Own W g' fs fr gl s' → g.Le g' → GL g' c vs.reverse → Q (.ref c) s')
    (hs : subscripted slice false (.ref b) (.ref a) = operate [.ref b, .ref a] (getItem (.ref b) (.ref a)) := by with_unfolding_all rfl) : wpAny (model prog W.w) A (subscriptTail value slice (.ref b) (.ref a)) Q E s :=
  let hl := hb.is O
  let p := pushed O { cls := .type "list", data := .seq (slicePick vs.toArray none none (some (-1))) } rfl s.toks
  tail_any hl.typeIs list_getitem_lookup (wpAny_getItem_list_slice hl ⟨_, O.fz _ _ ha, rfl, rfl⟩ .none .none (.int _ _) (by decide)
    (h _ _ _ p.2 p.1 ⟨_, Fz.put_self _ _ _, rfl, 0, by rw [krv_pick]⟩) (by simpa using hz)) hs
theorem lLen {n : Nat} (O : Own W g fs fr gl s) (hb : GL g b vs) (hn : vs.length = n) (hz : n ≤ sizeLine) (h : ∀ s' t', Own W g fs fr gl s' → Q (.int n t') s') : wpAny (model prog W.w) A (call (.builtin "len") [.ref b]) Q E s := by
  have hSZ : sizeLine = 16777216 := rfl
  refine PyProof.Rows.len_list (hb.is O) (by rw [List.size_toArray]; omega) ?_
  rw [List.size_toArray, hn]
  exact h _ _ (O.tok _)
theorem tNegI {n m : Int} {t : Tok} (O : Own W g fs fr gl s) (hm : -n = m) (h : ∀ s' t', Own W g fs fr gl s' → Q (.int m t') s') : wpAny (model prog W.w) A (unaryOp .USub (.int n t)) Q E s :=
  PySem.P.neg_int (hm ▸ h _ _ (O.tok _))
theorem addL {l b : Addr} {vs ws : List Value} {Q : Value → Shared → Prop} (O : Own W g fs fr gl s) (hl : GL g l vs) (hb : GL g b ws) (hsz : vs.length + ws.length ≤ sizeLine)
    (h : ∀ s' g' c, Own W g' fs fr gl s' → g.Le g' → GL g' c (vs ++ ws) → Q (.ref c) s') : wpAny (model prog W.w) A (binaryOp .Add (.ref l) (.ref b)) Q E s := by
  have p := pushed O (lstO (vs ++ ws)) rfl s.toks
  have fin := h _ _ _ p.2 p.1 (GL.put _ _ _ _)
  obtain ⟨⟨cls, dd, data, sl⟩, ho, hc, n, hd⟩ := hl.is O
  obtain ⟨⟨cls2, dd2, data2, sl2⟩, ho2, hc2, n2, hd2⟩ := hb.is O
  simp only at hc hd hc2 hd2
  subst hc hd hc2 hd2
  have e : vs.toArray ++ ws.toArray = (vs ++ ws).toArray := by simp
  refine concat_meets ⟨_, ho, rfl⟩ ⟨_, ho2, rfl⟩ noFill_list_add seq_list_add PySem.F.slot_list_add PySem.F.entry_list_add (PySem.F.args_list_add_2 _ _) (PyProof.Rows.list_addW l b vs.toArray ws.toArray n n2 dd dd2 sl sl2 (by simpa using hsz)) ⟨ho, ho2, ?_⟩
  rw [e]
  exact fin
end

end
section
/-! the three names -/
def Nm (n : Str) : Prop := n = "a" ∨ n = "ab" ∨ n = "c"
def NmP (ns : List Str) : Prop := ∀ n ∈ ns, Nm n
theorem Nm.good {n : Str} (h : Nm n) : GoodN n := by
  rcases h with rfl | rfl | rfl <;> exact ⟨by decide +kernel, by decide +kernel⟩
theorem NmP.good {ns : List Str} (h : NmP ns) : GoodP ns := fun n hn => (h n hn).good
theorem Nm.len {n : Str} (h : Nm n) : n.length ≤ 2 := by rcases h with rfl | rfl | rfl <;> decide
theorem Nm.ok {n : Str} (h : Nm n) : n.cps.all (· < 0x110000) = true := by rcases h with rfl | rfl | rfl <;> decide +kernel
theorem NmP.oks {ns : List Str} (h : NmP ns) : Oks ns := fun n hn => (h n hn).ok
theorem NmP.take {ns : List Str} (h : NmP ns) (k : Nat) : NmP (ns.take k) := fun n hn => h n (List.mem_of_mem_take hn)
theorem NmP.drop {ns : List Str} (h : NmP ns) (k : Nat) : NmP (ns.drop k) := fun n hn => h n (List.mem_of_mem_drop hn)
theorem NmP.append {a b : List Str} (h : NmP a) (h' : NmP b) : NmP (a ++ b) := fun n hn => (List.mem_append.mp hn).elim (h n) (h' n)
theorem catP_len : ∀ {ns : List Str}, NmP ns → (catP ns).length ≤ 3 * ns.length
  | [], _ => Nat.le_refl _
  | n :: ns, h => by
    rw [catP_cons, List.length_cons, List.length_append, List.length_cons]
    have h1 := catP_len (ns := ns) fun m hm => h m (.tail _ hm)
    have h2 : n.cps.toList.length ≤ 2 := by have := (h n (.head _)).len; rw [Array.length_toList]; exact this
    omega
theorem NmP.path_len {ns : List Str} (h : NmP ns) : (pathS ns).length ≤ 3 * ns.length + 1 := by
  by_cases e : ns = []
  · subst e; rw [pathS_nil, mk_length]; decide
  · rw [pathS_ne e, mk_length]; have := catP_len h; omega
theorem catP_ok : ∀ {ns : List Str}, NmP ns → ∀ c ∈ catP ns, c < 0x110000
  | [], _, c, hc => by cases hc
  | n :: ns, h, c, hc => by
    rw [catP_cons, List.mem_cons, List.mem_append] at hc
    rcases hc with rfl | hc | hc
    · decide
    · have := (h n (.head _)).ok
      rw [Array.all_eq_true_iff_forall_mem] at this
      exact of_decide_eq_true (this c (Array.mem_toList_iff.mp hc))
    · exact catP_ok (fun m hm => h m (.tail _ hm)) c hc
theorem NmP.path_ok {ns : List Str} (h : NmP ns) : (pathS ns).cps.all (· < 0x110000) = true := by
  rw [Array.all_eq_true_iff_forall_mem]
  intro c hc
  by_cases e : ns = []
  · subst e
    rw [pathS_nil] at hc
    have : c ∈ ([47] : List Nat) := by simpa [mk] using hc
    rw [List.mem_singleton.mp this]; decide
  · rw [pathS_ne e] at hc
    have : c ∈ catP ns := by simpa [mk] using hc
    exact decide_eq_true (catP_ok h c this)
theorem NmP.sum {ns : List Str} (h : NmP ns) : (ns.map (·.length)).sum ≤ 2 * ns.length := by
  induction ns with
  | nil => exact Nat.le_refl _
  | cons n ns ih =>
    rw [List.map_cons, List.sum_cons, List.length_cons]
    have := (h n (.head _)).len
    have := ih fun m hm => h m (.tail _ hm)
    omega
theorem nmS_nm (i : Nat) : Nm (nmS i) := by
  unfold nmS; split
  · exact .inl rfl
  · exact .inr (.inl rfl)
  · exact .inr (.inr rfl)
theorem namesOf_nm (y : Nat) : NmP (namesOf y) := fun n hn => by
  obtain ⟨k, _, rfl⟩ := List.mem_map.mp hn
  exact nmS_nm _
theorem namesOf_len (y : Nat) : 1 ≤ (namesOf y).length ∧ (namesOf y).length ≤ 3 := by
  rw [namesOf, List.length_map, List.length_range]
  have := Nat.mod_lt y (show 0 < 3 by decide)
  omega
theorem anc_mem {ns : List Str} {x : Str} : ∀ {n : Nat}, x ∈ anc ns n ↔ ∃ k, k < n ∧ x = pathS (ns.take (k + 1))
  | 0 => by simp [anc]
  | n + 1 => by
    rw [anc, List.mem_cons, anc_mem (n := n)]
    constructor
    · rintro (rfl | ⟨k, hk, rfl⟩)
      · exact ⟨n, Nat.lt_succ_self _, rfl⟩
      · exact ⟨k, Nat.lt_succ_of_lt hk, rfl⟩
    · rintro ⟨k, hk, rfl⟩
      by_cases e : k = n
      · subst e; exact .inl rfl
      · exact .inr ⟨k, by omega, rfl⟩
theorem anc_length (ns : List Str) : ∀ n, (anc ns n).length = n
  | 0 => rfl
  | n + 1 => by rw [anc, List.length_cons, anc_length ns n]
theorem anc_oks {ns : List Str} (h : NmP ns) (n : Nat) : Oks (anc ns n) := fun x hx => by
  obtain ⟨k, _, rfl⟩ := anc_mem.mp hx
  exact (h.take _).path_ok

end
section
/-! _law_fronts -/
def frontsL (ns os : List Str) (i : Nat) : List Str := (List.range i).flatMap fun j => if ns.take (ns.length - j) = os.take (ns.length - j) then [] else [pathS (ns.take (ns.length - j))]
section
variable {W : Wd} {prog : Program} {A : Around} {E : Value → Shared → Prop} {g : Fz} {fs : Fs} {fr : Ob} {gl : Gs} {s : Shared}
theorem fronts_spec {ns os : List Str} {x y : Str} {t u : Tok} {Q : Value → Shared → Prop} (hA : Rm A 140) (O : Own W g fs fr gl s) (hns : NmP ns) (hos : NmP os) (h1 : ns ≠ []) (h2 : os ≠ []) (hx : x = pathS ns) (hy : y = pathS os) (hz : ns.length ≤ 1000) (hz' : os.length ≤ 1000)
    (k : ∀ s' g' a vs, Own W g' fs fr gl s' → g.Le g' → GL g' a vs → SVs (frontsL ns os ns.length) vs → Q (.ref a) s') : wpAny (model prog W.w) A (call (.ref 211) [.str x t, .str y u]) Q E s := by
  have hs : Str.ofString "/" = mk [47] := slashS
  have e1 : Txt.split x "/" = mk [] :: ns := by rw [hx, hs]; exact split_path hns.good h1
  have e2 : Txt.split y "/" = mk [] :: os := by rw [hy, hs]; exact split_path hos.good h2
  have l1 : x.length ≤ 100000 := by rw [hx]; have := hns.path_len; omega
  have l2 : y.length ≤ 100000 := by rw [hy]; have := hos.path_len; omega
  have hSZ : sizeLine = 16777216 := rfl
  clear hx hy
  refine wpAny_call (call_cells [("place", .str x t), ("other", .str y u)] (fun z => if z = "other" then some (.str y u) else if z = "place" then some (.str x t) else none) (fun _ => none) hA.room O (by kernel_rfl) rfl (by kernel_rfl) rfl (by kernel_rfl) (by intro L; kernel_rfl) (by intro L; exact (by decide : (["others", "names"] : List Str).Nodup)) (by intro L; kernel_rfl) (by intro L; kernel_rfl) (by kernel_rfl) ?_)
  intro s₁ L ob hob O₁
  have hc1 := hob "names" (L + 1) (by rfl)
  have hc2 := hob "others" (L + 2) (by rfl)
  have O₂ : Own W g ((L, fun z => if z = "other" then some (.str y u) else if z = "place" then some (.str x t) else none) :: fs) ((L + 2, ob "others") :: (L + 1, ob "names") :: fr) gl s₁ := O₁
  clear O₁ hob
  iterate 12 walk1
  refine splitO (by walk_at "OWN") e1 (by decide) l1 ?_
  intro s₂ g₂ D₂ v₂ O₃ hle₂ hG₂ hv₂
  iterate 6 walk1
  refine sliceFrom (k := 1) (by walk_at "OWN") (by walk_at "FZ") (by assumption) rfl (by rw [svs_length hv₂, List.length_cons]; omega) ?_
  intro s₃ g₃ D₃ O₄ hle₃ hG₃
  iterate 9 walk1
  refine splitO (by walk_at "OWN") e2 (by decide) l2 ?_
  intro s₄ g₄ D₄ v₄ O₅ hle₄ hG₄ hv₄
  iterate 6 walk1
  refine sliceFrom (k := 1) (by walk_at "OWN") (by walk_at "FZ") (by assumption) rfl (by rw [svs_length hv₄, List.length_cons]; omega) ?_
  intro s₅ g₅ D₅ O₆ hle₅ hG₅
  have hn₃ : SVs ns (v₂.drop 1) := svs_drop 1 hv₂
  have hn₅ : SVs os (v₄.drop 1) := svs_drop 1 hv₄
  generalize v₂.drop 1 = w₃ at hG₃ hn₃
  generalize v₄.drop 1 = w₅ at hG₅ hn₅
  iterate 5 walk1
  rename_i g₆ T₆ hle₆ O₆' hT₆ s₆ O₇
  refine stO (c := L + 1) (v₀ := none) (O₇.permO (.swap _ _ _)) (by rfl) (by rfl) hc1 ?_
  intro s₇ o₁ O₈ ho₁
  iterate 2 walk1
  refine stO (c := L + 2) (v₀ := none) (O₈.permO (.swap _ _ _)) (by rfl) (by rfl) hc2 ?_
  intro s₈ o₂ O₉ ho₂
  have p := O₉.shut
  have q := p.2.shut
  have hle₇ := p.1.trans q.1
  have c2 : GC ((g₆.put (L + 2) o₂).put (L + 1) o₁) (L + 2) (.ref D₅) := ⟨o₂, q.1 _ _ (Fz.put_self _ _ _), ho₂⟩
  have c1 : GC ((g₆.put (L + 2) o₂).put (L + 1) o₁) (L + 1) (.ref D₃) := ⟨o₁, Fz.put_self _ _ _, ho₁⟩
  have O₁₀ := q.2
  clear p q
  generalize (g₆.put (L + 2) o₂).put (L + 1) o₁ = g₇ at O₁₀ c1 c2 hle₇
  have hG₃' : GL g₇ D₃ w₃ := by walk_at "FZ"
  have hG₅' : GL g₇ D₅ w₅ := by walk_at "FZ"
  have hle' : g.Le g₇ := by walk_at "LE"
  clear O₂ O₃ O₄ O₅ O₆ O₆' O₇ O₈ O₉ hG₃ hG₅
  iterate 3 walk1
  refine listcomp_ [("others", L + 2), ("names", L + 1)] (by kernel_rfl) (by kernel_rfl) (by kernel_rfl) ?_
  iterate 10 walk1
  have hlen : w₃.length = ns.length := svs_length hn₃
  refine lLen (by walk_at "OWN") hG₃' hlen (by omega) ?_
  intro s₁₁ t₁₁ O₁₁
  iterate 7 walk1
  refine range3_ (by walk_at "OWN") (by decide) (PyProof.noPylong_small (by decide)) ?_
  intro s₁₂ g₁₂ r _ _ _ O₁₂ hle₁₂ hr
  refine iter_range O₁₂ hr (small_down (by omega)) (rangeSize_down _) ?_
  intro s₁₃ J O₁₃ hI hself
  have c1 := c1.mono hle₁₂
  have c2 := c2.mono hle₁₂
  have hG₃ := hG₃'.mono hle₁₂
  have hG₅ := hG₅'.mono hle₁₂
  have hlen5 : w₅.length = os.length := svs_length hn₅
  refine comp_list (fr := []) (F := []) (G := []) (R := [(J, rngO ns.length ns.length (-1))]) (fun i g ys fr' => fr' = [] ∧ SVs (frontsL ns os i) ys) (fun _ _ _ _ _ h _ => h) (Rm.le (Rm.deeper (n := 139) hA _) (by decide)) hI hself O₁₃ ⟨rfl, trivial⟩ (by kernel_rfl) (by kernel_rfl) (by kernel_rfl) (by rw [upI_length]; omega) ?_ ?_
  · intro C i p v g' ys m' fr' fs' fr₀ gl' s' hi hv ⟨hfr, hys⟩ hle₁₄ hm' O' Kt Kf E' hKt hKf
    subst hfr
    obtain ⟨hi, rfl⟩ := upI_get _ _ _ _ _ hi
    obtain ⟨tv, rfl⟩ := hv
    have c1 := c1.mono hle₁₄
    have c2 := c2.mono hle₁₄
    have hG₃ := hG₃.mono hle₁₄
    have hG₅ := hG₅.mono hle₁₄
    have hk : (ns.length : Int) + -1 * (i : Int) = ((ns.length - i : Nat) : Int) := by omega
    rw [hk] at hm'
    refine tests1 ?_
    iterate 9 walk1
    refine sliceTo (k := ns.length - i) (by walk_at "OWN") (by walk_at "FZ") (by assumption) rfl (by omega) ?_
    intro s₁₄ g₁₄ a₁₄ O₁₄ hle₁₅ hT₁
    iterate 8 walk1
    refine sliceTo (k := ns.length - i) (by walk_at "OWN") (by walk_at "FZ") (by assumption) rfl (by omega) ?_
    intro s₁₅ g₁₅ a₁₅ O₁₅ hle₁₆ hT₂
    repeat' (first | walk1 | (dsimp only; walk1))
    refine neStrs (Rm.le (Rm.deeper (n := 139) hA _) (by decide)) (by walk_at "OWN") (by walk_at "FZ") (svs_take _ hn₃) (by walk_at "FZ") (svs_take _ hn₅) (hns.take _).oks (hos.take _).oks ?_
    have hfl : frontsL ns os (i + 1) = frontsL ns os i ++ (if ns.take (ns.length - i) = os.take (ns.length - i) then [] else [pathS (ns.take (ns.length - i))]) := by
      unfold frontsL; rw [List.range_succ, List.flatMap_append]; simp
    by_cases hd : ns.take (ns.length - i) = os.take (ns.length - i)
    · rw [if_pos hd, List.append_nil] at hfl
      rw [decide_eq_true hd]
      iterate 2 walk1
      exact hKf _ _ [] (by walk_at "OWN") (by walk_at "LE") ⟨rfl, by rw [hfl]; exact hys⟩
    · rw [if_neg hd] at hfl
      rw [decide_eq_false hd]
      iterate 17 walk1
      refine sliceTo (k := ns.length - i) (by walk_at "OWN") (by walk_at "FZ") (by assumption) rfl (by omega) ?_
      intro s₁₆ g₁₆ a₁₆ O₁₆ hle₁₇ hT₃
      iterate 1 walk1
      have hne : ns.take (ns.length - i) ≠ [] := by
        intro q; rw [List.take_eq_nil_iff] at q
        rcases q with q | q
        · omega
        · exact h1 q
      have hsl : (Str.ofString "/").length = 1 := by decide
      have hsum := (hns.take (ns.length - i)).sum
      have htl : (ns.take (ns.length - i)).length ≤ 1000 := by rw [List.length_take]; omega
      have hjz : Str.ofString "/" ++ Txt.join "/" (ns.take (ns.length - i)) = pathS (ns.take (ns.length - i)) := by rw [hs, beq_iff_eq.mp (PyProof.Rows.join_plain_closes (mk [47]) _)]; exact slash_join hne
      have hpl := (hns.take (ns.length - i)).path_len
      have hjl : (Txt.join "/" (ns.take (ns.length - i))).length ≤ 100000 := by
        have := congrArg Str.length hjz
        rw [Str.length_append, hsl] at this; omega
      refine joinO (by walk_at "OWN") (by walk_at "FZ") (svs_take _ hn₃) rfl (by rw [hsl]; omega) ?_
      intro s₁₇ t₁₇ O₁₇
      refine tAdd (by walk_at "OWN") hjz (by rw [hsl]; omega) ?_
      intro s₁₈ t₁₈ O₁₈
      exact hKt _ _ [] _ (by walk_at "OWN") (by walk_at "LE") ⟨rfl, by
        rw [hfl]
        show AllV (List.map SV _) _
        rw [List.map_append]
        exact AllV.snoc hys ⟨_, rfl⟩⟩
  · intro s' g' D ys fr' O' hG hle₁₄ ⟨hfr, hys⟩
    subst hfr
    rw [upI_length] at hys
    exact k _ _ _ _ (by walk_at "OWN") (by walk_at "LE") hG hys
end

end
section
/-! _law_added, _law_set -/
def addI (ps : List (Str × Int)) (l : List Str) (n : Int) : List (Str × Int) := l.foldl (fun ps p => putI ps p ((getI ps p).getD 0 + n)) ps
theorem addI_snoc (ps : List (Str × Int)) (l : List Str) (x : Str) (n : Int) : addI ps (l ++ [x]) n = putI (addI ps l n) x ((getI (addI ps l n) x).getD 0 + n) := by
  unfold addI; rw [List.foldl_append]; rfl
theorem putI_length (ps : List (Str × Int)) (k : Str) (n : Int) : (putI ps k n).length ≤ ps.length + 1 := by unfold putI; split <;> simp
theorem addI_length : ∀ (l : List Str) (ps : List (Str × Int)) (n : Int), (addI ps l n).length ≤ ps.length + l.length
  | [], ps, n => Nat.le_refl _
  | x :: l, ps, n => by
    show (addI (putI ps x _) l n).length ≤ _
    have h1 := addI_length l (putI ps x ((getI ps x).getD 0 + n)) n
    have h2 := putI_length ps x ((getI ps x).getD 0 + n)
    rw [List.length_cons]; omega
section
variable {W : Wd} {prog : Program} {A : Around} {E : Value → Shared → Prop} {g : Fz} {fs : Fs} {fr : Ob} {gl : Gs} {s : Shared}
theorem added_spec {d I : Addr} {o : Obj} {ps : List (Str × Int)} {l : List Str} {n : Int} {t : Tok} {F : Fs} {R : Ob} {G : Gs} {Q : Value → Shared → Prop} (hA : Rm A 140) (O : Own W g (F ++ fs) (R ++ ((d, o) :: fr)) (G ++ gl) s) (X : SrcN W prog I (l.map SV) g F R G)
    (hd : DI W prog d o ps) (hz : ps.length + l.length ≤ 100000)
    (k : ∀ s' g' o', Own W g' fs ((d, o') :: fr) gl s' → g.Le g' → DI W prog d o' (addI ps l n) → Q .none s') : wpAny (model prog W.w) A (call (.ref 218) [.ref d, .ref I, .int n t]) Q E s := by
  have hSZ : sizeLine = 16777216 := rfl
  refine wpAny_call (call_in [("book", .ref d), ("places", .ref I), ("size", .int n t)] hA.room O (by kernel_rfl) rfl (by kernel_rfl) (by kernel_rfl) (by kernel_rfl) (by kernel_rfl) ?_)
  intro s₁ L O₁
  iterate 1 walk1
  refine wpAny_For ?_
  iterate 1 walk1
  refine X _ _ _ _ _ _ _ _ (Fz.Le.refl _) (O₁.permF List.perm_middle.symm) fun s₂ F₂ R₂ G₂ J O₂ hI => ?_
  refine for_loop (fun i g m fr' => ∃ o', fr' = [(d, o')] ∧ DI W prog d o' (addI ps (l.take i) n) ∧ m "book" = some (.ref d) ∧ ∃ t, m "size" = some (.int n t)) (fun _ _ _ _ _ h _ => h) (fr := [(d, o)]) (fr₀ := fr) (Rm.le (Rm.deeper (n := 139) hA _) (by decide)) hI.iter (O₂.permF List.perm_middle) ⟨o, rfl, hd, rfl, _, rfl⟩ ?_ ?_
  · intro i p v g' m' fr' fs' fr₀ gl' s' hi hv ⟨o', hfr, hd', hm1, t', hm2⟩ hle' O' K E' hK
    subst hfr
    rw [List.getElem?_map] at hi
    obtain ⟨x, hx, rfl⟩ := Option.map_eq_some_iff.mp hi
    obtain ⟨tv, rfl⟩ := hv
    have e3 : l.take (i + 1) = l.take i ++ [x] := by rw [List.take_add_one, hx]; rfl
    have hlen := addI_length (l.take i) ps n
    have htl : (l.take i).length ≤ l.length := by rw [List.length_take]; omega
    iterate 7 walk1
    refine dMethodGet (o := o') (by walk_at "OWN") (.head _) hd' ?_
    iterate 6 walk1
    refine dGet (o := o') (by walk_at "OWN") (.head _) hd' ?_
    intro s₃ t₃ O₃
    iterate 4 walk1
    refine dSet (by walk_at "OWN") hd' (by omega) ?_
    intro s₄ o₄ O₄ hd₄
    iterate 1 walk1
    refine hK _ _ _ [(d, o₄)] (by walk_at "OWN") (by walk_at "LE") ?_
    exact ⟨o₄, rfl, by rw [e3, addI_snoc]; exact hd₄, hm1, _, hm2⟩
  · intro s' g' m' fr' O' hle' ⟨o', hfr, hd', _⟩
    subst hfr
    rw [List.length_map, List.take_length] at hd'
    iterate 1 walk1
    exact k _ _ o' (by walk_at "OWN") (by walk_at "LE") hd'
theorem set_spec {d₁ d₂ : Addr} {o₁ o₂ : Obj} {p₁ p₂ : List (Str × Int)} {ns : List Str} {x : Str} {n : Int} {t u : Tok} {Q : Value → Shared → Prop} (hA : Rm A 150) (O : Own W g fs ((d₁, o₁) :: (d₂, o₂) :: fr) gl s)
    (hd₁ : DI W prog d₁ o₁ p₁) (hd₂ : DI W prog d₂ o₂ p₂) (hns : NmP ns) (hx : x = pathS ns) (hl : ns.length ≤ 1000) (hz₁ : p₁.length ≤ 10000) (hz₂ : p₂.length ≤ 10000)
    (k : ∀ s' g' o₁' o₂', Own W g' fs ((d₁, o₁') :: (d₂, o₂') :: fr) gl s' → g.Le g' → DI W prog d₁ o₁' (putI p₁ x n) → DI W prog d₂ o₂' (addI p₂ (anc ns ns.length) (n - (getI p₁ x).getD 0)) → Q .none s') :
    wpAny (model prog W.w) A (call (.ref 225) [.ref d₁, .ref d₂, .str x t, .int n u]) Q E s := by
  have hSZ : sizeLine = 16777216 := rfl
  have hpl := hns.path_len
  refine wpAny_call (call_in [("sizes", .ref d₁), ("book", .ref d₂), ("place", .str x t), ("size", .int n u)] hA.room O (by kernel_rfl) rfl (by kernel_rfl) (by kernel_rfl) (by kernel_rfl) (by kernel_rfl) ?_)
  intro s₁ L O₁
  iterate 15 walk1
  refine anc_call (Rm.le (Rm.deeper (n := 149) hA _) (by decide)) (by walk_at "OWN") hns.good hx (by omega) ?_
  intro s₂ g₂ a F G O₂ hGG hI hle₂
  have O₃ := O₂.permF List.perm_middle
  clear O₂
  iterate 5 walk1
  refine dMethodGet (o := o₁) (by walk_at "OWN") (.head _) hd₁ ?_
  iterate 6 walk1
  refine dGet (o := o₁) (by walk_at "OWN") (.head _) hd₁ ?_
  intro s₄ t₄ O₄
  iterate 3 walk1
  obtain ⟨gi, hGG⟩ := hGG
  rename_i O₅
  refine added_spec (Rm.le (Rm.deeper (n := 149) hA _) (by decide)) ((O₅.permF List.perm_middle.symm).permO (.swap _ _ _)) (R := []) (srcN_gen hGG hI) hd₂ (by rw [anc_length]; omega) ?_
  intro s₆ g₆ o₆ O₆ hle₆ hd₆
  iterate 5 walk1
  refine dSet (O₆.permO (.swap _ _ _)) hd₁ (by omega) ?_
  intro s₇ o₇ O₇ hd₇
  iterate 1 walk1
  exact k _ _ o₇ o₆ (by walk_at "OWN") (by walk_at "LE") hd₇ hd₆
end

end
section
/-! fronts, plainly -/
def isPre (p q : List Str) : Bool := decide (q.take p.length = p)
theorem inL_mem {l : List Str} {x : Str} : inL l x = true ↔ x ∈ l := by
  unfold inL
  rw [List.any_eq_true]
  constructor
  · rintro ⟨y, hy, e⟩; rw [of_decide_eq_true e]; exact hy
  · intro h; exact ⟨x, h, decide_eq_true rfl⟩
theorem anc_in {p q : List Str} (hp : GoodP p) (hq : GoodP q) (h : p ≠ []) : inL (anc q q.length) (pathS p) = isPre p q := by
  rw [Bool.eq_iff_iff, inL_mem, anc_mem, isPre, decide_eq_true_iff]
  constructor
  · rintro ⟨k, hk, e⟩
    have e := pathS_inj hp (hq.take _) e
    rw [e, List.length_take, Nat.min_eq_left (by omega)]
  · intro e
    have hl : p.length ≤ q.length := by have := congrArg List.length e; rw [List.length_take] at this; omega
    have hp0 : p.length ≠ 0 := fun z => h (List.eq_nil_of_length_eq_zero z)
    refine ⟨p.length - 1, by omega, ?_⟩
    rw [show p.length - 1 + 1 = p.length by omega, e]
theorem anc_eq (ns : List Str) : ∀ n, anc ns n = (List.range n).map fun j => pathS (ns.take (n - j))
  | 0 => rfl
  | n + 1 => by
    rw [anc, List.range_succ_eq_map, List.map_cons, List.map_map, anc_eq ns n]
    congr 1
    apply List.map_congr_left
    intro j hj
    show _ = pathS (ns.take (n + 1 - (j + 1)))
    rw [Nat.add_sub_add_right]
theorem filter_map_flat {α : Type} (f : α → Str) (p : Str → Bool) : ∀ l : List α, (l.map f).filter p = l.flatMap fun j => if p (f j) = true then [f j] else []
  | [] => rfl
  | a :: l => by
    rw [List.map_cons, List.filter_cons, List.flatMap_cons, filter_map_flat f p l]
    split <;> rfl
theorem take_eq_iff {ns os : List Str} {k : Nat} (hk : k ≤ ns.length) : os.take (ns.take k).length = ns.take k ↔ ns.take k = os.take k := by
  rw [List.length_take, Nat.min_eq_left hk]; exact eq_comm
theorem flatMap_congr' {α β : Type} {f g : α → List β} : ∀ {l : List α}, (∀ x ∈ l, f x = g x) → l.flatMap f = l.flatMap g
  | [], _ => rfl
  | a :: l, h => by rw [List.flatMap_cons, List.flatMap_cons, h a (.head _), flatMap_congr' fun x hx => h x (.tail _ hx)]
theorem front_out {ns os : List Str} (hn : GoodP ns) (ho : GoodP os) : frontsL ns os ns.length = outOf (anc os os.length) (anc ns ns.length) := by
  unfold outOf frontsL
  rw [anc_eq ns, filter_map_flat]
  refine flatMap_congr' fun j hj => ?_
  have hj := List.mem_range.mp hj
  have hne : ns.take (ns.length - j) ≠ [] := by
    intro q; have := congrArg List.length q; rw [List.length_take, List.length_nil] at this; omega
  rw [anc_in (hn.take _) ho hne, isPre]
  have key := take_eq_iff (ns := ns) (os := os) (k := ns.length - j) (by omega)
  by_cases e : ns.take (ns.length - j) = os.take (ns.length - j)
  · rw [if_pos e, decide_eq_true (key.mpr e)]; rfl
  · rw [if_neg e, decide_eq_false (fun q => e (key.mp q))]; rfl
theorem out_rev (sub l : List Str) : outOf sub l.reverse = (outOf sub l).reverse := List.filter_reverse ..
section
variable {W : Wd} {prog : Program} {A : Around} {E : Value → Shared → Prop} {g : Fz} {fs : Fs} {fr : Ob} {gl : Gs} {s : Shared}
theorem svs_are : ∀ {l : List Str} {vs : List Value}, SVs l vs → PyProof.Rows.StrsAre vs l
  | [], [], _ => .nil
  | x :: l, v :: vs, ⟨⟨t, hv⟩, hr⟩ => by subst hv; exact .cons x t (svs_are hr)
  | [], _ :: _, h => h.elim
  | _ :: _, [], h => h.elim
theorem inStr {l : Addr} {vs : List Value} {ys : List Str} {k : Str} {t : Tok} {Q : Value → Shared → Prop} (O : Own W g fs fr gl s) (hG : GL g l vs) (hv : SVs ys vs) (h : Q (.bool (inL ys k)) s) : wpAny (model prog W.w) A (compareOp .In (.str k t) (.ref l)) Q E s := by
  refine PyProof.Rows.in_list_strs (hG.is O) (svs_are hv) ?_
  have e : (ys.any fun x => x == k) = inL ys k := by
    unfold inL; congr 1; funext x
    rw [Bool.eq_iff_iff, beq_iff_eq, decide_eq_true_iff]; exact eq_comm
  rw [e]; exact h
/-- list(_ancestry(x)), from the generator on -/
theorem list_anc {a : Addr} {l : List Str} {F : Fs} {G : Gs} {Q : Value → Shared → Prop} (hA : Rm A 150) (O : Own W g (F ++ fs) fr (G ++ gl) s) (hG : ∃ i, GG g a i) (hI : IterN W prog (.ref a) (l.map SV) g F [] G) (hz : l.length ≤ 10000)
    (k : ∀ s' g' D vs, Own W g' fs fr gl s' → g.Le g' → GL g' D vs → SVs l vs → Q (.ref D) s') : wpAny (model prog W.w) A (call (.type "list") [.ref a]) Q E s := by
  obtain ⟨i, hG⟩ := hG
  exact list_src (R := []) (Z := []) (b := false) (Rm.le hA (by decide)) noStk (gen_src hG hI.iter) O (by rw [List.length_map]; have : sizeLine = 16777216 := rfl; omega) fun s' g' S vs O' hG' hv hle => k s' g' S vs O' hle hG' hv
end

end
section
/-! sizes by lists of names, plainly -/
abbrev Zs := List (List Str × Int)
def toP (zs : Zs) : List (Str × Int) := zs.map fun z => (pathS z.1, z.2)
def getZ (zs : Zs) (k : List Str) : Option Int := (zs.find? fun z => z.1 = k).map (·.2)
def putZ (zs : Zs) (k : List Str) (n : Int) : Zs := if zs.any (fun z => z.1 = k) then zs.map (fun z => if z.1 = k then (z.1, n) else z) else zs ++ [(k, n)]
def outZ (zs : Zs) (k : List Str) : Zs := zs.filter fun z => decide (z.1 ≠ k)
def goZ (zs : Zs) (p : List Str) : Zs := zs.filter fun z => isPre p z.1
def stZ (zs : Zs) (p : List Str) : Zs := zs.filter fun z => !isPre p z.1
def GoodZ (zs : Zs) : Prop := ∀ z ∈ zs, GoodP z.1
theorem path_eq {a b : List Str} (ha : GoodP a) (hb : GoodP b) : (decide (pathS a = pathS b)) = decide (a = b) := by
  rw [Bool.eq_iff_iff, decide_eq_true_iff, decide_eq_true_iff]; exact ⟨pathS_inj ha hb, fun e => by rw [e]⟩
theorem getI_toP : ∀ {zs : Zs} {k : List Str}, GoodZ zs → GoodP k → getI (toP zs) (pathS k) = getZ zs k
  | [], _, _, _ => rfl
  | z :: zs, k, hz, hk => by
    have ih := getI_toP (zs := zs) (fun w hw => hz w (.tail _ hw)) hk
    have e := path_eq (hz z (.head _)) hk
    unfold getI getZ toP at *
    rw [List.map_cons, List.find?_cons, List.find?_cons, e]
    cases decide (z.1 = k) with
    | true => rfl
    | false => exact ih
theorem any_toP : ∀ {zs : Zs} {k : List Str}, GoodZ zs → GoodP k → ((toP zs).any fun p => p.1 = pathS k) = zs.any fun z => z.1 = k
  | [], _, _, _ => rfl
  | z :: zs, k, hz, hk => by
    have ih := any_toP (zs := zs) (fun w hw => hz w (.tail _ hw)) hk
    have e := path_eq (hz z (.head _)) hk
    unfold toP at *
    rw [List.map_cons, List.any_cons, List.any_cons, ih]
    rw [e]
theorem putI_toP {zs : Zs} {k : List Str} {n : Int} (hz : GoodZ zs) (hk : GoodP k) : putI (toP zs) (pathS k) n = toP (putZ zs k n) := by
  unfold putI putZ
  rw [any_toP hz hk]
  split
  · unfold toP
    rw [List.map_map, List.map_map]
    apply List.map_congr_left
    intro z hm
    have e : (pathS z.1 = pathS k) ↔ (z.1 = k) := ⟨pathS_inj (hz z hm) hk, fun e => by rw [e]⟩
    show (if pathS z.1 = pathS k then (pathS z.1, n) else (pathS z.1, z.2)) = _
    by_cases h : z.1 = k
    · rw [if_pos (e.mpr h)]; simp [h]
    · rw [if_neg (fun q => h (e.mp q))]; simp [h]
  · unfold toP; rw [List.map_append]; rfl
theorem outI_toP : ∀ {zs : Zs} {k : List Str}, GoodZ zs → GoodP k → outI (toP zs) (pathS k) = toP (outZ zs k)
  | [], _, _, _ => rfl
  | z :: zs, k, hz, hk => by
    have ih := outI_toP (zs := zs) (fun w hw => hz w (.tail _ hw)) hk
    have e : (pathS z.1 = pathS k) ↔ (z.1 = k) := ⟨pathS_inj (hz z (.head _)) hk, fun e => by rw [e]⟩
    unfold outI outZ toP at *
    rw [List.map_cons, List.filter_cons, List.filter_cons]
    by_cases h : z.1 = k
    · simp only [h, ne_eq, not_true_eq_false, decide_false, Bool.false_eq_true, if_false]; exact ih
    · simp only [h, ne_eq, mt e.mp h, not_false_eq_true, decide_true, if_true, List.map_cons, List.cons.injEq, true_and]; exact ih
def curZ (zs l : Zs) : Zs := zs.filter fun z => !(l.any fun w => w.1 = z.1)
theorem curZ_nil (zs : Zs) : curZ zs [] = zs := by simp [curZ]
theorem curZ_snoc (zs l : Zs) (w : List Str × Int) : outZ (curZ zs l) w.1 = curZ zs (l ++ [w]) := by
  unfold outZ curZ
  rw [List.filter_filter]
  congr 1; funext z
  rw [List.any_append, Bool.not_or, Bool.and_comm]
  congr 1
  simp only [List.any_cons, List.any_nil, Bool.or_false]
  rw [← decide_not]
  congr 1
  exact propext ⟨fun h e => h e.symm, fun h e => h e.symm⟩
theorem curZ_all (zs : Zs) (p : List Str) : curZ zs (goZ zs p) = stZ zs p := by
  unfold curZ stZ
  apply List.filter_congr
  intro z hz
  congr 1
  rw [Bool.eq_iff_iff, List.any_eq_true]
  constructor
  · rintro ⟨w, hw, e⟩
    rw [← of_decide_eq_true e]; exact (List.mem_filter.mp hw).2
  · intro h; exact ⟨z, List.mem_filter.mpr ⟨hz, h⟩, decide_eq_true rfl⟩
theorem find_nodup : ∀ {zs : Zs} {z : List Str × Int}, (zs.map (·.1)).Nodup → z ∈ zs → getZ zs z.1 = some z.2
  | w :: zs, z, hn, hm => by
    have hn := List.nodup_cons.mp hn
    unfold getZ
    rw [List.find?_cons]
    rcases List.mem_cons.mp hm with rfl | hm
    · rw [decide_eq_true rfl]; rfl
    · have : w.1 ≠ z.1 := fun e => hn.1 (by show w.1 ∈ zs.map (·.1); rw [e]; exact List.mem_map_of_mem hm)
      rw [decide_eq_false this]; exact find_nodup hn.2 hm
theorem nodup_filter {zs : Zs} {f : List Str × Int → Bool} (h : (zs.map (·.1)).Nodup) : ((zs.filter f).map (·.1)).Nodup := h.sublist ((List.filter_sublist).map _)
theorem get_cur {zs : Zs} {p : List Str} {i : Nat} {z : List Str × Int} (hn : (zs.map (·.1)).Nodup) (hi : (goZ zs p)[i]? = some z) : getZ (curZ zs ((goZ zs p).take i)) z.1 = some z.2 := by
  refine find_nodup (nodup_filter hn) (List.mem_filter.mpr ⟨(List.mem_filter.mp (List.mem_of_getElem? hi)).1, ?_⟩)
  have hg : ((goZ zs p).map (·.1)).Nodup := nodup_filter hn
  rw [Bool.not_eq_true', List.any_eq_false]
  intro w hw
  obtain ⟨j, hj, e⟩ := List.mem_take_iff_getElem.mp hw
  simp only [decide_eq_true_eq]
  intro q
  have hjl : j < (goZ zs p).length := by omega
  obtain ⟨hil, hi'⟩ := List.getElem?_eq_some_iff.mp hi
  have key := (List.getElem_inj (xs := (goZ zs p).map (·.1)) (h₀ := by rw [List.length_map]; exact hjl) (h₁ := by rw [List.length_map]; exact hil) hg).mp (by rw [List.getElem_map, List.getElem_map, e, hi', q])
  omega
theorem GoodZ.filter {zs : Zs} {f : List Str × Int → Bool} (h : GoodZ zs) : GoodZ (zs.filter f) := fun z hz => h z (List.mem_filter.mp hz).1
theorem toP_length (zs : Zs) : (toP zs).length = zs.length := List.length_map ..

end
section
/-! what the deeds do, plainly -/
def mvN (p u : List Str) (pn : Str) (q : List Str) : List Str := u ++ [pn] ++ q.drop p.length
def mvS (f : List Str → List Str) (gs zs : Zs) : Zs := gs.foldl (fun zs z => putZ zs (f z.1) ((getZ zs (f z.1)).getD 0 + z.2)) zs
def mvB1 (f : List Str → List Str) (b : List (Str × Int)) (z : List Str × Int) : List (Str × Int) :=
  addI (addI b (outOf (anc (f z.1) (f z.1).length) (anc z.1 z.1.length)) (-z.2)) (outOf (anc z.1 z.1.length) (anc (f z.1) (f z.1).length).reverse) z.2
def mvB (f : List Str → List Str) (gs : Zs) (b : List (Str × Int)) : List (Str × Int) := gs.foldl (mvB1 f) b
theorem mvS_length (f : List Str → List Str) : ∀ (gs zs : Zs), (mvS f gs zs).length ≤ zs.length + gs.length
  | [], zs => Nat.le_refl _
  | z :: gs, zs => by
    have h := mvS_length f gs (putZ zs (f z.1) ((getZ zs (f z.1)).getD 0 + z.2))
    have h2 : (putZ zs (f z.1) ((getZ zs (f z.1)).getD 0 + z.2)).length ≤ zs.length + 1 := by unfold putZ; split <;> simp
    show (mvS f gs (putZ zs (f z.1) _)).length ≤ _
    rw [List.length_cons]; omega
def lastN (row : List Str) : List Str := row.drop (row.length - 1)
def mvR (row under : List Str) (r : List Str × Int) : List Str × Int := (under ++ lastN row ++ r.1.drop row.length, r.2)
def deedSet (rs : Zs) (row : List Str) (n : Int) : Zs := rs.filter (fun r => !decide (r.1 = row)) ++ [(row, n)]
def deedMove (rs : Zs) (row under : List Str) : Zs := if isPre row under then rs else stZ rs row ++ (goZ rs row).map (mvR row under)
def underOf (z : Nat) : List Str := if z % 4 > 0 then namesOf (z / 4) else []
def deed (rs : Zs) (x : Int) : Zs :=
  let y := x.natAbs / 3
  if x.fmod 3 < 2 then deedSet rs (namesOf y) ((y / 81 % 50 : Nat) : Int) else deedMove rs (namesOf y) (underOf (y / 81))

end
section
/-! the loop of _law_moved -/
def GoV (g : Fz) (z : List Str × Int) (v : Value) : Prop := ∃ a t u, v = .ref a ∧ GL g a [.str (pathS z.1) t, .int z.2 u]
theorem goV_mono {g g' : Fz} (k : g.Le g') : ∀ {l : Zs} {vs : List Value}, AllV (l.map (GoV g)) vs → AllV (l.map (GoV g')) vs
  | [], [], _ => trivial
  | _ :: _, _ :: _, ⟨⟨a, t, u, e, h⟩, hr⟩ => ⟨⟨a, t, u, e, h.mono k⟩, goV_mono k hr⟩
  | [], _ :: _, h => h.elim
  | _ :: _, [], h => h.elim
def LoopInv (W : Wd) (prog : Program) (d₁ d₂ : Addr) (f : List Str → List Str) (gs zs₁ : Zs) (p₂ : List (Str × Int)) (y : Str) (i : Nat) (m : Str → Option Value) (fr' : Ob) : Prop :=
  ∃ o₁ o₂ v, fr' = [(d₁, o₁), (d₂, o₂)] ∧ DI W prog d₁ o₁ (toP (mvS f (gs.take i) zs₁)) ∧ DI W prog d₂ o₂ (mvB f (gs.take i) p₂) ∧ m "under" = some (.str y v) ∧ m "book" = some (.ref d₂)
section
variable {W : Wd} {prog : Program} {A₀ : Around} {E : Value → Shared → Prop} {g : Fz} {fs : Fs} {fr : Ob} {gl : Gs} {s : Shared} {L : Addr}
theorem moved_loop {s0 s1 : Stmt} {rest : List Stmt} (hb : (fnAt W.w.params 230).body = .stmts (s0 :: s1 :: rest)) {d₁ d₂ D : Addr} {o₁ o₂ : Obj} {gs zs₁ : Zs} {p₂ : List (Str × Int)} {p u : List Str} {pp : List Str} {pn x y : Str} {t v : Tok} {ys : List Value} {m : Str → Option Value} {K : Flow → Shared → Prop}
    (hA : Rm A₀ 170) (hS : Stk A₀ fs) (O : Own W g ((L, m) :: fs) ((d₁, o₁) :: (d₂, o₂) :: fr) gl s) (hm1 : m "under" = some (.str y v)) (hm2 : m "book" = some (.ref d₂)) (hm3 : m "going" = some (.ref D))
    (c1 : GC g (L + 1) (.ref d₁)) (c2 : GC g (L + 2) (.str x t)) (hG : GL g D ys) (hys : AllV (gs.map (GoV g)) ys) (hd₁ : DI W prog d₁ o₁ (toP zs₁)) (hd₂ : DI W prog d₂ o₂ p₂)
    (hp : NmP p) (hpp : p = pp ++ [pn]) (hu : NmP u) (hx : x = pathS p) (hy : y = pathS u) (hpl : p.length ≤ 1000) (hul : u.length ≤ 3)
    (hgs : ∀ z ∈ gs, NmP z.1 ∧ z.1 ≠ [] ∧ z.1.length ≤ 100 ∧ isPre p z.1 = true) (hzg : ∀ i, GoodZ (mvS (mvN p u pn) (gs.take i) zs₁)) (hzl : ∀ i, (mvS (mvN p u pn) (gs.take i) zs₁).length ≤ 1000) (hbl : ∀ i, (mvB (mvN p u pn) (gs.take i) p₂).length ≤ 90000) (hgl : gs.length ≤ 1000)
    (k : ∀ s' g' m' o₁' o₂', Own W g' ((L, m') :: fs) ((d₁, o₁') :: (d₂, o₂') :: fr) gl s' → g.Le g' → DI W prog d₁ o₁' (toP (mvS (mvN p u pn) gs zs₁)) → DI W prog d₂ o₂' (mvB (mvN p u pn) gs p₂) → K (.ret (.bool true)) s') :
    wpAny (model prog W.w) (A₀.deeper (envC W.w.params 230 L)) (execs rest (envC W.w.params 230 L)) K E s := by
  have hb' : (fnAt W.w.params 230).body = .stmts (_ :: _ :: _) := rfl
  have hb2 := FuncBody.stmts.inj (hb.symm.trans hb')
  obtain ⟨_, hb2⟩ := List.cons.inj hb2
  obtain ⟨_, hb2⟩ := List.cons.inj hb2
  subst hb2
  clear hb hb'
  subst hx; subst hy
  have hSZ : sizeLine = 16777216 := rfl
  have hA' := Rm.deeper (n := 169) hA (envC W.w.params 230 L)
  iterate 1 walk1
  refine wpAny_For ?_
  iterate 1 walk1
  refine iter_list O hG hys ?_
  intro s₂ J oJ _ O₂ hI _
  refine for_loopS (fun i g m fr' => LoopInv W prog d₁ d₂ (mvN p u pn) gs zs₁ p₂ (pathS u) i m fr') (fun _ _ _ _ _ h _ => h) (F := []) (G := []) (R := [(J, oJ)]) (Z := []) (fr := [(d₁, o₁), (d₂, o₂)]) (fr₀ := fr) (Rm.le hA' (by decide)) hI.iter O₂ ⟨o₁, o₂, v, rfl, hd₁, hd₂, hm1, hm2⟩ ?_ ?_
  · intro i q w g' m' fr' fs' fr₀ gl' s' hsub hi hv ⟨o₁', o₂', v', hfr, hd₁', hd₂', hm1', hm2'⟩ hle' O' K' E' hK
    subst hfr
    rw [List.getElem?_map] at hi
    obtain ⟨z, hz, rfl⟩ := Option.map_eq_some_iff.mp hi
    obtain ⟨az, tz, uz, rfl, hGz⟩ := hv
    have e3 : gs.take (i + 1) = gs.take i ++ [z] := by rw [List.take_add_one, hz]; rfl
    obtain ⟨hzn, hz0, hzl', hzp⟩ := hgs z (List.mem_of_getElem? hz)
    have c1 := c1.mono hle'
    have c2 := c2.mono hle'
    have hGz := hGz.mono hle'
    have hp0 : p ≠ [] := by rw [hpp]; simp
    have hpnm : Nm pn := hp pn (by rw [hpp]; simp)
    have hq : z.1 = p ++ z.1.drop p.length := by
      have := of_decide_eq_true hzp
      conv => lhs; rw [← List.take_append_drop p.length z.1, this]
    have hrn : NmP (z.1.drop p.length) := hzn.drop _
    have hupn : NmP (u ++ [pn]) := hu.append fun n hn => by rw [List.mem_singleton.mp hn]; exact hpnm
    have hqn : NmP (mvN p u pn z.1) := hupn.append hrn
    have hq0 : mvN p u pn z.1 ≠ [] := by simp [mvN]
    have hql : (mvN p u pn z.1).length ≤ 104 := by simp [mvN]; omega
    have hsl : Txt.slice (pathS z.1) (some ((pathS p).length : Int)) none = mk (catP (z.1.drop p.length)) := by
      conv => lhs; rw [hq]
      exact rest_of p _ hp0
    have hgl2 : pathS (u ++ [pn]) ++ mk (catP (z.1.drop p.length)) = pathS (mvN p u pn z.1) := glue_rest u pn _
    have lp := hp.path_len
    have lz := hzn.path_len
    have lq := hqn.path_len
    have lup := hupn.path_len
    have lu := hu.path_len
    have lr := catP_len hrn
    have hul2 : (u ++ [pn]).length ≤ 4 := by simp; omega
    have hrl : (z.1.drop p.length).length ≤ 100 := by rw [List.length_drop]; omega
    have hpl2 := hpnm.len
    iterate 24 walk1
    refine basename_spec (ns := pp) (Rm.le hA' (by decide)) (by walk_at "OWN") (hpp ▸ hp.good) (by rw [hpp]) (by omega) ?_
    intro s₃ g₃ t₃ O₃ hle₃
    iterate 2 walk1
    refine join_path (Rm.le hA' (by decide)) (by walk_at "OWN") hu.good hpnm.good rfl (by omega) (by omega) ?_
    intro s₄ g₄ t₄ O₄ hle₄
    have c1 := (c1.mono hle₃).mono hle₄
    have c2 := (c2.mono hle₃).mono hle₄
    have hS' : ∀ m, Stk (A₀.deeper (envC W.w.params 230 L)) ((L, m) :: fs') := fun m => by
      obtain ⟨l, e, h⟩ := hS
      refine ⟨envC W.w.params 230 L :: l, Around.frames_deeper e, fun env he => ?_⟩
      rcases List.mem_cons.mp he with rfl | he
      · exact ⟨by rw [(by kernel_rfl : (envC W.w.params 230 L).scope.kind = .function)]; decide, L, rfl, .head _⟩
      · obtain ⟨h1, L', h2, h3⟩ := h env he
        exact ⟨h1, L', h2, .tail _ (hsub _ h3)⟩
    clear O₂ O O' O₃
    iterate 15 walk1
    refine tAdd (by walk_at "OWN") hgl2 (by rw [mk_length]; omega) ?_
    intro s₅ t₅ O₅
    clear O₄
    iterate 18 walk1
    refine anc_call (ns := z.1) (Rm.le hA' (by decide)) (by walk_at "OWN") hzn.good rfl (by omega) ?_
    intro s₆ g₆ a₆ F₆ G₆ O₆ hG₆ hI₆ hle₆
    have O₆' := O₆.permF List.perm_middle
    clear O₆ O₅
    iterate 8 walk1
    refine anc_call (ns := mvN p u pn z.1) (Rm.le hA' (by decide)) (by walk_at "OWN") hqn.good rfl (by omega) ?_
    intro s₇ g₇ a₇ F₇ G₇ O₇ hG₇ hI₇ hle₇
    have O₇' := O₇.permF (List.perm_middle.symm.append_left F₇)
    clear O₇ O₆'
    iterate 2 walk1
    obtain ⟨i₆, hG₆⟩ := hG₆
    obtain ⟨i₇, hG₇⟩ := hG₇
    refine difference_spec (R := []) (R₂ := []) (Rm.le hA' (by decide)) (srcN_gen (hG₆.mono hle₇) (hI₆.mono hle₇)) hG₇ hI₇.iter O₇' (by rw [anc_length]; omega) ?_
    intro s₈ g₈ F₈ R₈ G₈ x₈ O₈ hle₈ X₈
    clear O₇'
    iterate 1 walk1
    have outLen : ∀ sub l : List Str, (outOf sub l).length ≤ l.length := fun sub l => List.length_filter_le _ _
    refine list_src (Rm.le hA' (by decide)) (fun _ => hS' _) X₈ O₈ (by rw [List.length_map]; have := outLen (anc (mvN p u pn z.1) (mvN p u pn z.1).length) (anc z.1 z.1.length); rw [anc_length] at this; omega) ?_
    intro s₉ g₉ S₉ v₉ O₉ hG₉ hv₉ hle₉
    clear O₈
    have O₉ : Own W g₉ _ _ _ s₉ := O₉
    iterate 23 walk1
    refine anc_call (ns := mvN p u pn z.1) (Rm.le hA' (by decide)) (by walk_at "OWN") hqn.good rfl (by omega) ?_
    intro s₁₀ g₁₀ a₁₀ F₁₀ G₁₀ O₁₀ hG₁₀ hI₁₀ hle₁₀
    iterate 1 walk1
    refine list_anc (Rm.le hA' (by decide)) O₁₀ hG₁₀ hI₁₀ (by rw [anc_length]; omega) ?_
    intro s₁₁ g₁₁ D₁₁ v₁₁ O₁₁ hle₁₁ hG₁₁ hv₁₁
    clear O₁₀ O₉
    have hvl : v₁₁.length ≤ 104 := by rw [svs_length hv₁₁, anc_length]; exact hql
    iterate 8 walk1
    refine sliceRev (by walk_at "OWN") (by walk_at "FZ") (by assumption) (by omega) ?_
    intro s₁₂ g₁₂ D₁₂ O₁₂ hle₁₂ hG₁₂
    clear O₁₁
    iterate 8 walk1
    refine anc_call (ns := z.1) (Rm.le hA' (by decide)) (by walk_at "OWN") hzn.good rfl (by omega) ?_
    intro s₁₃ g₁₃ a₁₃ F₁₃ G₁₃ O₁₃ hG₁₃ hI₁₃ hle₁₃
    clear O₁₂
    iterate 2 walk1
    obtain ⟨i₁₃, hG₁₃⟩ := hG₁₃
    refine difference_spec (F := []) (R := []) (G := []) (R₂ := []) (Rm.le hA' (by decide)) (srcN_list (hG₁₂.mono hle₁₃) (svs_reverse hv₁₁)) hG₁₃ hI₁₃.iter O₁₃ (by rw [anc_length]; omega) ?_
    intro s₁₄ g₁₄ F₁₄ R₁₄ G₁₄ x₁₄ O₁₄ hle₁₄ X₁₄
    clear O₁₃
    iterate 1 walk1
    refine list_src (Rm.le hA' (by decide)) (fun _ => hS' _) X₁₄ O₁₄ (by rw [List.length_map]; have := outLen (anc z.1 z.1.length) (anc (mvN p u pn z.1) (mvN p u pn z.1).length).reverse; rw [List.length_reverse, anc_length] at this; omega) ?_
    intro s₁₅ g₁₅ S₁₅ v₁₅ O₁₅ hG₁₅ hv₁₅ hle₁₅
    clear O₁₄
    have O₁₅ : Own W g₁₅ _ _ _ s₁₅ := O₁₅
    iterate 22 walk1
    refine fronts_spec (ns := z.1) (os := mvN p u pn z.1) (Rm.le hA' (by decide)) (by walk_at "OWN") hzn hqn hz0 hq0 rfl rfl (by omega) (by omega) ?_
    intro s₁₆ g₁₆ a₁₆ v₁₆ O₁₆ hle₁₆ hG₁₆ hv₁₆
    iterate 11 walk1
    refine fronts_spec (ns := mvN p u pn z.1) (os := z.1) (Rm.le hA' (by decide)) (by walk_at "OWN") hqn hzn hq0 hz0 rfl rfl (by omega) (by omega) ?_
    intro s₁₇ g₁₇ a₁₇ v₁₇ O₁₇ hle₁₇ hG₁₇ hv₁₇
    clear O₁₅ O₁₆
    rw [front_out hzn.good hqn.good] at hv₁₆
    rw [front_out hqn.good hzn.good] at hv₁₇
    rw [out_rev] at hv₁₅
    have hvl2 : v₁₇.length ≤ 104 := by rw [svs_length hv₁₇]; have := outLen (anc z.1 z.1.length) (anc (mvN p u pn z.1) (mvN p u pn z.1).length); rw [anc_length] at this; omega
    iterate 8 walk1
    refine sliceRev (by walk_at "OWN") (by walk_at "FZ") (by assumption) (by omega) ?_
    intro s₁₈ g₁₈ D₁₈ O₁₈ hle₁₈ hG₁₈
    clear O₁₇
    have hv₁₈ := svs_reverse hv₁₇
    iterate 2 walk1
    have ok1 : Oks (outOf (anc (mvN p u pn z.1) (mvN p u pn z.1).length) (anc z.1 z.1.length)) := fun x hx => anc_oks hzn _ x (List.mem_filter.mp hx).1
    have ok2 : Oks (outOf (anc z.1 z.1.length) (anc (mvN p u pn z.1) (mvN p u pn z.1).length)).reverse := fun x hx => anc_oks hqn _ x (List.mem_filter.mp (List.mem_reverse.mp hx)).1
    refine neSame2 (l := outOf (anc (mvN p u pn z.1) (mvN p u pn z.1).length) (anc z.1 z.1.length)) (m := (outOf (anc z.1 z.1.length) (anc (mvN p u pn z.1) (mvN p u pn z.1).length)).reverse) (Rm.le hA' (by decide)) (by walk_at "OWN") (by walk_at "FZ") (by walk_at "FZ") (by walk_at "FZ") hv₉ (by walk_at "FZ") hv₁₅ (by walk_at "FZ") hv₁₆ (by walk_at "FZ") hv₁₈ ok1 ok2 ?_
    have hB1 := hbl i
    have hS1 := hzl i
    have len1 := outLen (anc (mvN p u pn z.1) (mvN p u pn z.1).length) (anc z.1 z.1.length)
    have len2 := outLen (anc z.1 z.1.length) (anc (mvN p u pn z.1) (mvN p u pn z.1).length)
    rw [anc_length] at len1 len2
    clear hv₁₁ hG₁₁ hv₁₆ hG₁₆ hv₁₇ hG₁₇ hv₁₈ hG₁₈ hG₁₂ X₁₄ X₈ hI₆ hI₇ hI₁₀ hI₁₃
    iterate 18 walk1
    refine added_spec (F := []) (R := []) (G := []) (fr := (d₁, o₁') :: fr₀) (ps := mvB (mvN p u pn) (gs.take i) p₂) (l := outOf (anc (mvN p u pn z.1) (mvN p u pn z.1).length) (anc z.1 z.1.length)) (Rm.le hA' (by decide)) (Own.permO (by walk_at "OWN") (.swap (d₂, o₂') (d₁, o₁') fr₀)) (srcN_list (by walk_at "FZ") hv₉) hd₂' (by omega) ?_
    intro s₁₉ g₁₉ o₁₉ O₁₉ hle₁₉ hd₁₉
    clear O₁₈
    have lA1 := addI_length (outOf (anc (mvN p u pn z.1) (mvN p u pn z.1).length) (anc z.1 z.1.length)) (mvB (mvN p u pn) (gs.take i) p₂) (-z.2)
    iterate 13 walk1
    refine added_spec (F := []) (R := []) (G := []) (fr := (d₁, o₁') :: fr₀) (l := (outOf (anc z.1 z.1.length) (anc (mvN p u pn z.1) (mvN p u pn z.1).length).reverse)) (Rm.le hA' (by decide)) (by walk_at "OWN") (srcN_list (by walk_at "FZ") (by rw [out_rev]; exact hv₁₅)) hd₁₉ (by rw [out_rev, List.length_reverse]; omega) ?_
    intro s₂₀ g₂₀ o₂₀ O₂₀ hle₂₀ hd₂₀
    clear O₁₉
    have c1' : GC g₂₀ (L + 1) (.ref d₁) := by walk_at "FZ"
    have hgz2 := hzg i
    have hgt := getI_toP hgz2 hqn.good
    iterate 5 walk1
    refine dMethodGet (o := o₁') (by walk_at "OWN") (.tail _ (.head _)) hd₁' ?_
    iterate 6 walk1
    refine dGet (o := o₁') (by walk_at "OWN") (.tail _ (.head _)) hd₁' ?_
    intro s₂₁ t₂₁ O₂₁
    clear O₂₀
    rw [hgt]
    iterate 4 walk1
    refine dSet (fr := (d₂, o₂₀) :: fr₀) (Own.permO (by walk_at "OWN") (.swap (d₁, o₁') (d₂, o₂₀) fr₀)) hd₁' (by rw [toP_length]; omega) ?_
    intro s₂₂ o₂₂ O₂₂ hd₂₂
    clear O₂₁
    iterate 1 walk1
    refine hK _ _ _ [(d₁, o₂₂), (d₂, o₂₀)] (by walk_at "OWN") (by walk_at "LE") ?_
    refine ⟨o₂₂, o₂₀, v', rfl, ?_, ?_, hm1', hm2'⟩
    · rw [e3]
      unfold mvS
      rw [List.foldl_append]
      show DI W prog d₁ o₂₂ (toP (putZ (mvS (mvN p u pn) (gs.take i) zs₁) (mvN p u pn z.1) _))
      rw [← putI_toP hgz2 hqn.good]
      exact hd₂₂
    · rw [e3]
      unfold mvB
      rw [List.foldl_append]
      exact hd₂₀
  · intro s' g' m' fr' O' hle' ⟨o₁', o₂', v', hfr, hd₁', hd₂', _⟩
    subst hfr
    rw [List.length_map, List.take_length] at hd₁' hd₂'
    iterate 3 walk1
    exact k _ _ _ o₁' o₂' (by walk_at "OWN") (by walk_at "LE") hd₁' hd₂'
end

end
section
/-! _law_moved -/
section
variable {W : Wd} {prog : Program} {A : Around} {E : Value → Shared → Prop} {g : Fz} {fs : Fs} {fr : Ob} {gl : Gs} {s : Shared}
def keysZ (zs : Zs) : List Str := zs.map fun z => pathS z.1
theorem goodZ_put {zs : Zs} {k : List Str} {n : Int} (h : GoodZ zs) (hk : GoodP k) : GoodZ (putZ zs k n) := by
  unfold putZ
  split
  · intro z hz
    obtain ⟨w, hw, rfl⟩ := List.mem_map.mp hz
    split
    · exact h w hw
    · exact h w hw
  · intro z hz
    rcases List.mem_append.mp hz with hz | hz
    · exact h z hz
    · rw [List.mem_singleton.mp hz]; exact hk
theorem goodZ_fold {f : List Str → List Str} : ∀ {gs zs : Zs}, GoodZ zs → (∀ z ∈ gs, GoodP (f z.1)) → GoodZ (mvS f gs zs)
  | [], _, h, _ => h
  | z :: gs, zs, h, hf => goodZ_fold (gs := gs) (goodZ_put h (hf z (.head _))) fun w hw => hf w (.tail _ hw)
theorem goodZ_mvS {zs : Zs} {p u pp : List Str} {pn : Str} (hp : NmP p) (hu : NmP u) (hpp : p = pp ++ [pn]) (h : GoodZ zs) (i : Nat) : GoodZ (mvS (mvN p u pn) ((goZ zs p).take i) (stZ zs p)) := by
  refine goodZ_fold h.filter fun z hz => ?_
  have hz' := (List.mem_filter.mp (List.mem_of_mem_take hz)).1
  have hpn : GoodN pn := (hp pn (by rw [hpp]; simp)).good
  refine GoodP.append.mpr ⟨GoodP.append.mpr ⟨hu.good, goodP_single hpn⟩, fun n hn => h z hz' n (List.mem_of_mem_drop hn)⟩
theorem moved_spec {d₁ d₂ : Addr} {o₁ o₂ : Obj} {zs : Zs} {p₂ : List (Str × Int)} {p u pp : List Str} {pn x y : Str} {t v : Tok} {M : Nat} {Q : Value → Shared → Prop} (hA : Rm A 170) (hS : Stk A fs) (O : Own W g fs ((d₁, o₁) :: (d₂, o₂) :: fr) gl s)
    (hd₁ : DI W prog d₁ o₁ (toP zs)) (hd₂ : DI W prog d₂ o₂ p₂) (hp : NmP p) (hp0 : p ≠ []) (hpp : p = pp ++ [pn]) (hu : NmP u) (hx : x = pathS p) (hy : y = pathS u) (hpl : p.length ≤ 1000) (hul : u.length ≤ 3) (hM : M ≤ 100)
    (hzs : ∀ z ∈ zs, NmP z.1 ∧ z.1 ≠ [] ∧ z.1.length ≤ M) (hzn : (zs.map (·.1)).Nodup) (hzl : zs.length ≤ 100) (hz₂ : p₂.length ≤ 20000)
    (hbl : ∀ i, (mvB (mvN p u pn) ((goZ zs p).take i) p₂).length ≤ 90000)
    (k2 : isPre p u = false → ∀ s' g' o₁' o₂', Own W g' fs ((d₁, o₁') :: (d₂, o₂') :: fr) gl s' → g.Le g' → DI W prog d₁ o₁' (toP (mvS (mvN p u pn) (goZ zs p) (stZ zs p))) → DI W prog d₂ o₂' (mvB (mvN p u pn) (goZ zs p) p₂) → Q (.bool true) s')
    (k1 : isPre p u = true → ∀ s' g', Own W g' fs ((d₁, o₁) :: (d₂, o₂) :: fr) gl s' → g.Le g' → Q (.bool true) s') :
    wpAny (model prog W.w) A (call (.ref 230) [.ref d₁, .ref d₂, .str x t, .str y v]) Q E s := by
  have hSZ : sizeLine = 16777216 := rfl
  refine wpAny_call (call_cells [("sizes", .ref d₁), ("book", .ref d₂), ("place", .str x t), ("under", .str y v)] (fun z => if z = "under" then some (.str y v) else if z = "book" then some (.ref d₂) else none) (fun z => if z = "place" then some (.str x t) else if z = "sizes" then some (.ref d₁) else none) hA.room O (by kernel_rfl) rfl (by kernel_rfl) rfl (by kernel_rfl) (by intro L; kernel_rfl) (by intro L; exact (by decide : (["place", "sizes"] : List Str).Nodup)) (by intro L; kernel_rfl) (by intro L; kernel_rfl) (by kernel_rfl) ?_)
  intro s₁ L ob hob O₁
  have hc1 := hob "sizes" (L + 1) (by rfl)
  have hc2 := hob "place" (L + 2) (by rfl)
  have O₂ : Own W g ((L, fun z => if z = "under" then some (.str y v) else if z = "book" then some (.ref d₂) else none) :: fs) ((L + 2, ob "place") :: (L + 1, ob "sizes") :: (d₁, o₁) :: (d₂, o₂) :: fr) gl s₁ := O₁
  have q1 := O₂.shut
  have q2 := q1.2.shut
  have c1 : GC ((g.put (L + 2) (ob "place")).put (L + 1) (ob "sizes")) (L + 1) (.ref d₁) := ⟨_, Fz.put_self _ _ _, hc1⟩
  have c2 : GC ((g.put (L + 2) (ob "place")).put (L + 1) (ob "sizes")) (L + 2) (.str x t) := ⟨_, q2.1 _ _ (Fz.put_self _ _ _), hc2⟩
  have O₃ := q2.2
  have hle₁ := q1.1.trans q2.1
  clear O₁ O₂ q1 q2 hob hc1 hc2
  generalize (g.put (L + 2) (ob "place")).put (L + 1) (ob "sizes") = g₁ at O₃ c1 c2 hle₁
  have hyl : (pathS u).length ≤ 100000 := by have := hu.path_len; omega
  iterate 15 walk1
  refine anc_call (Rm.le (Rm.deeper (n := 169) hA _) (by decide)) (by walk_at "OWN") hu.good hy hyl ?_
  intro s₂ g₂ a₂ F₂ G₂ O₄ hG₂ hI₂ hle₂
  iterate 1 walk1
  refine list_anc (Rm.le (Rm.deeper (n := 169) hA _) (by decide)) O₄ hG₂ hI₂ (by rw [anc_length]; omega) ?_
  intro s₃ g₃ D₃ v₃ O₅ hle₃ hG₃ hv₃
  refine inStr (by walk_at "OWN") hG₃ hv₃ ?_
  rw [hx, anc_in hp.good hu.good hp0]
  cases hpu : isPre p u with
  | true =>
    iterate 5 walk1
    exact k1 hpu _ _ (by walk_at "OWN") (by walk_at "LE")
  | false =>
    iterate 4 walk1
    clear O₃ O₄
    have c1 := (c1.mono hle₂).mono hle₃
    have c2 := (c2.mono hle₂).mono hle₃
    have hleA : g.Le g₃ := by walk_at "LE"
    clear hle₁ hle₂ hle₃ hG₃ hG₂ hI₂ hv₃
    have hgz : GoodZ zs := fun z hz => (hzs z hz).1.good
    refine assigncomp_ [("sizes", L + 1)] (by kernel_rfl) (by kernel_rfl) (by kernel_rfl) (by kernel_rfl) ?_
    refine listcomp_ [("place", L + 2)] (by kernel_rfl) (by kernel_rfl) (by kernel_rfl) ?_
    iterate 1 walk1
    refine iter_dict O₅ hd₁ ?_
    intro s₆ J oJ O₆ hI hself
    refine comp_list (fr := []) (fr₀ := (d₂, o₂) :: fr) (F := []) (G := []) (R := [(J, oJ), (d₁, o₁)]) (Z := [(d₁, o₁)]) (fun i g ys fr' => fr' = [] ∧ SVs (keysZ ((zs.take i).filter fun z => isPre p z.1)) ys) (fun _ _ _ _ _ h _ => h) (Rm.le (Rm.deeper (n := 169) hA _) (by decide)) hI hself O₆ ⟨rfl, trivial⟩ (by kernel_rfl) (by kernel_rfl) (by kernel_rfl) (by rw [List.length_map, List.length_map, toP_length]; omega) ?_ ?_
    · intro C i q w g' ys m' fr' fs' fr₀ gl' s' hi hv ⟨hfr, hys⟩ hle₇ hm' O' Kt Kf E' hKt hKf
      subst hfr
      rw [List.getElem?_map, toP, List.map_map, List.getElem?_map, Option.map_map] at hi
      obtain ⟨z, hz, rfl⟩ := Option.map_eq_some_iff.mp hi
      obtain ⟨tv, rfl⟩ := hv
      have hzm := hzs z (List.mem_of_getElem? hz)
      have c2 := c2.mono hle₇
      have hpl2 := hzm.1.path_len
      have e3 : zs.take (i + 1) = zs.take i ++ [z] := by rw [List.take_add_one, hz]; rfl
      refine tests1 ?_
      iterate 13 walk1
      refine anc_call (ns := z.1) (Rm.le (Rm.deeper (n := 169) hA _) (by decide)) (by walk_at "OWN") hzm.1.good rfl (by omega) ?_
      intro s₇ g₇ a₇ F₇ G₇ O₇ hG₇ hI₇ hle₈
      iterate 1 walk1
      refine list_anc (Rm.le (Rm.deeper (n := 169) hA _) (by decide)) O₇ hG₇ hI₇ (by rw [anc_length]; omega) ?_
      intro s₈ g₈ D₈ v₈ O₈ hle₉ hG₈ hv₈
      refine inStr (by walk_at "OWN") hG₈ hv₈ ?_
      rw [hx, anc_in hp.good hzm.1.good hp0]
      cases hpz : isPre p z.1 with
      | true =>
        iterate 3 walk1
        exact hKt _ _ [] _ (by walk_at "OWN") (by walk_at "LE") ⟨rfl, by
          rw [e3, List.filter_append, keysZ, List.map_append]
          show AllV (List.map SV _) _
          rw [List.map_append]
          refine AllV.snoc' hys ?_
          simp [List.filter_cons, hpz, AllV, SV]⟩
      | false =>
        iterate 2 walk1
        exact hKf _ _ [] (by walk_at "OWN") (by walk_at "LE") ⟨rfl, by
          rw [e3, List.filter_append, List.filter_cons, hpz]; simpa using hys⟩
    · intro s' g' D ys fr' O' hG hle₇ ⟨hfr, hys⟩
      subst hfr
      rw [List.length_map, List.length_map, toP_length, List.take_length] at hys
      have hgo : SVs (keysZ (goZ zs p)) ys := hys
      have c1 := c1.mono hle₇
      have O'' : Own W g' ((L, fun z => if z = "under" then some (.str y v) else if z = "book" then some (.ref d₂) else none) :: fs) ((d₁, o₁) :: (d₂, o₂) :: fr) gl s' := O'
      clear O' O₆ O₅ hys hI hself
      have c2 := c2.mono hle₇
      refine iter_list O'' hG hgo ?_
      intro s₇ J₂ oJ₂ _ O₇ hI₂ hself₂
      refine comp_assign (F := []) (G := []) (R := [(J₂, oJ₂)]) (Z := []) (fr := [(d₁, o₁)]) (fr₀ := (d₂, o₂) :: fr)
        (fun i g ys fr' => ∃ o', fr' = [(d₁, o')] ∧ DI W prog d₁ o' (toP (curZ zs ((goZ zs p).take i))) ∧ AllV (((goZ zs p).take i).map (GoV g)) ys)
        (fun _ _ _ _ _ ⟨o', a, b, c⟩ k => ⟨o', a, b, goV_mono k c⟩) (Rm.le (Rm.deeper (n := 169) hA _) (by decide)) hI₂.iter hself₂ O₇ ⟨o₁, rfl, by rw [List.take_zero, curZ_nil]; exact hd₁, trivial⟩ (by kernel_rfl) (by kernel_rfl) (by kernel_rfl) (by
          rw [List.length_map, keysZ, List.length_map]; have := List.length_filter_le (fun z => isPre p z.1) zs; unfold goZ; omega) ?_ ?_
      · intro C i q w g'' ys m' fr' fs' fr₀ gl' s' hi hv ⟨o', hfr, hd', hys⟩ hle₈ hm' O' Kt Kf E' hKt hKf
        subst hfr
        rw [List.getElem?_map, keysZ, List.getElem?_map, Option.map_map] at hi
        obtain ⟨z, hz, rfl⟩ := Option.map_eq_some_iff.mp hi
        obtain ⟨tv, rfl⟩ := hv
        have hzm := hzs z (List.mem_filter.mp (List.mem_of_getElem? hz)).1
        have e3 : (goZ zs p).take (i + 1) = (goZ zs p).take i ++ [z] := by rw [List.take_add_one, hz]; rfl
        have hgc : GoodZ (curZ zs ((goZ zs p).take i)) := GoodZ.filter hgz
        have hget : getI (toP (curZ zs ((goZ zs p).take i))) (pathS z.1) = some z.2 := by rw [getI_toP hgc hzm.1.good]; exact get_cur hzn hz
        have hcl : (toP (curZ zs ((goZ zs p).take i))).length ≤ sizeLine := by
          rw [toP_length]; have := List.length_filter_le (fun z : List Str × Int => !(((goZ zs p).take i).any fun w => w.1 = z.1)) zs; unfold curZ; omega
        have c1 := c1.mono hle₈
        refine tests0 ?_
        rw [if_pos rfl]
        iterate 6 walk1
        refine dMethodPop (o := o') (by walk_at "OWN") (.head _) hd' ?_
        iterate 4 walk1
        refine dPop (by walk_at "OWN") hd' hget hcl ?_
        intro s₈ o₈ t₈ O₈ hd₈
        iterate 2 walk1
        rename_i g₉ a₉ hle₉ O₉ hG₉
        refine hKt _ _ [(d₁, o₈)] _ (by walk_at "OWN") (by walk_at "LE") ⟨o₈, rfl, ?_, ?_⟩
        · rw [e3, ← curZ_snoc, ← outI_toP hgc hzm.1.good]; exact hd₈
        · rw [e3, List.map_append]
          exact AllV.snoc' (goV_mono hle₉ hys) ⟨⟨_, _, _, rfl, hG₉⟩, trivial⟩
      · intro s' g'' D₂ ys fr' O' hG' hle₈ ⟨o', hfr, hd', hys⟩
        subst hfr
        rw [keysZ, List.length_map, List.length_map, List.take_length] at hd' hys
        rw [curZ_all] at hd'
        dsimp only
        refine moved_loop (p := p) (u := u) (pp := pp) (pn := pn) (gs := goZ zs p) (zs₁ := stZ zs p) (p₂ := p₂) rfl hA hS O' rfl rfl rfl (c1.mono hle₈) (c2.mono hle₈) hG' hys hd' hd₂ hp hpp hu hx hy hpl hul ?_ ?_ ?_ hbl ?_ ?_
        · intro z hz
          have hzf := List.mem_filter.mp hz
          have := hzs z hzf.1
          exact ⟨this.1, this.2.1, by omega, hzf.2⟩
        · exact goodZ_mvS hp hu hpp hgz
        · intro i
          have := mvS_length (mvN p u pn) ((goZ zs p).take i) (stZ zs p)
          have h1 : ((goZ zs p).take i).length ≤ zs.length := by rw [List.length_take]; have : (goZ zs p).length ≤ zs.length := List.length_filter_le _ _; omega
          have h2 : (stZ zs p).length ≤ zs.length := List.length_filter_le _ _
          omega
        · have : (goZ zs p).length ≤ zs.length := List.length_filter_le _ _
          omega
        · intro s'' g₃' m'' o₁' o₂' O₃' hle₉ hd₁' hd₂'
          exact k2 hpu _ _ o₁' o₂' O₃'.dropF (by walk_at "LE") hd₁' hd₂'
end

end
section
/-! _law_deed -/
def RowV (g : Fz) (r : List Str × Int) (v : Value) : Prop := ∃ a b t vs, v = .ref a ∧ GL g a [.ref b, .int r.2 t] ∧ GL g b vs ∧ SVs r.1 vs
theorem RowV.mono {g g' : Fz} {r : List Str × Int} {v : Value} (h : RowV g r v) (k : g.Le g') : RowV g' r v := let ⟨a, b, t, vs, e, h1, h2, h3⟩ := h; ⟨a, b, t, vs, e, h1.mono k, h2.mono k, h3⟩
theorem rowV_mono {g g' : Fz} (k : g.Le g') : ∀ {l : Zs} {vs : List Value}, AllV (l.map (RowV g)) vs → AllV (l.map (RowV g')) vs
  | [], [], _ => trivial
  | _ :: _, _ :: _, h => ⟨h.1.mono k, rowV_mono k h.2⟩
  | [], _ :: _, h => h.elim
  | _ :: _, [], h => h.elim
section
variable {W : Wd} {prog : Program} {A₀ : Around} {E : Value → Shared → Prop} {g : Fz} {fs : Fs} {fr : Ob} {gl : Gs} {s : Shared} {L : Addr}
theorem deed_tail {s0 s1 s2 s3 : Stmt} {rest : List Stmt} (hb : (fnAt W.w.params 235).body = .stmts (s0 :: s1 :: s2 :: s3 :: rest)) {a a₂ a₃ : Addr} {rs : Zs} {ws v₂ v₃ : List Value} {row under : List Str} {m : Str → Option Value} {K : Flow → Shared → Prop}
    (hA : Rm A₀ 160) (O : Own W g ((L, m) :: fs) fr gl s) (hm : m "rows" = some (.ref a)) (c1 : GC g (L + 1) (.ref a₂)) (c2 : GC g (L + 2) (.ref a₃)) (hG₂ : GL g a₂ v₂) (hv₂ : SVs row v₂) (hG₃ : GL g a₃ v₃) (hv₃ : SVs under v₃)
    (hG : GL g a ws) (hws : AllV (rs.map (RowV g)) ws) (hrs : ∀ r ∈ rs, NmP r.1 ∧ r.1.length ≤ 1000) (hl : rs.length ≤ 1000) (hrow : NmP row) (hrl : row.length ≤ 3) (hun : NmP under) (hul : under.length ≤ 3)
    (k : ∀ s' g' m' a' ws', Own W g' ((L, m') :: fs) fr gl s' → g.Le g' → GL g' a' ws' → AllV ((deedMove rs row under).map (RowV g')) ws' → K (.ret (.ref a')) s') :
    wpAny (model prog W.w) (A₀.deeper (envC W.w.params 235 L)) (execs rest (envC W.w.params 235 L)) K E s := by
  have hb' : (fnAt W.w.params 235).body = .stmts (_ :: _ :: _ :: _ :: _) := rfl
  have hb2 := FuncBody.stmts.inj (hb.symm.trans hb')
  obtain ⟨_, hb2⟩ := List.cons.inj hb2
  obtain ⟨_, hb2⟩ := List.cons.inj hb2
  obtain ⟨_, hb2⟩ := List.cons.inj hb2
  obtain ⟨_, hb2⟩ := List.cons.inj hb2
  subst hb2
  clear hb hb'
  have hSZ : sizeLine = 16777216 := rfl
  have hA' := Rm.deeper (n := 159) hA (envC W.w.params 235 L)
  have l2 : v₂.length = row.length := svs_length hv₂
  have l3 : v₃.length = under.length := svs_length hv₃
  iterate 14 walk1
  refine lLen (by walk_at "OWN") hG₂ l2 (by omega) ?_
  intro s₂ t₂ O₂
  iterate 2 walk1
  refine sliceTo (k := row.length) (by walk_at "OWN") (by walk_at "FZ") (by assumption) rfl (by omega) ?_
  intro s₃ g₃ a₄ O₃ hle₃ hG₄
  iterate 1 walk1
  refine eqStrs (Rm.le hA' (by decide)) (by walk_at "OWN") hG₄ (svs_take row.length hv₃) (by walk_at "FZ") hv₂ (hun.take _).oks hrow.oks ?_
  cases hpre : isPre row under with
  | true =>
    have hd : decide (under.take row.length = row) = true := hpre
    rw [hd]
    iterate 5 walk1
    exact k _ _ _ _ ws (by walk_at "OWN") (by walk_at "LE") (by walk_at "FZ") (by rw [deedMove, if_pos hpre]; exact rowV_mono (by walk_at "LE") hws)
  | false =>
    have hd : decide (under.take row.length = row) = false := hpre
    rw [hd]
    iterate 4 walk1
    have hgA : g.Le g₃ := by walk_at "LE"
    have c1 := c1.mono hgA
    have c2 := c2.mono hgA
    have hG₂ := hG₂.mono hgA
    have hG₃ := hG₃.mono hgA
    have hG := hG.mono hgA
    have hws := rowV_mono hgA hws
    refine assigncomp_ [("under", L + 2), ("row", L + 1)] (by kernel_rfl) (by kernel_rfl) (by kernel_rfl) (by kernel_rfl) ?_
    iterate 1 walk1
    refine iter_list (by walk_at "OWN") hG hws ?_
    intro s₅ J oJ _ O₇ hI hself
    refine comp_assign (fr := []) (fr₀ := fr) (F := []) (G := []) (R := [(J, oJ)]) (Z := []) (fun i g ys fr' => fr' = [] ∧ AllV (((goZ (rs.take i) row).map (mvR row under)).map (RowV g)) ys) (fun _ _ _ _ _ h k => by exact ⟨h.1, rowV_mono k h.2⟩) (Rm.le hA' (by decide)) hI.iter hself O₇ ⟨rfl, trivial⟩ (by kernel_rfl) (by kernel_rfl) (by kernel_rfl) (by rw [List.length_map]; omega) ?_ ?_
    · intro C i p w g' ys m' fr' fs' fr₀ gl' s' hi hv ⟨hfr, hys⟩ hle₅ hm' O' Kt Kf E' hKt hKf
      subst hfr
      rw [List.getElem?_map] at hi
      obtain ⟨r, hr, rfl⟩ := Option.map_eq_some_iff.mp hi
      have e3 : rs.take (i + 1) = rs.take i ++ [r] := by rw [List.take_add_one, hr]; rfl
      have hrow' := hv.mono hle₅
      obtain ⟨a', b', t', vs', rfl, h1, h2, h3⟩ := hrow'
      have hrn := hrs r (List.mem_of_getElem? hr)
      have c1 := c1.mono hle₅
      have c2 := c2.mono hle₅
      have hG₂ := hG₂.mono hle₅
      have hG₃ := hG₃.mono hle₅
      have l4 : vs'.length = r.1.length := svs_length h3
      refine tests1 ?_
      iterate 5 walk1
      refine lIdx (by walk_at "OWN") h1 (by decide) rfl (by decide) ?_
      iterate 9 walk1
      refine lLen (by walk_at "OWN") (by walk_at "FZ") l2 (by omega) ?_
      intro s₆ t₆ O₆
      iterate 2 walk1
      refine sliceTo (k := row.length) (by walk_at "OWN") (by walk_at "FZ") (by assumption) rfl (by omega) ?_
      intro s₇ g₇ a₇ O₈ hle₇ hG₇
      iterate 1 walk1
      refine eqStrs (Rm.le hA' (by decide)) (by walk_at "OWN") hG₇ (svs_take row.length h3) (by walk_at "FZ") hv₂ (hrn.1.take _).oks hrow.oks ?_
      cases hd2 : isPre row r.1 with
      | false =>
        have hd : decide (r.1.take row.length = row) = false := hd2
        rw [hd]
        iterate 2 walk1
        exact hKf _ _ [] (by walk_at "OWN") (by walk_at "LE") ⟨rfl, by
          rw [e3, goZ, List.filter_append, List.filter_cons, hd2]
          simpa [goZ] using rowV_mono (by walk_at "LE") hys⟩
      | true =>
        have hd : decide (r.1.take row.length = row) = true := hd2
        rw [hd]
        have h3l : SVs (lastN row) (v₂.drop (v₂.length - 1)) := by rw [l2]; exact svs_drop (row.length - 1) hv₂
        have hlen : row.length ≤ r.1.length := by have := congrArg List.length (of_decide_eq_true hd); rw [List.length_take] at this; omega
        iterate 17 walk1
        refine sliceLast (by walk_at "OWN") (by walk_at "FZ") (by assumption) (by omega) ?_
        intro s₈ g₈ a₈ O₉ hle₈ hG₈
        repeat' (first | walk1 | (dsimp only; walk1))
        have l5 : (v₂.drop (v₂.length - 1)).length ≤ 3 := by rw [List.length_drop]; omega
        refine addL (by walk_at "OWN") (by walk_at "FZ") (by walk_at "FZ") (by omega) ?_
        intro s₉ g₉ a₉ O₁₀ hle₉ hG₉
        clear O' O₆ O₈
        iterate 4 walk1
        refine lIdx (vs := [.ref b', .int r.2 t']) (by walk_at "OWN") (by walk_at "FZ") (by decide) rfl (by decide) ?_
        iterate 8 walk1
        refine lLen (by walk_at "OWN") (by walk_at "FZ") l2 (by omega) ?_
        intro s₁₀ t₁₀ O₁₁
        iterate 3 walk1
        refine sliceFrom (k := row.length) (by walk_at "OWN") (by walk_at "FZ") (by assumption) rfl (by omega) ?_
        intro s₁₁ g₁₁ a₁₁ O₁₂ hle₁₁ hG₁₁
        clear O₉ O₁₀ O₁₁
        have l6 : (vs'.drop row.length).length ≤ 1000 := by rw [List.length_drop]; omega
        repeat' (first | walk1 | (dsimp only; walk1))
        refine addL (by walk_at "OWN") (by walk_at "FZ") (by walk_at "FZ") (by rw [List.length_append]; omega) ?_
        intro s₁₂ g₁₂ a₁₂ O₁₃ hle₁₂ hG₁₂
        iterate 4 walk1
        refine lIdx (vs := [.ref b', .int r.2 t']) (by walk_at "OWN") (by walk_at "FZ") (by decide) rfl (by decide) ?_
        iterate 2 walk1
        rename_i g₁₃ a₁₃ hle₁₃ O₁₄ hG₁₃
        refine hKt _ _ [] _ (by walk_at "OWN") (by walk_at "LE") ⟨rfl, ?_⟩
        rw [e3, goZ, List.filter_append, List.map_append, List.map_append]
        refine AllV.snoc' (rowV_mono (by walk_at "LE") hys) ?_
        rw [List.filter_cons, hd2]
        exact ⟨⟨a₁₃, a₁₂, _, _, rfl, hG₁₃, by walk_at "FZ", svs_append (svs_append hv₃ h3l) (svs_drop row.length h3)⟩, trivial⟩
    · intro s' g' D ys fr' O' hG' hle₅ ⟨hfr, hys⟩
      subst hfr
      rw [List.length_map, List.take_length] at hys
      iterate 3 walk1
      have c1 := c1.mono hle₅
      have hG₂ := hG₂.mono hle₅
      have hG := hG.mono hle₅
      have hws := rowV_mono hle₅ hws
      refine listcomp_ [("row", L + 1)] (by kernel_rfl) (by kernel_rfl) (by kernel_rfl) ?_
      iterate 1 walk1
      refine iter_list (by walk_at "OWN") hG hws ?_
      intro s₅ J₂ oJ₂ _ O₇' hI₂ hself₂
      refine comp_list (fr := []) (F := []) (G := []) (R := [(J₂, oJ₂)]) (Z := []) (fun i g ys fr' => fr' = [] ∧ AllV ((stZ (rs.take i) row).map (RowV g)) ys) (fun _ _ _ _ _ h k => by exact ⟨h.1, rowV_mono k h.2⟩) (Rm.le hA' (by decide)) hI₂.iter hself₂ O₇' ⟨rfl, trivial⟩ (by kernel_rfl) (by kernel_rfl) (by kernel_rfl) (by rw [List.length_map]; omega) ?_ ?_
      · intro C i p w g'' ys₂ m'' fr' fs' fr₀ gl' s'' hi hv ⟨hfr, hys₂⟩ hle₆ hm'' O'' Kt Kf E' hKt hKf
        subst hfr
        rw [List.getElem?_map] at hi
        obtain ⟨r, hr, rfl⟩ := Option.map_eq_some_iff.mp hi
        have e3 : rs.take (i + 1) = rs.take i ++ [r] := by rw [List.take_add_one, hr]; rfl
        have hrow' := hv.mono hle₆
        obtain ⟨a', b', t', vs', rfl, h1, h2, h3⟩ := hrow'
        have hrn := hrs r (List.mem_of_getElem? hr)
        have c1 := c1.mono hle₆
        have hG₂ := hG₂.mono hle₆
        have l4 : vs'.length = r.1.length := svs_length h3
        refine tests1 ?_
        iterate 5 walk1
        refine lIdx (by walk_at "OWN") h1 (by decide) rfl (by decide) ?_
        iterate 9 walk1
        refine lLen (by walk_at "OWN") (by walk_at "FZ") l2 (by omega) ?_
        intro s₆ t₆ O₆
        iterate 2 walk1
        refine sliceTo (k := row.length) (by walk_at "OWN") (by walk_at "FZ") (by assumption) rfl (by omega) ?_
        intro s₇ g₇ a₇ O₈ hle₇ hG₇
        iterate 1 walk1
        refine neStrs (Rm.le hA' (by decide)) (by walk_at "OWN") hG₇ (svs_take row.length h3) (by walk_at "FZ") hv₂ (hrn.1.take _).oks hrow.oks ?_
        cases hd2 : isPre row r.1 with
        | true =>
          have hd : decide (r.1.take row.length = row) = true := hd2
          rw [hd]
          iterate 2 walk1
          exact hKf _ _ [] (by walk_at "OWN") (by walk_at "LE") ⟨rfl, by
            rw [e3, stZ, List.filter_append, List.filter_cons, hd2]
            simpa [stZ] using rowV_mono (by walk_at "LE") hys₂⟩
        | false =>
          have hd : decide (r.1.take row.length = row) = false := hd2
          rw [hd]
          iterate 3 walk1
          exact hKt _ _ [] _ (by walk_at "OWN") (by walk_at "LE") ⟨rfl, by
            rw [e3, stZ, List.filter_append, List.map_append]
            refine AllV.snoc' (rowV_mono (by walk_at "LE") hys₂) ?_
            rw [List.filter_cons, hd2]
            exact ⟨RowV.mono ⟨a', b', t', vs', rfl, h1, h2, h3⟩ (by walk_at "LE"), trivial⟩⟩
      · intro s'' g'' D₂ ys₂ fr' O'' hG'' hle₆ ⟨hfr, hys₂⟩
        subst hfr
        rw [List.length_map, List.take_length] at hys₂
        iterate 1 walk1
        have hz1 : ys₂.length ≤ 1000 := by
          have h1 := hys₂.length
          have h2 : (stZ rs row).length ≤ rs.length := List.length_filter_le _ _
          rw [List.length_map] at h1; omega
        have hz2 : ys.length ≤ 1000 := by
          have h1 := hys.length
          have h2 : (goZ rs row).length ≤ rs.length := List.length_filter_le _ _
          rw [List.length_map, List.length_map] at h1; omega
        refine addL (by walk_at "OWN") hG'' (by walk_at "FZ") (by omega) ?_
        intro s₈ g₈ c O₁₀ hle₈ hG₈
        repeat' (first | walk1 | (dsimp only; walk1))
        refine k _ _ _ _ _ (by walk_at "OWN") (by walk_at "LE") hG₈ ?_
        rw [deedMove, if_neg (by rw [hpre]; exact Bool.false_ne_true), List.map_append]
        exact AllV.snoc' (rowV_mono hle₈ hys₂) (rowV_mono (by walk_at "LE") hys)
theorem deed_store {s0 s1 s2 s3 : Stmt} {rest : List Stmt} (hb : (fnAt W.w.params 235).body = .stmts (s0 :: s1 :: s2 :: s3 :: rest)) {a a₂ a₃ : Addr} {rs : Zs} {ws v₂ v₃ : List Value} {row under : List Str} {m : Str → Option Value} {K : Flow → Shared → Prop} {o₀ : Obj}
    (hA : Rm A₀ 160) (O : Own W g ((L, m) :: fs) ((L + 2, o₀) :: fr) gl s) (ho₀ : o₀.data = .cell none) (hm : m "rows" = some (.ref a)) (c1 : GC g (L + 1) (.ref a₂)) (hG₂ : GL g a₂ v₂) (hv₂ : SVs row v₂) (hG₃ : GL g a₃ v₃) (hv₃ : SVs under v₃)
    (hG : GL g a ws) (hws : AllV (rs.map (RowV g)) ws) (hrs : ∀ r ∈ rs, NmP r.1 ∧ r.1.length ≤ 1000) (hl : rs.length ≤ 1000) (hrow : NmP row) (hrl : row.length ≤ 3) (hun : NmP under) (hul : under.length ≤ 3)
    (k : ∀ s' g' m' a' ws', Own W g' ((L, m') :: fs) fr gl s' → g.Le g' → GL g' a' ws' → AllV ((deedMove rs row under).map (RowV g')) ws' → K (.ret (.ref a')) s') :
    wpAny (model prog W.w) (A₀.deeper (envC W.w.params 235 L)) (storeName (envC W.w.params 235 L) "under" (.ref a₃)) (fun _ s' => wpAny (model prog W.w) (A₀.deeper (envC W.w.params 235 L)) (execs rest (envC W.w.params 235 L)) K E s') E s := by
  refine stO (c := L + 2) (v₀ := none) O (by kernel_rfl) (by rfl) ho₀ ?_ (by kernel_rfl)
  intro s₄ o₁ O₅ ho₁
  have p := O₅.shut
  have c2 : GC (g.put (L + 2) o₁) (L + 2) (.ref a₃) := ⟨o₁, Fz.put_self _ _ _, ho₁⟩
  exact deed_tail hb hA p.2 hm (c1.mono p.1) c2 (hG₂.mono p.1) hv₂ (hG₃.mono p.1) hv₃ (hG.mono p.1) (rowV_mono p.1 hws) hrs hl hrow hrl hun hul fun s' g' m' a' ws' O' hle => k s' g' m' a' ws' O' (p.1.trans hle)
end

end
section
section
variable {W : Wd} {prog : Program} {A : Around} {E : Value → Shared → Prop} {g : Fz} {fs : Fs} {fr : Ob} {gl : Gs} {s : Shared}
theorem deed_spec {a : Addr} {rs : Zs} {ws : List Value} {x : Int} {t : Tok} {Q : Value → Shared → Prop} (hA : Rm A 160) (O : Own W g fs fr gl s) (hG : GL g a ws) (hws : AllV (rs.map (RowV g)) ws) (hrs : ∀ r ∈ rs, NmP r.1 ∧ r.1.length ≤ 1000) (hl : rs.length ≤ 1000)
    (k : ∀ s' g' a' ws', Own W g' fs fr gl s' → g.Le g' → GL g' a' ws' → AllV ((deed rs x).map (RowV g')) ws' → Q (.ref a') s') : wpAny (model prog W.w) A (call (.ref 235) [.ref a, .int x t]) Q E s := by
  have hSZ : sizeLine = 16777216 := rfl
  refine wpAny_call (call_cells [("rows", .ref a), ("x", .int x t)] (fun z => if z = "x" then some (.int x t) else if z = "rows" then some (.ref a) else none) (fun _ => none) hA.room O (by kernel_rfl) rfl (by kernel_rfl) rfl (by kernel_rfl) (by intro L; kernel_rfl) (by intro L; exact (by decide : (["under", "row"] : List Str).Nodup)) (by intro L; kernel_rfl) (by intro L; kernel_rfl) (by kernel_rfl) ?_)
  intro s₁ L ob hob O₁
  have hc1 := hob "row" (L + 1) (by rfl)
  have hc2 := hob "under" (L + 2) (by rfl)
  have O₂ : Own W g ((L, fun z => if z = "x" then some (.int x t) else if z = "rows" then some (.ref a) else none) :: fs) ((L + 2, ob "under") :: (L + 1, ob "row") :: fr) gl s₁ := O₁
  clear O₁ hob
  have hab : (if x < 0 then -x else x).fdiv 3 = ((x.natAbs / 3 : Nat) : Int) := by
    rw [Int.fdiv_eq_ediv_of_nonneg _ (by omega)]; split <;> omega
  have h81 : ((x.natAbs / 3 : Nat) : Int).fdiv 81 = ((x.natAbs / 3 / 81 : Nat) : Int) := by rw [Int.fdiv_eq_ediv_of_nonneg _ (by omega)]; rfl
  have h50 : ((x.natAbs / 3 / 81 : Nat) : Int).fmod 50 = ((x.natAbs / 3 / 81 % 50 : Nat) : Int) := by rw [Int.fmod_eq_emod_of_nonneg _ (by omega)]; rfl
  have hdeed : deed rs x = if x.fmod 3 < 2 then deedSet rs (namesOf (x.natAbs / 3)) ((x.natAbs / 3 / 81 % 50 : Nat) : Int) else deedMove rs (namesOf (x.natAbs / 3)) (underOf (x.natAbs / 3 / 81)) := rfl
  generalize x.natAbs / 3 = y at hab h81 h50 hdeed
  generalize y / 81 = zz at h81 h50 hdeed
  iterate 24 walk1
  refine names_spec (Rm.le (Rm.deeper (n := 159) hA _) (by decide)) (by walk_at "OWN") ?_
  intro s₂ g₂ a₂ v₂ O₃ hle₂ hG₂ hv₂
  iterate 10 walk1
  rename_i g₃ T₃ hle₃ O₄' hT₃ s₃ O₄
  refine stO (c := L + 1) (v₀ := none) (O₄.permO (.swap _ _ _)) (by rfl) (by rfl) hc1 ?_
  intro s₄ o₁ O₅ ho₁
  have p := O₅.shut
  have c1 : GC (g₃.put (L + 1) o₁) (L + 1) (.ref a₂) := ⟨o₁, Fz.put_self _ _ _, ho₁⟩
  have hle₄ := p.1
  have O₆ := p.2
  clear p O₂ O₃ O₄ O₄' O₅
  generalize g₃.put (L + 1) o₁ = g₄ at O₆ c1 hle₄
  have hG₂ : GL g₄ a₂ v₂ := by walk_at "FZ"
  have hG : GL g₄ a ws := by walk_at "FZ"
  have hgA : g.Le g₄ := by walk_at "LE"
  have hws := rowV_mono hgA hws
  clear hle₂ hle₃ hle₄ hT₃
  repeat' (first | walk1 | (dsimp only; walk1))
  · rename_i hlt
    rw [if_pos hlt] at hdeed
    refine listcomp_ [("row", L + 1)] (by kernel_rfl) (by kernel_rfl) (by kernel_rfl) ?_
    iterate 1 walk1
    refine iter_list (by walk_at "OWN") hG hws ?_
    intro s₅ J oJ _ O₇ hI hself
    refine comp_list (fr := []) (F := []) (G := []) (R := [(J, oJ)]) (Z := []) (fun i g ys fr' => fr' = [] ∧ AllV (((rs.take i).filter fun r : List Str × Int => !decide (r.1 = namesOf y)).map (RowV g)) ys) (fun _ _ _ _ _ h k => by exact ⟨h.1, rowV_mono k h.2⟩) (Rm.le (Rm.deeper (n := 159) hA _) (by decide)) hI.iter hself O₇ ⟨rfl, trivial⟩ (by kernel_rfl) (by kernel_rfl) (by kernel_rfl) (by rw [List.length_map]; omega) ?_ ?_
    · intro C i p w g' ys m' fr' fs' fr₀ gl' s' hi hv ⟨hfr, hys⟩ hle₅ hm' O' Kt Kf E' hKt hKf
      subst hfr
      rw [List.getElem?_map] at hi
      obtain ⟨r, hr, rfl⟩ := Option.map_eq_some_iff.mp hi
      have e3 : rs.take (i + 1) = rs.take i ++ [r] := by rw [List.take_add_one, hr]; rfl
      have hrow := hv.mono hle₅
      obtain ⟨a', b', t', vs', rfl, h1, h2, h3⟩ := hrow
      have hrn := hrs r (List.mem_of_getElem? hr)
      have c1 := c1.mono hle₅
      have hG₂ := hG₂.mono hle₅
      refine tests1 ?_
      iterate 4 walk1
      refine lIdx (by walk_at "OWN") h1 (by decide) rfl (by decide) ?_
      iterate 1 walk1
      refine neStrs (Rm.le (Rm.deeper (n := 159) hA _) (by decide)) (by walk_at "OWN") h2 h3 hG₂ hv₂ hrn.1.oks (namesOf_nm y).oks ?_
      by_cases hd : r.1 = namesOf y
      · rw [decide_eq_true hd]
        iterate 2 walk1
        exact hKf _ _ [] (by walk_at "OWN") (by walk_at "LE") ⟨rfl, by rw [e3, List.filter_append, List.filter_cons, decide_eq_true hd]; simpa using hys⟩
      · rw [decide_eq_false hd]
        iterate 3 walk1
        exact hKt _ _ [] _ (by walk_at "OWN") (by walk_at "LE") ⟨rfl, by
          rw [e3, List.filter_append, List.map_append]
          refine AllV.snoc' hys ?_
          rw [List.filter_cons, decide_eq_false hd]
          exact ⟨⟨a', b', t', vs', rfl, h1, h2, h3⟩, trivial⟩⟩
    · intro s' g' D ys fr' O' hG' hle₅ ⟨hfr, hys⟩
      subst hfr
      rw [List.length_map, List.take_length] at hys
      have hG₂ := hG₂.mono hle₅
      iterate 14 walk1
      rename_i s₆ g₆ a₆ hle₆ O₈ hG₆ s₇ g₇ a₇ hle₇ O₉ hG₇
      have hfl : (rs.filter fun r : List Str × Int => !decide (r.1 = namesOf y)).length ≤ rs.length := List.length_filter_le _ _
      have hyl := hys.length
      rw [List.length_map] at hyl
      refine addL (by walk_at "OWN") (by walk_at "FZ") (by walk_at "FZ") (by simp; omega) ?_
      intro s₈ g₈ c O₁₀ hle₈ hG₈
      refine k _ _ _ _ (show Own W g₈ _ ((L + 2, ob "under") :: fr) gl s₈ from O₁₀).dropO.dropF (by walk_at "LE") hG₈ ?_
      rw [hdeed, deedSet, List.map_append]
      refine AllV.snoc' (rowV_mono (by walk_at "LE") hys) ⟨⟨a₆, a₂, _, v₂, rfl, by walk_at "FZ", by walk_at "FZ", hv₂⟩, trivial⟩
  · rename ¬ (x.fmod 3 < 2) => hge
    rename 0 < Int.fmod _ 4 => hz4
    rw [if_neg hge] at hdeed
    have hz4' : zz % 4 > 0 := by rw [Int.fmod_eq_emod_of_nonneg _ (by omega)] at hz4; omega
    have h4 : (zz : Int).fdiv 4 = ((zz / 4 : Nat) : Int) := by rw [Int.fdiv_eq_ediv_of_nonneg _ (by omega)]; rfl
    have hu : underOf zz = namesOf (zz / 4) := if_pos hz4'
    rw [h4]
    refine names_spec (Rm.le (Rm.deeper (n := 159) hA _) (by decide)) (by walk_at "OWN") ?_
    intro s₅ g₅ a₅ v₅ O₇ hle₅ hG₅ hv₅
    rw [← hu] at hv₅
    refine deed_store (o₀ := ob "under") (fr := fr) rfl hA O₇ hc2 rfl (c1.mono hle₅) (hG₂.mono hle₅) hv₂ hG₅ hv₅ (hG.mono hle₅) (rowV_mono hle₅ hws) hrs hl (namesOf_nm y) (namesOf_len y).2 (by rw [hu]; exact namesOf_nm _) (by rw [hu]; exact (namesOf_len _).2) ?_
    intro s' g' m' a' ws' O' hle' hG' hws'
    exact k s' g' a' ws' O'.dropF (hgA.trans (hle₅.trans hle')) hG' (by rw [hdeed]; exact hws')
  · rename ¬ (x.fmod 3 < 2) => hge
    rename ¬ (0 < Int.fmod _ 4) => hz4
    rw [if_neg hge] at hdeed
    have hz4' : ¬ (zz % 4 > 0) := by rw [Int.fmod_eq_emod_of_nonneg _ (by omega)] at hz4; omega
    have hu : underOf zz = [] := if_neg hz4'
    rename_i g₅ a₅ hle₅ O₇ hG₅
    refine deed_store (o₀ := ob "under") (fr := fr) (under := underOf zz) rfl hA O₇ hc2 rfl (c1.mono hle₅) (hG₂.mono hle₅) hv₂ hG₅ (by rw [hu]; trivial) (hG.mono hle₅) (rowV_mono hle₅ hws) hrs hl (namesOf_nm y) (namesOf_len y).2 (by rw [hu]; exact fun _ h => nomatch h) (by rw [hu]; exact Nat.zero_le _) ?_
    intro s' g' m' a' ws' O' hle' hG' hws'
    exact k s' g' a' ws' O'.dropF (hgA.trans (hle₅.trans hle')) hG' (by rw [hdeed]; exact hws')
end

end
section
/-! the law, plainly -/
def bk (ps : List (Str × Int)) (k : Str) : Int := (getI ps k).getD 0
def sumP (l : Zs) (P : List Str → Bool) : Int := (l.map fun z => if P z.1 then z.2 else 0).sum
theorem getI_cons (p : Str × Int) (ps : List (Str × Int)) (k : Str) : getI (p :: ps) k = if p.1 = k then some p.2 else getI ps k := by
  unfold getI
  rw [List.find?_cons]
  by_cases h : p.1 = k
  · rw [if_pos h, decide_eq_true h]; rfl
  · rw [if_neg h, decide_eq_false h]
theorem getI_map {k : Str} {n : Int} {j : Str} : ∀ ps : List (Str × Int), getI (ps.map fun p => if p.1 = k then (p.1, n) else p) j = if j = k then (if ps.any (fun p => p.1 = k) = true then some n else none) else getI ps j
  | [] => by simp [getI]
  | p :: ps => by
    rw [List.map_cons, getI_cons, getI_map ps, List.any_cons, getI_cons]
    by_cases h : p.1 = k
    · by_cases hj : j = k
      · subst hj; simp [h]
      · have h1 : ¬ p.1 = j := fun e => hj (by rw [← e, h])
        have h2 : ¬ k = j := fun e => hj e.symm
        simp [h, hj, h2]
    · rw [if_neg h, decide_eq_false h, Bool.false_or]
      by_cases hj : j = k
      · rw [if_pos hj, if_pos hj, if_neg (by rw [hj]; exact h)]
      · rw [if_neg hj, if_neg hj]
theorem getI_snoc {k : Str} {n : Int} {j : Str} : ∀ ps : List (Str × Int), getI (ps ++ [(k, n)]) j = (getI ps j).or (if k = j then some n else none)
  | [] => by rw [List.nil_append, getI_cons]; simp [getI]
  | p :: ps => by
    rw [List.cons_append, getI_cons, getI_cons, getI_snoc ps]
    split <;> simp
theorem getI_no {k : Str} : ∀ {ps : List (Str × Int)}, ps.any (fun p => p.1 = k) = false → getI ps k = none
  | [], _ => rfl
  | p :: ps, h => by
    rw [List.any_cons, Bool.or_eq_false_iff] at h
    rw [getI_cons, if_neg (of_decide_eq_false h.1), getI_no h.2]
theorem bk_put (ps : List (Str × Int)) (k : Str) (n : Int) (j : Str) : bk (putI ps k n) j = if j = k then n else bk ps j := by
  unfold bk putI
  cases h : ps.any fun p => p.1 = k with
  | true =>
    rw [if_pos rfl, getI_map, h]
    split <;> simp
  | false =>
    rw [if_neg Bool.false_ne_true, getI_snoc]
    by_cases hj : j = k
    · subst hj; rw [getI_no h]; simp
    · rw [if_neg hj, if_neg (fun e => hj e.symm)]; simp
theorem bk_add : ∀ (l : List Str) (ps : List (Str × Int)) (n : Int) (k : Str), bk (addI ps l n) k = bk ps k + (l.count k : Int) * n
  | [], ps, n, k => by simp [addI]
  | x :: l, ps, n, k => by
    show bk (addI (putI ps x (bk ps x + n)) l n) k = _
    rw [bk_add l, bk_put, List.count_cons]
    by_cases h : k = x
    · subst h
      rw [if_pos rfl, beq_self_eq_true, if_pos rfl, Int.natCast_add, Int.add_mul]
      simp only [Int.natCast_one, Int.one_mul]; omega
    · rw [if_neg h, if_neg (by rw [beq_iff_eq]; exact fun e => h e.symm)]; simp
theorem put_keys {ps : List (Str × Int)} {k : Str} {n : Int} {p : Str × Int} (h : p ∈ putI ps k n) : (∃ p' ∈ ps, p'.1 = p.1) ∨ p.1 = k := by
  unfold putI at h
  split at h
  · obtain ⟨p', hp, e⟩ := List.mem_map.mp h
    refine .inl ⟨p', hp, ?_⟩
    rw [← e]; split <;> rfl
  · rcases List.mem_append.mp h with h | h
    · exact .inl ⟨p, h, rfl⟩
    · rw [List.mem_singleton.mp h]; exact .inr rfl
theorem add_keys : ∀ {l : List Str} {ps : List (Str × Int)} {n : Int} {p : Str × Int}, p ∈ addI ps l n → (∃ p' ∈ ps, p'.1 = p.1) ∨ p.1 ∈ l
  | [], ps, n, p, h => .inl ⟨p, h, rfl⟩
  | x :: l, ps, n, p, h => by
    rcases add_keys (l := l) (ps := putI ps x ((getI ps x).getD 0 + n)) h with ⟨p', hp, e⟩ | h
    · rcases put_keys hp with ⟨q, hq, e'⟩ | e'
      · exact .inl ⟨q, hq, e'.trans e⟩
      · exact .inr (by rw [← e, e']; exact .head _)
    · exact .inr (.tail _ h)

theorem sumP_nil (P : List Str → Bool) : sumP [] P = 0 := rfl
theorem sumP_cons (z : List Str × Int) (l : Zs) (P : List Str → Bool) : sumP (z :: l) P = (if P z.1 then z.2 else 0) + sumP l P := by simp [sumP]
theorem sumP_append (l m : Zs) (P : List Str → Bool) : sumP (l ++ m) P = sumP l P + sumP m P := by simp [sumP]
theorem sumP_filter (A P : List Str → Bool) : ∀ l : Zs, sumP (l.filter fun z => A z.1) P = sumP l fun q => A q && P q
  | [] => rfl
  | z :: l => by
    rw [List.filter_cons, sumP_cons, ← sumP_filter A P l]
    cases h : A z.1
    · simp
    · rw [if_pos rfl, sumP_cons]; simp
theorem sumP_split (A P : List Str → Bool) : ∀ l : Zs, sumP l P = (sumP l fun q => A q && P q) + sumP l fun q => !A q && P q
  | [] => rfl
  | z :: l => by
    rw [sumP_cons, sumP_cons, sumP_cons, sumP_split A P l]
    cases A z.1 <;> simp <;> omega
theorem sumP_map (f : List Str → List Str) (P : List Str → Bool) : ∀ l : Zs, sumP (l.map fun z => (f z.1, z.2)) P = sumP l fun q => P (f q)
  | [] => rfl
  | z :: l => by rw [List.map_cons, sumP_cons, sumP_cons, sumP_map f P l]
theorem sumP_no {k : List Str} {P : List Str → Bool} : ∀ {l : Zs}, l.any (fun z => z.1 = k) = false → (sumP l fun q => decide (q = k) && P q) = 0
  | [], _ => rfl
  | z :: l, h => by
    rw [List.any_cons, Bool.or_eq_false_iff] at h
    rw [sumP_cons, sumP_no h.2, h.1]; simp
theorem getZ_cons (z : List Str × Int) (l : Zs) (k : List Str) : getZ (z :: l) k = if z.1 = k then some z.2 else getZ l k := by
  unfold getZ
  rw [List.find?_cons]
  by_cases h : z.1 = k
  · rw [if_pos h, decide_eq_true h]; rfl
  · rw [if_neg h, decide_eq_false h]
theorem nodup_any {z : List Str × Int} {l : Zs} (h : ((z :: l).map (·.1)).Nodup) : l.any (fun w => w.1 = z.1) = false := by
  rw [List.any_eq_false]
  intro w hw e
  rw [List.map_cons, List.nodup_cons] at h
  exact h.1 (by rw [← of_decide_eq_true e]; exact List.mem_map_of_mem hw)
theorem sumP_at {k : List Str} {P : List Str → Bool} : ∀ {l : Zs}, (l.map (·.1)).Nodup → (sumP l fun q => decide (q = k) && P q) = if P k then (getZ l k).getD 0 else 0
  | [], _ => by simp [getZ, sumP_nil]
  | z :: l, h => by
    rw [sumP_cons, getZ_cons]
    by_cases e : z.1 = k
    · have := nodup_any h
      rw [e] at this
      rw [sumP_no this, e]; simp
    · rw [sumP_at (List.nodup_cons.mp h).2, if_neg e]; simp [e]
theorem map_same {k : List Str} {n : Int} {P : List Str → Bool} : ∀ l : Zs, sumP (l.map fun z => if z.1 = k then (z.1, n) else z) (fun q => !decide (q = k) && P q) = sumP l (fun q => !decide (q = k) && P q)
  | [] => rfl
  | z :: l => by
    rw [List.map_cons, sumP_cons, sumP_cons, map_same l]
    by_cases e : z.1 = k
    · rw [if_pos e]; simp [e]
    · rw [if_neg e]
theorem map_keys {k : List Str} {n : Int} (l : Zs) : (l.map fun z => if z.1 = k then (z.1, n) else z).map (·.1) = l.map (·.1) := by
  rw [List.map_map]; apply List.map_congr_left; intro z _; show (if z.1 = k then (z.1, n) else z).1 = _; split <;> rfl
theorem getZ_map {k : List Str} {n : Int} : ∀ {l : Zs}, l.any (fun z => z.1 = k) = true → getZ (l.map fun z => if z.1 = k then (z.1, n) else z) k = some n
  | [], h => by simp at h
  | z :: l, h => by
    rw [List.map_cons, getZ_cons]
    by_cases e : z.1 = k
    · rw [if_pos e, if_pos e]
    · rw [if_neg e, if_neg e, getZ_map (by rw [List.any_cons, decide_eq_false e, Bool.false_or] at h; exact h)]
theorem getZ_no {k : List Str} : ∀ {l : Zs}, l.any (fun z => z.1 = k) = false → getZ l k = none
  | [], _ => rfl
  | z :: l, h => by
    rw [List.any_cons, Bool.or_eq_false_iff] at h
    rw [getZ_cons, if_neg (of_decide_eq_false h.1), getZ_no h.2]
theorem sumP_put {zs : Zs} {k : List Str} {n : Int} (hn : (zs.map (·.1)).Nodup) (P : List Str → Bool) : sumP (putZ zs k n) P = sumP zs P + if P k then n - (getZ zs k).getD 0 else 0 := by
  unfold putZ
  cases h : zs.any fun z => z.1 = k with
  | true =>
    rw [if_pos rfl, sumP_split (fun q => decide (q = k)) P, map_same, sumP_at (by rw [map_keys]; exact hn), getZ_map h, sumP_split (fun q => decide (q = k)) P zs, sumP_at hn]
    cases P k <;> simp <;> omega
  | false =>
    rw [if_neg Bool.false_ne_true, sumP_append, sumP_cons, sumP_nil, getZ_no h]
    cases P k <;> simp
theorem nodup_put {zs : Zs} {k : List Str} {n : Int} (hn : (zs.map (·.1)).Nodup) : ((putZ zs k n).map (·.1)).Nodup := by
  unfold putZ
  cases h : zs.any fun z => z.1 = k with
  | true => rw [if_pos rfl, map_keys]; exact hn
  | false =>
    rw [if_neg Bool.false_ne_true, List.map_append, List.nodup_append]
    refine ⟨hn, by simp, fun a ha b hb => ?_⟩
    rw [List.map_cons, List.map_nil, List.mem_singleton] at hb
    obtain ⟨z, hz, rfl⟩ := List.mem_map.mp ha
    rintro e
    rw [List.any_eq_false] at h
    exact h z hz (decide_eq_true (e.trans hb))
theorem mem_put {zs : Zs} {k : List Str} {n : Int} {z : List Str × Int} (h : z ∈ putZ zs k n) : (∃ w ∈ zs, w.1 = z.1) ∨ z.1 = k := by
  unfold putZ at h
  split at h
  · obtain ⟨w, hw, e⟩ := List.mem_map.mp h
    refine .inl ⟨w, hw, ?_⟩
    rw [← e]; split <;> rfl
  · rcases List.mem_append.mp h with h | h
    · exact .inl ⟨z, h, rfl⟩
    · rw [List.mem_singleton.mp h]; exact .inr rfl
theorem nodup_mvS {f : List Str → List Str} : ∀ {gs zs : Zs}, (zs.map (·.1)).Nodup → ((mvS f gs zs).map (·.1)).Nodup
  | [], _, h => h
  | _ :: gs, _, h => nodup_mvS (gs := gs) (nodup_put h)
theorem sumP_mvS {f : List Str → List Str} (P : List Str → Bool) : ∀ {gs zs : Zs}, (zs.map (·.1)).Nodup → sumP (mvS f gs zs) P = sumP zs P + sumP gs fun q => P (f q)
  | [], zs, _ => by show sumP zs P = _; rw [sumP_nil]; simp
  | z :: gs, zs, h => by
    show sumP (mvS f gs (putZ zs (f z.1) _)) P = _
    rw [sumP_mvS P (nodup_put h), sumP_put h, sumP_cons]
    cases P (f z.1) <;> simp <;> omega
theorem mem_mvS {f : List Str → List Str} {z : List Str × Int} : ∀ {gs zs : Zs}, z ∈ mvS f gs zs → (∃ w ∈ zs, w.1 = z.1) ∨ ∃ w ∈ gs, f w.1 = z.1
  | [], zs, h => .inl ⟨z, h, rfl⟩
  | w :: gs, zs, h => by
    rcases mem_mvS (gs := gs) h with ⟨w', hw, e⟩ | ⟨w', hw, e⟩
    · rcases mem_put hw with ⟨v, hv, e'⟩ | e'
      · exact .inl ⟨v, hv, e'.trans e⟩
      · exact .inr ⟨w, .head _, e'.symm.trans e⟩
    · exact .inr ⟨w', .tail _ hw, e⟩

theorem anc_count {ns q : List Str} (hn : GoodP ns) (hq : GoodP q) (h0 : q ≠ []) : ∀ n, n ≤ ns.length → (anc ns n).count (pathS q) = if decide (q.length ≤ n) && isPre q ns then 1 else 0
  | 0, _ => by
    have : q.length ≠ 0 := fun e => h0 (List.eq_nil_of_length_eq_zero e)
    rw [anc, List.count_nil, decide_eq_false (by omega)]; rfl
  | n + 1, hl => by
    rw [anc, List.count_cons, anc_count hn hq h0 n (by omega)]
    by_cases e : ns.take (n + 1) = q
    · have hlen : q.length = n + 1 := by rw [← e, List.length_take]; omega
      have hp : isPre q ns = true := by rw [isPre, hlen, e]; exact decide_eq_true rfl
      rw [e, hp, hlen]; simp
    · have hne : (pathS (ns.take (n + 1)) == pathS q) = false := by
        rw [beq_eq_false_iff_ne]; exact fun h => e (pathS_inj (hn.take _) hq h)
      rw [hne]
      cases hp : isPre q ns
      · simp
      · have hpre : ns.take q.length = q := of_decide_eq_true hp
        have : q.length ≠ n + 1 := fun h => e (by rw [← h]; exact hpre)
        by_cases h1 : q.length ≤ n
        · rw [decide_eq_true h1, decide_eq_true (by omega : q.length ≤ n + 1)]; rfl
        · rw [decide_eq_false h1, decide_eq_false (by omega : ¬ q.length ≤ n + 1)]; rfl
theorem anc_count' {ns q : List Str} (hn : GoodP ns) (hq : GoodP q) (h0 : q ≠ []) : ((anc ns ns.length).count (pathS q) : Int) = if isPre q ns then 1 else 0 := by
  rw [anc_count hn hq h0 _ (Nat.le_refl _)]
  cases hp : isPre q ns
  · simp
  · have hpre : ns.take q.length = q := of_decide_eq_true hp
    have : q.length ≤ ns.length := by have := congrArg List.length hpre; rw [List.length_take] at this; omega
    rw [decide_eq_true this]; rfl
theorem out_count {sub l : List Str} {k : Str} : (outOf sub l).count k = if inL sub k then 0 else l.count k := by
  unfold outOf
  cases h : inL sub k
  · rw [List.count_filter (by simp [h])]; rfl
  · rw [List.count_eq_zero_of_not_mem (fun q => by have := (List.mem_filter.mp q).2; simp [h] at this)]; rfl
theorem bk_mvB1 {f : List Str → List Str} {b : List (Str × Int)} {z : List Str × Int} {q : List Str} (hz : GoodP z.1) (hf : GoodP (f z.1)) (hq : GoodP q) (h0 : q ≠ []) :
    bk (mvB1 f b z) (pathS q) = bk b (pathS q) + (if isPre q (f z.1) then z.2 else 0) - if isPre q z.1 then z.2 else 0 := by
  unfold mvB1
  rw [bk_add, bk_add, out_count, out_count, List.count_reverse, anc_in hq hf h0, anc_in hq hz h0]
  have h1 := anc_count' hz hq h0
  have h2 := anc_count' hf hq h0
  generalize (anc z.1 z.1.length).count (pathS q) = c1 at h1 ⊢
  generalize (anc (f z.1) (f z.1).length).count (pathS q) = c2 at h2 ⊢
  cases e1 : isPre q z.1 <;> cases e2 : isPre q (f z.1) <;> rw [e1] at h1 <;> rw [e2] at h2 <;> simp only [Bool.false_eq_true, if_true, if_false] at h1 h2 ⊢ <;> (try rw [h1]) <;> (try rw [h2]) <;> simp <;> omega
theorem bk_mvB {f : List Str → List Str} {q : List Str} (hq : GoodP q) (h0 : q ≠ []) : ∀ {gs : Zs} {b : List (Str × Int)}, (∀ z ∈ gs, GoodP z.1 ∧ GoodP (f z.1)) → bk (mvB f gs b) (pathS q) = bk b (pathS q) + (sumP gs fun k => isPre q (f k)) - sumP gs (isPre q)
  | [], b, _ => by show bk b _ = _; rw [sumP_nil, sumP_nil]; simp
  | z :: gs, b, h => by
    show bk (mvB f gs (mvB1 f b z)) _ = _
    rw [bk_mvB hq h0 fun w hw => h w (.tail _ hw), bk_mvB1 (h z (.head _)).1 (h z (.head _)).2 hq h0, sumP_cons, sumP_cons]; omega

def preL (ns : List Str) (n : Nat) : List Str := (List.range n).map fun k => pathS (ns.take (k + 1))
theorem preL_succ (ns : List Str) (n : Nat) : preL ns (n + 1) = preL ns n ++ [pathS (ns.take (n + 1))] := by
  unfold preL; rw [List.range_succ, List.map_append]; rfl
theorem preL_eq (ns : List Str) : ∀ n, preL ns n = (anc ns n).reverse
  | 0 => rfl
  | n + 1 => by rw [preL_succ, anc, List.reverse_cons, preL_eq ns n]
def dueOf (rs : Zs) (d : List (Str × Int)) : List (Str × Int) := rs.foldl (fun ps r => addI ps (preL r.1 r.1.length) r.2) d
theorem bk_due {q : List Str} (hq : GoodP q) (h0 : q ≠ []) : ∀ {rs : Zs} {d : List (Str × Int)}, (∀ r ∈ rs, GoodP r.1) → bk (dueOf rs d) (pathS q) = bk d (pathS q) + sumP rs (isPre q)
  | [], d, _ => by show bk d _ = _; rw [sumP_nil]; simp
  | r :: rs, d, h => by
    show bk (dueOf rs (addI d (preL r.1 r.1.length) r.2)) _ = _
    rw [bk_due hq h0 fun w hw => h w (.tail _ hw), bk_add, preL_eq, List.count_reverse, anc_count' (h r (.head _)) hq h0, sumP_cons]
    cases isPre q r.1 <;> simp <;> omega
def KeyOk (x : Str) : Prop := ∃ q, NmP q ∧ q ≠ [] ∧ x = pathS q
theorem anc_ok {ns : List Str} (h : NmP ns) {n : Nat} (hl : n ≤ ns.length) {x : Str} (hx : x ∈ anc ns n) : KeyOk x := by
  obtain ⟨k, hk, rfl⟩ := anc_mem.mp hx
  refine ⟨_, h.take _, ?_, rfl⟩
  intro q; have := congrArg List.length q; rw [List.length_take, List.length_nil] at this; omega
theorem add_ok {l : List Str} {ps : List (Str × Int)} {n : Int} (h : ∀ p ∈ ps, KeyOk p.1) (hl : ∀ x ∈ l, KeyOk x) : ∀ p ∈ addI ps l n, KeyOk p.1 := fun p hp => by
  rcases add_keys hp with ⟨p', hp', e⟩ | hm
  · rw [← e]; exact h p' hp'
  · exact hl _ hm
theorem mvB_ok {f : List Str → List Str} : ∀ {gs : Zs} {b : List (Str × Int)}, (∀ z ∈ gs, NmP z.1 ∧ NmP (f z.1)) → (∀ p ∈ b, KeyOk p.1) → ∀ p ∈ mvB f gs b, KeyOk p.1
  | [], _, _, h => h
  | z :: gs, b, hg, h => mvB_ok (gs := gs) (fun w hw => hg w (.tail _ hw)) (by
      refine add_ok (add_ok h fun x hx => ?_) fun x hx => ?_
      · exact anc_ok (hg z (.head _)).1 (Nat.le_refl _) (List.mem_filter.mp hx).1
      · exact anc_ok (hg z (.head _)).2 (Nat.le_refl _) (List.mem_reverse.mp (List.mem_filter.mp hx).1))
theorem due_ok : ∀ {rs : Zs} {d : List (Str × Int)}, (∀ r ∈ rs, NmP r.1) → (∀ p ∈ d, KeyOk p.1) → ∀ p ∈ dueOf rs d, KeyOk p.1
  | [], _, _, h => h
  | r :: rs, d, hg, h => due_ok (rs := rs) (fun w hw => hg w (.tail _ hw)) (add_ok h fun x hx => by
      rw [preL_eq] at hx
      exact anc_ok (hg r (.head _)) (Nat.le_refl _) (List.mem_reverse.mp hx))
theorem mvB_length {f : List Str → List Str} {C : Nat} : ∀ {gs : Zs} {b : List (Str × Int)}, (∀ z ∈ gs, z.1.length + (f z.1).length ≤ C) → (mvB f gs b).length ≤ b.length + gs.length * C
  | [], b, _ => by show b.length ≤ _; omega
  | z :: gs, b, h => by
    show (mvB f gs (mvB1 f b z)).length ≤ _
    have h1 := mvB_length (gs := gs) (b := mvB1 f b z) fun w hw => h w (.tail _ hw)
    have h2 : (mvB1 f b z).length ≤ b.length + C := by
      have a1 := addI_length (outOf (anc (f z.1) (f z.1).length) (anc z.1 z.1.length)) b (-z.2)
      have a2 := addI_length (outOf (anc z.1 z.1.length) (anc (f z.1) (f z.1).length).reverse) (addI b (outOf (anc (f z.1) (f z.1).length) (anc z.1 z.1.length)) (-z.2)) z.2
      have b1 : (outOf (anc (f z.1) (f z.1).length) (anc z.1 z.1.length)).length ≤ z.1.length := by have := List.length_filter_le (fun y => !inL (anc (f z.1) (f z.1).length) y) (anc z.1 z.1.length); rw [anc_length] at this; exact this
      have b2 : (outOf (anc z.1 z.1.length) (anc (f z.1) (f z.1).length).reverse).length ≤ (f z.1).length := by have := List.length_filter_le (fun y => !inL (anc z.1 z.1.length) y) (anc (f z.1) (f z.1).length).reverse; rw [List.length_reverse, anc_length] at this; exact this
      have := h z (.head _)
      unfold mvB1; omega
    rw [List.length_cons, Nat.succ_mul]; omega
theorem due_length {C : Nat} : ∀ {rs : Zs} {d : List (Str × Int)}, (∀ r ∈ rs, r.1.length ≤ C) → (dueOf rs d).length ≤ d.length + rs.length * C
  | [], d, _ => by show d.length ≤ _; omega
  | r :: rs, d, h => by
    show (dueOf rs (addI d (preL r.1 r.1.length) r.2)).length ≤ _
    have h1 := due_length (rs := rs) (d := addI d (preL r.1 r.1.length) r.2) fun w hw => h w (.tail _ hw)
    have h2 := addI_length (preL r.1 r.1.length) d r.2
    have h3 : (preL r.1 r.1.length).length = r.1.length := by rw [preL_eq, List.length_reverse, anc_length]
    have := h r (.head _)
    rw [List.length_cons, Nat.succ_mul]; omega

structure St (i : Nat) (zs rs : Zs) (b : List (Str × Int)) : Prop where
  nod : (zs.map (·.1)).Nodup
  nz : ∀ z ∈ zs, NmP z.1 ∧ z.1 ≠ [] ∧ z.1.length ≤ 3 * i + 3
  nr : ∀ r ∈ rs, NmP r.1 ∧ r.1 ≠ [] ∧ r.1.length ≤ 3 * i + 3
  lz : zs.length ≤ i
  lr : rs.length ≤ i
  lb : b.length ≤ 1000 * i
  eq : ∀ P, sumP zs P = sumP rs P
  bo : ∀ q, NmP q → q ≠ [] → bk b (pathS q) = sumP zs (isPre q)
  ke : ∀ p ∈ b, KeyOk p.1
theorem St.start : St 0 [] [] [] := ⟨by simp, by simp, by simp, by simp, by simp, by simp, fun _ => rfl, fun _ _ _ => rfl, by simp⟩
theorem St.stay {i : Nat} {zs rs : Zs} {b : List (Str × Int)} (S : St i zs rs b) : St (i + 1) zs rs b :=
  ⟨S.nod, fun z hz => have h := S.nz z hz; ⟨h.1, h.2.1, by omega⟩, fun z hz => have h := S.nr z hz; ⟨h.1, h.2.1, by omega⟩, by have := S.lz; omega, by have := S.lr; omega, by have := S.lb; omega, S.eq, S.bo, S.ke⟩
theorem putZ_length (zs : Zs) (k : List Str) (n : Int) : (putZ zs k n).length ≤ zs.length + 1 := by unfold putZ; split <;> simp
theorem St.set {i : Nat} {zs rs : Zs} {b : List (Str × Int)} {p : List Str} {n : Int} (S : St i zs rs b) (hp : NmP p) (h0 : p ≠ []) (hl : p.length ≤ 3) :
    St (i + 1) (putZ zs p n) (deedSet rs p n) (addI b (anc p p.length) (n - (getZ zs p).getD 0)) where
  nod := nodup_put S.nod
  nz := fun z hz => by
    rcases mem_put hz with ⟨w, hw, e⟩ | e
    · rw [← e]; have h := S.nz w hw; exact ⟨h.1, h.2.1, by omega⟩
    · rw [e]; exact ⟨hp, h0, by omega⟩
  nr := fun z hz => by
    rcases List.mem_append.mp hz with hz | hz
    · have h := S.nr z (List.mem_filter.mp hz).1; exact ⟨h.1, h.2.1, by omega⟩
    · rw [List.mem_singleton.mp hz]; exact ⟨hp, h0, by show p.length ≤ _; omega⟩
  lz := by have := putZ_length zs p n; have := S.lz; omega
  lr := by
    have h1 : (rs.filter fun r : List Str × Int => !decide (r.1 = p)).length ≤ rs.length := List.length_filter_le _ _
    have := S.lr
    unfold deedSet; rw [List.length_append, List.length_singleton]; omega
  lb := by
    have := addI_length (anc p p.length) b (n - (getZ zs p).getD 0)
    rw [anc_length] at this
    have := S.lb; omega
  eq := fun P => by
    unfold deedSet
    rw [sumP_put S.nod, sumP_append, sumP_filter (fun q => !decide (q = p)) P, sumP_cons, sumP_nil, ← S.eq, sumP_split (fun q => decide (q = p)) P zs, sumP_at S.nod]
    cases P p <;> simp <;> omega
  bo := fun q hq hq0 => by
    rw [bk_add, S.bo q hq hq0, anc_count' hp.good hq.good hq0, sumP_put S.nod]
    cases isPre q p <;> simp
  ke := add_ok S.ke fun x hx => anc_ok hp (Nat.le_refl _) hx
theorem isPre_len {p q : List Str} (h : isPre p q = true) : p.length ≤ q.length := by
  have := congrArg List.length (of_decide_eq_true h : q.take p.length = p); rw [List.length_take] at this; omega
theorem St.move {i : Nat} {zs rs : Zs} {b : List (Str × Int)} {p u pp : List Str} {pn : Str} (S : St i zs rs b) (hi : i ≤ 9) (hp : NmP p) (hpp : p = pp ++ [pn]) (hu : NmP u) (hul : u.length ≤ 3) :
    St (i + 1) (mvS (mvN p u pn) (goZ zs p) (stZ zs p)) (stZ rs p ++ (goZ rs p).map (mvR p u)) (mvB (mvN p u pn) (goZ zs p) b) := by
  have hpn : Nm pn := hp pn (by rw [hpp]; simp)
  have hp0 : p ≠ [] := by rw [hpp]; simp
  have hp1 : 1 ≤ p.length := by rw [hpp]; simp
  have hf : ∀ q, NmP q → NmP (mvN p u pn q) := fun q hq => (hu.append fun n hn => by rw [List.mem_singleton.mp hn]; exact hpn).append (hq.drop _)
  have hf0 : ∀ q, mvN p u pn q ≠ [] := fun q => by simp [mvN]
  have hfl : ∀ q, isPre p q = true → (mvN p u pn q).length ≤ q.length + 3 := fun q hq => by
    have := isPre_len hq
    simp [mvN]; omega
  have hlast : lastN p = [pn] := by rw [lastN, hpp]; simp
  have hmr : mvR p u = fun z => (mvN p u pn z.1, z.2) := by funext z; unfold mvR mvN; rw [hlast]
  have hgo : ∀ z ∈ goZ zs p, NmP z.1 ∧ z.1 ≠ [] ∧ z.1.length ≤ 3 * i + 3 ∧ isPre p z.1 = true := fun z hz => have h := List.mem_filter.mp hz; have h2 := S.nz z h.1; ⟨h2.1, h2.2.1, h2.2.2, h.2⟩
  have hnod : ((stZ zs p).map (·.1)).Nodup := nodup_filter S.nod
  have hgl : (goZ zs p).length ≤ zs.length := List.length_filter_le _ _
  have split : ∀ l : Zs, (goZ l p).length + (stZ l p).length = l.length := fun l => by
    unfold goZ stZ
    induction l with
    | nil => rfl
    | cons z l ih =>
      rw [List.filter_cons, List.filter_cons, List.length_cons]
      cases isPre p z.1 <;> simp <;> omega
  refine ⟨nodup_mvS hnod, fun z hz => ?_, fun z hz => ?_, ?_, ?_, ?_, fun P => ?_, fun q hq hq0 => ?_, ?_⟩
  · rcases mem_mvS hz with ⟨w, hw, e⟩ | ⟨w, hw, e⟩
    · rw [← e]; have h := S.nz w (List.mem_filter.mp hw).1; exact ⟨h.1, h.2.1, by omega⟩
    · rw [← e]; have h := hgo w hw; exact ⟨hf _ h.1, hf0 _, by have := hfl w.1 h.2.2.2; omega⟩
  · rcases List.mem_append.mp hz with hz | hz
    · have h := S.nr z (List.mem_filter.mp hz).1; exact ⟨h.1, h.2.1, by omega⟩
    · obtain ⟨w, hw, rfl⟩ := List.mem_map.mp hz
      have hw := List.mem_filter.mp hw
      have h := S.nr w hw.1
      rw [hmr]
      exact ⟨hf _ h.1, hf0 _, by have := hfl w.1 hw.2; show (mvN p u pn w.1).length ≤ _; omega⟩
  · have h1 := mvS_length (mvN p u pn) (goZ zs p) (stZ zs p)
    have h2 := split zs
    have := S.lz; omega
  · have h2 := split rs
    rw [List.length_append, List.length_map]
    have := S.lr; omega
  · have h1 := mvB_length (f := mvN p u pn) (gs := goZ zs p) (b := b) (C := 70) fun z hz => by have h := hgo z hz; have := hfl z.1 h.2.2.2; omega
    have h2 : (goZ zs p).length * 70 ≤ 9 * 70 := Nat.mul_le_mul_right _ (by have := S.lz; omega)
    have := S.lb; omega
  · rw [sumP_mvS P hnod, sumP_append, hmr, sumP_map, stZ, stZ, goZ, goZ, sumP_filter (fun q => !isPre p q), sumP_filter (isPre p), sumP_filter (fun q => !isPre p q), sumP_filter (isPre p), S.eq, S.eq]
  · rw [bk_mvB hq.good hq0 fun z hz => ⟨(hgo z hz).1.good, (hf _ (hgo z hz).1).good⟩, S.bo q hq hq0, sumP_mvS _ hnod, sumP_split (isPre p) (isPre q) zs]
    have e1 : sumP (goZ zs p) (isPre q) = sumP zs fun k => isPre p k && isPre q k := sumP_filter (isPre p) (isPre q) zs
    have e2 : sumP (stZ zs p) (isPre q) = sumP zs fun k => !isPre p k && isPre q k := sumP_filter (fun k => !isPre p k) (isPre q) zs
    rw [e1, e2]; omega
  · exact mvB_ok (fun z hz => ⟨(hgo z hz).1, hf _ (hgo z hz).1⟩) S.ke
/-- at each place that either tells of, both tell the same -/
theorem St.same {i : Nat} {zs rs : Zs} {b : List (Str × Int)} (S : St i zs rs b) {x : Str} (h : (∃ p ∈ b, p.1 = x) ∨ ∃ p ∈ dueOf rs [], p.1 = x) : bk b x = bk (dueOf rs []) x := by
  have ok : KeyOk x := by
    rcases h with ⟨p, hp, rfl⟩ | ⟨p, hp, rfl⟩
    · exact S.ke p hp
    · exact due_ok (fun r hr => (S.nr r hr).1) (by simp) p hp
  obtain ⟨q, hq, hq0, rfl⟩ := ok
  rw [S.bo q hq hq0, S.eq, bk_due hq.good hq0 fun r hr => (S.nr r hr).1.good]
  simp [bk, getI]

end
local macro_rules | `(tactic| walk_at "MEM") => `(tactic| first | exact .head _ | exact .tail _ (.head _) | exact .tail _ (.tail _ (.head _)) | exact .tail _ (.tail _ (.tail _ (.head _))) | exact .tail _ (.tail _ (.tail _ (.tail _ (.head _)))))
local macro_rules | `(tactic| walk_at "eval Name") => `(tactic| refine ldO (by walk_at "OWN") (by rfl) (by rfl) (by walk_at "MEM") (by assumption) ?_)

section
/-! the tail of a turn of law: the book that is due, and the look at both -/
theorem g_law (P : Params) : nsIn (Mine.hd.heap_39 P) mainGlobals "law" = some (some (.ref 240)) := by kernel_rfl
theorem d_240 (P : Params) : isDef P 240 = true := by kernel_rfl
theorem dueOf_snoc (rs : Zs) (r : List Str × Int) (d : List (Str × Int)) : dueOf (rs ++ [r]) d = addI (dueOf rs d) (preL r.1 r.1.length) r.2 := by
  unfold dueOf; rw [List.foldl_append]; rfl
section
variable {W : Wd} {prog : Program} {A₀ : Around} {E : Value → Shared → Prop} {g : Fz} {fs : Fs} {fr : Ob} {gl : Gs} {s : Shared} {L : Addr}
set_option maxHeartbeats 600000 in
theorem law_due {s0 : Stmt} {tg it : Expr} {b0 b1 b2 b3 b4 : Stmt} {rest oe more : List Stmt} {fpos : Pos} (hb : (fnAt W.w.params 240).body = .stmts (s0 :: .For tg it (b0 :: b1 :: b2 :: b3 :: b4 :: rest) oe fpos :: more))
    {a d₂ dd : Addr} {o₂ od oD oR : Obj} {rs zs : Zs} {b : List (Str × Int)} {ws : List Value} {m : Str → Option Value} {K : Flow → Shared → Prop} {n : Nat} {vS : Value}
    (hA : Rm A₀ 200) (O : Own W g ((L, m) :: fs) ((L + 3, oR) :: (L + 2, oD) :: (dd, od) :: (d₂, o₂) :: fr) gl s) (hR : ∃ v, oR.data = .cell v) (hD : oD.data = .cell (some (.ref dd))) (cB : GC g (L + 1) (.ref d₂))
    (hm : m "rows" = some (.ref a)) (hmS : m "sizes" = some vS) (hdd : DI W prog dd od []) (hd₂ : DI W prog d₂ o₂ b) (hG : GL g a ws) (hws : AllV (rs.map (RowV g)) ws) (S : St n zs rs b) (hn : n ≤ 10)
    (k : ∀ s' g' m' oD' oR' od', Own W g' ((L, m') :: fs) ((L + 3, oR') :: (L + 2, oD') :: (dd, od') :: (d₂, o₂) :: fr) gl s' → g.Le g' → (∃ v, oR'.data = .cell v) → oD'.data = .cell (some (.ref dd)) → m' "rows" = some (.ref a) → m' "sizes" = some vS → DI W prog dd od' (dueOf rs []) →
      wpAny (model prog W.w) (A₀.deeper (envC W.w.params 240 L)) (execs rest (envC W.w.params 240 L)) K E s') :
    wpAny (model prog W.w) (A₀.deeper (envC W.w.params 240 L)) (execs (b4 :: rest) (envC W.w.params 240 L)) K E s := by
  have hb' : (fnAt W.w.params 240).body = .stmts (_ :: .For _ _ (_ :: _ :: _ :: _ :: _ :: _) _ _ :: _) := rfl
  have hb2 := FuncBody.stmts.inj (hb.symm.trans hb')
  obtain ⟨_, hb2⟩ := List.cons.inj hb2
  obtain ⟨hb2, _⟩ := List.cons.inj hb2
  obtain ⟨_, _, hb2, _, _⟩ := Stmt.For.inj hb2
  obtain ⟨_, hb2⟩ := List.cons.inj hb2
  obtain ⟨_, hb2⟩ := List.cons.inj hb2
  obtain ⟨_, hb2⟩ := List.cons.inj hb2
  obtain ⟨_, hb2⟩ := List.cons.inj hb2
  obtain ⟨hb1, hb2⟩ := List.cons.inj hb2
  subst hb2
  subst hb1
  clear hb hb'
  have hSZ : sizeLine = 16777216 := rfl
  have hA' := Rm.deeper (n := 199) hA (envC W.w.params 240 L)
  have hs : Str.ofString "/" = mk [47] := slashS
  have hrl := S.lr
  iterate 1 walk1
  refine wpAny_For ?_
  iterate 1 walk1
  refine iter_list O hG hws ?_
  intro s₂ J oJ _ O₂ hI _
  refine for_loop (fun i g m fr' => ∃ oR' oD' od', fr' = [(L + 3, oR'), (L + 2, oD'), (dd, od')] ∧ (∃ v, oR'.data = .cell v) ∧ oD'.data = .cell (some (.ref dd)) ∧ DI W prog dd od' (dueOf (rs.take i) []) ∧ m "rows" = some (.ref a) ∧ m "sizes" = some vS) (fun _ _ _ _ _ h _ => h) (F := []) (G := []) (R := [(J, oJ)]) (Z := []) (fr := [(L + 3, oR), (L + 2, oD), (dd, od)]) (fr₀ := (d₂, o₂) :: fr) (Rm.le hA' (by decide)) hI.iter O₂ ⟨oR, oD, od, rfl, hR, hD, hdd, hm, hmS⟩ ?_ ?_
  · intro i q w g' m' fr' fs' fr₀ gl' s' hi hv ⟨oR', oD', od', hfr, ⟨vR, hR'⟩, hD', hdd', hm', hmS'⟩ hle' O' K' E' hK
    subst hfr
    rw [List.getElem?_map] at hi
    obtain ⟨r, hr, rfl⟩ := Option.map_eq_some_iff.mp hi
    have e3 : rs.take (i + 1) = rs.take i ++ [r] := by rw [List.take_add_one, hr]; rfl
    obtain ⟨a', b', t', vs', rfl, h1, h2, h3⟩ := hv.mono hle'
    obtain ⟨hrn, hr0, hrl'⟩ := S.nr r (List.mem_of_getElem? hr)
    have l4 : vs'.length = r.1.length := svs_length h3
    iterate 3 walk1
    refine stO (c := L + 3) (by walk_at "OWN") (by rfl) (by rfl) hR' ?_
    intro s₃ oR₃ O₃ hR₃
    clear O' O₂ O
    iterate 12 walk1
    refine listcomp_ [("row", L + 3)] (by kernel_rfl) (by kernel_rfl) (by kernel_rfl) ?_
    iterate 10 walk1
    refine lLen (by walk_at "OWN") h2 l4 (by omega) ?_
    intro s₄ t₄ O₄
    iterate 1 walk1
    refine range1_ (by walk_at "OWN") ?_
    intro s₅ g₅ r₅ _ _ _ O₅ hle₅ hr₅
    refine iter_range O₅ hr₅ (small_one (by omega) (by omega) (by omega) (by omega)) (rangeSize_up _) ?_
    intro s₆ J₆ O₆ hI₆ hself₆
    refine comp_list (fr := [(L + 3, oR₃)]) (fr₀ := (L + 2, oD') :: (dd, od') :: fr₀) (F := []) (G := []) (R := [(J₆, rngO 0 r.1.length 1)]) (Z := []) (fun i g ys fr' => fr' = [(L + 3, oR₃)] ∧ SVs (preL r.1 i) ys) (fun _ _ _ _ _ h _ => h) (Rm.le hA' (by decide)) hI₆ hself₆ O₆ ⟨rfl, trivial⟩ (by kernel_rfl) (by kernel_rfl) (by kernel_rfl) (by rw [upI_length]; omega) ?_ ?_
    · intro C j p v g₇ ys m₇ fr₇ fs₇ fr₈ gl₇ s₇ hj hv ⟨hfr, hys⟩ hle₇ hm₇ O₇ Kt Kf E₇ hKt hKf
      subst hfr
      obtain ⟨hj, rfl⟩ := upI_get _ _ _ _ _ hj
      obtain ⟨tv, rfl⟩ := hv
      have h2 := (h2.mono hle₅).mono hle₇
      refine tests0 ?_
      rw [if_pos rfl]
      iterate 18 walk1
      refine sliceTo (k := j + 1) (by walk_at "OWN") (by walk_at "FZ") (by assumption) (by omega) (by omega) ?_
      intro s₈ g₈ a₈ O₈ hle₈ hT₈
      iterate 1 walk1
      have hne : r.1.take (j + 1) ≠ [] := by
        intro q; have := congrArg List.length q; rw [List.length_take, List.length_nil] at this; omega
      have hsl : (Str.ofString "/").length = 1 := by decide
      have hsum := (hrn.take (j + 1)).sum
      have htl : (r.1.take (j + 1)).length ≤ 33 := by rw [List.length_take]; omega
      have hjz : Str.ofString "/" ++ Txt.join "/" (r.1.take (j + 1)) = pathS (r.1.take (j + 1)) := by rw [hs, beq_iff_eq.mp (PyProof.Rows.join_plain_closes (mk [47]) _)]; exact slash_join hne
      have hpl := (hrn.take (j + 1)).path_len
      have hjl : (Txt.join "/" (r.1.take (j + 1))).length ≤ 100000 := by
        have := congrArg Str.length hjz
        rw [Str.length_append, hsl] at this; omega
      refine joinO (by walk_at "OWN") (by walk_at "FZ") (svs_take _ h3) rfl (by rw [hsl]; omega) ?_
      intro s₉ t₉ O₉
      refine tAdd (by walk_at "OWN") hjz (by rw [hsl]; omega) ?_
      intro s₁₀ t₁₀ O₁₀
      exact hKt _ _ [(L + 3, oR₃)] _ (by walk_at "OWN") (by walk_at "LE") ⟨rfl, by
        rw [preL_succ]
        show AllV (List.map SV _) _
        rw [List.map_append]
        exact AllV.snoc hys ⟨_, rfl⟩⟩
    · intro s₈ g₈ D₈ ys₈ fr₈ O₈ hG₈ hle₈ ⟨hfr, hys₈⟩
      subst hfr
      rw [upI_length] at hys₈
      have O₈ : Own W g₈ _ ((L + 3, oR₃) :: (L + 2, oD') :: (dd, od') :: fr₀) _ s₈ := O₈
      clear O₃ O₄ O₅ O₆
      iterate 4 walk1
      have hdl := due_length (C := 33) (rs := rs.take i) (d := []) fun r hr => Nat.le_trans (S.nr r (List.mem_of_mem_take hr)).2.2 (by omega)
      have htk : (rs.take i).length ≤ 10 := by rw [List.length_take]; omega
      have hpl : (preL r.1 r.1.length).length ≤ 33 := by rw [preL_eq, List.length_reverse, anc_length]; omega
      refine added_spec (F := []) (R := []) (G := []) (fr := (L + 3, oR₃) :: (L + 2, oD') :: fr₀) (Rm.le hA' (by decide)) (Own.permO (by walk_at "OWN") (List.perm_middle (l₁ := [(L + 3, oR₃), (L + 2, oD')]))) (srcN_list hG₈ hys₈) hdd' (by rw [List.length_nil] at hdl; omega) ?_
      intro s₉ g₉ o₉ O₉ hle₉ hd₉
      iterate 1 walk1
      refine hK _ _ _ [(L + 3, oR₃), (L + 2, oD'), (dd, o₉)] (Own.permO (by walk_at "OWN") (List.perm_middle (l₁ := [(L + 3, oR₃), (L + 2, oD')])).symm) (by walk_at "LE") ?_
      exact ⟨oR₃, oD', o₉, rfl, ⟨_, hR₃⟩, hD', by rw [e3, dueOf_snoc]; exact hd₉, hm', hmS'⟩
  · intro s' g' m' fr' O' hle' ⟨oR', oD', od', hfr, hR', hD', hdd', hm', hmS'⟩
    subst hfr
    rw [List.length_map, List.take_length] at hdd'
    exact k s' g' m' oD' oR' od' O' hle' hR' hD' hm' hmS' hdd'
end

end
section
/-! the look at both books -/
section
variable {W : Wd} {prog : Program} {A₀ : Around} {E : Value → Shared → Prop} {g : Fz} {fs : Fs} {fr : Ob} {gl : Gs} {s : Shared} {L : Addr}
set_option maxHeartbeats 800000 in
theorem law_look {s0 : Stmt} {tg it : Expr} {b0 b1 b2 b3 b4 : Stmt} {rest oe more : List Stmt} {fpos : Pos} (hb : (fnAt W.w.params 240).body = .stmts (s0 :: .For tg it (b0 :: b1 :: b2 :: b3 :: b4 :: rest) oe fpos :: more))
    {d₂ dd : Addr} {o₂ od' oD' oR' : Obj} {rs zs : Zs} {b : List (Str × Int)} {m : Str → Option Value} {K : Flow → Shared → Prop} {n : Nat}
    (hA : Rm A₀ 200) (O' : Own W g ((L, m) :: fs) ((L + 3, oR') :: (L + 2, oD') :: (dd, od') :: (d₂, o₂) :: fr) gl s) (hD' : oD'.data = .cell (some (.ref dd))) (cB : GC g (L + 1) (.ref d₂))
    (hdd' : DI W prog dd od' (dueOf rs [])) (hd₂ : DI W prog d₂ o₂ b) (S : St n zs rs b) (hn : n ≤ 10)
    (k : ∀ s' g', Own W g' ((L, m) :: fs) ((L + 3, oR') :: (L + 2, oD') :: (d₂, o₂) :: fr) gl s' → g.Le g' → K .next s') :
    wpAny (model prog W.w) (A₀.deeper (envC W.w.params 240 L)) (execs rest (envC W.w.params 240 L)) K E s := by
  have hb' : (fnAt W.w.params 240).body = .stmts (_ :: .For _ _ (_ :: _ :: _ :: _ :: _ :: _) _ _ :: _) := rfl
  have hb2 := FuncBody.stmts.inj (hb.symm.trans hb')
  obtain ⟨_, hb2⟩ := List.cons.inj hb2
  obtain ⟨hb2, _⟩ := List.cons.inj hb2
  obtain ⟨_, _, hb2, _, _⟩ := Stmt.For.inj hb2
  obtain ⟨_, hb2⟩ := List.cons.inj hb2
  obtain ⟨_, hb2⟩ := List.cons.inj hb2
  obtain ⟨_, hb2⟩ := List.cons.inj hb2
  obtain ⟨_, hb2⟩ := List.cons.inj hb2
  obtain ⟨_, hb2⟩ := List.cons.inj hb2
  subst hb2
  clear hb hb'
  have hSZ : sizeLine = 16777216 := rfl
  have hA' := Rm.deeper (n := 199) hA (envC W.w.params 240 L)
  iterate 3 walk1
  refine listcomp_ [("due", L + 2), ("book", L + 1)] (by kernel_rfl) (by kernel_rfl) (by kernel_rfl) ?_
  have hdl := due_length (C := 33) (rs := rs) (d := []) fun r hr => Nat.le_trans (S.nr r hr).2.2 (by omega)
  have hbl := S.lb
  have hrl := S.lr
  rw [List.length_nil] at hdl
  iterate 7 walk1
  refine list_dict (o := o₂) (Rm.le hA' (by decide)) (by walk_at "OWN") (.tail _ (.tail _ (.tail _ (.head _)))) hd₂ (by omega) ?_
  intro s₃ g₃ S₃ v₃ O₃ hG₃ hv₃ hle₃
  iterate 6 walk1
  refine list_dict (o := od') (Rm.le hA' (by decide)) (by walk_at "OWN") (.tail _ (.tail _ (.head _))) hdd' (by omega) ?_
  intro s₄ g₄ S₄ v₄ O₄ hG₄ hv₄ hle₄
  repeat' (first | walk1 | (dsimp only; walk1))
  have l3 : v₃.length = b.length := by have := svs_length hv₃; rw [List.length_map] at this; exact this
  have l4 : v₄.length = (dueOf rs []).length := by have := svs_length hv₄; rw [List.length_map] at this; exact this
  refine addL (by walk_at "OWN") (by walk_at "FZ") hG₄ (by omega) ?_
  intro s₅ g₅ S₅ O₅ hle₅ hG₅
  repeat' (first | walk1 | (dsimp only; walk1))
  refine iter_list (by walk_at "OWN") hG₅ (svs_append hv₃ hv₄) ?_
  intro s₆ J₆ oJ₆ _ O₆ hI₆ hself₆
  have cB := ((cB.mono hle₃).mono hle₄).mono hle₅
  clear O' O₃ O₄ O₅
  refine comp_list (fr := [(L + 2, oD'), (dd, od'), (d₂, o₂)]) (fr₀ := (L + 3, oR') :: fr) (F := []) (G := []) (R := [(J₆, oJ₆)]) (Z := []) (fun i g ys fr' => fr' = [(L + 2, oD'), (dd, od'), (d₂, o₂)] ∧ ys = []) (fun _ _ _ _ _ h _ => h) (Rm.le hA' (by decide)) hI₆.iter hself₆ (O₆.permO ?_) ⟨rfl, rfl⟩ (by kernel_rfl) (by kernel_rfl) (by kernel_rfl) (by rw [List.length_map, List.length_append, List.length_map, List.length_map]; omega) ?_ ?_
  · exact (List.perm_middle (l₁ := [(L + 2, oD'), (dd, od'), (d₂, o₂)])).symm.cons _
  · intro C j p v g₇ ys m₇ fr₇ fs₇ fr₈ gl₇ s₇ hj hv ⟨hfr, hys⟩ hle₇ hm₇ O₇ Kt Kf E₇ hKt hKf
    subst hfr
    subst hys
    rw [List.getElem?_map] at hj
    obtain ⟨x, hx, rfl⟩ := Option.map_eq_some_iff.mp hj
    obtain ⟨tv, rfl⟩ := hv
    have cB := cB.mono hle₇
    have hsame : bk b x = bk (dueOf rs []) x := S.same (by
      rcases List.mem_append.mp (List.mem_of_getElem? hx) with h | h
      · obtain ⟨p, hp, e⟩ := List.mem_map.mp h; exact .inl ⟨p, hp, e⟩
      · obtain ⟨p, hp, e⟩ := List.mem_map.mp h; exact .inr ⟨p, hp, e⟩)
    refine tests1 ?_
    iterate 3 walk1
    refine dMethodGet (o := o₂) (by walk_at "OWN") (.tail _ (.tail _ (.head _))) hd₂ ?_
    iterate 6 walk1
    refine dGet (o := o₂) (by walk_at "OWN") (.tail _ (.tail _ (.head _))) hd₂ ?_
    intro s₈ t₈ O₈
    iterate 2 walk1
    refine dMethodGet (o := od') (by walk_at "OWN") (.tail _ (.head _)) hdd' ?_
    iterate 6 walk1
    refine dGet (o := od') (by walk_at "OWN") (.tail _ (.head _)) hdd' ?_
    intro s₉ t₉ O₉
    have hsame' : (getI b x).getD 0 = (getI (dueOf rs []) x).getD 0 := hsame
    rw [hsame']
    iterate 4 walk1
    · rename (_ : Int) ≠ _ => hne
      exact absurd rfl hne
    · exact hKf _ _ [(L + 2, oD'), (dd, od'), (d₂, o₂)] (by walk_at "OWN") (by walk_at "LE") ⟨rfl, rfl⟩
  · intro s₈ g₈ D₈ ys₈ fr₈ O₈ hG₈ hle₈ ⟨hfr, hys₈⟩
    subst hfr
    subst hys₈
    have O₈ : Own W g₈ _ ((L + 2, oD') :: (dd, od') :: (d₂, o₂) :: (L + 3, oR') :: fr) _ s₈ := O₈
    clear O₆
    iterate 3 walk1
    rename_i g₉ a₉ hle₉ O₉ hG₉
    refine neStrs (l := []) (m := []) (vs := []) (us := []) (Rm.le hA' (by decide)) (by walk_at "OWN") (by walk_at "FZ") trivial hG₉ trivial (fun _ h => nomatch h) (fun _ h => nomatch h) ?_
    rw [decide_eq_true rfl]
    iterate 4 walk1
    refine k _ _ (Own.permO (fr := (L + 2, oD') :: (d₂, o₂) :: (L + 3, oR') :: fr) (Own.dropO (p := (dd, od')) (Own.permO (by walk_at "OWN") (.swap _ _ _))) (List.perm_middle (l₁ := [(L + 2, oD'), (d₂, o₂)]))) (by walk_at "LE")
end

end
section
/-! the two deeds, told of the state -/
section
variable {W : Wd} {prog : Program} {A : Around} {E : Value → Shared → Prop} {g : Fz} {fs : Fs} {fr : Ob} {gl : Gs} {s : Shared}
theorem St.goodZ {i : Nat} {zs rs : Zs} {b : List (Str × Int)} (S : St i zs rs b) : GoodZ zs := fun z hz => (S.nz z hz).1.good
theorem moved_st {d₁ d₂ : Addr} {o₁ o₂ : Obj} {n : Nat} {zs rs : Zs} {b : List (Str × Int)} {p u : List Str} {x y : Str} {t v : Tok} {Q : Value → Shared → Prop} (hA : Rm A 170) (hS : Stk A fs) (O : Own W g fs ((d₁, o₁) :: (d₂, o₂) :: fr) gl s)
    (hd₁ : DI W prog d₁ o₁ (toP zs)) (hd₂ : DI W prog d₂ o₂ b) (S : St n zs rs b) (hn : n ≤ 9) (hp : NmP p) (hp0 : p ≠ []) (hu : NmP u) (hx : x = pathS p) (hy : y = pathS u) (hpl : p.length ≤ 3) (hul : u.length ≤ 3)
    (k : ∀ s' g' o₁' o₂' zs' b', Own W g' fs ((d₁, o₁') :: (d₂, o₂') :: fr) gl s' → g.Le g' → DI W prog d₁ o₁' (toP zs') → DI W prog d₂ o₂' b' → St (n + 1) zs' (deedMove rs p u) b' → Q (.bool true) s') :
    wpAny (model prog W.w) A (call (.ref 230) [.ref d₁, .ref d₂, .str x t, .str y v]) Q E s := by
  obtain ⟨pp, pn, hpp⟩ := exists_snoc hp0
  have hp1 : 1 ≤ p.length := by rw [hpp]; simp
  have hlz := S.lz
  have hlb := S.lb
  refine moved_spec (zs := zs) (p₂ := b) (p := p) (u := u) (pp := pp) (pn := pn) (M := 3 * n + 3) hA hS O hd₁ hd₂ hp hp0 hpp hu hx hy (by omega) hul (by omega) S.nz S.nod (by omega) (by omega) ?_ ?_ ?_
  · intro i
    have h1 := mvB_length (f := mvN p u pn) (gs := (goZ zs p).take i) (b := b) (C := 70) fun z hz => by
      have hz := List.mem_filter.mp (List.mem_of_mem_take hz)
      have h := S.nz z hz.1
      have hq := isPre_len hz.2
      have : (mvN p u pn z.1).length = u.length + 1 + (z.1.length - p.length) := by simp [mvN]; omega
      omega
    have h2 : ((goZ zs p).take i).length ≤ 9 := by
      have : (goZ zs p).length ≤ zs.length := List.length_filter_le _ _
      rw [List.length_take]; omega
    have h3 : ((goZ zs p).take i).length * 70 ≤ 9 * 70 := Nat.mul_le_mul_right _ h2
    omega
  · intro hpu s' g' o₁' o₂' O' hle h1 h2
    refine k s' g' o₁' o₂' _ _ O' hle h1 h2 ?_
    rw [deedMove, if_neg (by rw [hpu]; exact Bool.false_ne_true)]
    exact S.move hn hp hpp hu hul
  · intro hpu s' g' O' hle
    refine k s' g' o₁ o₂ zs b O' hle hd₁ hd₂ ?_
    rw [deedMove, if_pos hpu]
    exact S.stay
theorem set_st {d₁ d₂ : Addr} {o₁ o₂ : Obj} {c : Nat} {zs rs : Zs} {b : List (Str × Int)} {p : List Str} {x : Str} {n : Int} {t v : Tok} {Q : Value → Shared → Prop} (hA : Rm A 150) (O : Own W g fs ((d₁, o₁) :: (d₂, o₂) :: fr) gl s)
    (hd₁ : DI W prog d₁ o₁ (toP zs)) (hd₂ : DI W prog d₂ o₂ b) (S : St c zs rs b) (hn : c ≤ 9) (hp : NmP p) (hp0 : p ≠ []) (hx : x = pathS p) (hpl : p.length ≤ 3)
    (k : ∀ s' g' o₁' o₂' zs' b', Own W g' fs ((d₁, o₁') :: (d₂, o₂') :: fr) gl s' → g.Le g' → DI W prog d₁ o₁' (toP zs') → DI W prog d₂ o₂' b' → St (c + 1) zs' (deedSet rs p n) b' → Q .none s') :
    wpAny (model prog W.w) A (call (.ref 225) [.ref d₁, .ref d₂, .str x t, .int n v]) Q E s := by
  have hlz := S.lz
  have hlb := S.lb
  refine set_spec hA O hd₁ hd₂ hp hx (by omega) (by rw [toP_length]; omega) (by omega) ?_
  intro s' g' o₁' o₂' O' hle h1 h2
  rw [hx, putI_toP S.goodZ hp.good] at h1
  rw [hx, getI_toP S.goodZ hp.good] at h2
  exact k s' g' o₁' o₂' _ _ O' hle h1 h2 (S.set hp hp0 hpl)
end

end
section
/-! a turn of law: the deed upon sizes and book -/
theorem pathOf_len {ns : List Str} (h : NmP ns) (hl : ns.length ≤ 3) : (pathS ns).length ≤ 100000 := by have := h.path_len; omega
theorem nm_small {ns : List Str} (h : NmP ns) : ∀ n ∈ ns, n.length ≤ 100000 := fun n hn => by have := (h n hn).len; omega
section
variable {W : Wd} {prog : Program} {A₀ : Around} {E : Value → Shared → Prop} {g : Fz} {fs : Fs} {fr : Ob} {gl : Gs} {s : Shared} {L : Addr}
theorem stk_in {m : Str → Option Value} (hS : Stk A₀ fs) : Stk (A₀.deeper (envC W.w.params 240 L)) ((L, m) :: fs) := by
  obtain ⟨l, e, h⟩ := hS
  refine ⟨envC W.w.params 240 L :: l, Around.frames_deeper e, fun env he => ?_⟩
  rcases List.mem_cons.mp he with rfl | he
  · exact ⟨by rw [(by kernel_rfl : (envC W.w.params 240 L).scope.kind = .function)]; decide, L, rfl, .head _⟩
  · obtain ⟨h1, L', h2, h3⟩ := h env he
    exact ⟨h1, L', h2, .tail _ h3⟩
set_option maxHeartbeats 1500000 in
theorem law_act {s0 : Stmt} {tg it : Expr} {b0 b1 b2 : Stmt} {rest oe more : List Stmt} {fpos : Pos} (hb : (fnAt W.w.params 240).body = .stmts (s0 :: .For tg it (b0 :: b1 :: b2 :: rest) oe fpos :: more))
    {d₁ d₂ : Addr} {o₁ o₂ : Obj} {rs zs : Zs} {b : List (Str × Int)} {m : Str → Option Value} {K : Flow → Shared → Prop} {n : Nat} {vR : Value} {x : Int} {t : Tok}
    (hA : Rm A₀ 200) (hS : Stk A₀ fs) (O : Own W g ((L, m) :: fs) ((d₁, o₁) :: (d₂, o₂) :: fr) gl s) (cB : GC g (L + 1) (.ref d₂))
    (hmR : m "rows" = some vR) (hmS : m "sizes" = some (.ref d₁)) (hmx : m "x" = some (.int x t)) (hd₁ : DI W prog d₁ o₁ (toP zs)) (hd₂ : DI W prog d₂ o₂ b) (S : St n zs rs b) (hn : n ≤ 9)
    (k : ∀ s' g' m' o₁' o₂' zs' b', Own W g' ((L, m') :: fs) ((d₁, o₁') :: (d₂, o₂') :: fr) gl s' → g.Le g' → m' "rows" = some vR → m' "sizes" = some (.ref d₁) → m' "x" = some (.int x t) → DI W prog d₁ o₁' (toP zs') → DI W prog d₂ o₂' b' → St (n + 1) zs' (deed rs x) b' →
      wpAny (model prog W.w) (A₀.deeper (envC W.w.params 240 L)) (execs rest (envC W.w.params 240 L)) K E s') :
    wpAny (model prog W.w) (A₀.deeper (envC W.w.params 240 L)) (execs (b0 :: b1 :: b2 :: rest) (envC W.w.params 240 L)) K E s := by
  have hb' : (fnAt W.w.params 240).body = .stmts (_ :: .For _ _ (_ :: _ :: _ :: _) _ _ :: _) := rfl
  have hb2 := FuncBody.stmts.inj (hb.symm.trans hb')
  obtain ⟨_, hb2⟩ := List.cons.inj hb2
  obtain ⟨hb2, _⟩ := List.cons.inj hb2
  obtain ⟨_, _, hb2, _, _⟩ := Stmt.For.inj hb2
  obtain ⟨e0, hb2⟩ := List.cons.inj hb2
  obtain ⟨e1, hb2⟩ := List.cons.inj hb2
  obtain ⟨e2, _⟩ := List.cons.inj hb2
  subst e0 e1 e2
  clear hb hb'
  have hSZ : sizeLine = 16777216 := rfl
  have hA' := Rm.deeper (n := 199) hA (envC W.w.params 240 L)
  have hs : Str.ofString "/" = mk [47] := slashS
  have hab : (if x < 0 then -x else x).fdiv 3 = ((x.natAbs / 3 : Nat) : Int) := by
    rw [Int.fdiv_eq_ediv_of_nonneg _ (by omega)]; split <;> omega
  have h81 : ((x.natAbs / 3 : Nat) : Int).fdiv 81 = ((x.natAbs / 3 / 81 : Nat) : Int) := by rw [Int.fdiv_eq_ediv_of_nonneg _ (by omega)]; rfl
  have h50 : ((x.natAbs / 3 / 81 : Nat) : Int).fmod 50 = ((x.natAbs / 3 / 81 % 50 : Nat) : Int) := by rw [Int.fmod_eq_emod_of_nonneg _ (by omega)]; rfl
  have hdeed : deed rs x = if x.fmod 3 < 2 then deedSet rs (namesOf (x.natAbs / 3)) ((x.natAbs / 3 / 81 % 50 : Nat) : Int) else deedMove rs (namesOf (x.natAbs / 3)) (underOf (x.natAbs / 3 / 81)) := rfl
  generalize x.natAbs / 3 = y at hab h81 h50 hdeed
  generalize y / 81 = zz at h81 h50 hdeed
  have hp := namesOf_nm y
  have hpl := namesOf_len y
  have hp0 : namesOf y ≠ [] := fun e => by rw [e] at hpl; exact absurd hpl.1 (by decide)
  iterate 28 walk1
  refine names_spec (Rm.le hA' (by decide)) (by walk_at "OWN") ?_
  intro s₂ g₂ a₂ v₂ O₂ hle₂ hG₂ hv₂
  iterate 2 walk1
  refine path_spec (Rm.le hA' (by decide)) (by walk_at "OWN") hG₂ hv₂ hp.good (pathOf_len hp hpl.2) (nm_small hp) ?_
  intro s₃ g₃ t₃ O₃ hle₃
  clear O O₂
  repeat' (first | walk1 | (dsimp only; walk1))
  · rename Int.fmod x 3 < 2 => hlt
    rw [if_pos hlt] at hdeed
    refine set_st (rs := rs) (Rm.le hA' (by decide)) (by walk_at "OWN") hd₁ hd₂ S hn hp hp0 rfl hpl.2 ?_
    intro s₄ g₄ o₁' o₂' zs' b' O₄ hle₄ hd₁' hd₂' S'
    rw [← hdeed] at S'
    iterate 1 walk1
    refine k _ _ _ o₁' o₂' zs' b' (by walk_at "OWN") (by walk_at "LE") ?_ ?_ ?_ hd₁' hd₂' S'
    · exact hmR
    · exact hmS
    · exact hmx
  · rename ¬ (Int.fmod x 3 < 2) => hge
    rename 0 < Int.fmod _ 4 => hz4
    rw [if_neg hge] at hdeed
    have hz4' : zz % 4 > 0 := by rw [Int.fmod_eq_emod_of_nonneg _ (by omega)] at hz4; omega
    have h4 : (zz : Int).fdiv 4 = ((zz / 4 : Nat) : Int) := by rw [Int.fdiv_eq_ediv_of_nonneg _ (by omega)]; rfl
    have hu : underOf zz = namesOf (zz / 4) := if_pos hz4'
    have hun : NmP (underOf zz) := by rw [hu]; exact namesOf_nm _
    have hul : (underOf zz).length ≤ 3 := by rw [hu]; exact (namesOf_len _).2
    rw [h4]
    refine names_spec (Rm.le hA' (by decide)) (by walk_at "OWN") ?_
    intro s₅ g₅ a₅ v₅ O₅ hle₅ hG₅ hv₅
    rw [← hu] at hv₅
    clear O₃
    iterate 2 walk1
    refine path_spec (Rm.le hA' (by decide)) (by walk_at "OWN") hG₅ hv₅ hun.good (pathOf_len hun hul) (nm_small hun) ?_
    intro s₆ g₆ t₆ O₆ hle₆
    clear O₅
    iterate 2 walk1
    refine moved_st (rs := rs) (p := namesOf y) (u := underOf zz) (Rm.le hA' (by decide)) (stk_in hS) (by walk_at "OWN") hd₁ hd₂ S hn hp hp0 hun rfl rfl hpl.2 hul ?_
    intro s₇ g₇ o₁' o₂' zs' b' O₇ hle₇ hd₁' hd₂' S'
    rw [← hdeed] at S'
    iterate 4 walk1
    refine k _ _ _ o₁' o₂' zs' b' (by walk_at "OWN") (by walk_at "LE") ?_ ?_ ?_ hd₁' hd₂' S'
    · exact hmR
    · exact hmS
    · exact hmx
  · rename ¬ (Int.fmod x 3 < 2) => hge
    rename ¬ (0 < Int.fmod _ 4) => hz4
    rw [if_neg hge] at hdeed
    have hz4' : ¬ (zz % 4 > 0) := by rw [Int.fmod_eq_emod_of_nonneg _ (by omega)] at hz4; omega
    have hu : underOf zz = [] := if_neg hz4'
    refine moved_st (rs := rs) (p := namesOf y) (u := underOf zz) (Rm.le hA' (by decide)) (stk_in hS) (by walk_at "OWN") hd₁ hd₂ S hn hp hp0 (by rw [hu]; exact fun _ h => nomatch h) rfl (by rw [hu, pathS_nil, hs]) hpl.2 (by rw [hu]; exact Nat.zero_le _) ?_
    intro s₇ g₇ o₁' o₂' zs' b' O₇ hle₇ hd₁' hd₂' S'
    rw [← hdeed] at S'
    iterate 4 walk1
    refine k _ _ _ o₁' o₂' zs' b' (by walk_at "OWN") (by walk_at "LE") ?_ ?_ ?_ hd₁' hd₂' S'
    · exact hmR
    · exact hmS
    · exact hmx
end

end
section
/-! a turn of law -/
section
variable {W : Wd} {prog : Program} {A₀ : Around} {E : Value → Shared → Prop} {g : Fz} {fs : Fs} {fr : Ob} {gl : Gs} {s : Shared} {L : Addr}
set_option maxHeartbeats 1500000 in
theorem law_turn {s0 : Stmt} {tg it : Expr} {b0 b1 b2 b3 : Stmt} {rest oe more : List Stmt} {fpos : Pos} (hb : (fnAt W.w.params 240).body = .stmts (s0 :: .For tg it (b0 :: b1 :: b2 :: b3 :: rest) oe fpos :: more))
    {a d₁ d₂ : Addr} {o₁ o₂ oD oR : Obj} {rs zs : Zs} {b : List (Str × Int)} {ws : List Value} {m : Str → Option Value} {K : Flow → Shared → Prop} {n : Nat} {x : Int} {t : Tok}
    (hA : Rm A₀ 200) (hS : Stk A₀ fs) (O : Own W g ((L, m) :: fs) ((L + 3, oR) :: (L + 2, oD) :: (d₂, o₂) :: (d₁, o₁) :: fr) gl s) (hR : ∃ v, oR.data = .cell v) (hD : ∃ v, oD.data = .cell v) (cB : GC g (L + 1) (.ref d₂))
    (hmR : m "rows" = some (.ref a)) (hmS : m "sizes" = some (.ref d₁)) (hmx : m "x" = some (.int x t)) (hd₁ : DI W prog d₁ o₁ (toP zs)) (hd₂ : DI W prog d₂ o₂ b) (hG : GL g a ws) (hws : AllV (rs.map (RowV g)) ws) (S : St n zs rs b) (hn : n ≤ 9)
    (k : ∀ s' g' m' oD' oR' o₁' o₂' zs' rs' b' a' ws', Own W g' ((L, m') :: fs) ((L + 3, oR') :: (L + 2, oD') :: (d₂, o₂') :: (d₁, o₁') :: fr) gl s' → g.Le g' → (∃ v, oR'.data = .cell v) → (∃ v, oD'.data = .cell v) → m' "rows" = some (.ref a') → m' "sizes" = some (.ref d₁) →
      DI W prog d₁ o₁' (toP zs') → DI W prog d₂ o₂' b' → GL g' a' ws' → AllV (rs'.map (RowV g')) ws' → St (n + 1) zs' rs' b' → K .next s') :
    wpAny (model prog W.w) (A₀.deeper (envC W.w.params 240 L)) (execs (b0 :: b1 :: b2 :: b3 :: rest) (envC W.w.params 240 L)) K E s := by
  have hb' : (fnAt W.w.params 240).body = .stmts (_ :: .For _ _ (_ :: _ :: _ :: _ :: _ :: _) _ _ :: _) := rfl
  have hb2 := FuncBody.stmts.inj (hb.symm.trans hb')
  obtain ⟨_, hb2⟩ := List.cons.inj hb2
  obtain ⟨hb2, _⟩ := List.cons.inj hb2
  obtain ⟨_, _, hb2, _, _⟩ := Stmt.For.inj hb2
  obtain ⟨_, hb2⟩ := List.cons.inj hb2
  obtain ⟨_, hb2⟩ := List.cons.inj hb2
  obtain ⟨_, hb2⟩ := List.cons.inj hb2
  obtain ⟨e3, hb2⟩ := List.cons.inj hb2
  obtain ⟨b4, rest', hr⟩ : ∃ b4 rest', rest = b4 :: rest' := ⟨_, _, hb2⟩
  clear hb2 hb'
  have hSZ : sizeLine = 16777216 := rfl
  have hA' := Rm.deeper (n := 199) hA (envC W.w.params 240 L)
  have O₁ := O.permO (fr' := (d₁, o₁) :: (d₂, o₂) :: (L + 3, oR) :: (L + 2, oD) :: fr) ((permR [(L + 3, oR), (L + 2, oD)] [(d₂, o₂), (d₁, o₁)] fr).trans (.swap _ _ _))
  refine law_act hb hA hS O₁ cB hmR hmS hmx hd₁ hd₂ S hn ?_
  intro s₂ g₂ m₂ o₁' o₂' zs' b' O₂ hle₂ hmR₂ hmS₂ hmx₂ hd₁' hd₂' S'
  subst e3
  have hG := hG.mono hle₂
  have hws := rowV_mono hle₂ hws
  have cB := cB.mono hle₂
  obtain ⟨vD, hD⟩ := hD
  have hlr := S.lr
  clear O O₁
  iterate 13 walk1
  refine deed_spec (Rm.le hA' (by decide)) (by walk_at "OWN") hG hws (fun r hr => ⟨(S.nr r hr).1, by have := (S.nr r hr).2.2; omega⟩) (by omega) ?_
  intro s₃ g₃ a₃ ws₃ O₃ hle₃ hG₃ hws₃
  iterate 1 walk1
  refine dNew (by walk_at "OWN") ?_
  intro s₄ dd od O₄ hdd
  clear O₃ O₂
  iterate 8 walk1
  refine stO (c := L + 2) (Own.permO (by walk_at "OWN") (List.perm_middle (l₁ := [(dd, od), (d₁, o₁'), (d₂, o₂'), (L + 3, oR)]))) (by rfl) (by rfl) hD ?_
  intro s₅ oD₅ O₅ hD₅
  iterate 1 walk1
  rename Fz.Le g₃ _ => hgB
  have hgA := (hle₂.trans hle₃).trans hgB
  have hws₅ := rowV_mono hgB hws₃
  subst hr
  refine law_due hb hA (Own.permO O₅ ((((List.Perm.swap (d₂, o₂') (d₁, o₁') ((L + 3, oR) :: fr)).cons (dd, od)).cons (L + 2, oD₅)).trans (List.perm_middle (l₁ := [(L + 2, oD₅), (dd, od), (d₂, o₂'), (d₁, o₁')])))) hR hD₅ (cB.mono (hle₃.trans hgB)) (m := _) (vS := .ref d₁) (a := a₃) (rs := deed rs x) rfl ?_ hdd hd₂' (hG₃.mono hgB) hws₅ S' (by omega) ?_
  · exact hmS₂
  intro s₆ g₆ m₆ oD₆ oR₆ od₆ O₆ hle₆ hR₆ hD₆ hmR₆ hmS₆ hdd₆
  refine law_look hb hA O₆ hD₆ (cB.mono (hle₃.trans (hgB.trans hle₆))) hdd₆ hd₂' S' (by omega) ?_
  intro s₇ g₇ O₇ hle₇
  exact k s₇ g₇ m₆ oD₆ oR₆ o₁' o₂' zs' (deed rs x) b' a₃ ws₃ O₇ (hgA.trans (hle₆.trans hle₇)) hR₆ ⟨_, hD₆⟩ hmR₆ hmS₆ hd₁' hd₂' (hG₃.mono (hgB.trans (hle₆.trans hle₇))) (rowV_mono (hgB.trans (hle₆.trans hle₇)) hws₃) S'
end

end
section
/-! law -/
theorem ivs_take : ∀ {l : List Int} {vs : List Value} (n : Nat), AllV (l.map IV) vs → AllV ((l.take n).map IV) (vs.take n)
  | _, _, 0, _ => trivial
  | [], [], n + 1, _ => trivial
  | _ :: _, _ :: _, n + 1, h => ⟨h.1, ivs_take n h.2⟩
  | [], _ :: _, _ + 1, h => h.elim
  | _ :: _, [], _ + 1, h => h.elim
def LawInv (W : Wd) (prog : Program) (d₁ d₂ L : Addr) (i : Nat) (g : Fz) (m : Str → Option Value) (fr' : Ob) : Prop :=
  ∃ o₁ o₂ oD oR zs rs b a ws, fr' = [(L + 3, oR), (L + 2, oD), (d₂, o₂), (d₁, o₁)] ∧ (∃ v, oR.data = .cell v) ∧ (∃ v, oD.data = .cell v) ∧ m "rows" = some (.ref a) ∧ m "sizes" = some (.ref d₁) ∧
    DI W prog d₁ o₁ (toP zs) ∧ DI W prog d₂ o₂ b ∧ GL g a ws ∧ AllV (rs.map (RowV g)) ws ∧ St i zs rs b
theorem LawInv.mono {W : Wd} {prog : Program} {d₁ d₂ L : Addr} {i : Nat} {g g' : Fz} {m : Str → Option Value} {fr' : Ob} (h : LawInv W prog d₁ d₂ L i g m fr') (k : g.Le g') : LawInv W prog d₁ d₂ L i g' m fr' :=
  let ⟨o₁, o₂, oD, oR, zs, rs, b, a, ws, h1, h2, h3, h4, h5, h6, h7, h8, h9, h10⟩ := h
  ⟨o₁, o₂, oD, oR, zs, rs, b, a, ws, h1, h2, h3, h4, h5, h6, h7, h8.mono k, rowV_mono k h9, h10⟩
theorem Own.shut_cell {W : Wd} {g : Fz} {fs : Fs} {fr : Ob} {gl : Gs} {s : Shared} {c : Addr} {o : Obj} {v : Value} (O : Own W g fs ((c, o) :: fr) gl s) (h : o.data = .cell (some v)) : ∃ g', g.Le g' ∧ Own W g' fs fr gl s ∧ GC g' c v :=
  ⟨_, O.shut.1, O.shut.2, ⟨o, Fz.put_self _ _ _, h⟩⟩
section
variable {W : Wd} {prog : Program} {A : Around} {E : Value → Shared → Prop} {g : Fz} {fs : Fs} {fr : Ob} {gl : Gs} {s : Shared}
theorem law_spec {a : Addr} {ns : List Int} {vs : List Value} {R : Result → Shared → Prop} (hA : Rm A 200) (hS : Stk A fs) (O : Own W g fs fr gl s) (hG : GL g a vs) (hv : AllV (ns.map IV) vs) (hl : ns.length ≤ 63)
    (k : ∀ s' g', Own W g' fs fr gl s' → g.Le g' → R (.ok (.ret (.bool true))) s') : codeAny (model prog W.w) A (.call (.ref 240) ⟨[.ref a], []⟩) R s := by
  have hSZ : sizeLine = 16777216 := rfl
  refine call_cells [("script", .ref a)] (fun z => if z = "script" then some (.ref a) else none) (fun _ => none) hA.room O (d_240 _) rfl (by kernel_rfl) rfl (by kernel_rfl) (by intro L; kernel_rfl) (by intro L; exact (by decide : (["row", "due", "book"] : List Str).Nodup)) (by intro L; kernel_rfl) (by intro L; kernel_rfl) (by kernel_rfl) ?_
  intro s₁ L ob hob O₁
  have hc1 := hob "book" (L + 1) (by rfl)
  have hc2 := hob "due" (L + 2) (by rfl)
  have hc3 := hob "row" (L + 3) (by rfl)
  have O₂ : Own W g ((L, fun z => if z = "script" then some (.ref a) else none) :: fs) ((L + 3, ob "row") :: (L + 2, ob "due") :: (L + 1, ob "book") :: fr) gl s₁ := O₁
  clear O₁ hob
  have hA' := Rm.deeper (n := 199) hA (envC W.w.params 240 L)
  iterate 4 walk1
  refine dNew O₂ ?_
  intro s₂ d₁ o₁ O₃ hd₁
  iterate 1 walk1
  refine dNew O₃ ?_
  intro s₃ d₂ o₂ O₄ hd₂
  clear O₂ O₃
  iterate 12 walk1
  refine stO (c := L + 1) (Own.permO (by walk_at "OWN") (List.perm_middle (l₁ := [(d₂, o₂), (d₁, o₁), (L + 3, ob "row"), (L + 2, ob "due")]))) (by rfl) (by rfl) hc1 ?_
  intro s₄ oB O₅ hB
  iterate 5 walk1
  rename_i s₅ O₆
  obtain ⟨g₅, hle₅, O₇, cB⟩ := O₆.shut_cell hB
  rename GL _ _ [] => hGr
  have hGr := GL.mono (g' := g₅) hGr (by walk_at "LE")
  have hgA : g.Le g₅ := by walk_at "LE"
  have hG := hG.mono hgA
  have hvl : vs.length = ns.length := by have := hv.length; rw [List.length_map] at this; exact this.symm
  clear O₄ O₅ O₆
  refine wpAny_For ?_
  iterate 20 walk1
  rename GL _ _ [Value.int 1731 _, _, _, _] => hGi
  refine sliceTo (k := 6) (vs := vs) (by walk_at "OWN") (hG.mono (by walk_at "LE")) (by assumption) rfl (by omega) ?_
  intro s₆ g₆ a₆ O₈ hle₆ hG₆
  refine addL (by walk_at "OWN") (hGi.mono (by walk_at "LE")) hG₆ (by rw [List.length_take]; simp; omega) ?_
  intro s₇ g₇ a₇ O₉ hle₇ hG₇
  refine iter_list (xs := (([1731, 1272, 18743, 40097] : List Int) ++ ns.take 6).map IV) O₉ hG₇ (by rw [List.map_append]; exact AllV.snoc' ⟨⟨_, rfl⟩, ⟨_, rfl⟩, ⟨_, rfl⟩, ⟨_, rfl⟩, trivial⟩ (ivs_take 6 hv)) ?_
  intro s₈ J oJ _ O₁₀ hI _
  have hgB : g₅.Le g₇ := by walk_at "LE"
  clear O₇ O₈ O₉
  have cB := cB.mono hgB
  refine for_loopS (fun i g m fr' => LawInv W prog d₁ d₂ L i g m fr') (fun _ _ _ _ _ h k => h.mono k) (F := []) (G := []) (R := [(J, oJ)]) (Z := []) (fr := [(L + 3, ob "row"), (L + 2, ob "due"), (d₂, o₂), (d₁, o₁)]) (fr₀ := fr) (Rm.le hA' (by decide)) hI.iter (O₁₀.permO ?_) ?_ ?_ ?_
  · exact (permR [(d₂, o₂), (d₁, o₁)] [(L + 3, ob "row"), (L + 2, ob "due")] fr).cons _
  · exact ⟨o₁, o₂, ob "due", ob "row", [], [], [], _, [], rfl, ⟨_, hc3⟩, ⟨_, hc2⟩, rfl, rfl, hd₁, hd₂, hGr.mono hgB, trivial, St.start⟩
  · intro i p v g' m' fr' fs' fr₀ gl' s' hsub hi hv hInv hle' O' K' E' hK
    rw [List.getElem?_map] at hi
    obtain ⟨x, hx, rfl⟩ := Option.map_eq_some_iff.mp hi
    obtain ⟨tv, rfl⟩ := hv
    obtain ⟨o₁, o₂, oD, oR, zs, rs, b, a', ws, hfr, hR, hD, hmR, hmS, hd₁, hd₂, hG, hws, S⟩ := hInv
    subst hfr
    have hi9 : i ≤ 9 := by
      have := (List.getElem?_eq_some_iff.mp hx).1
      rw [List.length_append, List.length_take] at this
      have h4 : ([1731, 1272, 18743, 40097] : List Int).length = 4 := rfl
      omega
    have cB := cB.mono hle'
    have hS' : Stk A fs' := hS.sub hsub
    clear O₁₀ hI
    refine wpAny_assign_Name (st O' (fun s₉ O₁₁ => ?_))
    refine law_turn rfl hA hS' O₁₁ hR hD cB ?_ ?_ (if_pos rfl) hd₁ hd₂ hG hws S hi9 ?_
    · exact hmR
    · exact hmS
    intro s₁₀ g₁₀ m₁₀ oD' oR' o₁' o₂' zs' rs' b' a'' ws' O₁₂ hle₁₀ hR' hD' hmR' hmS' hd₁' hd₂' hG' hws' S'
    exact hK s₁₀ g₁₀ m₁₀ [(L + 3, oR'), (L + 2, oD'), (d₂, o₂'), (d₁, o₁')] O₁₂ hle₁₀ ⟨o₁', o₂', oD', oR', zs', rs', b', a'', ws', rfl, hR', hD', hmR', hmS', hd₁', hd₂', hG', hws', S'⟩
  · intro s' g' m' fr' O' hle' hInv
    obtain ⟨o₁, o₂, oD, oR, zs, rs, b, a', ws, hfr, hR, hD, hmR, hmS, hd₁, hd₂, hG, hws, S⟩ := hInv
    subst hfr
    iterate 3 walk1
    have O' : Own W g' ((L, m') :: fs) ((L + 3, oR) :: (L + 2, oD) :: (d₂, o₂) :: (d₁, o₁) :: fr) gl s' := O'
    exact k _ _ O'.dropO.dropO.dropO.dropO.dropF (hgA.trans (hgB.trans hle'))
end

end
section
/-! the call of law, from the ground of the claim -/
theorem ints_are : ∀ {vs : List Value} {ns : List Int}, IntsAre vs ns → AllV (ns.map IV) vs
  | _, _, .nil => trivial
  | _, _, .cons _ _ h => ⟨⟨_, rfl⟩, ints_are h⟩
theorem law_final {prog : Program} {W : Wd} {a : Addr} {vs : List Value} {ns : List Int} {s₁ : Shared} {R : Result → Shared → Prop} (G : Gnd W s₁.heap) (hos : s₁.os = W.os) (hg : s₁.gens = #[]) (hL : s₁.heap.IsList a vs.toArray) (hI : IntsAre vs ns) (hl : ns.length ≤ 63)
    (k : ∀ s', (∀ b o, s₁.heap.get? b = some o → s'.heap.get? b = some o) → s'.os = s₁.os → AllBare s'.gens → R (.ok (.ret (.bool true))) s') : codeAny (model prog W.w) callerA (.call (.ref 240) ⟨[.ref a], []⟩) R s₁ := by
  have O : Own W s₁.heap.get? [] [] [] s₁ := ⟨⟨s₁.heap, G, fun _ _ e => e⟩, fun _ _ e => e, (fun _ h => nomatch h), (fun _ h => nomatch h), by simp, (fun _ h => nomatch h), (fun _ h => nomatch h), by simp, fun i x e => by rw [hg] at e; simp at e, hos⟩
  refine law_spec (A := callerA) (fs := []) (fr := []) ⟨rfl, by decide, by decide⟩ ⟨[], rfl, (fun _ h => nomatch h)⟩ O hL (ints_are hI) hl fun s' g' O' hle => ?_
  refine k s' (fun b o e => O'.fz b o (hle b o e)) (O'.os.trans hos.symm) fun y hy => ?_
  obtain ⟨i, hi, rfl⟩ := Array.getElem_of_mem hy
  exact O'.bare i _ (Array.getElem?_eq_getElem hi) (by simp)

end
end Mine
set_option maxHeartbeats 8000000 in
theorem PySem.Challenge.cw_il0141_01_holds : PySem.Challenge.rw_il0141_01.Holds := by
  refine Mine.hd ?_
  intro w s₀ s₁ mg mb G Y fa o pm cd doc dV kV ho hd hcd hD hmg hg args vals as hpre hlay hrd hwl hlo
  have KX := kIn_of Y
  have T := G.T
  wrow_args hpre hlay hrd hwl hlo
  refine enter_call ?_
  have e : fa = 240 := by
    have hfa := mg_of KX T.g (Mine.g_law w.params)
    have := hmg.symm.trans hfa
    simpa using this
  subst e
  rename IntsAre _ _ => hI
  rename Heap.IsList _ _ _ => hL
  rename ¬ (_ < _) => hlen
  refine Mine.law_final (W := ⟨w, mg, mb, s₁.os⟩) ⟨KX, T.nolimit, T.g, T.b, T.builtins⟩ rfl hg hL hI (by omega) fun s' hk hos hb => ?_
  exact ⟨.inl ⟨.bool true, .bool true, [], rfl, raisesW_false (fun _ h => nomatch h), .bool true, postW_of rfl rfl (by decide +kernel), unshared_nil⟩, .of_keep hk, hos, hb⟩
