import PyProof.Rows.All
import Wide.All
import OpenK.AllK
import Wide.FinOn
import PySem.Challenge.RW_nq0014_01
set_option Elab.async false
set_option maxRecDepth 100000
section TextHd
open PySem PySem.W PyProof.Rows
namespace Mine
set_option maxHeartbeats 8000000 in
open_top hd for PySem.Challenge.rw_nq0014_01
end Mine
end TextHd
section TextB0
namespace Mine
open PySem PySem.W PySem.Calls PyProof.Rows PySem.Spec
abbrev PG : Program := PySem.Challenge.rw_nq0014_01.row.toRowW.prog
abbrev MD (w : World) : Model := model PG w
noncomputable abbrev KK (w : World) : Frag := hd.heap_39 w.params
/-- the code table of add_callers (it may grow by its generator's code) -/
def TabOk (h : Heap) : Prop := ∃ ps, h.IsCode 55 51 ps ∧ h.TableAt 55 51 ps
theorem KK51 (w : World) : (KK w).lookup 51 = none := rfl
structure Top0 (w : World) (mg mb : Str → Option Value) (h : Heap) : Prop where
  k : (KK w).In h
  t : TopRead hd.view_39 (looseW hd.view_39 []) mg mb h
  bm : ∃ bm ob, BMod h mainGlobals mg bm ob
  tab : TabOk h
theorem TabOk.keeps {h h' : Heap} (x : TabOk h) (k : ∀ b o, h.get? b = some o → h'.get? b = some o) : TabOk h' :=
  let ⟨ps, a, b⟩ := x; ⟨ps, a.keeps k, b.keeps k⟩
theorem TabOk.at51 {h : Heap} (x : TabOk h) : ∃ ps, h.get? 51 = some { cls := .none, data := .fields ps } := let ⟨ps, _, b⟩ := x; ⟨ps, b.2⟩
theorem TabOk.at55 {h : Heap} (x : TabOk h) : ∃ o, h.get? 55 = some o := let ⟨_, _, ⟨o, _, e, _⟩, _⟩ := x; ⟨o, e⟩
structure GoH (h h' : Heap) : Prop where
  keep : ∀ b o, b ≠ 51 → h.get? b = some o → h'.get? b = some o
  tab : TabOk h → TabOk h'
/-- a step that makes new things alone (and lets the code table grow) -/
def Go (s s' : Shared) : Prop := GoH s.heap s'.heap ∧ (AllBare s.gens → AllBare s'.gens) ∧ s'.os = s.os
theorem Go.keep {s s' : Shared} (G : Go s s') : ∀ b o, b ≠ 51 → s.heap.get? b = some o → s'.heap.get? b = some o := G.1.keep
theorem Go.tab {s s' : Shared} (G : Go s s') : TabOk s.heap → TabOk s'.heap := G.1.tab
theorem Go.bare {s s' : Shared} (G : Go s s') : AllBare s.gens → AllBare s'.gens := G.2.1
theorem Go.os {s s' : Shared} (G : Go s s') : s'.os = s.os := G.2.2
theorem Go.refl (s : Shared) : Go s s := ⟨⟨fun _ _ _ e => e, id⟩, id, rfl⟩
theorem Go.trans {s s' s'' : Shared} (a : Go s s') (b : Go s' s'') : Go s s'' :=
  ⟨⟨fun x o n e => b.keep x o n (a.keep x o n e), fun t => b.tab (a.tab t)⟩, fun t => b.bare (a.bare t), b.os.trans a.os⟩
theorem Go.of {s : Shared} {h' : Heap} {t : Nat} (k : ∀ b o, s.heap.get? b = some o → h'.get? b = some o) : Go s { s with heap := h', toks := t } :=
  ⟨⟨fun b o _ e => k b o e, fun x => x.keeps k⟩, id, rfl⟩
theorem Go.tok {s : Shared} {t : Nat} : Go s { s with toks := t } := Go.refl s
theorem Go.push {s : Shared} {o : Obj} : Go s { s with heap := s.heap.push o } := Go.of (t := s.toks) fun _ _ e => Heap.get?_push_of_some _ e
theorem Top0.goH {w : World} {mg mb : Str → Option Value} {h h' : Heap} (T : Top0 w mg mb h) (G : GoH h h') : Top0 w mg mb h' := by
  obtain ⟨ps, hps⟩ := T.tab.at51
  refine ⟨fun a o e => G.keep a o (fun h => by subst h; rw [KK51] at e; cases e) (T.k a o e), ?_, ?_, G.tab T.tab⟩
  · exact ⟨T.t.g.at' fun o e => G.keep _ o (by decide) e, T.t.b.at' fun o e => G.keep _ o (by decide) e,
      let ⟨mc, p, q⟩ := T.t.nolimit; ⟨mc, p.at' fun o e => G.keep _ o (by decide) e, q⟩, T.t.builtins, T.t.free⟩
  · obtain ⟨bm, ob, B⟩ := T.bm
    refine ⟨bm, ob, ⟨B.ns.at' fun o e => G.keep _ o (by decide) e, B.name, B.ne, G.keep _ _ (fun h => ?_) B.obj, B.cls, B.dict, B.data⟩⟩
    have := B.obj; rw [h, hps] at this; cases this; cases B.cls
theorem Top0.go {w : World} {mg mb : Str → Option Value} {s s' : Shared} (T : Top0 w mg mb s.heap) (G : Go s s') : Top0 w mg mb s'.heap := T.goH G.1
abbrev View := Addr → Option Obj
def Le (g g' : View) : Prop := ∀ b o, g b = some o → g' b = some o
theorem Le.refl (g : View) : Le g g := fun _ _ e => e
theorem Le.trans {a b c : View} (x : Le a b) (y : Le b c) : Le a c := fun p o e => y p o (x p o e)
def vw (ms : List Addr) (h : Heap) : View := fun b => if b = 51 ∨ b ∈ ms then none else h.get? b
theorem vw_iff {ms : List Addr} {h : Heap} {b : Addr} {o : Obj} : vw ms h b = some o ↔ b ≠ 51 ∧ b ∉ ms ∧ h.get? b = some o := by
  unfold vw
  by_cases hb : b = 51 ∨ b ∈ ms
  · rw [if_pos hb]
    constructor
    · intro e; cases e
    · rintro ⟨a, c, _⟩; exact (hb.elim a c).elim
  · rw [if_neg hb]
    exact ⟨fun e => ⟨fun q => hb (.inl q), fun q => hb (.inr q), e⟩, fun e => e.2.2⟩
theorem vw_get {ms : List Addr} {h : Heap} {b : Addr} {o : Obj} (e : vw ms h b = some o) : h.get? b = some o := (vw_iff.mp e).2.2
theorem vw_more {ms : List Addr} {s s' : Shared} (xs : List Addr) (G : Go s s') (hx : ∀ x ∈ xs, s.heap.get? x = none) : Le (vw ms s.heap) (vw (xs ++ ms) s'.heap) := fun b o e => by
  obtain ⟨a, c, d⟩ := vw_iff.mp e
  refine vw_iff.mpr ⟨a, fun q => ?_, G.keep b o a d⟩
  rcases List.mem_append.mp q with q | q
  · rw [hx b q] at d; cases d
  · exact c q
theorem vw_go {ms : List Addr} {s s' : Shared} (G : Go s s') : Le (vw ms s.heap) (vw ms s'.heap) := vw_more [] G (fun _ h => nomatch h)
theorem vw_less {ms : List Addr} {h : Heap} (xs : List Addr) : Le (vw (xs ++ ms) h) (vw ms h) := fun b o e => by
  obtain ⟨a, c, d⟩ := vw_iff.mp e
  exact vw_iff.mpr ⟨a, fun q => c (List.mem_append_right _ q), d⟩
theorem vw_sub {ms ms' : List Addr} {h : Heap} (k : ∀ x ∈ ms', x ∈ ms) : Le (vw ms h) (vw ms' h) := fun b o e => by
  obtain ⟨a, c, d⟩ := vw_iff.mp e
  exact vw_iff.mpr ⟨a, fun q => c (k b q), d⟩
def Ok (w : World) (mg mb : Str → Option Value) (ms : List Addr) (s : Shared) : Prop := Top0 w mg mb s.heap ∧ AllBare s.gens ∧ ∀ x ∈ ms, x ≠ 51 ∧ ∃ o, s.heap.get? x = some o
section
variable {w : World} {mg mb : Str → Option Value} {ms : List Addr} {s s' s₀ : Shared}
theorem Ok.top (O : Ok w mg mb ms s) : Top0 w mg mb s.heap := O.1
theorem Ok.bare (O : Ok w mg mb ms s) : AllBare s.gens := O.2.1
theorem Ok.live (O : Ok w mg mb ms s) : ∀ x ∈ ms, ∃ o, s.heap.get? x = some o := fun x hx => (O.2.2 x hx).2
/-- an address that is not live where the top stands is neither 51 nor 55 -/
theorem Top0.ne51 {h : Heap} (T : Top0 w mg mb h) {a : Addr} (e : h.get? a = none) : a ≠ 51 := fun q => by
  obtain ⟨_, x⟩ := T.tab.at51; rw [← q, e] at x; cases x
theorem Top0.ne55 {h : Heap} (T : Top0 w mg mb h) {a : Addr} (e : h.get? a = none) : a ≠ 55 := fun q => by
  obtain ⟨_, x⟩ := T.tab.at55; rw [← q, e] at x; cases x
theorem TabOk.but {h h' : Heap} {a : Addr} (x : TabOk h) (hs : Heap.SameBut a h h') (h4 : a ≠ 51) (h5 : a ≠ 55) : TabOk h' := by
  obtain ⟨ps, ⟨o, vs, file, tf, flags, tg, inF, text, tt, op, ho, hd, h11, h2, h7, h9, h10, hop, hpd, htr, hne⟩, b⟩ := x
  exact ⟨ps, ⟨o, vs, file, tf, flags, tg, inF, text, tt, op, hs.extBut _ _ (Ne.symm h5) ho, hd, h11, h2, h7, h9, h10, hs.extBut _ _ (Ne.symm h4) hop, hpd, htr, hne⟩,
    b.extBut hs.extBut (Ne.symm h5) (Ne.symm h4)⟩
/-- a change at an address that is new since s₀ -/
theorem Go.set (G : Go s₀ s) (T : Top0 w mg mb s₀.heap) {a : Addr} (e : s₀.heap.get? a = none) {h' : Heap} {t : Nat} (hs : Heap.SameBut a s.heap h') : Go s₀ { s with heap := h', toks := t } :=
  ⟨⟨fun b o n x => hs.extBut b o (fun q => by rw [q, e] at x; cases x) (G.keep b o n x), fun x => (G.tab x).but hs (T.ne51 e) (T.ne55 e)⟩, G.bare, G.os⟩
theorem Go.setS (G : Go s₀ s) (T : Top0 w mg mb s₀.heap) {a : Addr} (e : s₀.heap.get? a = none) (hs : Heap.SameBut a s.heap s'.heap) (hg : s'.gens = s.gens) (ho : s'.os = s.os) : Go s₀ s' :=
  ⟨⟨fun b o n x => hs.extBut b o (fun q => by rw [q, e] at x; cases x) (G.keep b o n x), fun x => (G.tab x).but hs (T.ne51 e) (T.ne55 e)⟩, fun x => by rw [hg]; exact G.bare x, ho.trans G.os⟩
theorem Ok.go (O : Ok w mg mb ms s) (G : Go s s') : Ok w mg mb ms s' :=
  ⟨O.top.go G, G.bare O.bare, fun x hx => let ⟨n, o, e⟩ := O.2.2 x hx; ⟨n, o, G.keep x o n e⟩⟩
/-- the state behind, with what is new since and lives -/
theorem Ok.more (O : Ok w mg mb ms s₀) (G : Go s₀ s) {xs : List Addr} (hx : ∀ x ∈ xs, s₀.heap.get? x = none ∧ ∃ o, s.heap.get? x = some o) : Ok w mg mb (xs ++ ms) s :=
  ⟨O.top.go G, G.bare O.bare, fun x h => (List.mem_append.mp h).elim (fun h => ⟨O.top.ne51 (hx x h).1, (hx x h).2⟩) fun h => (O.go G).2.2 x h⟩
theorem Ok.fr (O : Ok w mg mb ms s₀) (G : Go s₀ s) {L : Addr} {m : Str → Option Value} (hL : s₀.heap.get? L = none) (hn : s.heap.Ns L m) : Ok w mg mb (L :: ms) s :=
  O.more (xs := [L]) G fun x hx => by rw [List.mem_singleton.mp hx]; exact ⟨hL, let ⟨o, _, _, e, _⟩ := hn; ⟨o, e⟩⟩
theorem Ok.sub {ms' : List Addr} (O : Ok w mg mb ms s) (k : ∀ x ∈ ms', x ∈ ms) : Ok w mg mb ms' s := ⟨O.1, O.2.1, fun x hx => O.2.2 x (k x hx)⟩
theorem vw_same {a : Addr} {h h' : Heap} (hs : Heap.SameBut a h h') (ha : a ∈ ms) : Le (vw ms h) (vw ms h') := fun b o e => by
  obtain ⟨x, y, z⟩ := vw_iff.mp e
  exact vw_iff.mpr ⟨x, y, hs.extBut b o (fun q => y (q ▸ ha)) z⟩
end
structure Fit (A : Around) (d u : Nat) : Prop where
  h : A.handled = none
  d : A.depth + d < recursionLimit
  u : A.units + u < cLine
theorem Fit.deeper {A : Around} {d u : Nat} {env : Env} (F : Fit A (d + 1) (u + 3)) : Fit (A.deeper env) d u :=
  ⟨F.h, by have := F.d; show A.depth + 1 + d < _; omega, by have := F.u; show A.units + 3 + u < _; omega⟩
theorem Fit.in1 {A : Around} {d u : Nat} (F : Fit A d (u + 1)) : Fit A.in1 d u := ⟨F.h, F.d, by have := F.u; show A.units + 1 + u < _; omega⟩
theorem Fit.le {A : Around} {d u d' u' : Nat} (F : Fit A d u) (hd : d' ≤ d := by decide) (hu : u' ≤ u := by decide) : Fit A d' u' := ⟨F.h, by have := F.d; omega, by have := F.u; omega⟩
theorem Fit.uu {A : Around} {d u k : Nat} (F : Fit A d u) (h : k ≤ u) : A.units + k < cLine := Nat.lt_of_le_of_lt (Nat.add_le_add_left h _) F.u
theorem Fit.uu1 {A : Around} {d u k : Nat} (F : Fit A d u) (h : k + 1 ≤ u) : A.in1.units + k < cLine := by
  show A.units + 1 + k < cLine
  rw [Nat.add_assoc, Nat.add_comm 1]; exact F.uu h
theorem Fit.room {A : Around} {d u : Nat} (F : Fit A d u) : A.depth < recursionLimit := by have := F.d; omega
theorem Fit.units {A : Around} {d u : Nat} (F : Fit A d u) : A.units < cLine := by have := F.u; omega
/-- nothing is raised -/
abbrev NE : Value → Shared → Prop := fun _ _ => False
noncomputable def fdOf (w : World) (a : Addr) : FuncData := match (KK w).lookup a with
  | some o => (match o.data with | .func fd => fd | _ => default)
  | none => default
/-- entering a def of the text -/
theorem call_fn {w : World} {mg mb : Str → Option Value} {A : Around} {ms : List Addr} {s : Shared} {f : Addr} {o : Obj} {body : List Stmt} {args : List Value} {binds : List (Str × Value)} {Q E : Value → Shared → Prop}
    (O : Ok w mg mb ms s) (hA : A.depth < recursionLimit) (ho : (KK w).lookup f = some o) (hdata : o.data = .func (fdOf w f)) (hcd : codeIn (KK w) (fdOf w f).code (fdOf w f).qualname = true)
    (hbody : (fdOf w f).body = .stmts body) (hbind : bindArgs (fdOf w f) ⟨args, []⟩ = pure binds) (hclo : (fdOf w f).closure = [])
    (hkind : (binds.all fun y => (fdOf w f).scope.names.lookup y.1 == some .local || (fdOf w f).scope.names.lookup y.1 == some .cell) = true)
    (h : ∀ L s₁, s.heap.get? L = none → Go s s₁ → s₁.heap.Ns L (bindL (callEnvC (fdOf w f) L f).kindOf binds fun _ => none) →
      (∀ n c, (callEnvC (fdOf w f) L f).cells.lookup n = some c → s.heap.get? c = none ∧ c ≠ L ∧ s₁.heap.IsCell c (bindC (callEnvC (fdOf w f) L f).kindOf binds (fun _ => none) n)) →
      ((callEnvC (fdOf w f) L f).cells.Pairwise fun x y => x.2 ≠ y.2) →
      wpAny (MD w) (A.deeper (callEnvC (fdOf w f) L f)) (execs body (callEnvC (fdOf w f) L f)) (fun fl s' => Q (match fl with | .ret v => v | _ => .none) s') NE s₁)
    (hco : (fdOf w f).scope.isCoroutine = false := by rfl) (hgen : (fdOf w f).scope.isGenerator = false := by rfl) (hk : (fdOf w f).scope.kind = .function := by rfl) :
    wpAny (MD w) A (call (.ref f) args) Q E s := by
  refine wpAny_call (codeAny_call_cells hA (O.top.k _ _ ho) hdata O.top.t.nolimit (codeRec_of O.top.k hcd) hbody hbind hclo (kindsX hkind _) (fun s₁ I => ?_) hco hgen hk)
  have hnone : ∀ a, s.heap.objs.size ≤ a → s.heap.get? a = none := fun a ha => by
    cases e : s.heap.get? a with
    | none => rfl
    | some o' => exact absurd (Heap.lt_size e) (Nat.not_lt.mpr ha)
  obtain ⟨h₁, tk, rfl⟩ := I.toInCall.same
  refine wpAny_noRaise (h s.heap.objs.size _ (hnone _ (Nat.le_refl _)) (Go.of I.toInCall.keep) I.toInCall.ns (fun n c hc => ?_) I.apart)
  have hab := I.above n c (mem_of_lookup hc)
  exact ⟨hnone _ (Nat.le_of_lt hab), Nat.ne_of_gt hab, I.cell n c hc⟩
/-- the post is named, so that the steps do not carry it -/
theorem absR {w : World} {A : Around} {s : Shared} {c : Code} {R : Result → Shared → Prop} (h : ∀ R' : Result → Shared → Prop, (∀ r s, R r s → R' r s) → codeAny (MD w) A c R' s) : codeAny (MD w) A c R s := h R fun _ _ x => x
theorem absQ {w : World} {A : Around} {s : Shared} {α : Type} {t : Sem α} {Q : α → Shared → Prop} {E : Value → Shared → Prop} (h : ∀ Q' : α → Shared → Prop, (∀ r s, Q r s → Q' r s) → wpAny (MD w) A t Q' E s) : wpAny (MD w) A t Q E s := h Q fun _ _ x => x
theorem ind2 {n i k : Nat} (h : n - i = k + 1) : n - (i + 1) = k := by omega
theorem ind1 {n i k : Nat} (h : n - i = k + 1) : i < n := by omega
theorem ind0 {n i : Nat} (h : n - i = 0) (h2 : i ≤ n) : i = n := by omega
theorem goF {P Q : Prop} (h : Q) : if (false : Bool) = true then P else Q := by simpa using h
theorem goT {P Q : Prop} (h : P) : if (true : Bool) = true then P else Q := by simpa using h
theorem nin1 {a b : Addr} (h : a ≠ b) : a ∉ [b] := by simpa using h
theorem nin2 {a b c : Addr} (h : a ≠ b) (h2 : a ≠ c) : a ∉ [b, c] := by simpa using ⟨h, h2⟩
theorem sub1 {a : Addr} {ys : List Addr} (h : a ∈ ys) : ∀ x ∈ [a], x ∈ ys := by simpa using h
theorem sub2 {a b : Addr} {ys : List Addr} (h : a ∈ ys) (h2 : b ∈ ys) : ∀ x ∈ [a, b], x ∈ ys := by simpa using ⟨h, h2⟩
theorem zm0 {a  : Addr} {l : List Addr} : a ∈ a :: l := .head _
theorem zm1 {a b0 : Addr} {l : List Addr} : a ∈ b0 :: a :: l := .tail _ (.head _)
theorem zm2 {a b0 b1 : Addr} {l : List Addr} : a ∈ b0 :: b1 :: a :: l := .tail _ (.tail _ (.head _))
theorem zm3 {a b0 b1 b2 : Addr} {l : List Addr} : a ∈ b0 :: b1 :: b2 :: a :: l := .tail _ (.tail _ (.tail _ (.head _)))
theorem zm4 {a b0 b1 b2 b3 : Addr} {l : List Addr} : a ∈ b0 :: b1 :: b2 :: b3 :: a :: l := .tail _ (.tail _ (.tail _ (.tail _ (.head _))))
theorem zm5 {a b0 b1 b2 b3 b4 : Addr} {l : List Addr} : a ∈ b0 :: b1 :: b2 :: b3 :: b4 :: a :: l := .tail _ (.tail _ (.tail _ (.tail _ (.tail _ (.head _)))))
theorem zm6 {a b0 b1 b2 b3 b4 b5 : Addr} {l : List Addr} : a ∈ b0 :: b1 :: b2 :: b3 :: b4 :: b5 :: a :: l := .tail _ (.tail _ (.tail _ (.tail _ (.tail _ (.tail _ (.head _))))))
theorem zm7 {a b0 b1 b2 b3 b4 b5 b6 : Addr} {l : List Addr} : a ∈ b0 :: b1 :: b2 :: b3 :: b4 :: b5 :: b6 :: a :: l := .tail _ (.tail _ (.tail _ (.tail _ (.tail _ (.tail _ (.tail _ (.head _)))))))
theorem zs0 {a  : Addr} {l : List Addr} : ∀ x ∈ [a], x ∈ a :: l := sub1 zm0
theorem zs1 {a b0 : Addr} {l : List Addr} : ∀ x ∈ [a], x ∈ b0 :: a :: l := sub1 zm1
theorem zs2 {a b0 b1 : Addr} {l : List Addr} : ∀ x ∈ [a], x ∈ b0 :: b1 :: a :: l := sub1 zm2
theorem zs3 {a b0 b1 b2 : Addr} {l : List Addr} : ∀ x ∈ [a], x ∈ b0 :: b1 :: b2 :: a :: l := sub1 zm3
theorem zn0 {a k : Addr} : a ≠ a + (k + 1) := Nat.ne_of_lt (Nat.lt_add_of_pos_right (Nat.succ_pos _))
theorem zn1 {a k j : Addr} (h : k ≠ j) : a + k ≠ a + j := fun e => h (Nat.add_left_cancel e)
theorem zall1 {P : Addr → Prop} {a : Addr} (h : P a) : ∀ x ∈ [a], P x := fun _ hx => List.mem_singleton.mp hx ▸ h
theorem zall2 {P : Addr → Prop} {a b : Addr} (h : P a ∧ P b) : ∀ x ∈ [a, b], P x := fun x hx => (List.mem_cons.mp hx).elim (fun e => e ▸ h.1) (fun e => zall1 h.2 x e)
theorem zall3 {P : Addr → Prop} {a b c : Addr} (h : P a ∧ P b ∧ P c) : ∀ x ∈ [a, b, c], P x := fun x hx => (List.mem_cons.mp hx).elim (fun e => e ▸ h.1) (fun e => zall2 h.2 x e)
theorem zall4 {P : Addr → Prop} {a b c d : Addr} (h : P a ∧ P b ∧ P c ∧ P d) : ∀ x ∈ [a, b, c, d], P x := fun x hx => (List.mem_cons.mp hx).elim (fun e => e ▸ h.1) (fun e => zall3 h.2 x e)
theorem ninp {a b c : Addr} (h : a ≠ b ∧ a ≠ c) : a ∉ [b, c] := nin2 h.1 h.2
theorem nin3 {a b c d : Addr} (h : a ≠ b ∧ a ≠ c ∧ a ≠ d) : a ∉ [b, c, d] := by simpa using h
end Mine
end TextB0
section TextB1
namespace Mine
open PySem PySem.W PySem.Calls PyProof.Rows PySem.Spec
section
variable {w : World} {mg mb : Str → Option Value} {A : Around} {ms : List Addr} {s s₀ : Shared} {env : Env} {E : Value → Shared → Prop}
theorem nL {x : Str} {pos : Pos} {v : Value} {m : Str → Option Value} {Q : Value → Shared → Prop} (hn : s.heap.Ns env.locals m) (hv : m x = some v) (h : Q v s)
    (hk : env.scope.kind = .function := by rfl) (hl : env.kindOf x = some .local := by rfl) (hd : (x == ("__debug__" : Str)) = false := by rfl) : wpAny (MD w) A (eval (.Name x pos) env) Q E s :=
  wpAny_Name (wpAny_loadName_local hk hl hn hv h) hd
theorem nC {x : Str} {pos : Pos} {c : Addr} {v : Value} {Q : Value → Shared → Prop} (hc : env.cells.lookup x = some c) (hv : s.heap.IsCell c (some v)) (h : Q v s)
    (hk : env.scope.kind = .function := by rfl) (hl : env.kindOf x = some .cell := by rfl) (hd : (x == ("__debug__" : Str)) = false := by rfl) : wpAny (MD w) A (eval (.Name x pos) env) Q E s :=
  wpAny_Name (wpAny_loadName_cell hk hl hc hv h) hd
theorem nF {x : Str} {pos : Pos} {c : Addr} {v : Value} {Q : Value → Shared → Prop} (hc : env.cells.lookup x = some c) (hv : s.heap.IsCell c (some v)) (h : Q v s)
    (hk : env.scope.kind = .function := by rfl) (hl : env.kindOf x = some .free := by rfl) (hd : (x == ("__debug__" : Str)) = false := by rfl) (hn : (x == ("__classdict__" : Str)) = false := by rfl) : wpAny (MD w) A (eval (.Name x pos) env) Q E s :=
  wpAny_Name (wpAny_loadName_free hk hl hc hv h hn) hd
theorem nG {x : Str} {pos : Pos} {v : Value} {Q : Value → Shared → Prop} (T : Top0 w mg mb s.heap) (hx : nsIn (KK w) mainGlobals x = some (some v)) (h : Q v s)
    (hg : env.globals = mainGlobals := by rfl) (hk : env.scope.kind = .function := by rfl) (hl : env.kindOf x = some .globalImplicit := by rfl) (hd : (x == ("__debug__" : Str)) = false := by rfl) : wpAny (MD w) A (eval (.Name x pos) env) Q E s :=
  Name_function_global hk hl (loadGlobal_global (env := env) (by rw [hg]; exact T.t.g) (mg_of T.k T.t.g hx) h) hd
theorem nB {x : Str} {pos : Pos} {v : Value} {Q : Value → Shared → Prop} (T : Top0 w mg mb s.heap) (hx : nsIn (KK w) mainGlobals x = some none ∧ bootBuiltins x = some v ∧ x ≠ "__name__") (h : Q v s)
    (hg : env.globals = mainGlobals := by rfl) (hb : env.builtins = builtinsNs := by rfl) (hk : env.scope.kind = .function := by rfl) (hl : env.kindOf x = some .globalImplicit := by rfl) (hd : (x == ("__debug__" : Str)) = false := by rfl) : wpAny (MD w) A (eval (.Name x pos) env) Q E s :=
  Name_function_global hk hl (loadGlobal_builtin (env := env) (by rw [hg]; exact T.t.g) (mg_none_of T.k T.t.g hx.1) (by rw [hb]; exact T.t.b) ((T.t.builtins x hx.2.2).trans hx.2.1) h) hd
/-- all that stood stands -/
def Kp (s s' : Shared) : Prop := (∀ b o, s.heap.get? b = some o → s'.heap.get? b = some o) ∧ s'.gens = s.gens ∧ s'.os = s.os
theorem Kp.go {s s' : Shared} (k : Kp s s') : Go s s' := ⟨⟨fun b o _ e => k.1 b o e, fun x => x.keeps k.1⟩, fun x => by rw [k.2.1]; exact x, k.2.2⟩
/-- a local is stored -/
theorem sL {x : Str} {v : Value} {m : Str → Option Value} {Q : Unit → Shared → Prop} (O : Ok w mg mb ms s₀) (G : Go s₀ s) (hL : s₀.heap.get? env.locals = none) (hn : s.heap.Ns env.locals m)
    (h : ∀ s', Go s₀ s' → s'.heap.Ns env.locals (fun y => if y = x then some v else m y) → Heap.SameBut env.locals s.heap s'.heap → Q () s')
    (hl : env.kindOf x = some .local := by rfl) (hp : (env.scope.kind == .class || (env.scope.kind == .module && env.locals != env.globals)) = false := by rfl) : wpAny (MD w) A (storeName env x v) Q E s :=
  wpAny_storeName_local hl hn (fun h' hn' hs' => h { s with heap := h', toks := s.toks + 1 } (G.set O.top hL hs') hn' hs') hp
/-- a cell is stored -/
theorem sC {x : Str} {v : Value} {c : Addr} {v₀ : Option Value} {Q : Unit → Shared → Prop} (O : Ok w mg mb ms s₀) (G : Go s₀ s) (hc : env.cells.lookup x = some c) (hN : s₀.heap.get? c = none) (hn : s.heap.IsCell c v₀)
    (h : ∀ s', Go s₀ s' → s'.heap.IsCell c (some v) → Heap.SameBut c s.heap s'.heap → Q () s')
    (hl : env.kindOf x = some .cell := by rfl) (hk : env.scope.kind = .function := by rfl) : wpAny (MD w) A (storeName env x v) Q E s :=
  wpAny_storeName_cell hk hl hc hn fun h' hn' hs' => h { s with heap := h' } (G.set (t := s.toks) O.top hN hs') hn' hs'
abbrev tupO (vs : List Value) : Obj := { cls := .type "tuple", data := .seq vs.toArray }
abbrev lstO (vs : List Value) (n : Nat) : Obj := { cls := .type "list", data := .seq vs.toArray n }
theorem size_new {h : Heap} (x : TabOk h) : 51 < h.objs.size := let ⟨_, e⟩ := x.at51; Heap.lt_size e
theorem get_size (h : Heap) : h.get? h.objs.size = none := by
  cases e : h.get? h.objs.size with
  | none => rfl
  | some o' => exact absurd (Heap.lt_size e) (Nat.lt_irrefl _)
theorem mkT {vs : List Value} {Q : Value → Shared → Prop} (hsz : vs.length ≤ sizeLine)
    (h : ∀ a s', s.heap.get? a = none → s'.heap.get? a = some (tupO vs) → Kp s s' → Q (.ref a) s') : wpAny (MD w) A (newTuple vs) Q E s :=
  wpAny_newObj_type (h _ _ (get_size _) (Heap.get?_push_size _ rfl) ⟨fun _ _ e => Heap.get?_push_of_some _ e, rfl, rfl⟩) (by show vs.toArray.size ≤ sizeLine; rw [List.size_toArray]; exact hsz)
theorem mkL {vs : List Value} {Q : Value → Shared → Prop} (hsz : vs.length ≤ sizeLine)
    (h : ∀ a s', s.heap.get? a = none → s'.heap.get? a = some (lstO vs 0) → Kp s s' → Q (.ref a) s') : wpAny (MD w) A (newList vs) Q E s :=
  wpAny_newObj_type (h _ _ (get_size _) (Heap.get?_push_size _ rfl) ⟨fun _ _ e => Heap.get?_push_of_some _ e, rfl, rfl⟩) (by show vs.toArray.size ≤ sizeLine; rw [List.size_toArray]; exact hsz)
/-- one of several names -/
theorem asg {x : Str} {p : Pos} {elts : List Expr} {v : Value} {vs : List Value} {Q : Unit → Shared → Prop}
    (h : wpAny (MD w) A (storeName env x v) (fun _ s₁ => wpAny (MD w) A (assignInOrder ((assignEach elts env).map (·.2)) vs) Q E s₁) E s)
    (he : assignEach (.Name x p :: elts) env = (false, fun v => assign (.Name x p) env v) :: assignEach elts env := by rfl) : wpAny (MD w) A (assignInOrder ((assignEach (.Name x p :: elts) env).map (·.2)) (v :: vs)) Q E s := by
  rw [he]
  show wpAny _ _ (do holding vs (assign (.Name x p) env v); assignInOrder ((assignEach elts env).map (·.2)) vs) Q E s
  exact wpAny_bind (wpAny_holding (wpAny_assign_Name h))
theorem asg0 {Q : Unit → Shared → Prop} (h : Q () s) : wpAny (MD w) A (assignInOrder ((assignEach [] env).map (·.2)) []) Q E s := wpAny_pure h
/-- a call of one of the text's defs by its name -/
theorem callG {x : Str} {p pos : Pos} {f : Addr} {e : Expr} {rest : List Expr} {Q : Value → Shared → Prop} (T : Top0 w mg mb s.heap) (hx : nsIn (KK w) mainGlobals x = some (some (.ref f))) (hf : keepIn (KK w) (.ref f) = true)
    (h : wpAny (MD w) A (spliced (backTo pos (starEach (e :: rest) env))) (fun vs s₁ => (KK w).In s₁.heap ∧ wpAny (MD w) A (call (.ref f) vs) Q E s₁) E s)
    (hg : env.globals = mainGlobals := by rfl) (hk : env.scope.kind = .function := by rfl) (hl : env.kindOf x = some .globalImplicit := by rfl) (hd : (x == ("__debug__" : Str)) = false := by rfl)
    (he : starEach (e :: rest) env = (false, eval e env) :: starEach rest env := by rfl) (hplain : (backTo pos (starEach rest env)).any (·.1) = false := by rfl) :
    wpAny (MD w) A (eval (.Call (.Name x p) (e :: rest) [] pos) env) Q E s :=
  PyProof.Rows.Call_ (nG T hx (callWith_K (h₀ := s.heap) (first := []) T.k hf h he hplain) hg hk hl hd)
end
section
variable {w : World} {A : Around} {E : Value → Shared → Prop} {s : Shared} {R : Result → Shared → Prop}
/-- one turn of a for -/
theorem for1 {target : Expr} {it : Value} {body orelse : List Stmt} {env : Env} (h : wpAny (MD w) A (pyNext it) (fun r s₁ => match r with
      | none => wpAny (MD w) A (execs orelse env) (fun f s₃ => R (.ok f) s₃) NE s₁
      | some v => wpAny (MD w) A (letOwnedTupleGo target it v) (fun _ s₁' => wpAny (MD w) A (assign target env v) (fun _ s₂ => wpAny (MD w) A (execs body env) (fun f s₃ => match f with
            | .next | .cont => codeAny (MD w) A (.forLoop target it body orelse env) R s₃
            | .brk => R (.ok .next) s₃
            | .ret v => R (.ok (.ret v)) s₃) NE s₂) NE s₁') NE s₁) NE s) : codeAny (MD w) A (.forLoop target it body orelse env) R s := by
  refine codeAny_of_tree ?_
  show wpAny _ A ((forTurn target it body orelse env).onRaise (fun x => do noteFrame x env; theTreesLotGoes x)) _ _ s
  refine wpAny_noted (wpAny_noRaise ?_)
  simp only [forTurn]
  refine wpAny_bind (wpAny_standAt (wpAny_bind (wpAny_onRaise (wpAny_mono h (fun r s₁ h₁ => ?_) fun _ _ h' => h'.elim))))
  cases r with
  | none => exact wpAny_pure ⟨rfl, codeAny_block (wpAny_noRaise h₁)⟩
  | some v =>
    refine wpAny_bind (wpAny_mono h₁ (fun _ s₁' h₁' => ?_) fun _ _ h' => h')
    refine wpAny_bind (wpAny_mono h₁' (fun _ s₂ h₂ => wpAny_bind (wpAny_mono h₂ (fun f s₃ h₃ => ?_) fun _ _ h' => h')) fun _ _ h' => h')
    cases f with
    | next => exact wpAny_pure ⟨rfl, h₃⟩
    | cont => exact wpAny_pure ⟨rfl, h₃⟩
    | brk => exact wpAny_pure h₃
    | ret v => exact wpAny_pure h₃
/-- one turn of a while -/
theorem while1 {test : Expr} {body orelse : List Stmt} {env : Env} (h : wpAny (MD w) A (isTrue test env (eval test env)) (fun b s₂ =>
        if b then wpAny (MD w) A (execs body env) (fun f s₃ => match f with
            | .next | .cont => codeAny (MD w) A (.whileLoop test body orelse env) R s₃
            | .brk => R (.ok .next) s₃
            | .ret v => R (.ok (.ret v)) s₃) NE s₂
        else wpAny (MD w) A (execs orelse env) (fun f s₃ => R (.ok f) s₃) NE s₂) NE s) : codeAny (MD w) A (.whileLoop test body orelse env) R s := by
  refine codeAny_of_tree ?_
  show wpAny _ A ((whileTurn test body orelse env).onRaise (fun x => do noteFrame x env; theTreesLotGoes x)) _ _ s
  refine wpAny_noted (wpAny_noRaise ?_)
  simp only [whileTurn]
  refine wpAny_bind (wpAny_mono h (fun b s₂ h₂ => ?_) fun _ _ h' => h')
  cases b with
  | false =>
    simp only [Bool.false_eq_true, if_false] at h₂ ⊢
    exact wpAny_bind (wpAny_mono h₂ (fun f s₃ h₃ => wpAny_pure h₃) fun _ _ h' => h')
  | true =>
    simp only [if_true] at h₂ ⊢
    refine wpAny_bind (wpAny_mono h₂ (fun f s₃ h₃ => ?_) fun _ _ h' => h')
    cases f with
    | next => exact wpAny_pure ⟨rfl, h₃⟩
    | cont => exact wpAny_pure ⟨rfl, h₃⟩
    | brk => exact wpAny_pure h₃
    | ret v => exact wpAny_pure h₃
/-- one turn of a list comprehension of one clause -/
theorem comp1 {elt target iter : Expr} {ifs : List Expr} {scope : Scope} {pos : Pos} {it acc : Value} {env : Env}
    (h : wpAny (MD w) A (pyNext it) (fun r s₁ => match r with
      | none => R (.ok .next) s₁
      | some v => wpAny (MD w) A (letOwnedTupleGo target it v) (fun _ s₁' => wpAny (MD w) A (assign target env v) (fun _ s₂ =>
          wpAny (MD w) A (forIn ifs true fun c r => if r = true then do let ok ← isTrue c env (eval c env); pure (ForInStep.yield ok) else pure (ForInStep.yield r)) (fun ok s₃ =>
            if ok = true then wpAny (MD w) A (eval elt env) (fun x s₄ =>
              wpAny (MD w) A (call (.builtin "list.append") [acc, x]) (fun _ s₅ => codeAny (MD w) A (.compLoop (.ListComp elt [⟨target, iter, ifs, 0⟩] scope pos) 0 it acc env) R s₅) NE s₄) NE s₃
            else codeAny (MD w) A (.compLoop (.ListComp elt [⟨target, iter, ifs, 0⟩] scope pos) 0 it acc env) R s₃) NE s₂) NE s₁') NE s₁) NE s) :
    codeAny (MD w) A (.compLoop (.ListComp elt [⟨target, iter, ifs, 0⟩] scope pos) 0 it acc env) R s := by
  refine codeAny_of_tree ?_
  show wpAny _ A ((compTurn (.ListComp elt [⟨target, iter, ifs, 0⟩] scope pos) 0 it acc env).onRaise (fun x => do noteFrame x env; theTreesLotGoes x)) _ _ s
  refine wpAny_noted (wpAny_noRaise ?_)
  rw [compTurn_list]
  refine wpAny_bind (wpAny_standAt (wpAny_bind (wpAny_mono h (fun r s₁ h₁ => ?_) fun _ _ h' => h')))
  cases r with
  | none => exact wpAny_pure h₁
  | some v =>
    refine wpAny_bind (wpAny_mono h₁ (fun _ s₁' h₁' => ?_) fun _ _ h' => h')
    refine wpAny_bind (wpAny_mono h₁' (fun _ s₂ h₂ => ?_) fun _ _ h' => h')
    refine wpAny_bind (wpAny_mono h₂ (fun ok s₃ h₃ => ?_) fun _ _ h' => h')
    cases ok with
    | false =>
      simp only [Bool.false_eq_true, if_false] at h₃ ⊢
      exact wpAny_pure ⟨rfl, h₃⟩
    | true =>
      simp only [if_true] at h₃ ⊢
      exact wpAny_bind (wpAny_bind (wpAny_mono h₃ (fun x s₄ h₄ => wpAny_bind (wpAny_mono h₄ (fun _ s₅ h₅ => wpAny_pure (wpAny_pure ⟨rfl, h₅⟩)) fun _ _ h' => h')) fun _ _ h' => h'))
end
-- the top's names
theorem g_isinstance (w : World) : nsIn (KK w) mainGlobals "isinstance" = some none ∧ bootBuiltins "isinstance" = some (.builtin "isinstance") ∧ (Str.ofString "isinstance") ≠ "__name__" := ⟨by kernel_rfl, boot_isinstance, by decide⟩
theorem g_int (w : World) : nsIn (KK w) mainGlobals "int" = some none ∧ bootBuiltins "int" = some (.type "int") ∧ (Str.ofString "int") ≠ "__name__" := ⟨by kernel_rfl, by decide +kernel, by decide⟩
theorem g_bool (w : World) : nsIn (KK w) mainGlobals "bool" = some none ∧ bootBuiltins "bool" = some (.type "bool") ∧ (Str.ofString "bool") ≠ "__name__" := ⟨by kernel_rfl, by decide +kernel, by decide⟩
theorem g_tuple (w : World) : nsIn (KK w) mainGlobals "tuple" = some none ∧ bootBuiltins "tuple" = some (.type "tuple") ∧ (Str.ofString "tuple") ≠ "__name__" := ⟨by kernel_rfl, by decide +kernel, by decide⟩
theorem g_zip (w : World) : nsIn (KK w) mainGlobals "zip" = some none ∧ bootBuiltins "zip" = some (.type "zip") ∧ (Str.ofString "zip") ≠ "__name__" := ⟨by kernel_rfl, by decide +kernel, by decide⟩
theorem g_range (w : World) : nsIn (KK w) mainGlobals "range" = some none ∧ bootBuiltins "range" = some (.type "range") ∧ (Str.ofString "range") ≠ "__name__" := ⟨by kernel_rfl, by decide +kernel, by decide⟩
theorem g_list (w : World) : nsIn (KK w) mainGlobals "list" = some none ∧ bootBuiltins "list" = some (.type "list") ∧ (Str.ofString "list") ≠ "__name__" := ⟨by kernel_rfl, by decide +kernel, by decide⟩
theorem g_len (w : World) : nsIn (KK w) mainGlobals "len" = some none ∧ bootBuiltins "len" = some (.builtin "len") ∧ (Str.ofString "len") ≠ "__name__" := ⟨by kernel_rfl, by decide +kernel, by decide⟩
theorem g_sum (w : World) : nsIn (KK w) mainGlobals "sum" = some none ∧ bootBuiltins "sum" = some (.builtin "sum") ∧ (Str.ofString "sum") ≠ "__name__" := ⟨by kernel_rfl, by decide +kernel, by decide⟩
theorem g_min (w : World) : nsIn (KK w) mainGlobals "min" = some none ∧ bootBuiltins "min" = some (.builtin "min") ∧ (Str.ofString "min") ≠ "__name__" := ⟨by kernel_rfl, by decide +kernel, by decide⟩
theorem g_abs (w : World) : nsIn (KK w) mainGlobals "abs" = some none ∧ bootBuiltins "abs" = some (.builtin "abs") ∧ (Str.ofString "abs") ≠ "__name__" := ⟨by kernel_rfl, by decide +kernel, by decide⟩
theorem g_VE (w : World) : nsIn (KK w) mainGlobals "ValueError" = some none ∧ bootBuiltins "ValueError" = some (.type "ValueError") ∧ (Str.ofString "ValueError") ≠ "__name__" := ⟨by kernel_rfl, by decide +kernel, by decide⟩
theorem f_TupleComp (w : World) : nsIn (KK w) mainGlobals "TupleComp" = some (some (.ref 38)) := by kernel_rfl
theorem f_afs (w : World) : nsIn (KK w) mainGlobals "add_func_stats" = some (some (.ref 49)) := by kernel_rfl
theorem f_ac (w : World) : nsIn (KK w) mainGlobals "add_callers" = some (some (.ref 56)) := by kernel_rfl
theorem f_uld (w : World) : nsIn (KK w) mainGlobals "unorderable_list_difference" = some (some (.ref 63)) := by kernel_rfl
theorem f_vector (w : World) : nsIn (KK w) mainGlobals "_law_vector" = some (some (.ref 70)) := by kernel_rfl
theorem f_entry (w : World) : nsIn (KK w) mainGlobals "_law_entry" = some (some (.ref 77)) := by kernel_rfl
theorem f_together (w : World) : nsIn (KK w) mainGlobals "_law_together" = some (some (.ref 82)) := by kernel_rfl
theorem f_orders (w : World) : nsIn (KK w) mainGlobals "_law_orders" = some (some (.ref 87)) := by kernel_rfl
theorem f_along (w : World) : nsIn (KK w) mainGlobals "_law_along" = some (some (.ref 94)) := by kernel_rfl
theorem f_greatest (w : World) : nsIn (KK w) mainGlobals "_law_greatest" = some (some (.ref 101)) := by kernel_rfl
theorem f_rings (w : World) : nsIn (KK w) mainGlobals "_law_rings" = some (some (.ref 106)) := by kernel_rfl
theorem f_above (w : World) : nsIn (KK w) mainGlobals "_law_above" = some (some (.ref 111)) := by kernel_rfl
theorem f_sign (w : World) : nsIn (KK w) mainGlobals "_law_sign" = some (some (.ref 116)) := by kernel_rfl
theorem f_whole (w : World) : nsIn (KK w) mainGlobals "_law_whole" = some (some (.ref 123)) := by kernel_rfl
theorem f_parted (w : World) : nsIn (KK w) mainGlobals "_law_parted" = some (some (.ref 128)) := by kernel_rfl
theorem kp (w : World) : keepIn (KK w) (.ref 49) = true ∧ keepIn (KK w) (.ref 56) = true ∧ keepIn (KK w) (.ref 63) = true ∧ keepIn (KK w) (.ref 70) = true ∧ keepIn (KK w) (.ref 77) = true ∧ keepIn (KK w) (.ref 82) = true ∧ keepIn (KK w) (.ref 87) = true ∧
    keepIn (KK w) (.ref 94) = true ∧ keepIn (KK w) (.ref 101) = true ∧ keepIn (KK w) (.ref 106) = true ∧ keepIn (KK w) (.ref 111) = true ∧ keepIn (KK w) (.ref 116) = true ∧ keepIn (KK w) (.ref 123) = true ∧ keepIn (KK w) (.ref 128) = true ∧ keepIn (KK w) (.ref 38) = true :=
  ⟨by kernel_rfl, by kernel_rfl, by kernel_rfl, by kernel_rfl, by kernel_rfl, by kernel_rfl, by kernel_rfl, by kernel_rfl, by kernel_rfl, by kernel_rfl, by kernel_rfl, by kernel_rfl, by kernel_rfl, by kernel_rfl, by kernel_rfl⟩
theorem bd_whole (w : World) (v : Value) : bindArgs (fdOf w 123) ⟨[v], []⟩ = pure [(Str.ofString "x", v)] := by kernel_rfl
section
variable {w : World} {mg mb : Str → Option Value} {A : Around} {ms : List Addr} {s : Shared} {Q E : Value → Shared → Prop}
theorem whole_spec {n : Int} {t : Tok} (O : Ok w mg mb ms s) (hA : Fit A 10 20) (k : ∀ s', Go s s' → Q (.bool true) s') : wpAny (MD w) A (call (.ref 123) [.int n t]) Q E s := by
  refine call_fn O hA.room rfl rfl rfl rfl (bd_whole _ _) rfl rfl ?_
  intro L s₁ hL G hns hc hp
  have T := O.top.go G
  refine wpAny_execs_cons (wpAny_Return_some (wpAny_And2 ?_))
  refine PyProof.Rows.Call_ ?_
  refine nB T (g_isinstance w) ?_
  refine PyProof.Rows.callWith_builtin1 ?_
  refine args_cons ?_
  refine nL hns rfl ?_
  refine args_cons ?_
  refine nB T (g_int w) ?_
  refine args_nil ?_
  refine IsiPair.int_int (wpAny_truthy_bool ?_)
  rw [if_pos rfl]
  refine wpAny_UnaryOp ?_
  refine PyProof.Rows.Call_ ?_
  refine nB T (g_isinstance w) ?_
  refine PyProof.Rows.callWith_builtin1 ?_
  refine args_cons ?_
  refine nL hns rfl ?_
  refine args_cons ?_
  refine nB T (g_bool w) ?_
  refine args_nil ?_
  refine IsiPair.int_bool ?_
  refine not_of (wpAny_truthy_bool ?_)
  exact k _ G
end
end Mine
end TextB1
section TextB2
namespace Mine
open PySem PySem.W PySem.Calls PyProof.Rows PySem.Spec
/-- a list or tuple of the view -/
def Sq (T : String) (g : View) (p : Addr) (vs : List Value) : Prop := ∃ o, g p = some o ∧ o.cls = .type T ∧ ∃ n, o.data = .seq vs.toArray n
theorem Sq.mono {T : String} {g g' : View} {p : Addr} {vs : List Value} (x : Sq T g p vs) (k : Le g g') : Sq T g' p vs := let ⟨o, e, r⟩ := x; ⟨o, k p o e, r⟩
theorem Sq.list {ms : List Addr} {h : Heap} {p : Addr} {vs : List Value} (x : Sq "list" (vw ms h) p vs) : h.IsList p vs.toArray := let ⟨o, e, r⟩ := x; ⟨o, vw_get e, r⟩
theorem Sq.tup {ms : List Addr} {h : Heap} {p : Addr} {vs : List Value} (x : Sq "tuple" (vw ms h) p vs) : h.IsTuple p vs.toArray := let ⟨o, e, r⟩ := x; ⟨o, vw_get e, r⟩
theorem Sq.isTup {ms : List Addr} {h : Heap} {p : Addr} {vs : List Value} (x : Sq "tuple" (vw ms h) p vs) : IsTup h p vs.toArray := let ⟨o, e, r⟩ := x; ⟨o, vw_get e, r⟩
theorem Sq.ofT {ms : List Addr} {h : Heap} {p : Addr} {vs : List Value} (e : h.get? p = some (tupO vs)) (n : p ≠ 51) (hm : p ∉ ms) : Sq "tuple" (vw ms h) p vs := ⟨_, vw_iff.mpr ⟨n, hm, e⟩, rfl, _, rfl⟩
theorem Sq.ofL {ms : List Addr} {h : Heap} {p : Addr} {vs : List Value} {k : Nat} (e : h.get? p = some (lstO vs k)) (n : p ≠ 51) (hm : p ∉ ms) : Sq "list" (vw ms h) p vs := ⟨_, vw_iff.mpr ⟨n, hm, e⟩, rfl, _, rfl⟩
theorem Sq.inj {T : String} {g : View} {p : Addr} {vs us : List Value} (x : Sq T g p vs) (y : Sq T g p us) : vs = us := by
  obtain ⟨o, e, _, n, d⟩ := x; obtain ⟨o', e', _, n', d'⟩ := y
  rw [e] at e'; cases e'; rw [d] at d'; cases d'; rfl
abbrev sK (w : World) := strKind PG w
/-- a dict by written keys -/
def Di (w : World) (g : View) (q : Addr) (kvs : List (Str × Value)) : Prop := (q == sysModules) = false ∧ ∃ o, g q = some o ∧ o.IsDictOf (sK w) kvs
theorem Di.mono {w : World} {g g' : View} {q : Addr} {kvs : List (Str × Value)} (x : Di w g q kvs) (k : Le g g') : Di w g' q kvs := let ⟨n, o, e, r⟩ := x; ⟨n, o, k q o e, r⟩
theorem Di.dict {w : World} {ms : List Addr} {h : Heap} {q : Addr} {kvs : List (Str × Value)} (x : Di w (vw ms h) q kvs) : h.DictOf (sK w) q kvs := let ⟨_, o, e, r⟩ := x; Heap.dictOf_iff.mpr ⟨o, vw_get e, r⟩
/-- ints in a tuple or list -/
def SqI (T : String) (g : View) (p : Addr) (xs : List Int) : Prop := ∃ vs, Sq T g p vs ∧ IntsAre vs xs
theorem SqI.mono {T : String} {g g' : View} {p : Addr} {xs : List Int} (x : SqI T g p xs) (k : Le g g') : SqI T g' p xs := let ⟨vs, a, b⟩ := x; ⟨vs, a.mono k, b⟩
structure Vec where
  a : Int
  b : Int
  c : Int
  d : Int
def Vec.z : Vec := ⟨0, 0, 0, 0⟩
def veq (u v : Vec) : Bool := (u.a == v.a) && (u.b == v.b) && (u.c == v.c) && (u.d == v.d)
theorem veq_iff {u v : Vec} : veq u v = true ↔ u = v := by
  cases u; cases v; simp [veq, and_assoc]
def Vec.add (u v : Vec) : Vec := ⟨u.a + v.a, u.b + v.b, u.c + v.c, u.d + v.d⟩
def fF (W : Bool) (v : Vec) : List Int := if W then [v.a, v.b, v.c, v.d] else [v.a - v.b + v.d]
def fG (W : Bool) (v : Vec) : List Int := if W then [v.c - v.d, v.a + v.b, 2 * v.b, v.a] else [v.b + 2 * v.c]
/-- a caller's count -/
def CV (W : Bool) (g : View) (v : Value) (xs : List Int) : Prop := if W then ∃ p, v = .ref p ∧ SqI "tuple" g p xs else ∃ i t, xs = [i] ∧ v = .int i t
theorem CV.mono {W : Bool} {g g' : View} {v : Value} {xs : List Int} (x : CV W g v xs) (k : Le g g') : CV W g' v xs := by
  unfold CV at x ⊢
  split at x
  · rename_i h; rw [if_pos h]; obtain ⟨p, e, y⟩ := x; exact ⟨p, e, y.mono k⟩
  · rename_i h; rw [if_neg h]; exact x
/-- a callers' table -/
def Cl (w : World) (W : Bool) (g : View) (q : Addr) (v : Vec) : Prop :=
  (v = Vec.z ∧ Di w g q []) ∨ (0 < v.d ∧ ∃ F G, Di w g q [("f", F), ("g", G)] ∧ CV W g F (fF W v) ∧ CV W g G (fG W v))
theorem Cl.mono {w : World} {W : Bool} {g g' : View} {q : Addr} {v : Vec} (x : Cl w W g q v) (k : Le g g') : Cl w W g' q v := by
  rcases x with ⟨e, d⟩ | ⟨hd, F, G, d, f, g⟩
  · exact .inl ⟨e, d.mono k⟩
  · exact .inr ⟨hd, F, G, d.mono k, f.mono k, g.mono k⟩
/-- an entry of a profile -/
def Ent (w : World) (W : Bool) (g : View) (p : Addr) (v : Vec) : Prop :=
  ∃ q ta tb tc td, Sq "tuple" g p [.int v.a ta, .int v.b tb, .int v.c tc, .int v.d td, .ref q] ∧ Cl w W g q v
theorem Ent.mono {w : World} {W : Bool} {g g' : View} {p : Addr} {v : Vec} (x : Ent w W g p v) (k : Le g g') : Ent w W g' p v :=
  let ⟨q, ta, tb, tc, td, a, b⟩ := x; ⟨q, ta, tb, tc, td, a.mono k, b.mono k⟩
theorem Cl.dpos {w : World} {W : Bool} {g : View} {q : Addr} {v : Vec} (x : Cl w W g q v) : 0 ≤ v.d := by
  rcases x with ⟨rfl, _⟩ | ⟨h, _⟩
  · exact Int.le_refl _
  · omega
/-- an entry is one vector's alone -/
theorem Ent.inj {w : World} {W : Bool} {g : View} {p : Addr} {u v : Vec} (x : Ent w W g p u) (y : Ent w W g p v) : u = v := by
  obtain ⟨q, ta, tb, tc, td, a, _⟩ := x
  obtain ⟨q', ta', tb', tc', td', a', _⟩ := y
  have := a.inj a'
  simp only [List.cons.injEq, Value.int.injEq] at this
  obtain ⟨⟨h1, _⟩, ⟨h2, _⟩, ⟨h3, _⟩, ⟨h4, _⟩, _⟩ := this
  cases u; cases v; simp_all
theorem fF_add (W : Bool) (u v : Vec) : fF W (u.add v) = (fF W v).zipWith (· + ·) (fF W u) := by
  cases W <;> simp [fF, Vec.add] <;> omega
theorem fG_add (W : Bool) (u v : Vec) : fG W (u.add v) = (fG W v).zipWith (· + ·) (fG W u) := by
  cases W <;> simp [fG, Vec.add] <;> omega
theorem Vec.z_add (v : Vec) : Vec.z.add v = v := by cases v; simp [Vec.add, Vec.z]
theorem Vec.add_z (v : Vec) : v.add Vec.z = v := by cases v; simp [Vec.add, Vec.z]
theorem Vec.add_assoc (u v x : Vec) : (u.add v).add x = u.add (v.add x) := by cases u; cases v; cases x; simp [Vec.add]; omega
theorem Vec.add_comm (u v : Vec) : u.add v = v.add u := by cases u; cases v; simp [Vec.add]; omega
end Mine
end TextB2
section TextB3
namespace Mine
open PySem PySem.W PySem.Calls PyProof.Rows PySem.Spec
theorem bd_vector (w : World) (v : Value) : bindArgs (fdOf w 70) ⟨[v], []⟩ = pure [(Str.ofString "x", v)] := by kernel_rfl
def vecL (x : Int) : List Int := [(x + 1).fmod 3 - 1, (x.fdiv 3 + 1).fmod 3 - 1, x.fdiv 9, 1]
theorem bits9 : (9 : Int).natAbs.log2 < 9000 := by decide +kernel
section
variable {w : World} {mg mb : Str → Option Value} {A : Around} {ms : List Addr} {s : Shared} {Q E : Value → Shared → Prop}
theorem small_list {vs : List Value} (h : vs.length ≤ 100) : vs.length ≤ sizeLine := Nat.le_trans h (by rw [sizeLine_eq]; decide)
/-- a new object of a function's own frame is no part of the hidden ones -/
theorem Ok.fresh {s : Shared} (O : Ok w mg mb ms s) {a : Addr} (e : s.heap.get? a = none) : a ≠ 51 ∧ a ∉ ms :=
  ⟨O.top.ne51 e, fun h => by obtain ⟨o, x⟩ := O.live a h; rw [e] at x; cases x⟩
/-- what is new behind is new ahead -/
theorem Ok.new {s₀ s : Shared} (O : Ok w mg mb ms s₀) (G : Go s₀ s) {a : Addr} (e : s.heap.get? a = none) : s₀.heap.get? a = none ∧ a ≠ 51 ∧ a ∉ ms := by
  have h := (O.go G).fresh e
  refine ⟨?_, h⟩
  cases q : s₀.heap.get? a with
  | none => rfl
  | some o => have := G.keep a o h.1 q; rw [e] at this; cases this
theorem ne_of_get {h : Heap} {a b : Addr} {o : Obj} (x : h.get? a = some o) (y : h.get? b = none) : a ≠ b := fun q => by rw [q, y] at x; cases x
theorem vector_spec {x : Int} {t : Tok} (O : Ok w mg mb ms s) (hA : Fit A 10 20) (k : ∀ r s', Go s s' → SqI "list" (vw ms s'.heap) r (vecL x) → Q (.ref r) s') : wpAny (MD w) A (call (.ref 70) [.int x t]) Q E s := by
  refine call_fn O hA.room rfl rfl rfl rfl (bd_vector _ _) rfl rfl ?_
  intro L s₁ hL G hns hc hp
  have T := O.top.go G
  have O1 := O.go G
  refine wpAny_execs_cons (wpAny_Return_some ?_)
  refine PyProof.Rows.List_ ?_
  refine args_cons ?_
  refine wpAny_BinOp ?_
  refine wpAny_BinOp ?_
  refine wpAny_BinOp ?_
  refine nL hns rfl ?_
  refine wpAny_Constant_int ?_
  refine add_int ?_
  refine wpAny_Constant_int ?_
  refine PyProof.Rows.mod_int (by decide) ?_
  refine wpAny_Constant_int ?_
  refine sub_int ?_
  refine args_cons ?_
  refine wpAny_BinOp ?_
  refine wpAny_BinOp ?_
  refine wpAny_BinOp ?_
  refine wpAny_BinOp ?_
  refine nL hns rfl ?_
  refine wpAny_Constant_int ?_
  refine PyProof.Rows.floordiv_int (by decide) ?_ (.inl (PyProof.noPylong_of_log2 (by decide +kernel)))
  refine wpAny_Constant_int ?_
  refine add_int ?_
  refine wpAny_Constant_int ?_
  refine PyProof.Rows.mod_int (by decide) ?_
  refine wpAny_Constant_int ?_
  refine sub_int ?_
  refine args_cons ?_
  refine wpAny_BinOp ?_
  refine nL hns rfl ?_
  refine wpAny_Constant_int ?_
  refine PyProof.Rows.floordiv_int (by decide) ?_ (.inl (PyProof.noPylong_of_log2 (by decide +kernel)))
  refine args_cons ?_
  refine wpAny_Constant_int ?_
  refine args_nil ?_
  refine mkL (small_list (Nat.le_of_ble_eq_true rfl)) fun a s2 ha ho hk => ?_
  have F := (O.go G).fresh ha
  refine k a _ (G.trans hk.go) ⟨_, Sq.ofL ho F.1 F.2, ?_⟩
  exact .cons _ _ (.cons _ _ (.cons _ _ (.cons _ _ .nil)))
end
end Mine
end TextB3
section TextB4
namespace Mine
open PySem PySem.W PySem.Calls PyProof.Rows PySem.Spec
section
variable {w : World} {mg mb : Str → Option Value} {A : Around} {ms : List Addr} {s : Shared} {env : Env} {E : Value → Shared → Prop}
theorem draw_list {it t : Addr} {items : Array Value} (hne : t ≠ it) : ∀ (n i : Nat) (s : Shared) (Q : List Value → Shared → Prop), s.heap.IsListIter it t i → s.heap.IsList t items → i + n ≤ items.size →
    (∀ h', h'.IsListIter it t (i + n) → Heap.SameBut it s.heap h' → Q ((items.toList.drop i).take n) { s with heap := h' }) → wpAny (MD w) A (draw (.ref it) n) Q E s
  | 0, i, s, Q, hit, _, _, hQ => by
    show wpAny _ _ (pure []) Q E s
    exact wpAny_pure (by simpa using hQ s.heap hit (Heap.SameBut.refl ..))
  | n + 1, i, s, Q, hit, ht, hle, hQ => by
    have hlt : i < items.size := (by first | exact ind0 (by assumption) (by assumption) | exact ind1 (by assumption) | omega)
    show wpAny _ _ (pyNext (.ref it) >>= _) Q E s
    refine wpAny_bind (wpAny_pyNext_list_item hit ht (x := items[i]) (by simp [hlt]) fun h₁ hit₁ hs₁ => ?_)
    refine wpAny_bind (wpAny_holding (draw_list hne n (i + 1) _ _ hit₁ (ht.extBut hs₁.extBut hne) (by first | assumption | exact ind2 (by assumption) | exact ind1 (by assumption) | exact Nat.le_trans (by assumption) (by decide) | exact Nat.le_of_lt (by assumption) | exact Nat.lt_of_le_of_lt (Nat.le_add_right _ _) (by assumption) | omega) fun h₂ hit₂ hs₂ => wpAny_pure ?_))
    have hd : items.toList.drop i = items[i] :: items.toList.drop (i + 1) := by simp [List.drop_eq_getElem_cons, hlt]
    have := hQ h₂ (by rw [show i + (n + 1) = i + 1 + n by omega]; exact hit₂) (hs₁.trans hs₂)
    rw [hd, List.take_succ_cons] at this
    exact this
theorem unpackItems_list {t : Addr} {items : List Value} {n : Nat} {Q : List Value → Shared → Prop} (hh : A.handled = none) (ht : s.heap.IsList t items.toArray) (hn : n = items.length)
    (hQ : ∀ s', Kp s s' → Q items s') : wpAny (MD w) A (unpackItems (.ref t) n none) Q E s := by
  subst hn
  have hlt : t ≠ s.heap.objs.size := by obtain ⟨o, ho, _⟩ := ht; exact Nat.ne_of_lt (Heap.lt_size ho)
  unfold unpackItems
  refine wpAny_bind ?_
  unfold notIterableAtAll
  refine wpAny_bind (wpAny_specialOf ht.typeIs slot_list_iter.lookup ?_)
  refine wpAny_pure ?_
  simp only [Bool.false_eq_true, if_false]
  refine wpAny_bind (wpAny_holding (wpAny_pyIter_list ht ?_))
  refine wpAny_bind (wpAny_holding (draw_list hlt items.length 0 _ _ ⟨_, Heap.get?_push_size _ rfl, rfl, rfl⟩ (ht.push _) (by first | exact zm0 | exact zm1 | exact zm2 | exact zm3 | exact zm4 | exact zm5 | exact zm6 | exact zm7 | exact zs0 | exact zs1 | exact zs2 | exact zs3 | exact zn0 | exact zn1 (by decide) | simp) fun h₁ hit₁ hs₁ => ?_))
  have hall : List.take items.length (List.drop 0 items.toArray.toList) = items := by simp
  rw [hall]
  rw [if_neg (by first | exact zm0 | exact zm1 | exact zm2 | exact zm3 | exact zm4 | exact zm5 | exact zm6 | exact zm7 | exact zs0 | exact zs1 | exact zs2 | exact zs3 | exact zn0 | exact zn1 (by decide) | simp)]
  have ht₁ : h₁.IsList t items.toArray := (ht.push _).extBut hs₁.extBut hlt
  refine wpAny_bind (wpAny_holding (wpAny_pyNext_list_end hh hit₁ ht₁ (by first | exact zm0 | exact zm1 | exact zm2 | exact zm3 | exact zm4 | exact zm5 | exact zm6 | exact zm7 | exact zs0 | exact zs1 | exact zs2 | exact zs3 | exact zn0 | exact zn1 (by decide) | simp) fun h₂ he₂ => ?_))
  simp only [Option.isSome_none, Bool.false_eq_true, if_false]
  exact wpAny_pure (hQ _ ⟨fun b o e => he₂ b o (Nat.ne_of_lt (Heap.lt_size e)) (hs₁.extBut b o (Nat.ne_of_lt (Heap.lt_size e)) (Heap.get?_push_of_some _ e)), rfl, rfl⟩)
theorem unpackL {elts : List Expr} {x1} {pos : Pos} {t : Addr} {items : List Value} {Q : Unit → Shared → Prop} (hh : A.handled = none) (ht : s.heap.IsList t items.toArray)
    (hn : (assignEach elts env).length = items.length) (hstar : (assignEach elts env).findIdx? (·.1) = none)
    (h : ∀ s', Kp s s' → wpAny (MD w) A (assignInOrder ((assignEach elts env).map (·.2)) items) Q E s') :
    wpAny (MD w) A (assign (.Tuple elts x1 pos) env (.ref t)) Q E s := by
  rw [arm_assign_Tuple]
  refine wpAny_bind (wpAny_standAt ?_)
  unfold unpack
  rw [hstar]
  exact wpAny_bind (wpAny_holding (unpackItems_list hh ht hn h))
theorem unpackT {elts : List Expr} {x1} {pos : Pos} {t : Addr} {items : List Value} {Q : Unit → Shared → Prop} (hh : A.handled = none) (ht : s.heap.IsTuple t items.toArray)
    (hn : (assignEach elts env).length = items.length) (hstar : (assignEach elts env).findIdx? (·.1) = none)
    (h : ∀ s', Kp s s' → wpAny (MD w) A (assignInOrder ((assignEach elts env).map (·.2)) items) Q E s') :
    wpAny (MD w) A (assign (.Tuple elts x1 pos) env (.ref t)) Q E s :=
  wpAny_assign_Tuple hh ht (by rw [hn]; simp) hstar fun h' he => by
    have := h { s with heap := h' } ⟨fun b o e => he b o (Nat.ne_of_lt (Heap.lt_size e)) e, rfl, rfl⟩
    simpa using this
end
section
variable {w : World} {A : Around} {s : Shared} {env : Env} {E : Value → Shared → Prop}
/-- a display of two written keys -/
theorem dict2 {x1 x2 : Str} {k1 k2 : Nat} {p1 p2 pos : Pos} {v1 v2 : Expr} {Q : Value → Shared → Prop} (hne : x1 ≠ x2) (h51 : TabOk s.heap)
    (h : ∀ d s0, s.heap.get? d = none → (d == sysModules) = false → Kp s s0 → s0.heap.get? d = some { cls := .type "dict", data := .dict #[] } →
      wpAny (MD w) A (eval v1 env) (fun u1 s1 => ∀ s1', s1'.heap = s1.heap → s1'.gens = s1.gens → s1'.os = s1.os → wpAny (MD w) A (eval v2 env) (fun u2 s2 => s2.heap.get? d = some { cls := .type "dict", data := .dict #[] } ∧
        ∀ s', s'.heap.DictOf (sK w) d [(x1, u1), (x2, u2)] → Heap.SameBut d s2.heap s'.heap → s'.gens = s2.gens → s'.os = s2.os → Q (.ref d) s') E s1') E s0) :
    wpAny (MD w) A (eval (.Dict [some (.Constant (.str x1) k1 p1), some (.Constant (.str x2) k2 p2)] [v1, v2] pos) env) Q E s := by
  refine wpAny_Dict_pairs (knd := sK w) (pairs := [(eval (.Constant (.str x1) k1 p1) env, do let x ← eval v1 env; standAt pos; pure x), (eval (.Constant (.str x2) k2 p2) env, do let x ← eval v2 env; standAt pos; pure x)]) rfl (by first | exact zm0 | exact zm1 | exact zm2 | exact zm3 | exact zm4 | exact zm5 | exact zm6 | exact zm7 | exact zs0 | exact zs1 | exact zs2 | exact zs3 | exact zn0 | exact zn1 (by decide) | simp) (by first | exact zm0 | exact zm1 | exact zm2 | exact zm3 | exact zm4 | exact zm5 | exact zm6 | exact zm7 | exact zs0 | exact zs1 | exact zs2 | exact zs3 | exact zn0 | exact zn1 (by decide) | simp) ?_
  refine evalPairs_cons ?_
  refine wpAny_Constant_str ?_
  refine wpAny_bind (wpAny_mono (h s.heap.objs.size _ (get_size _) ?_ ⟨fun b o e => Heap.get?_push_of_some _ e, rfl, rfl⟩ (Heap.get?_push_size _ rfl)) (fun u1 s1 h1 => wpAny_bind (wpAny_standAt (wpAny_pure ?_))) fun _ _ e => e)
  · have := size_new h51
    exact beq_eq_false_iff_ne.mpr fun e => by rw [e] at this; exact absurd this (by decide)
  refine evalPairs_cons ?_
  refine wpAny_Constant_str ?_
  refine wpAny_bind (wpAny_mono (h1 _ rfl rfl rfl) (fun u2 s2 h2 => wpAny_bind (wpAny_standAt (wpAny_pure ?_))) fun _ _ e => e)
  rw [evalPairs]
  refine wpAny_pure ⟨[(x1, u1), (x2, u2)], ⟨strKind_is .., rfl, strKind_is .., rfl, trivial⟩, ?_, fun h' hd hs => ?_⟩
  · exact ⟨_, #[], 0, h2.1, ⟨rfl, rfl, rfl⟩, rfl, fun _ he => by simp at he, .nil, by simp⟩
  · have e : merged [] [(x1, u1), (x2, u2)] = [(x1, u1), (x2, u2)] := by
      simp [merged, stored, hne]
    rw [e] at hd
    exact h2.2 _ hd hs rfl rfl
end
theorem bd_entry (w : World) (v u : Value) : bindArgs (fdOf w 77) ⟨[v, u], []⟩ = pure [(Str.ofString "vector", v), (Str.ofString "wide", u)] := by kernel_rfl
section
variable {w : World} {mg mb : Str → Option Value} {A : Around} {ms : List Addr} {s : Shared} {Q E : Value → Shared → Prop}
set_option maxHeartbeats 1000000
theorem entry_spec {p : Addr} {v : Vec} {W : Bool} (O : Ok w mg mb ms s) (hA : Fit A 10 20) (hp : SqI "list" (vw ms s.heap) p [v.a, v.b, v.c, v.d]) (hd : 0 < v.d)
    (k : ∀ r s', Go s s' → Ent w W (vw ms s'.heap) r v → Q (.ref r) s') : wpAny (MD w) A (call (.ref 77) [.ref p, .bool W]) Q E s := by
  obtain ⟨vs, hq, hi⟩ := hp
  obtain ⟨ta, tb, tc, td, rfl⟩ : ∃ ta tb tc td, vs = [.int v.a ta, .int v.b tb, .int v.c tc, .int v.d td] := by
    cases hi with
    | cons _ ta h1 => cases h1 with
      | cons _ tb h2 => cases h2 with
        | cons _ tc h3 => cases h3 with
          | cons _ td h4 => cases h4; exact ⟨_, _, _, _, rfl⟩
  refine call_fn O hA.room rfl rfl rfl rfl (bd_entry _ _ _) rfl rfl ?_
  intro L s₁ hL G hns hc hpw
  have T := O.top.go G
  refine wpAny_execs_cons ?_
  refine Assign_Tuple ?_
  refine nL hns rfl ?_
  refine unpackL hA.h (Sq.list (hq.mono (vw_go G))) rfl rfl ?_
  intro s2 hk1
  replace G := G.trans hk1.go
  replace hns := hns.keeps hk1.1
  refine asg ?_
  refine sL O G hL hns ?_
  intro s3 G hns hs3
  refine asg ?_
  refine sL O G hL hns ?_
  intro s4 G hns hs4
  refine asg ?_
  refine sL O G hL hns ?_
  intro s5 G hns hs5
  refine asg ?_
  refine sL O G hL hns ?_
  intro s6 G hns hs6
  refine asg0 ?_
  dsimp only
  refine wpAny_execs_cons ?_
  refine wpAny_If ?_
  refine wpAny_isTrue_value ?_
  refine nL hns rfl ?_
  refine wpAny_truthy_bool ?_
  cases W with
  | true =>
    rw [if_pos rfl]
    refine wpAny_execs_cons ?_
    refine wpAny_Return_some ?_
    refine PyProof.Rows.Tuple_ ?_
    refine args_cons ?_
    refine nL hns rfl ?_
    refine args_cons ?_
    refine nL hns rfl ?_
    refine args_cons ?_
    refine nL hns rfl ?_
    refine args_cons ?_
    refine nL hns rfl ?_
    refine args_cons ?_
    refine dict2 (by decide) (O.top.go G).tab ?_
    intro d s7 hd6 hd1 hk6 hdo
    have hns6 := hns.keeps hk6.1
    refine PyProof.Rows.Tuple_ ?_
    refine args_cons ?_
    refine nL hns6 rfl ?_
    refine args_cons ?_
    refine nL hns6 rfl ?_
    refine args_cons ?_
    refine nL hns6 rfl ?_
    refine args_cons ?_
    refine nL hns6 rfl ?_
    refine args_nil ?_
    refine mkT (small_list (Nat.le_of_ble_eq_true rfl)) fun f s8 hf7 ho7 hk7 => ?_
    intro s9 e9 eg9 eo9
    have hns7 := hns6.keeps hk7.1
    rw [← e9] at hns7
    refine PyProof.Rows.Tuple_ ?_
    refine args_cons ?_
    refine wpAny_BinOp ?_
    refine nL hns7 rfl ?_
    refine nL hns7 rfl ?_
    refine sub_int ?_
    refine args_cons ?_
    refine wpAny_BinOp ?_
    refine nL hns7 rfl ?_
    refine nL hns7 rfl ?_
    refine add_int ?_
    refine args_cons ?_
    refine wpAny_BinOp ?_
    refine wpAny_Constant_int ?_
    refine nL hns7 rfl ?_
    refine mul_int ?_ (IntMulOk.of_left (by decide +kernel))
    refine args_cons ?_
    refine nL hns7 rfl ?_
    refine args_nil ?_
    refine mkT (small_list (Nat.le_of_ble_eq_true rfl)) fun g s10 hg8 ho8 hk8 => ?_
    have hk9 : Kp s7 s9 := ⟨fun b o e => by rw [e9]; exact hk7.1 b o e, eg9.trans hk7.2.1, eo9.trans hk7.2.2⟩
    rw [← e9] at ho7
    refine ⟨hk8.1 _ _ (hk9.1 _ _ hdo), fun s11 hD9 hs9 eg11 eo11 => ?_⟩
    have N := O.new G hd6
    have G6 := G.trans hk6.go
    have Nf := O.new G6 hf7
    have G7 := G6.trans hk9.go
    have Ng := O.new G7 hg8
    have G8 := G7.trans hk8.go
    have G9 : Go s s11 := Go.setS G8 O.top N.1 hs9 eg11 eo11
    refine args_nil ?_
    refine mkT (small_list (Nat.le_of_ble_eq_true rfl)) fun r s12 hr ho10 hk10 => ?_
    have Nr := O.new G9 hr
    have hfd : f ≠ d := Ne.symm (ne_of_get hdo hf7)
    have hgd : g ≠ d := Ne.symm (ne_of_get (hk9.1 _ _ hdo) hg8)
    refine k r _ (G9.trans hk10.go) ⟨d, ta, tb, tc, td, Sq.ofT ho10 Nr.2.1 Nr.2.2, .inr ⟨hd, .ref f, .ref g, ?_, ?_, ?_⟩⟩
    · obtain ⟨o, e, x⟩ := Heap.dictOf_iff.mp hD9
      exact ⟨hd1, o, vw_iff.mpr ⟨N.2.1, N.2.2, hk10.1 _ _ e⟩, x⟩
    · exact ⟨f, rfl, _, Sq.ofT (hk10.1 _ _ (hs9.extBut _ _ hfd (hk8.1 _ _ ho7))) Nf.2.1 Nf.2.2, .cons _ _ (.cons _ _ (.cons _ _ (.cons _ _ .nil)))⟩
    · exact ⟨g, rfl, _, Sq.ofT (hk10.1 _ _ (hs9.extBut _ _ hgd ho8)) Ng.2.1 Ng.2.2, .cons _ _ (.cons _ _ (.cons _ _ (.cons _ _ .nil)))⟩
  | false =>
    rw [if_neg Bool.false_ne_true]
    refine wpAny_execs_nil ?_
    dsimp only
    refine wpAny_execs_cons ?_
    refine wpAny_Return_some ?_
    refine PyProof.Rows.Tuple_ ?_
    refine args_cons ?_
    refine nL hns rfl ?_
    refine args_cons ?_
    refine nL hns rfl ?_
    refine args_cons ?_
    refine nL hns rfl ?_
    refine args_cons ?_
    refine nL hns rfl ?_
    refine args_cons ?_
    refine dict2 (by decide) (O.top.go G).tab ?_
    intro d s7 hd6 hd1 hk6 hdo
    have hns6 := hns.keeps hk6.1
    refine wpAny_BinOp ?_
    refine wpAny_BinOp ?_
    refine nL hns6 rfl ?_
    refine nL hns6 rfl ?_
    refine sub_int ?_
    refine nL hns6 rfl ?_
    refine add_int ?_
    intro s9 e9 eg9 eo9
    rw [← e9] at hns6
    refine wpAny_BinOp ?_
    refine nL hns6 rfl ?_
    refine wpAny_BinOp ?_
    refine wpAny_Constant_int ?_
    refine nL hns6 rfl ?_
    refine mul_int ?_ (IntMulOk.of_left (by decide +kernel))
    refine add_int ?_
    refine ⟨by rw [e9]; exact hdo, fun s11 hD9 hs9 eg11 eo11 => ?_⟩
    have N := O.new G hd6
    have G6 := G.trans hk6.go
    have G9 : Go s s11 := Go.setS G6 O.top N.1 (by rw [e9] at hs9; exact hs9) (eg11.trans eg9) (eo11.trans eo9)
    refine args_nil ?_
    refine mkT (small_list (Nat.le_of_ble_eq_true rfl)) fun r s12 hr ho10 hk10 => ?_
    have Nr := O.new G9 hr
    obtain ⟨o, e, x⟩ := Heap.dictOf_iff.mp hD9
    exact k r _ (G9.trans hk10.go) ⟨d, ta, tb, tc, td, Sq.ofT ho10 Nr.2.1 Nr.2.2, .inr ⟨hd, _, _, ⟨hd1, o, vw_iff.mpr ⟨N.2.1, N.2.2, hk10.1 _ _ e⟩, x⟩, ⟨_, _, rfl, rfl⟩, ⟨_, _, rfl, rfl⟩⟩⟩
end
end Mine
end TextB4
section TextB5
namespace Mine
open PySem PySem.W PySem.Calls PyProof.Rows PySem.Spec
inductive All2 {α β : Type} (R : α → β → Prop) : List α → List β → Prop
  | nil : All2 R [] []
  | cons {a b as bs} : R a b → All2 R as bs → All2 R (a :: as) (b :: bs)
namespace All2
variable {α β : Type} {R S : α → β → Prop}
theorem length {as : List α} {bs : List β} (h : All2 R as bs) : as.length = bs.length := by
  induction h with
  | nil => rfl
  | cons _ _ ih => simp [ih]
theorem get {as : List α} {bs : List β} (h : All2 R as bs) : ∀ {i : Nat} {b : β}, bs[i]? = some b → ∃ a, as[i]? = some a ∧ R a b := by
  induction h with
  | nil => intro i b e; simp at e
  | cons r _ ih =>
    intro i b e
    cases i with
    | zero => simp at e; subst e; exact ⟨_, rfl, r⟩
    | succ i => exact ih (by simpa using e)
theorem get' {as : List α} {bs : List β} (h : All2 R as bs) : ∀ {i : Nat} {a : α}, as[i]? = some a → ∃ b, bs[i]? = some b ∧ R a b := by
  induction h with
  | nil => intro i b e; simp at e
  | cons r _ ih =>
    intro i b e
    cases i with
    | zero => simp at e; subst e; exact ⟨_, rfl, r⟩
    | succ i => exact ih (by simpa using e)
theorem imp {as : List α} {bs : List β} (h : All2 R as bs) (k : ∀ a b, R a b → S a b) : All2 S as bs := by
  induction h with
  | nil => exact .nil
  | cons r _ ih => exact .cons (k _ _ r) ih
theorem append {as as' : List α} {bs bs' : List β} (h : All2 R as bs) (h' : All2 R as' bs') : All2 R (as ++ as') (bs ++ bs') := by
  induction h with
  | nil => exact h'
  | cons r _ ih => exact .cons r ih
theorem snoc {as : List α} {bs : List β} {a : α} {b : β} (h : All2 R as bs) (r : R a b) : All2 R (as ++ [a]) (bs ++ [b]) := h.append (.cons r .nil)
theorem reverse {as : List α} {bs : List β} (h : All2 R as bs) : All2 R as.reverse bs.reverse := by
  induction h with
  | nil => exact .nil
  | cons r _ ih => rw [List.reverse_cons, List.reverse_cons]; exact ih.snoc r
theorem drop {as : List α} {bs : List β} (h : All2 R as bs) : ∀ n, All2 R (as.drop n) (bs.drop n) := by
  induction h with
  | nil => intro n; simp; exact .nil
  | cons r h ih => intro n; cases n with
    | zero => exact .cons r h
    | succ n => exact ih n
theorem take {as : List α} {bs : List β} (h : All2 R as bs) : ∀ n, All2 R (as.take n) (bs.take n) := by
  induction h with
  | nil => intro n; simp; exact .nil
  | cons r h ih => intro n; cases n with
    | zero => exact .nil
    | succ n => exact .cons r (ih n)
end All2
section
variable {w : World} {A : Around} {s : Shared} {E : Value → Shared → Prop}
theorem iterL {l : Addr} {items : Array Value} {Q : Value → Shared → Prop} (hl : s.heap.IsList l items)
    (h : ∀ I s', s.heap.get? I = none → s'.heap.IsListIter I l 0 → Kp s s' → Q (.ref I) s') : wpAny (MD w) A (pyIter (.ref l)) Q E s :=
  wpAny_pyIter_list hl (h _ _ (get_size _) ⟨_, Heap.get?_push_size _ rfl, rfl, rfl⟩ ⟨fun _ _ e => Heap.get?_push_of_some _ e, rfl, rfl⟩)
/-- changed at one address at most -/
def Ch (a : Addr) (s s' : Shared) : Prop := Heap.SameBut a s.heap s'.heap ∧ s'.gens = s.gens ∧ s'.os = s.os
/-- all kept but at one address -/
def Ke (a : Addr) (s s' : Shared) : Prop := Heap.ExtBut a s.heap s'.heap ∧ s'.gens = s.gens ∧ s'.os = s.os
theorem Ch.ke {a : Addr} {s s' : Shared} (x : Ch a s s') : Ke a s s' := ⟨x.1.extBut, x.2⟩
theorem nextL {it l : Addr} {i : Nat} {items : List Value} {x : Value} {Q : Option Value → Shared → Prop} (hit : s.heap.IsListIter it l i) (hl : s.heap.IsList l items.toArray) (hx : items[i]? = some x)
    (h : ∀ s', s'.heap.IsListIter it l (i + 1) → Ch it s s' → Q (some x) s') : wpAny (MD w) A (pyNext (.ref it)) Q E s :=
  wpAny_pyNext_list_item hit hl (by simpa using hx) fun h' a b => h { s with heap := h' } a ⟨b, rfl, rfl⟩
theorem nextL0 {it l : Addr} {i : Nat} {items : List Value} {Q : Option Value → Shared → Prop} (hh : A.handled = none) (hit : s.heap.IsListIter it l i) (hl : s.heap.IsList l items.toArray) (hx : items[i]? = none)
    (h : ∀ s', Ke it s s' → Q none s') : wpAny (MD w) A (pyNext (.ref it)) Q E s :=
  wpAny_pyNext_list_end hh hit hl (by simpa using hx) fun h' b => h { s with heap := h' } ⟨b, rfl, rfl⟩
variable {mg mb : Str → Option Value} {ms : List Addr} {s₀ : Shared}
theorem Go.ke (G : Go s₀ s) (T : Top0 w mg mb s₀.heap) {a : Addr} (e : s₀.heap.get? a = none) {s' : Shared} (x : Ke a s s') : Go s₀ s' := by
  refine ⟨⟨fun b o n q => x.1 b o (fun z => by rw [z, e] at q; cases q) (G.keep b o n q), fun t => ?_⟩, fun t => by rw [x.2.1]; exact G.bare t, x.2.2.trans G.os⟩
  obtain ⟨ps, ⟨o, vs, file, tf, flags, tg, inF, text, tt, op, ho, hd, h11, h2, h7, h9, h10, hop, hpd, htr, hne⟩, b⟩ := G.tab t
  have h4 := T.ne51 e
  have h5 := T.ne55 e
  exact ⟨ps, ⟨o, vs, file, tf, flags, tg, inF, text, tt, op, x.1 _ _ (Ne.symm h5) ho, hd, h11, h2, h7, h9, h10, x.1 _ _ (Ne.symm h4) hop, hpd, htr, hne⟩, b.extBut x.1 (Ne.symm h5) (Ne.symm h4)⟩
theorem ns_ke {a L : Addr} {m : Str → Option Value} {s' : Shared} (hn : s.heap.Ns L m) (x : Ke a s s') (ne : L ≠ a) : s'.heap.Ns L m := hn.at' fun o e => x.1 L o ne e
end
/-- the picked columns -/
def Pk (g : View) (l : Addr) (pk : List (Int × Int)) : Prop := ∃ vs, Sq "list" g l vs ∧ All2 (fun v cd => ∃ a, v = .ref a ∧ SqI "tuple" g a [cd.1, cd.2]) vs pk
theorem Pk.mono {g g' : View} {l : Addr} {pk : List (Int × Int)} (x : Pk g l pk) (k : Le g g') : Pk g' l pk :=
  let ⟨vs, a, b⟩ := x; ⟨vs, a.mono k, b.imp fun _ _ ⟨a, e, q⟩ => ⟨a, e, q.mono k⟩⟩
/-- a TupleComp -/
def Cm (g : View) (x : Addr) (pk : List (Int × Int)) : Prop :=
  ∃ dx hs t n l, g x = some { cls := .ref 38, dict := some dx, data := .plain } ∧ g dx = some (dictOf [⟨hs, .str "comp_select_list" t, .ref l⟩] n) ∧ Pk g l pk
theorem Cm.mono {g g' : View} {x : Addr} {pk : List (Int × Int)} (c : Cm g x pk) (k : Le g g') : Cm g' x pk :=
  let ⟨dx, hs, t, n, l, a, b, c⟩ := c; ⟨dx, hs, t, n, l, k _ _ a, k _ _ b, c.mono k⟩
def Vec.at (v : Vec) (c : Int) : Int := if c = 0 then v.a else if c = 1 then v.b else v.c
def cmpV : List (Int × Int) → Vec → Vec → Int
  | [], _, _ => 0
  | (c, d) :: r, u, v => if u.at c < v.at c then -d else if v.at c < u.at c then d else cmpV r u v
theorem bd_compare (w : World) (a b c : Value) : bindArgs (fdOf w 35) ⟨[a, b, c], []⟩ = pure [(Str.ofString "self", a), (Str.ofString "left", b), (Str.ofString "right", c)] := by kernel_rfl
theorem cls38 (w : World) : findIn (KK w) (.ref 38) "__getattribute__" = some (some (.builtin "object.__getattribute__")) ∧ findIn (KK w) (.ref 38) "__getattr__" = some none ∧ hasDictIn (KK w) 38 = true ∧
    findIn (KK w) (.ref 38) "comp_select_list" = some none ∧ findIn (KK w) (.ref 38) "compare" = some (some (.ref 35)) ∧ typeIn (KK w) (.ref 35) = some (.type "function") :=
  ⟨by kernel_rfl, by kernel_rfl, by kernel_rfl, by kernel_rfl, by kernel_rfl, by kernel_rfl⟩
section
variable {w : World} {mg mb : Str → Option Value} {A : Around} {ms : List Addr} {s : Shared} {Q E : Value → Shared → Prop}
theorem entry_item {p : Addr} {v : Vec} {W : Bool} {h : Heap} (x : Ent w W (vw ms h) p v) {c : Int} (h0 : 0 ≤ c) (h2 : c ≤ 2) :
    ∃ l j t, IsTup h p (List.toArray l) ∧ seqIndex? c l.length = some j ∧ l[j]? = some (.int (v.at c) t) := by
  obtain ⟨q, ta, tb, tc, td, a, _⟩ := x
  refine ⟨_, c.toNat, if c = 0 then ta else if c = 1 then tb else tc, a.isTup, ?_, ?_⟩
  · have : c = 0 ∨ c = 1 ∨ c = 2 := (by first | exact ind0 (by assumption) (by assumption) | exact ind1 (by assumption) | omega)
    rcases this with rfl | rfl | rfl <;> rfl
  · have : c = 0 ∨ c = 1 ∨ c = 2 := (by first | exact ind0 (by assumption) (by assumption) | exact ind1 (by assumption) | omega)
    rcases this with rfl | rfl | rfl <;> rfl
set_option maxHeartbeats 1000000
theorem compare_spec {x p q : Addr} {u v : Vec} {W : Bool} {pk : List (Int × Int)} (O : Ok w mg mb ms s) (hA : Fit A 10 20) (hx : Cm (vw ms s.heap) x pk) (hpk : ∀ cd ∈ pk, 0 ≤ cd.1 ∧ cd.1 ≤ 2)
    (hp : Ent w W (vw ms s.heap) p u) (hq : Ent w W (vw ms s.heap) q v)
    (k : ∀ t s', Go s s' → Q (.int (cmpV pk u v) t) s') : wpAny (MD w) A (call (.ref 35) [.ref x, .ref p, .ref q]) Q E s := by
  obtain ⟨dx, hs, tt, n, l, c1, c2, vs, c3, c4⟩ := hx
  refine call_fn O hA.room rfl rfl rfl rfl (bd_compare _ _ _ _) rfl rfl ?_
  intro L s₁ hL G hns hc hpw
  have T := O.top.go G
  have le := vw_go (ms := ms) G
  refine wpAny_execs_cons ?_
  refine wpAny_For ?_
  refine Attribute_name ?_
  refine nL hns rfl ?_
  refine get_value (C := 38) (od := some _) T.k ⟨vw_get (le _ _ c1), rfl, rfl, vw_get (le _ _ c2)⟩ (cls38 w).1 (findObj_own (cls38 w).2.2.1 (cls38 w).2.2.2.1 rfl rfl) rfl ?_
  refine iterL (c3.mono le).list ?_
  intro I s2 hI hit0 hk
  have NI := O.new G hI
  have hIL : L ≠ I := by obtain ⟨o, _, _, e, _⟩ := hns; exact ne_of_get e hI
  replace G := G.trans hk.go
  have hns0 := hns.keeps hk.1
  clear hk T le hI hns
  obtain ⟨m, hns, hml, hmr⟩ : ∃ m, s2.heap.Ns L m ∧ m "left" = some (.ref p) ∧ m "right" = some (.ref q) := ⟨_, hns0, rfl, rfl⟩
  clear hns0
  refine absR fun R' hR' => ?_
  obtain ⟨i, hi, hit, hdr⟩ : ∃ i, i ≤ pk.length ∧ s2.heap.IsListIter I l i ∧ cmpV pk u v = cmpV (pk.drop i) u v   := ⟨0, Nat.zero_le _, hit0, rfl⟩
  clear hit0
  induction hn : pk.length - i generalizing i s2 m with
  | zero =>
    have hie : i = pk.length := (by first | exact ind0 (by assumption) (by assumption) | exact ind1 (by assumption) | omega)
    refine for1 ?_
    refine nextL0 hA.h hit (c3.mono (vw_go G)).list (by rw [hie, ← c4.length]; simp) ?_
    intro s3 k3
    try dsimp only
    refine wpAny_execs_nil ?_
    refine hR' _ _ ?_
    try dsimp only
    refine wpAny_execs_cons ?_
    refine wpAny_Return_some ?_
    refine wpAny_Constant_int ?_
    rw [hdr, hie, List.drop_length] at k
    exact k _ _ (Go.ke G O.top NI.1 k3)
  | succ n ih =>
    have hlt : i < pk.length := (by first | exact ind0 (by assumption) (by assumption) | exact ind1 (by assumption) | omega)
    obtain ⟨⟨c, d⟩, hcd⟩ : ∃ cd, pk[i]? = some cd := ⟨pk[i], by simp [hlt]⟩
    obtain ⟨_, hvi, a, rfl, b1, b2, b3⟩ := c4.get hcd
    have hc2 := hpk _ (List.mem_of_getElem? hcd)
    refine for1 ?_
    refine nextL hit (c3.mono (vw_go G)).list hvi ?_
    intro s3 hit k3
    try dsimp only
    replace hns := ns_ke hns k3.ke hIL
    replace G := Go.ke G O.top NI.1 k3.ke
    refine wpAny_letOwnedTupleGo_listiter hit ?_
    refine unpackT hA.h (b2.mono (vw_go G)).tup (by rw [b3.length]; rfl) rfl ?_
    intro s4 k4
    replace hns := hns.keeps k4.1
    replace G := G.trans k4.go
    replace hit := hit.at fun o e => k4.1 _ o e
    obtain ⟨t1, t2, rfl⟩ : ∃ t1 t2, b1 = [.int c t1, .int d t2] := by
      cases b3 with
      | cons _ ta h1 => cases h1 with
        | cons _ tb h2 => cases h2; exact ⟨_, _, rfl⟩
    refine asg ?_
    refine sL O G hL hns ?_
    intro s5 G hns hs5
    replace hit := hit.extBut hs5.extBut (Ne.symm hIL)
    refine asg ?_
    refine sL O G hL hns ?_
    intro s6 G hns hs6
    replace hit := hit.extBut hs6.extBut (Ne.symm hIL)
    refine asg0 ?_
    try dsimp only
    -- l = left[index]
    refine wpAny_execs_cons ?_
    refine wpAny_Assign_Name ?_
    refine PyProof.Rows.Subscript_ ?_
    refine nL hns hml ?_
    refine nL hns rfl ?_
    obtain ⟨l1, j1, t3, i1, i2, i3⟩ := entry_item (hp.mono (vw_go G)) hc2.1 hc2.2
    refine item_tupleT i1 (by have := hc2.1; omega) (by have := hc2.2; omega) i2 i3 ?_
    refine sL O G hL hns ?_
    intro s7 G hns hs7
    replace hit := hit.extBut hs7.extBut (Ne.symm hIL)
    try dsimp only
    refine wpAny_execs_cons ?_
    refine wpAny_Assign_Name ?_
    refine PyProof.Rows.Subscript_ ?_
    refine nL hns hmr ?_
    refine nL hns rfl ?_
    obtain ⟨l2, j2, t4, i4, i5, i6⟩ := entry_item (hq.mono (vw_go G)) hc2.1 hc2.2
    refine item_tupleT i4 (by have := hc2.1; omega) (by have := hc2.2; omega) i5 i6 ?_
    refine sL O G hL hns ?_
    intro s8 G hns hs8
    replace hit := hit.extBut hs8.extBut (Ne.symm hIL)
    try dsimp only
    have hdi : pk.drop i = (c, d) :: pk.drop (i + 1) := by
      rw [List.drop_eq_getElem_cons hlt]
      rw [List.getElem?_eq_getElem hlt] at hcd
      rw [Option.some.inj hcd]
    rw [hdi, cmpV] at hdr
    refine wpAny_execs_cons ?_
    refine wpAny_If ?_
    refine wpAny_isTrue_Compare1 ?_
    refine nL hns rfl ?_
    refine nL hns rfl ?_
    refine lt_int ?_
    refine wpAny_truthy_bool ?_
    by_cases h1 : u.at c < v.at c
    · rw [decide_eq_true h1, if_pos rfl]
      refine wpAny_execs_cons ?_
      refine wpAny_Return_some ?_
      refine wpAny_UnaryOp ?_
      refine nL hns rfl ?_
      refine neg_int ?_
      rw [hdr, if_pos h1] at k
      refine hR' _ _ ?_
      exact k _ _ G
    · rw [decide_eq_false h1, if_neg Bool.false_ne_true]
      refine wpAny_execs_nil ?_
      try dsimp only
      refine wpAny_execs_cons ?_
      refine wpAny_If ?_
      refine wpAny_isTrue_Compare1 ?_
      refine nL hns rfl ?_
      refine nL hns rfl ?_
      refine gt_int ?_
      refine wpAny_truthy_bool ?_
      by_cases h2 : v.at c < u.at c
      · rw [decide_eq_true h2, if_pos rfl]
        refine wpAny_execs_cons ?_
        refine wpAny_Return_some ?_
        refine nL hns rfl ?_
        rw [hdr, if_neg h1, if_pos h2] at k
        refine hR' _ _ ?_
        exact k _ _ G
      · rw [decide_eq_false h2, if_neg Bool.false_ne_true]
        refine wpAny_execs_nil ?_
        try dsimp only
        refine wpAny_execs_nil ?_
        try dsimp only
        rw [if_neg h1, if_neg h2] at hdr
        exact ih _ G _ hns hml hmr _ hlt hit hdr (by first | assumption | exact ind2 (by assumption) | exact ind1 (by assumption) | exact Nat.le_trans (by assumption) (by decide) | exact Nat.le_of_lt (by assumption) | exact Nat.lt_of_le_of_lt (Nat.le_add_right _ _) (by assumption) | omega)
end
end Mine
end TextB5
section TextZ1
namespace Mine
open PySem PySem.W PySem.Calls PyProof.Rows PySem.Spec
theorem Tit.at {h h' : Heap} {a l i} (x : h.IsTupleIter a l i) (e : ∀ o, h.get? a = some o → h'.get? a = some o) : h'.IsTupleIter a l i := let ⟨o, ho, r⟩ := x; ⟨o, e _ ho, r⟩
theorem Tup.at {h h' : Heap} {a items} (x : h.IsTuple a items) (e : ∀ o, h.get? a = some o → h'.get? a = some o) : h'.IsTuple a items := let ⟨o, ho, r⟩ := x; ⟨o, e _ ho, r⟩
section
variable {w : World} {A : Around} {E : Value → Shared → Prop} {s : Shared}
/-- a tuple's iterator hands on its next item -/
theorem nextOfT {it t : Addr} {i : Nat} {items : Array Value} {x : Value} {Q : Value → Shared → Prop} (hit : s.heap.IsTupleIter it t i) (ht : s.heap.IsTuple t items) (hx : items[i]? = some x)
    (hQ : ∀ h', h'.IsTupleIter it t (i + 1) → Heap.SameBut it s.heap h' → Q x { s with heap := h' }) : wpAny (MD w) A (Builtin.SmallTypes.nextOf (.ref it)) Q E s := by
  obtain ⟨o, ho, hc, hd⟩ := id hit
  obtain ⟨ol, hol, _, nl, hdl⟩ := ht
  unfold Builtin.SmallTypes.nextOf
  refine wpAny_bind (wpAny_callSpecial?_slot (name := Str.ofString "__next__") hit.typeIs PySem.F.slot_tuple_iterator_next
    (wpAny_call_entry PySem.F.slot_tuple_iterator_next hit.typeIs PySem.F.entry_tuple_iterator_next ?_ (PySem.F.args_tuple_iterator_next_1 _)))
  show wpAny _ _ (field (.ref it) 0 >>= _) _ _ s
  refine wpAny_bind (wpAny_field ho hd (x := .ref t) rfl ?_)
  show wpAny _ _ (if (Value.ref t == Value.none) = true then _ else _) _ _ s
  rw [if_neg (show ¬ ((Value.ref t == Value.none) = true) from Bool.false_ne_true)]
  show wpAny _ _ (field (.ref it) 1 >>= _) _ _ s
  refine wpAny_bind (wpAny_field ho hd (x := .int i 0) rfl ?_)
  show wpAny _ _ (seqItems? (.ref t) >>= _) _ _ s
  refine wpAny_bind (wpAny_seqItems hol hdl ?_)
  simp only [Int.toNat_natCast, hx]
  refine wpAny_bind (wpAny_setField ho hd (by first | exact zm0 | exact zm1 | exact zm2 | exact zm3 | exact zm4 | exact zm5 | exact zm6 | exact zm7 | exact zs0 | exact zs1 | exact zs2 | exact zs3 | exact zn0 | exact zn1 (by decide) | simp) (wpAny_pure ⟨x, rfl, wpAny_pure (hQ _ ?_ (Heap.SameBut.update ..))⟩))
  exact ⟨_, Heap.get?_update_self _ ho (Obj.isFreed_of_fields (Obj.data_mapFields hd _)), (Obj.cls_mapFields ..).trans hc, by
    rw [Obj.data_mapFields hd]; simp [rawInt]⟩
/-- .. and stops behind its last -/
theorem nextOfT0 {it t : Addr} {i : Nat} {items : Array Value} {Q : Value → Shared → Prop} (hh : A.handled = none) (hit : s.heap.IsTupleIter it t i) (ht : s.heap.IsTuple t items) (hx : items[i]? = none)
    (hE : ∀ h' e, Heap.ExtBut it s.heap h' → (∃ o, h'.get? e = some o ∧ o.cls = .type "StopIteration") → E (.ref e) { s with heap := h' }) : wpAny (MD w) A (Builtin.SmallTypes.nextOf (.ref it)) Q E s := by
  obtain ⟨o, ho, hc, hd⟩ := id hit
  obtain ⟨ol, hol, _, nl, hdl⟩ := ht
  unfold Builtin.SmallTypes.nextOf
  refine wpAny_bind (wpAny_callSpecial?_slot (name := Str.ofString "__next__") hit.typeIs PySem.F.slot_tuple_iterator_next
    (wpAny_call_entry PySem.F.slot_tuple_iterator_next hit.typeIs PySem.F.entry_tuple_iterator_next ?_ (PySem.F.args_tuple_iterator_next_1 _)))
  show wpAny _ _ (field (.ref it) 0 >>= _) _ _ s
  refine wpAny_bind (wpAny_field ho hd (x := .ref t) rfl ?_)
  show wpAny _ _ (if (Value.ref t == Value.none) = true then _ else _) _ _ s
  rw [if_neg (show ¬ ((Value.ref t == Value.none) = true) from Bool.false_ne_true)]
  show wpAny _ _ (field (.ref it) 1 >>= _) _ _ s
  refine wpAny_bind (wpAny_field ho hd (x := .int i 0) rfl ?_)
  show wpAny _ _ (seqItems? (.ref t) >>= _) _ _ s
  refine wpAny_bind (wpAny_seqItems hol hdl ?_)
  simp only [Int.toNat_natCast, hx]
  refine wpAny_bind (wpAny_rule (wpAny_bind (wpAny_setField ho hd (by first | exact zm0 | exact zm1 | exact zm2 | exact zm3 | exact zm4 | exact zm5 | exact zm6 | exact zm7 | exact zs0 | exact zs1 | exact zs2 | exact zs3 | exact zn0 | exact zn1 (by decide) | simp) ?_)))
  show wpAny _ _ (newExc (.type "StopIteration") [] >>= _) _ _ _
  refine wpAny_bind ?_
  simp only [newExc, newTuple]
  refine wpAny_bind (wpAny_newObj_type ?_ (by size_fits))
  refine wpAny_bind (m := firstArgMember _ _) (wpAny_of_eq (a := Value.none) (by first | rfl | (simp only [firstArgMember]; rfl)) ?_)
  refine wpAny_newObj_type ?_ (by size_fits)
  simp only [raiseNew]
  refine wpAny_bind (wpAny_handled ?_)
  first | rw [show A.in1.handled = none from hh] | rw [hh]
  refine wpAny_bind (wpAny_pure (wpAny_throw ?_))
  exact hE _ _ (((Heap.SameBut.update ..).extBut.push _).push _) ⟨_, Heap.get?_push_size _ rfl, rfl⟩
/-- a zip of two tuples, k pairs taken -/
structure ZS (h : Heap) (z TI TO i1 i2 l1 l2 : Addr) (xs ys : Array Value) (f0 : Value) (k : Nat) : Prop where
  z : IsZip h z TI TO f0
  ti : IsPair h TI (.ref i1) (.ref i2)
  to : ∃ a b, IsPair h TO a b
  h1 : h.IsTupleIter i1 l1 k
  h2 : h.IsTupleIter i2 l2 k
  t1 : h.IsTuple l1 xs
  t2 : h.IsTuple l2 ys
theorem ZS.keeps {h h' : Heap} {z TI TO i1 i2 l1 l2 : Addr} {xs ys : Array Value} {f0 : Value} {k : Nat} (x : ZS h z TI TO i1 i2 l1 l2 xs ys f0 k)
    (hk : ∀ b ∈ [z, TI, TO, i1, i2, l1, l2], ∀ o, h.get? b = some o → h'.get? b = some o) : ZS h' z TI TO i1 i2 l1 l2 xs ys f0 k :=
  ⟨hk z (by first | exact zm0 | exact zm1 | exact zm2 | exact zm3 | exact zm4 | exact zm5 | exact zm6 | exact zm7 | exact zs0 | exact zs1 | exact zs2 | exact zs3 | exact zn0 | exact zn1 (by decide) | simp) _ x.z, hk TI (by first | exact zm0 | exact zm1 | exact zm2 | exact zm3 | exact zm4 | exact zm5 | exact zm6 | exact zm7 | exact zs0 | exact zs1 | exact zs2 | exact zs3 | exact zn0 | exact zn1 (by decide) | simp) _ x.ti, let ⟨a, b, e⟩ := x.to; ⟨a, b, hk TO (by first | exact zm0 | exact zm1 | exact zm2 | exact zm3 | exact zm4 | exact zm5 | exact zm6 | exact zm7 | exact zs0 | exact zs1 | exact zs2 | exact zs3 | exact zn0 | exact zn1 (by decide) | simp) _ e⟩, Tit.at x.h1 fun o e => hk i1 (by first | exact zm0 | exact zm1 | exact zm2 | exact zm3 | exact zm4 | exact zm5 | exact zm6 | exact zm7 | exact zs0 | exact zs1 | exact zs2 | exact zs3 | exact zn0 | exact zn1 (by decide) | simp) o e, Tit.at x.h2 fun o e => hk i2 (by first | exact zm0 | exact zm1 | exact zm2 | exact zm3 | exact zm4 | exact zm5 | exact zm6 | exact zm7 | exact zs0 | exact zs1 | exact zs2 | exact zs3 | exact zn0 | exact zn1 (by decide) | simp) o e,
    Tup.at x.t1 fun o e => hk l1 (by first | exact zm0 | exact zm1 | exact zm2 | exact zm3 | exact zm4 | exact zm5 | exact zm6 | exact zm7 | exact zs0 | exact zs1 | exact zs2 | exact zs3 | exact zn0 | exact zn1 (by decide) | simp) o e, Tup.at x.t2 fun o e => hk l2 (by first | exact zm0 | exact zm1 | exact zm2 | exact zm3 | exact zm4 | exact zm5 | exact zm6 | exact zm7 | exact zs0 | exact zs1 | exact zs2 | exact zs3 | exact zn0 | exact zn1 (by decide) | simp) o e⟩
theorem zipT_item {z TI TO i1 i2 l1 l2 : Addr} {k : Nat} {xs ys : Array Value} {x y : Value} {Q : Value → Shared → Prop} (D : ZipApart z TI TO i1 i2 l1 l2)
    (Z : ZS s.heap z TI TO i1 i2 l1 l2 xs ys .none k) (hx : xs[k]? = some x) (hy : ys[k]? = some y)
    (hQ : ∀ h', ZS h' z TI TO i1 i2 l1 l2 xs ys (rawInt s.heap.objs.size) (k + 1) → IsPair h' s.heap.objs.size x y →
      (∀ c o, c ≠ z → c ≠ TO → c ≠ i1 → c ≠ i2 → s.heap.get? c = some o → h'.get? c = some o) → Q (.ref s.heap.objs.size) { s with heap := h' }) :
    wpAny (MD w) A (Builtin.«zip.__next__» ⟨[.ref z], []⟩) (fun fin s' => ∃ v, fin = .done (.ret v) ∧ Q v s') E s := by
  obtain ⟨hz, hTI, ⟨a, b, hTO⟩, h1, h2, hl1, hl2⟩ := Z
  show wpAny _ _ (field (.ref z) 2 >>= _) _ _ _
  refine wpAny_bind (wpAny_field hz rfl (x := .bool false) rfl ?_)
  show wpAny _ _ (field (.ref z) 3 >>= _) _ _ _
  refine wpAny_bind (wpAny_field hz rfl (x := .ref TI) rfl ?_)
  refine wpAny_bind (wpAny_seqItems hTI rfl ?_)
  show wpAny _ _ (Builtin.SmallTypes.ownedTupleIsFree (.ref z) >>= _) _ _ _
  refine wpAny_bind ?_
  unfold Builtin.SmallTypes.ownedTupleIsFree
  refine wpAny_bind (wpAny_field hz rfl (x := .none) rfl (wpAny_pure ?_))
  simp only [if_true]
  refine wpAny_bind (wpAny_rule ?_)
  refine wpAny_bind (wpAny_field hz rfl (x := .ref TO) rfl ?_)
  refine wpAny_bind (wpAny_setField_rec hz (by first | exact zm0 | exact zm1 | exact zm2 | exact zm3 | exact zm4 | exact zm5 | exact zm6 | exact zm7 | exact zs0 | exact zs1 | exact zs2 | exact zs3 | exact zn0 | exact zn1 (by decide) | simp) fun h₁ hz₁ hs₁ => ?_)
  replace hz₁ : IsZip h₁ z TI TO .ellipsis := hz₁
  refine wpAny_bind ?_
  simp only [List.zipIdx_cons, List.zipIdx_nil, List.forIn_cons, List.forIn_nil]
  refine wpAny_bind (wpAny_bind (wpAny_onRaise ?_))
  show wpAny _ _ (Builtin.SmallTypes.nextOf (.ref i1) >>= _) _ _ _
  refine wpAny_bind (nextOfT (Tit.at h1 fun o e => hs₁.extBut _ o D.i1z e) (Tup.at hl1 fun o e => hs₁.extBut _ o D.l1z e) hx fun h₂ h1₂ hs₂ => wpAny_pure ?_)
  have hTO₂ : IsPair h₂ TO a b := hs₂.extBut _ _ D.TOi1 (hs₁.extBut _ _ D.TOz hTO)
  refine wpAny_bind (wpAny_seqItems hTO₂ rfl ?_)
  refine wpAny_bind (wpAny_updateSeq_pair hTO₂ fun h₃ hTO₃ hs₃ => ?_)
  replace hTO₃ : IsPair h₃ TO x b := hTO₃
  refine wpAny_bind (wpAny_letGo (wpAny_pure ?_))
  refine wpAny_bind (wpAny_bind (wpAny_onRaise ?_))
  show wpAny _ _ (Builtin.SmallTypes.nextOf (.ref i2) >>= _) _ _ _
  have up3 : ∀ c o, c ≠ z → c ≠ TO → c ≠ i1 → s.heap.get? c = some o → h₃.get? c = some o := fun c o c1 c2 c3 e => hs₃.extBut _ _ c2 (hs₂.extBut _ _ c3 (hs₁.extBut _ _ c1 e))
  refine wpAny_bind (nextOfT (Tit.at h2 fun o e => up3 _ o D.i2z D.TOi2.symm D.i12.symm e) (Tup.at hl2 fun o e => up3 _ o D.l2z D.l2TO D.l2i1 e) hy fun h₄ h2₄ hs₄ => wpAny_pure ?_)
  have hTO₄ : IsPair h₄ TO x b := hs₄.extBut _ _ D.TOi2 hTO₃
  refine wpAny_bind (wpAny_seqItems hTO₄ rfl ?_)
  refine wpAny_bind (wpAny_updateSeq_pair hTO₄ fun h₅ hTO₅ hs₅ => ?_)
  replace hTO₅ : IsPair h₅ TO x y := hTO₅
  refine wpAny_bind (wpAny_letGo (wpAny_pure (wpAny_pure ?_)))
  refine wpAny_bind (wpAny_seqItems hTO₅ rfl ?_)
  refine wpAny_bind (wpAny_newTuple ?_)
  have hsz : h₅.objs.size = s.heap.objs.size := by rw [hs₅.1, hs₄.1, hs₃.1, hs₂.1, hs₁.1]
  have hz₅ : IsZip h₅ z TI TO .ellipsis := hs₅.extBut _ _ D.TOz.symm (hs₄.extBut _ _ D.i2z.symm (hs₃.extBut _ _ D.TOz.symm (hs₂.extBut _ _ D.i1z.symm hz₁)))
  have up5 : ∀ c o, c ≠ z → c ≠ TO → c ≠ i1 → c ≠ i2 → s.heap.get? c = some o → h₅.get? c = some o := fun c o c1 c2 c3 c4 e => hs₅.extBut _ _ c2 (hs₄.extBut _ _ c4 (up3 c o c1 c2 c3 e))
  have h1₅ : h₅.IsTupleIter i1 l1 (k + 1) := Tit.at h1₂ fun o e => hs₅.extBut _ _ D.TOi1.symm (hs₄.extBut _ _ D.i12 (hs₃.extBut _ _ D.TOi1.symm e))
  have h2₅ : h₅.IsTupleIter i2 l2 (k + 1) := Tit.at h2₄ fun o e => hs₅.extBut _ _ D.TOi2.symm e
  have hzlt : z < h₅.objs.size := Heap.lt_size hz₅
  show wpAny _ _ (Builtin.SmallTypes.ownedTupleHandOut (.ref z) (.ref h₅.objs.size) >>= _) _ _ _
  refine wpAny_bind ?_
  unfold Builtin.SmallTypes.ownedTupleHandOut
  have hz₆ : IsZip (h₅.push { cls := .type "tuple", data := .seq #[x, y] }) z TI TO .ellipsis := Heap.get?_push_of_some _ hz₅
  refine wpAny_bind (wpAny_setField_rec hz₆ (by first | exact zm0 | exact zm1 | exact zm2 | exact zm3 | exact zm4 | exact zm5 | exact zm6 | exact zm7 | exact zs0 | exact zs1 | exact zs2 | exact zs3 | exact zn0 | exact zn1 (by decide) | simp) fun h₇ hz₇ hs₇ => ?_)
  replace hz₇ : IsZip h₇ z TI TO (rawInt h₅.objs.size) := hz₇
  refine wpAny_setField_rec hz₇ (by first | exact zm0 | exact zm1 | exact zm2 | exact zm3 | exact zm4 | exact zm5 | exact zm6 | exact zm7 | exact zs0 | exact zs1 | exact zs2 | exact zs3 | exact zn0 | exact zn1 (by decide) | simp) fun h₈ hz₈ hs₈ => ?_
  replace hz₈ : IsZip h₈ z TI TO (rawInt h₅.objs.size) := hz₈
  have up : ∀ c o, c ≠ z → h₅.get? c = some o → h₈.get? c = some o := fun c o c1 e => hs₈.extBut _ _ c1 (hs₇.extBut _ _ c1 (Heap.get?_push_of_some _ e))
  have hT₈ : IsPair h₈ h₅.objs.size x y := hs₈.extBut _ _ (Nat.ne_of_gt hzlt) (hs₇.extBut _ _ (Nat.ne_of_gt hzlt) (Heap.get?_push_size _ rfl))
  rw [hsz] at hz₈ hT₈
  refine wpAny_pure ⟨_, rfl, ?_⟩
  show Q (.ref h₅.objs.size) _
  rw [hsz]
  exact hQ h₈ ⟨hz₈, up _ _ D.TIz (up5 _ _ D.TIz D.TITO D.TIi1 D.TIi2 hTI), ⟨x, y, up _ _ D.TOz hTO₅⟩, Tit.at h1₅ fun o e => up _ o D.i1z e, Tit.at h2₅ fun o e => up _ o D.i2z e,
    Tup.at hl1 fun o e => up _ o D.l1z (up5 _ o D.l1z D.l1TO D.l1i1 D.l1i2 e), Tup.at hl2 fun o e => up _ o D.l2z (up5 _ o D.l2z D.l2TO D.l2i1 D.l2i2 e)⟩ hT₈
    fun c o c1 c2 c3 c4 e => up c o c1 (up5 c o c1 c2 c3 c4 e)
theorem zipT_end {z TI TO i1 i2 l1 l2 : Addr} {k : Nat} {xs ys : Array Value} {Q : Fin → Shared → Prop} (hh : A.handled = none) (D : ZipApart z TI TO i1 i2 l1 l2)
    (Z : ZS s.heap z TI TO i1 i2 l1 l2 xs ys .none k) (hx : xs[k]? = none)
    (hE : ∀ h' e, (∀ c o, c ≠ z → c ≠ TO → c ≠ i1 → c ≠ i2 → s.heap.get? c = some o → h'.get? c = some o) → (∃ o, h'.get? e = some o ∧ o.cls = .type "StopIteration") → E (.ref e) { s with heap := h' }) :
    wpAny (MD w) A (Builtin.«zip.__next__» ⟨[.ref z], []⟩) Q E s := by
  obtain ⟨hz, hTI, ⟨a, b, hTO⟩, h1, h2, hl1, hl2⟩ := Z
  show wpAny _ _ (field (.ref z) 2 >>= _) _ _ _
  refine wpAny_bind (wpAny_field hz rfl (x := .bool false) rfl ?_)
  show wpAny _ _ (field (.ref z) 3 >>= _) _ _ _
  refine wpAny_bind (wpAny_field hz rfl (x := .ref TI) rfl ?_)
  refine wpAny_bind (wpAny_seqItems hTI rfl ?_)
  show wpAny _ _ (Builtin.SmallTypes.ownedTupleIsFree (.ref z) >>= _) _ _ _
  refine wpAny_bind ?_
  unfold Builtin.SmallTypes.ownedTupleIsFree
  refine wpAny_bind (wpAny_field hz rfl (x := .none) rfl (wpAny_pure ?_))
  simp only [if_true]
  refine wpAny_bind (wpAny_rule ?_)
  refine wpAny_bind (wpAny_field hz rfl (x := .ref TO) rfl ?_)
  refine wpAny_bind (wpAny_setField_rec hz (by first | exact zm0 | exact zm1 | exact zm2 | exact zm3 | exact zm4 | exact zm5 | exact zm6 | exact zm7 | exact zs0 | exact zs1 | exact zs2 | exact zs3 | exact zn0 | exact zn1 (by decide) | simp) fun h₁ hz₁ hs₁ => ?_)
  replace hz₁ : IsZip h₁ z TI TO .ellipsis := hz₁
  refine wpAny_bind ?_
  simp only [List.zipIdx_cons, List.zipIdx_nil, List.forIn_cons, List.forIn_nil]
  refine wpAny_bind (wpAny_bind (wpAny_onRaise ?_))
  show wpAny _ _ (Builtin.SmallTypes.nextOf (.ref i1) >>= _) _ _ _
  refine wpAny_bind (nextOfT0 hh (Tit.at h1 fun o e => hs₁.extBut _ o D.i1z e) (Tup.at hl1 fun o e => hs₁.extBut _ o D.l1z e) hx fun h₂ e hs₂ he => ?_)
  obtain ⟨oe, hoe, hce⟩ := he
  have hz₂ : IsZip h₂ z TI TO .ellipsis := hs₂ _ _ D.i1z.symm hz₁
  have hez : e ≠ z := fun x => by subst x; rw [hz₂] at hoe; cases hoe; simp at hce
  exact wpAny_setField_rec hz₂ (by first | exact zm0 | exact zm1 | exact zm2 | exact zm3 | exact zm4 | exact zm5 | exact zm6 | exact zm7 | exact zs0 | exact zs1 | exact zs2 | exact zs3 | exact zn0 | exact zn1 (by decide) | simp) fun h₃ _ hs₃ => hE h₃ e (fun c o c1 _ c3 _ x => hs₃.extBut _ _ c1 (hs₂ _ _ c3 (hs₁.extBut _ _ c1 x))) ⟨oe, hs₃.extBut _ _ hez hoe, hce⟩
/-- zip over two tuples of one length as the library's walk of pairs -/
theorem zipU {w : World} {A : Around} (hh : A.handled = none) (z TI TO i1 i2 l1 l2 : Addr) (D : ZipApart z TI TO i1 i2 l1 l2) (xs ys : Array Value) (hsz : xs.size = ys.size) :
    WalksU PG w A z [z, TI, TO, i1, i2, l1, l2] [z, TO, i1, i2] xs.size (fun i vals => ∃ x y, xs[i]? = some x ∧ ys[i]? = some y ∧ vals = #[x, y])
      (fun i h => ZS h z TI TO i1 i2 l1 l2 xs ys .none i)
      (fun i T h => ZS h z TI TO i1 i2 l1 l2 xs ys (rawInt T) (i + 1) ∧ T ≠ z ∧ T ≠ TO ∧ T ≠ i1 ∧ T ≠ i2) where
  sub := fun c hc => by simp at hc ⊢; rcases hc with rfl | rfl | rfl | rfl <;> simp
  frame := fun i h h' hst hk => hst.keeps hk
  item := fun i s Q E hi Z hQ => by
    have hiy : i < ys.size := hsz ▸ hi
    have hT : s.TypeIs (.ref z) "zip" := ⟨_, Z.z, rfl⟩
    have lt : ∀ {c o}, s.heap.get? c = some o → s.heap.objs.size ≠ c := fun e => Nat.ne_of_gt (Heap.lt_size e)
    unfold pyNext
    refine wpAny_bind (wpAny_attempt (wpAny_callSpecial?_slot (name := Str.ofString "__next__") hT PySem.F.slot_zip_next
      (wpAny_call_entry PySem.F.slot_zip_next hT PySem.F.entry_zip_next (zipT_item D Z (Array.getElem?_eq_getElem hi) (Array.getElem?_eq_getElem hiy) fun h' Z' a5 hk => wpAny_pure ?_) (PySem.F.args_zip_next_1 _))))
    exact hQ s.heap.objs.size #[xs[i], ys[i]] h' s.toks ⟨_, _, Array.getElem?_eq_getElem hi, Array.getElem?_eq_getElem hiy, rfl⟩ ⟨_, a5, rfl, _, rfl⟩
      ⟨Z', lt Z.z, (by obtain ⟨_, _, e⟩ := Z.to; exact lt e), (by obtain ⟨_, e, _⟩ := Z.h1; exact lt e), (by obtain ⟨_, e, _⟩ := Z.h2; exact lt e)⟩
      fun c o hc e => hk c o (fun x => hc (by simp [x])) (fun x => hc (by simp [x])) (fun x => hc (by simp [x])) (fun x => hc (by simp [x])) e
  go := fun elts k pos i T s Q E hm hQ => by
    obtain ⟨Z, _⟩ := hm
    refine wpAny_letOwnedTupleGo_zip Z.z fun h' hz' hs' => hQ h' ⟨hz', hs'.extBut _ _ D.TIz Z.ti, let ⟨a, b, e⟩ := Z.to; ⟨a, b, hs'.extBut _ _ D.TOz e⟩, Tit.at Z.h1 fun o e => hs'.extBut _ o D.i1z e, Tit.at Z.h2 fun o e => hs'.extBut _ o D.i2z e,
      Tup.at Z.t1 fun o e => hs'.extBut _ o D.l1z e, Tup.at Z.t2 fun o e => hs'.extBut _ o D.l2z e⟩ fun c o hc e => hs'.extBut _ _ (fun x => hc (by simp [x])) e
  apart := fun i T h hm hT => by
    obtain ⟨_, t1, t2, t3, t4⟩ := hm
    simp at hT
    rcases hT with rfl | rfl | rfl | rfl
    · exact t1 rfl
    · exact t2 rfl
    · exact t3 rfl
    · exact t4 rfl
  done := fun s Q E Z hQ => by
    have hT : s.TypeIs (.ref z) "zip" := ⟨_, Z.z, rfl⟩
    unfold pyNext
    refine wpAny_bind (wpAny_attempt (wpAny_callSpecial?_slot (name := Str.ofString "__next__") hT PySem.F.slot_zip_next
      (wpAny_call_entry PySem.F.slot_zip_next hT PySem.F.entry_zip_next (zipT_end hh D Z (Array.getElem?_eq_none (Nat.le_refl _)) fun h' e hk he => ?_) (PySem.F.args_zip_next_1 _))))
    obtain ⟨o, ho, hc⟩ := he
    refine wpAny_bind (wpAny_isInstance (T := "StopIteration") (b := true) ⟨o, ho, hc⟩ isSubtype_stop ?_)
    exact wpAny_pure (hQ h' s.toks fun c o hc e => hk c o (fun x => hc (by simp [x])) (fun x => hc (by simp [x])) (fun x => hc (by simp [x])) (fun x => hc (by simp [x])) e)
  self := fun i s Q E Z hQ => wpAny_pyIter_zip Z.z hQ
end
end Mine
end TextZ1
section TextZ2
namespace Mine
open PySem PySem.W PySem.Calls PyProof.Rows PySem.Spec
abbrev zT1 (h : Heap) (l1 : Addr) : Heap := h.push { cls := .type "tuple_iterator", data := .fields #[.ref l1, .int 0 0] }
abbrev zT2 (h : Heap) (l1 l2 : Addr) : Heap := (zT1 h l1).push { cls := .type "tuple_iterator", data := .fields #[.ref l2, .int 0 0] }
abbrev zT3 (h : Heap) (l1 l2 : Addr) : Heap := (zT2 h l1 l2).push { cls := .type "tuple", data := .seq #[.ref h.objs.size, .ref (zT1 h l1).objs.size] }
abbrev zT4 (h : Heap) (l1 l2 : Addr) : Heap := (zT3 h l1 l2).push { cls := .type "tuple", data := .seq #[.none, .none] }
abbrev zT5 (h : Heap) (l1 l2 : Addr) : Heap := (zT4 h l1 l2).push { cls := .type "zip", data := .fields #[.none, .bool false, .bool false, .ref (zT2 h l1 l2).objs.size, .ref (zT3 h l1 l2).objs.size] }
theorem meets_zipT (l1 l2 : Addr) (xs ys : Array Value) :
    Meets (Builtin.«zip.__new__» ⟨[.type "zip", .ref l1, .ref l2], []⟩) (fun _ R s => s.heap.IsTuple l1 xs ∧ s.heap.IsTuple l2 ys ∧
      R (.ok (.ret (.ref (zT4 s.heap l1 l2).objs.size))) { s with heap := zT5 s.heap l1 l2 }) :=
  .of_wp fun prog w A R s h => by
    obtain ⟨hp, g, d, tk, os⟩ := s; obtain ⟨hl1, hl2, h⟩ := h
    have hsub := sub_zip
    have hL1 : Heap.IsTuple (Shared.heap ⟨hp, g, d, tk, os⟩) l1 xs := hl1
    have hL2 : Heap.IsTuple (Shared.heap ⟨hp.push { cls := .type "tuple_iterator", data := .fields #[.ref l1, .int 0 0] }, g, d, tk, os⟩) l2 ys := Heap.IsTuple.push hl2 _
    wp_walk using wpAny_pyIter_tuple hL1, wpAny_pyIter_tuple hL2
    exact ⟨_, rfl, h⟩
section
variable {w : World} {A : Around} {E : Value → Shared → Prop} {s : Shared}
theorem zipNew {l1 l2 : Addr} {xs ys : Array Value} {Q : Value → Shared → Prop} (hl1 : s.heap.IsTuple l1 xs) (hl2 : s.heap.IsTuple l2 ys)
    (h : ∀ z TI TO i1 i2 s', ZipApart z TI TO i1 i2 l1 l2 → ZS s'.heap z TI TO i1 i2 l1 l2 xs ys .none 0 → Kp s s' → s.heap.get? z = none → s.heap.get? TO = none → s.heap.get? i1 = none → s.heap.get? i2 = none → Q (.ref z) s') :
    wpAny (MD w) A (call (.type "zip") [.ref l1, .ref l2]) Q E s := by
  refine callType_new PySem.F.called_zip (by decide) (PySem.F.typeCall_zip_2 _ _) (PySem.F.newCall_zip_2 _ _) (fun obj => PySem.F.args_object_init_3 obj _ _) PySem.F.entry_zip_new (meets_zipT l1 l2 xs ys) ⟨hl1, hl2, ?_⟩
  have z1 : (zT1 s.heap l1).objs.size = s.heap.objs.size + 1 := Heap.size_push ..
  have z2 : (zT2 s.heap l1 l2).objs.size = s.heap.objs.size + 2 := by rw [Heap.size_push, z1]
  have z3 : (zT3 s.heap l1 l2).objs.size = s.heap.objs.size + 3 := by rw [Heap.size_push, z2]
  have z4 : (zT4 s.heap l1 l2).objs.size = s.heap.objs.size + 4 := by rw [Heap.size_push, z3]
  have g5 : (zT5 s.heap l1 l2).get? (zT4 s.heap l1 l2).objs.size = some _ := Heap.get?_push_size _ rfl
  have g4 : (zT5 s.heap l1 l2).get? (zT3 s.heap l1 l2).objs.size = some _ := Heap.get?_push_of_some _ (Heap.get?_push_size _ rfl)
  have g3 : (zT5 s.heap l1 l2).get? (zT2 s.heap l1 l2).objs.size = some _ := Heap.get?_push_of_some _ (Heap.get?_push_of_some _ (Heap.get?_push_size _ rfl))
  have g2 : (zT5 s.heap l1 l2).get? (zT1 s.heap l1).objs.size = some _ := Heap.get?_push_of_some _ (Heap.get?_push_of_some _ (Heap.get?_push_of_some _ (Heap.get?_push_size _ rfl)))
  have g1 : (zT5 s.heap l1 l2).get? s.heap.objs.size = some _ := Heap.get?_push_of_some _ (Heap.get?_push_of_some _ (Heap.get?_push_of_some _ (Heap.get?_push_of_some _ (Heap.get?_push_size _ rfl))))
  have up : ∀ c o, s.heap.get? c = some o → (zT5 s.heap l1 l2).get? c = some o := fun c o x =>
    Heap.get?_push_of_some _ (Heap.get?_push_of_some _ (Heap.get?_push_of_some _ (Heap.get?_push_of_some _ (Heap.get?_push_of_some _ x))))
  have a1 : l1 < s.heap.objs.size := by obtain ⟨_, e, _⟩ := hl1; exact Heap.lt_size e
  have a2 : l2 < s.heap.objs.size := by obtain ⟨_, e, _⟩ := hl2; exact Heap.lt_size e
  have hnone : ∀ a, s.heap.objs.size ≤ a → s.heap.get? a = none := fun a ha => by
    cases e : s.heap.get? a with
    | none => rfl
    | some o' => exact absurd (Heap.lt_size e) (Nat.not_lt.mpr ha)
  show _ ∧ _
  rw [z2, z3, z4] at g5
  rw [z1, z2] at g3
  rw [z3] at g4
  rw [z1] at g2
  rw [z4]
  exact ⟨⟨_, g5, rfl⟩, h _ (s.heap.objs.size + 2) (s.heap.objs.size + 3) s.heap.objs.size (s.heap.objs.size + 1) _ (zipApart_new a1 a2)
    ⟨g5, g3, ⟨_, _, g4⟩, ⟨_, g1, rfl, rfl⟩, ⟨_, g2, rfl, rfl⟩, Tup.at hl1 fun o e => up _ o e, Tup.at hl2 fun o e => up _ o e⟩ ⟨up, rfl, rfl⟩ (hnone _ (by first | assumption | exact ind2 (by assumption) | exact ind1 (by assumption) | exact Nat.le_trans (by assumption) (by decide) | exact Nat.le_of_lt (by assumption) | exact Nat.lt_of_le_of_lt (Nat.le_add_right _ _) (by assumption) | omega)) (hnone _ (by first | assumption | exact ind2 (by assumption) | exact ind1 (by assumption) | exact Nat.le_trans (by assumption) (by decide) | exact Nat.le_of_lt (by assumption) | exact Nat.lt_of_le_of_lt (Nat.le_add_right _ _) (by assumption) | omega)) (hnone _ (by first | assumption | exact ind2 (by assumption) | exact ind1 (by assumption) | exact Nat.le_trans (by assumption) (by decide) | exact Nat.le_of_lt (by assumption) | exact Nat.lt_of_le_of_lt (Nat.le_add_right _ _) (by assumption) | omega)) (hnone _ (by first | assumption | exact ind2 (by assumption) | exact ind1 (by assumption) | exact Nat.le_trans (by assumption) (by decide) | exact Nat.le_of_lt (by assumption) | exact Nat.lt_of_le_of_lt (Nat.le_add_right _ _) (by assumption) | omega))⟩
end
end Mine
end TextZ2
section TextZ3
namespace Mine
open PySem PySem.W PySem.Calls PyProof.Rows PySem.Spec
theorem TabOk.two {h h' : Heap} (x : TabOk h) (k : ∀ b, b = 51 ∨ b = 55 → ∀ o, h.get? b = some o → h'.get? b = some o) : TabOk h' := by
  obtain ⟨ps, ⟨o, vs, file, tf, flags, tg, inF, text, tt, op, ho, hd, h11, h2, h7, h9, h10, hop, hpd, htr, hne⟩, ⟨o', vs', e1, e2, e3, e4⟩, e5⟩ := x
  exact ⟨ps, ⟨o, vs, file, tf, flags, tg, inF, text, tt, op, k _ (.inr rfl) _ ho, hd, h11, h2, h7, h9, h10, k _ (.inl rfl) _ hop, hpd, htr, hne⟩, ⟨o', vs', k _ (.inr rfl) _ e1, e2, e3, e4⟩, k _ (.inl rfl) _ e5⟩
theorem intsAre_at {vs : List Value} {ns : List Int} (h : IntsAre vs ns) : ∀ {i : Nat} {v : Value}, vs[i]? = some v → ∃ (n : Int) (t : Tok), ns[i]? = some n ∧ v = Value.int n t := by
  induction h with
  | nil => intro i v e; simp at e
  | cons n t _ ih =>
    intro i v e
    cases i with
    | zero => simp at e; exact ⟨n, t, rfl, e.symm⟩
    | succ i => exact ih (by simpa using e)
theorem intsAre_mk {vs : List Value} : ∀ {ns : List Int}, vs.length = ns.length → (∀ (i : Nat) (v : Value), vs[i]? = some v → ∃ (n : Int) (t : Tok), ns[i]? = some n ∧ v = Value.int n t) → IntsAre vs ns := by
  induction vs with
  | nil => intro ns h _; cases ns with
    | nil => exact .nil
    | cons _ _ => simp at h
  | cons v vs ih =>
    intro ns h k
    cases ns with
    | nil => simp at h
    | cons n ns =>
      obtain ⟨n', t, e, rfl⟩ := k 0 v (by first | exact zm0 | exact zm1 | exact zm2 | exact zm3 | exact zm4 | exact zm5 | exact zm6 | exact zm7 | exact zs0 | exact zs1 | exact zs2 | exact zs3 | exact zn0 | exact zn1 (by decide) | simp)
      simp at e; subst e
      exact .cons _ _ (ih (by simpa using h) fun i u hu => by have := k (i + 1) u (by simpa using hu); simpa using this)
section
variable {w : World} {mg mb : Str → Option Value} {A : Around} {E : Value → Shared → Prop} {s s₀ : Shared} {ms : List Addr}
theorem gcode {env : Env} {pos : Pos} {q : Str} {scope : Scope} {Q : Value → Shared → Prop} (hc : env.code = .ref 55) (t : TabOk s.heap)
    (h : ∀ v s', GoH s.heap s'.heap → TabOk s'.heap → s'.gens = s.gens → s'.os = s.os → Q v s') : wpAny (MD w) A (genexprCode env pos q scope) Q E s := by
  obtain ⟨ps, a, b⟩ := t
  cases hf : codeAmong pos ps.toList with
  | some c' => exact wpAny_genexprCode_hit hc a hf (h _ _ ⟨fun _ _ _ e => e, id⟩ ⟨ps, a, b⟩ rfl rfl)
  | none => exact wpAny_genexprCodeX hc a b hf fun c' h' tk hx _ _ hcode _ htab _ => h _ _ ⟨fun b o n e => hx b o n e, fun _ => ⟨_, hcode, htab⟩⟩ ⟨_, hcode, htab⟩ rfl rfl
/-- tuple(i + j for i, j in zip(..)) over two tuples of ints -/
theorem tupleGen {env : Env} {iter : Expr} {p1 p2 p3 p4 p5 p6 p7 pos pos' : Pos} {kt : Nat} {scope : Scope} {Q : Value → Shared → Prop} (O : Ok w mg mb ms s₀) (G : Go s₀ s) (hA : Fit A 5 20)
    (hcode : env.code = .ref 55) (hco : scope.isCoroutine = false) (hclos : closureFor scope env = pure []) (hcell : ∀ y ∈ scope.names, y.2 ≠ .cell) (h0 : scope.names.lookup (".0" : Str) = some NameKind.local)
    (hxa : scope.names.lookup ("i" : Str) = some NameKind.local) (hxb : scope.names.lookup ("j" : Str) = some NameKind.local) (hkind : scope.kind = .function) (hs : ∀ x, genFold iter env x = pure x)
    (hg : env.globals = mainGlobals) (hbi : env.builtins = builtinsNs) (hek : env.scope.kind = .function) (hel : env.kindOf "tuple" = some .globalImplicit)
    (h : wpAny (MD w) A (eval iter env) (fun xv s₁ => ∃ z TI TO i1 i2 l1 l2 vs us xi yi, xv = .ref z ∧ Go s₀ s₁ ∧ ZipApart z TI TO i1 i2 l1 l2 ∧ ZS s₁.heap z TI TO i1 i2 l1 l2 vs.toArray us.toArray .none 0 ∧ IntsAre vs xi ∧ IntsAre us yi ∧ xi.length = yi.length ∧ xi.length ≤ 100 ∧
      (∀ b ∈ [z, TO, i1, i2], s₀.heap.get? b = none) ∧
      (∀ D s', s₀.heap.get? D = none → Go s₀ s' → (∀ b o, b ≠ 51 → b ∉ [z, TO, i1, i2] → s₁.heap.get? b = some o → s'.heap.get? b = some o) →
        (∃ ws, s'.heap.get? D = some (tupO ws) ∧ IntsAre ws (xi.zipWith (· + ·) yi)) → Q (.ref D) s')) E s) :
    wpAny (MD w) A (eval (.Call (.Name "tuple" p7) [.GeneratorExp (.BinOp (.Name "i" p1) .Add (.Name "j" p2) p3) [⟨.Tuple [.Name "i" p4, .Name "j" p5] kt p6, iter, [], 0⟩] scope pos] [] pos') env) Q E s := by
  refine PyProof.Rows.Call_ ?_
  refine nB (O.top.go G) (g_tuple w) ?_ hg hbi hek hel
  refine PyProof.Rows.callWith_type1 ?_
  refine args_cons ?_
  refine wpAny_GeneratorExp_walksQTD hA.h hco hclos hcell h0 hxa hxb (by decide) hkind hA.room (wpAny_mono h (fun xv s₁ h₁ => ?_) fun _ _ e => e) hs
  obtain ⟨z, TI, TO, i1, i2, l1, l2, vs, us, xi, yi, rfl, G1, D, Z, hvs, hus, hlen, hle, hnew, hQ⟩ := h₁
  refine wpAny_pyIter_zip Z.z ?_
  have T1 := O.top.go G1
  refine ⟨T1.t.nolimit, gcode hcode T1.tab fun code s₃ G3 t3 eg3 eo3 => ?_⟩
  have G3' : Go s₁ s₃ := ⟨G3, fun x => by rw [eg3]; exact x, eo3⟩
  have T3 := T1.go G3'
  obtain ⟨bm, ob, B⟩ := T3.bm
  refine wpAny_builtinsFor (by rw [hg]; exact B.ns) B.name B.ne B.obj B.cls B.dict B.data ?_
  have hsz : vs.toArray.size = us.toArray.size := by simp [hvs.length, hus.length, hlen]
  have ne51 : ∀ b ∈ [z, TI, TO, i1, i2, l1, l2], b ≠ 51 := fun b hb e => by
    obtain ⟨ps, e51⟩ := T1.tab.at51
    subst e
    simp only [List.mem_cons, List.not_mem_nil, or_false] at hb
    rcases hb with hb | hb | hb | hb | hb | hb | hb
    · have e := Z.z; unfold IsZip at e; rw [← hb, e51] at e; cases e
    · have e := Z.ti; unfold IsPair at e; rw [← hb, e51] at e; cases e
    · obtain ⟨_, _, e⟩ := Z.to; unfold IsPair at e; rw [← hb, e51] at e; cases e
    · obtain ⟨o, e, c, _⟩ := Z.h1; rw [← hb, e51] at e; cases e; cases c
    · obtain ⟨o, e, c, _⟩ := Z.h2; rw [← hb, e51] at e; cases e; cases c
    · obtain ⟨o, e, c, _⟩ := Z.t1; rw [← hb, e51] at e; cases e; cases c
    · obtain ⟨o, e, c, _⟩ := Z.t2; rw [← hb, e51] at e; cases e; cases c
  have Z3 : ZS s₃.heap z TI TO i1 i2 l1 l2 vs.toArray us.toArray .none 0 := Z.keeps fun b hb o e => G3.keep b o (ne51 b hb) e
  refine ⟨z, [z, TI, TO, i1, i2, l1, l2], [z, TO, i1, i2], vs.toArray.size, _, _, _, fun _ => true, fun k y => ∃ a b ta tb t, vs[k]? = some (.int a ta) ∧ us[k]? = some (.int b tb) ∧ y = .int (a + b) t, rfl,
    (fun A' hA' => zipU hA' z TI TO i1 i2 l1 l2 D vs.toArray us.toArray hsz), (fun i vals hv => by obtain ⟨x, y, _, _, e⟩ := hv; exact ⟨x, y, e⟩), Z3, ?_, T3.t.nolimit, ?_, ?_, ?_⟩
  · intro b hb
    simp only [List.mem_cons, List.not_mem_nil, or_false] at hb
    rcases hb with rfl | rfl | rfl | rfl | rfl | rfl | rfl
    · exact Heap.lt_size Z3.z
    · exact Heap.lt_size Z3.ti
    · obtain ⟨_, _, e⟩ := Z3.to; exact Heap.lt_size e
    · obtain ⟨_, e, _⟩ := Z3.h1; exact Heap.lt_size e
    · obtain ⟨_, e, _⟩ := Z3.h2; exact Heap.lt_size e
    · obtain ⟨_, e, _⟩ := Z3.t1; exact Heap.lt_size e
    · obtain ⟨_, e, _⟩ := Z3.t2; exact Heap.lt_size e
  · intro hb
    obtain ⟨mc, ⟨o, _, _, e, _⟩, _⟩ := O.top.t.nolimit
    rw [hnew _ hb] at e; cases e
  · intro href hhref
    refine ⟨fun A' E' i va vb t m₂ hA' _ _ hP hn hma hmb hkp => wpAny_tests_nil ⟨rfl, _, _, rfl, fun _ _ e => e⟩, fun A' E' i va vb t m₂ hA' _ _ hP _ hn hma hmb hkp => ?_⟩
    obtain ⟨x, y, hx, hy, e⟩ := hP
    obtain ⟨rfl, rfl⟩ : va = x ∧ vb = y := by simpa using congrArg Array.toList e
    obtain ⟨a, ta, ha, rfl⟩ := intsAre_at hvs (i := i) (v := va) (by simpa using hx)
    obtain ⟨b, tb, hb, rfl⟩ := intsAre_at hus (i := i) (v := vb) (by simpa using hy)
    refine wpAny_BinOp ?_
    refine wpAny_Name (wpAny_loadName_local (by simp [genEnv, hkind]) (by simpa [genEnv, Env.kindOf] using hxa) hn hma ?_) (by decide)
    refine wpAny_Name (wpAny_loadName_local (by simp [genEnv, hkind]) (by simpa [genEnv, Env.kindOf] using hxb) hn hmb ?_) (by decide)
    refine add_int ?_
    exact ⟨⟨a, b, ta, tb, _, by simpa using hx, by simpa using hy, rfl⟩, _, _, rfl, fun _ _ e => e⟩
  · intro a h₅ tk gs hgb hag hsz₅ hk₅ W hat
    refine args_nil ?_
    have hp : passing (fun _ => true) vs.toArray.size 0 = List.range vs.length := by simp [passing]
    refine call_tuple_gen W.in4_3 (fun i s' st => st.1.typeIs) hat ?_ List.mem_cons_self (fun s' acc hm hacc => ?_) ?_
    · intro b hb
      show b < h₅.objs.size
      rw [hsz₅]
      rcases List.mem_cons.mp hb with rfl | hb
      · exact Nat.lt_succ_self _
      · rcases List.mem_cons.mp hb with rfl | hb
        · exact Nat.lt_trans hag (Nat.lt_succ_self _)
        · exact Nat.lt_trans (Nat.lt_trans (List.mem_range.mp hb) hag) (Nat.lt_succ_self _)
    · have hC : ∀ b o, s₀.heap.get? b = some o → b ≠ 51 → b ∉ s₃.heap.objs.size :: [z, TO, i1, i2] := fun b o e n hb => by
        rcases List.mem_cons.mp hb with q | q
        · have := Heap.lt_size (G3.keep b o n (G1.keep b o n e)); rw [q] at this; exact absurd this (Nat.lt_irrefl _)
        · rw [hnew b q] at e; cases e
      have keep₁ : ∀ b o, b ≠ 51 → b ∉ [z, TO, i1, i2] → s₁.heap.get? b = some o → s'.heap.get? b = some o := fun b o n hb e =>
        hm.heap b o (fun q => (List.mem_cons.mp q).elim (fun q => by have := Heap.lt_size (G3.keep b o n e); rw [q] at this; exact absurd this (Nat.lt_irrefl _)) hb) (hk₅ b o (G3.keep b o n e))
      have t' : TabOk s'.heap := (t3.keeps hk₅).two fun b hb o e => hm.heap b o (fun q => by
        rcases List.mem_cons.mp q with q | q
        · have l4 := size_new t3
          have l5 : 55 < s₃.heap.objs.size := by obtain ⟨_, x⟩ := t3.at55; exact Heap.lt_size x
          rw [← q] at l4 l5
          rcases hb with rfl | rfl
          · exact absurd l4 (Nat.lt_irrefl _)
          · exact absurd l5 (Nat.lt_irrefl _)
        · have hz := hnew b q
          rcases hb with rfl | rfl
          · obtain ⟨_, x⟩ := O.top.tab.at51; rw [hz] at x; cases x
          · obtain ⟨_, x⟩ := O.top.tab.at55; rw [hz] at x; cases x) e
      have G' : Go s₀ s' := ⟨⟨fun b o n e => hm.heap b o (hC b o e n) (hk₅ b o (G3.keep b o n (G1.keep b o n e))), fun _ => t'⟩,
        fun x => (AllBare.push (by show AllBare s₃.gens; rw [eg3]; exact G1.bare x) hgb).movedS hm, by rw [hm.os]; exact eo3.trans G1.os⟩
      refine hQ _ _ (O.new G' (get_size _)).1 (G'.trans Go.push) (fun b o n hb e => Heap.get?_push_of_some _ (keep₁ b o n hb e)) ⟨acc.toList, ?_, ?_⟩
      · have : acc.toList.toArray = acc := by simp
        rw [tupO, this]
        exact Heap.get?_push_size _ rfl
      · obtain ⟨e1, e2⟩ := hacc
        rw [hp] at e1 e2
        refine intsAre_mk (by simp [e1, hvs.length, hlen]) fun i v hv => ?_
        obtain ⟨i', hi', a', b', ta, tb, t, q1, q2, rfl⟩ := e2 i v (by simpa using hv)
        have hii : i' = i := by
          rw [List.getElem?_eq_some_iff] at hi'
          obtain ⟨hl, hi'⟩ := hi'
          simpa using hi'.symm
        subst hii
        obtain ⟨n1, t1, r1, r2⟩ := intsAre_at hvs q1
        obtain ⟨n2, t2, r3, r4⟩ := intsAre_at hus q2
        cases r2; cases r4
        exact ⟨_, _, by simp [List.getElem?_zipWith, r1, r3], rfl⟩
    · rw [hp, List.length_range, hvs.length]
      exact Nat.le_trans hle (by rw [sizeLine_eq]; decide)
end
end Mine
end TextZ3
section TextC1
namespace Mine
open PySem PySem.W PySem.Calls PyProof.Rows PySem.Spec
/-- the body of the second loop of add_callers -/
noncomputable def acTurn (w : World) : List Stmt := match (fdOf w 56).body with
  | .stmts [_, _, .For _ _ b _ _, _] => b
  | _ => []
/-- all kept but some, 51 let grow -/
def Kb (xs : List Addr) (s s' : Shared) : Prop := ∀ b o, b ≠ 51 → b ∉ xs → s.heap.get? b = some o → s'.heap.get? b = some o
theorem Kb.trans {xs : List Addr} {a b c : Shared} (x : Kb xs a b) (y : Kb xs b c) : Kb xs a c := fun p o n m e => y p o n m (x p o n m e)
theorem Kb.sub {xs ys : List Addr} {a b : Shared} (x : Kb xs a b) (k : ∀ p ∈ xs, p ∈ ys) : Kb ys a b := fun p o n m e => x p o n (fun q => m (k p q)) e
theorem Kb.ns {xs : List Addr} {s s' : Shared} (x : Kb xs s s') {L : Addr} {m : Str → Option Value} (hn : s.heap.Ns L m) (n : L ≠ 51) (h : L ∉ xs) : s'.heap.Ns L m := hn.at' fun o e => x L o n h e
theorem Kb.of {s s' : Shared} (k : Kp s s') {xs : List Addr} : Kb xs s s' := fun b o _ _ e => k.1 b o e
theorem Kb.ke {a : Addr} {s s' : Shared} (k : Ke a s s') {xs : List Addr} (h : a ∈ xs) : Kb xs s s' := fun b o _ m e => k.1 b o (fun q => m (q ▸ h)) e
theorem Kb.same {a : Addr} {s s' : Shared} (k : Heap.SameBut a s.heap s'.heap) {xs : List Addr} (h : a ∈ xs) : Kb xs s s' := fun b o _ m e => k.extBut b o (fun q => m (q ▸ h)) e
/-- a new count -/
def NV (W : Bool) (s s' : Shared) (v : Value) (zs : List Int) : Prop :=
  if W then ∃ N, v = .ref N ∧ s.heap.get? N = none ∧ ∃ ws, s'.heap.get? N = some (tupO ws) ∧ IntsAre ws zs else ∃ i t, zs = [i] ∧ v = .int i t
section
variable {w : World} {mg mb : Str → Option Value} {A : Around} {s s₀ : Shared} {ms : List Addr} {E : Value → Shared → Prop}
theorem dict_at {d : Addr} {kvs : List (Str × Value)} {s' : Shared} (h : s.heap.DictOf (sK w) d kvs) (k : ∀ o, s.heap.get? d = some o → s'.heap.get? d = some o) : s'.heap.DictOf (sK w) d kvs := by
  obtain ⟨o, e, x⟩ := Heap.dictOf_iff.mp h
  exact Heap.dictOf_iff.mpr ⟨o, k o e, x⟩
theorem len_line {n : Nat} (h : n ≤ 100) : n ≤ sizeLine := Nat.le_trans h (by rw [sizeLine_eq]; decide)
theorem tn51 {h : Heap} (T : Top0 w mg mb h) {L : Addr} {m : Str → Option Value} (hn : h.Ns L m) : L ≠ 51 := fun q => by
  obtain ⟨o, es, ep, e, r⟩ := hn
  obtain ⟨ps, x⟩ := T.tab.at51
  rw [← q, e] at x; cases x; cases r.1
set_option maxHeartbeats 1000000
theorem ac_turn {L D : Addr} {m : Str → Option Value} {cur : List (Str × Value)} {k : Str} {t : Tok} {v1 v2 : Value} {W : Bool} {xs1 xs2 : List Int} {Q : Flow → Shared → Prop} (O : Ok w mg mb ms s₀) (G : Go s₀ s) (hA : Fit A 8 30)
    (hD : s₀.heap.get? D = none) (hD1 : (D == sysModules) = false) (hns : s.heap.Ns L m) (m1 : m "func" = some (.str k t)) (m2 : m "caller" = some v2) (m3 : m "new_callers" = some (.ref D))
    (hd : s.heap.DictOf (sK w) D cur) (hl : cur.length ≤ 100) (hv : valueAt cur k = some v1) (c1 : CV W (fun b => s.heap.get? b) v1 xs1) (c2 : CV W (fun b => s.heap.get? b) v2 xs2) (hx : xs1.length = xs2.length) (hx2 : xs2.length ≤ 100)
    (kk : ∀ v s', Go s₀ s' → s'.heap.DictOf (sK w) D (stored cur k v) → Kb [D] s s' → NV W s s' v (xs2.zipWith (· + ·) xs1) → Q .next s') :
    wpAny (MD w) A (execs (acTurn w) (callEnvC (fdOf w 56) L 56)) Q NE s := by
  have T := O.top.go G
  have d51 : D ≠ 51 := O.top.ne51 hD
  show wpAny (MD w) A (execs (_ :: []) (callEnvC (fdOf w 56) L 56)) Q NE s
  refine wpAny_execs_cons ?_
  refine wpAny_If ?_
  refine wpAny_isTrue_Compare1 ?_
  refine nL hns m1 ?_
  refine nL hns m3 ?_
  refine wpAny_in_of (knd := sK w) (strKind_is ..) hD1 hd.mapOf ?_
  rw [hv]
  refine wpAny_truthy_bool ?_
  rw [if_pos (show (some v1).isSome = true from rfl)]
  refine wpAny_execs_cons ?_
  refine wpAny_If ?_
  refine wpAny_isTrue_value ?_
  refine PyProof.Rows.Call_ ?_
  refine nB T (g_isinstance w) ?_
  refine PyProof.Rows.callWith_builtin1 ?_
  refine args_cons ?_
  refine nL hns m2 ?_
  refine args_cons ?_
  refine nB T (g_tuple w) ?_
  refine args_nil ?_
  cases W with
  | true =>
    obtain ⟨p1, rfl, us, q1, i1⟩ := c1
    obtain ⟨p2, rfl, vs, q2, i2⟩ := c2
    obtain ⟨o2, e2, e2c, e2d⟩ := id q2
    refine IsiPair.tuple_tuple e2 e2c ?_
    refine wpAny_truthy_bool ?_
    rw [if_pos rfl]
    refine wpAny_execs_cons ?_
    refine wpAny_Assign_Subscript ?_
    refine tupleGen (O.go G) (Go.refl s) hA.le rfl rfl rfl (by decide) rfl rfl rfl rfl (by intro x; rfl) rfl rfl rfl rfl ?_
    refine PyProof.Rows.Call_ ?_
    refine nB T (g_zip w) ?_
    refine PyProof.Rows.callWith_type1 ?_
    refine args_cons ?_
    refine nL hns m2 ?_
    refine args_cons ?_
    refine PyProof.Rows.Subscript_ ?_
    refine nL hns m3 ?_
    refine nL hns m1 ?_
    refine subscriptTail_builtin (T := "dict") hd.typeIs slot_dict_getitem.lookup ?_
    refine wpAny_getItem_of (knd := sK w) (strKind_is ..) hd.mapOf hv ?_
    refine args_nil ?_
    refine zipNew q2 q1 ?_
    intro z TI TO i1' i2' s5 D5 Z5 k5 n1 n2 n3 n4
    have G5 : Go s s5 := Kp.go (s := s) k5
    have nlive : ∀ b ∈ [z, TO, i1', i2'], s.heap.get? b = none := fun b hb => by
      simp only [List.mem_cons, List.not_mem_nil, or_false] at hb
      rcases hb with rfl | rfl | rfl | rfl <;> assumption
    refine ⟨z, TI, TO, i1', i2', p2, p1, vs, us, xs2, xs1, rfl, G5, D5, Z5, i2, i1, hx.symm, hx2, nlive, ?_⟩
    intro N s6 hN G6 k6 hN6
    have k56 : ∀ b o, b ≠ 51 → s.heap.get? b = some o → s6.heap.get? b = some o := fun b o n e => k6 b o n (fun q => by rw [nlive b q] at e; cases e) (k5.1 b o e)
    have hns6 : s6.heap.Ns L m := hns.at' fun o e => k56 L o (tn51 T hns) e
    have hd6 : s6.heap.DictOf (sK w) D cur := dict_at hd fun o e => k56 D o d51 e
    refine nL hns6 m3 ?_
    refine nL hns6 m1 ?_
    refine wpAny_setItem_pairs (knd := sK w) (strKind_is ..) hd6 (fun h7 hd7 hs7 => ?_) (len_line hl)
    obtain ⟨ws, w1, w2⟩ := hN6
    have hND : N ≠ D := fun q => by
      obtain ⟨o, e, x⟩ := Heap.dictOf_iff.mp hd
      rw [q, e] at hN; cases hN
    refine wpAny_execs_nil ?_
    try dsimp only
    refine wpAny_execs_nil ?_
    try dsimp only
    refine wpAny_execs_nil ?_
    refine kk (.ref N) _ ((G.trans G6).set O.top hD hs7) hd7 (fun b o n m e => ?_) ⟨N, rfl, hN, ws, ?_, w2⟩
    · exact hs7.extBut b o (fun q => m (by rw [q]; exact List.mem_singleton_self _)) (k56 b o n e)
    · exact hs7.extBut N _ hND w1
  | false =>
    obtain ⟨n1, t1, rfl, rfl⟩ := c1
    obtain ⟨n2, t2, rfl, rfl⟩ := c2
    refine IsiPair.int_tuple ?_
    refine wpAny_truthy_bool ?_
    rw [if_neg Bool.false_ne_true]
    refine wpAny_execs_cons ?_
    refine wpAny_AugAssign_SubscriptAny ?_
    refine nL hns m3 ?_
    refine nL hns m1 ?_
    refine wpAny_getItem_of (knd := sK w) (strKind_is ..) hd.mapOf hv ?_
    refine nL hns m2 ?_
    refine PyProof.Rows.iadd_int ?_
    refine wpAny_setItem_pairs (knd := sK w) (strKind_is ..) hd (fun h7 hd7 hs7 => ?_) (len_line hl)
    refine wpAny_execs_nil ?_
    try dsimp only
    refine wpAny_execs_nil ?_
    try dsimp only
    refine wpAny_execs_nil ?_
    refine kk _ _ (G.set O.top hD hs7) hd7 (fun b o n m e => ?_) ⟨n1 + n2, _, by rw [Int.add_comm n1 n2]; rfl, rfl⟩
    exact hs7.extBut b o (fun q => m (by rw [q]; exact List.mem_singleton_self _)) e
/-- a key that is new -/
theorem ac_new {L D : Addr} {m : Str → Option Value} {cur : List (Str × Value)} {k : Str} {t : Tok} {v2 : Value} {Q : Flow → Shared → Prop} (O : Ok w mg mb ms s₀) (G : Go s₀ s)
    (hD : s₀.heap.get? D = none) (hD1 : (D == sysModules) = false) (hns : s.heap.Ns L m) (m1 : m "func" = some (.str k t)) (m2 : m "caller" = some v2) (m3 : m "new_callers" = some (.ref D))
    (hd : s.heap.DictOf (sK w) D cur) (hl : cur.length ≤ 100) (hv : valueAt cur k = none)
    (kk : ∀ s', Go s₀ s' → s'.heap.DictOf (sK w) D (stored cur k v2) → Kb [D] s s' → Q .next s') :
    wpAny (MD w) A (execs (acTurn w) (callEnvC (fdOf w 56) L 56)) Q NE s := by
  have T := O.top.go G
  show wpAny (MD w) A (execs (_ :: []) (callEnvC (fdOf w 56) L 56)) Q NE s
  refine wpAny_execs_cons ?_
  refine wpAny_If ?_
  refine wpAny_isTrue_Compare1 ?_
  refine nL hns m1 ?_
  refine nL hns m3 ?_
  refine wpAny_in_of (knd := sK w) (strKind_is ..) hD1 hd.mapOf ?_
  rw [hv]
  refine wpAny_truthy_bool ?_
  rw [if_neg (show ¬ (none : Option Value).isSome = true from Bool.false_ne_true)]
  refine wpAny_execs_cons ?_
  refine wpAny_Assign_Subscript ?_
  refine nL hns m2 ?_
  refine nL hns m3 ?_
  refine nL hns m1 ?_
  refine wpAny_setItem_pairs (knd := sK w) (strKind_is ..) hd (fun h7 hd7 hs7 => ?_) (len_line hl)
  refine wpAny_execs_nil ?_
  try dsimp only
  refine wpAny_execs_nil ?_
  refine kk _ (G.set O.top hD hs7) hd7 (fun b o n m e => ?_)
  exact hs7.extBut b o (fun q => m (by rw [q]; exact List.mem_singleton_self _)) e
end
end Mine
end TextC1
section TextC2
namespace Mine
open PySem PySem.W PySem.Calls PyProof.Rows PySem.Spec
section
variable {w : World} {mg mb : Str → Option Value} {A : Around} {s s₀ : Shared} {ms : List Addr} {E : Value → Shared → Prop} {env : Env} {R : Result → Shared → Prop}
/-- a turn of a loop over a dict's items -/
theorem itemsTurn {xk xv : Str} {pk pv pt : Pos} {x1} {body : List Stmt} {it d : Addr} {i ep : Nat} {kvs : List (Str × Value)} {k : Str} {v ok ov : Value} {m : Str → Option Value} (O : Ok w mg mb ms s₀) (G : Go s₀ s) (hh : A.handled = none)
    (hL : s₀.heap.get? env.locals = none) (hI : s₀.heap.get? it = none) (hIL : it ≠ env.locals) (hns : s.heap.Ns env.locals m)
    (hit : IsItemIter s.heap it d i kvs.length ep ok ov) (hm : s.heap.DictAt (sK w) d kvs ep) (hx : kvs[i]? = some (k, v))
    (h : ∀ t key v' s', Go s₀ s' → s'.heap.Ns env.locals (fun y => if y = xv then some v else if y = xk then some (.str k t) else m y) → IsItemIter s'.heap it d (i + 1) kvs.length ep key v' → Kb [it, env.locals] s s' →
      wpAny (MD w) A (execs body env) (fun f s₃ => match f with
            | .next | .cont => codeAny (MD w) A (.forLoop (.Tuple [.Name xk pk, .Name xv pv] x1 pt) (.ref it) body [] env) R s₃
            | .brk => R (.ok .next) s₃
            | .ret v => R (.ok (.ret v)) s₃) NE s')
    (hk1 : env.kindOf xk = some .local := by rfl) (hk2 : env.kindOf xv = some .local := by rfl) (hp : (env.scope.kind == .class || (env.scope.kind == .module && env.locals != env.globals)) = false := by rfl) :
    codeAny (MD w) A (.forLoop (.Tuple [.Name xk pk, .Name xv pv] x1 pt) (.ref it) body [] env) R s := by
  refine for1 ?_
  refine wpAny_pyNext_items_item (knd := sK w) hit hm hx ?_
  intro key h' hkey hout hpair hsz hkp
  obtain ⟨t, rfl⟩ := Value.isStrOf_shape hkey
  try dsimp only
  have ke1 : Ke it s { s with heap := h' } := ⟨fun b o n e => hkp b o n e, rfl, rfl⟩
  have G1 := Go.ke G O.top hI ke1
  have hns1 := ns_ke hns ke1 (Ne.symm hIL)
  refine wpAny_letOwnedTupleGo_items hout ?_
  intro h2 hit2 hs2
  have ke2 : Ke it { s with heap := h' } { s with heap := h2 } := ⟨hs2.extBut, rfl, rfl⟩
  have G2 := Go.ke G1 O.top hI ke2
  have hns2 := ns_ke hns1 ke2 (Ne.symm hIL)
  have hpa : h2.IsTuple s.heap.objs.size [.str k t, v].toArray := ⟨_, hs2.extBut _ _ (Nat.ne_of_gt (Heap.lt_size hit)) hpair, rfl, _, rfl⟩
  refine unpackT (s := { s with heap := h2 }) hh hpa rfl rfl ?_
  intro s4 k4
  have G4 := G2.trans k4.go
  have hns4 := hns2.keeps k4.1
  have hit4 := k4.1 _ _ hit2
  refine asg ?_
  refine sL O G4 hL hns4 ?_ hk1 hp
  intro s5 G5 hns5 hs5
  refine asg ?_
  refine sL O G5 hL hns5 ?_ hk2 hp
  intro s6 G6 hns6 hs6
  refine asg0 ?_
  refine h t _ _ s6 G6 hns6 (hs6.extBut _ _ hIL (hs5.extBut _ _ hIL hit4)) ?_
  have x1 : Kb [it, env.locals] s { s with heap := h' } := Kb.ke ke1 (by first | exact zm0 | exact zm1 | exact zm2 | exact zm3 | exact zm4 | exact zm5 | exact zm6 | exact zm7 | exact zs0 | exact zs1 | exact zs2 | exact zs3 | exact zn0 | exact zn1 (by decide) | simp)
  have x2 : Kb [it, env.locals] { s with heap := h' } { s with heap := h2 } := Kb.ke ke2 (by first | exact zm0 | exact zm1 | exact zm2 | exact zm3 | exact zm4 | exact zm5 | exact zm6 | exact zm7 | exact zs0 | exact zs1 | exact zs2 | exact zs3 | exact zn0 | exact zn1 (by decide) | simp)
  exact ((((x1.trans x2).trans (Kb.of k4)).trans (Kb.same hs5 (by first | exact zm0 | exact zm1 | exact zm2 | exact zm3 | exact zm4 | exact zm5 | exact zm6 | exact zm7 | exact zs0 | exact zs1 | exact zs2 | exact zs3 | exact zn0 | exact zn1 (by decide) | simp))).trans (Kb.same hs6 (by first | exact zm0 | exact zm1 | exact zm2 | exact zm3 | exact zm4 | exact zm5 | exact zm6 | exact zm7 | exact zs0 | exact zs1 | exact zs2 | exact zs3 | exact zn0 | exact zn1 (by decide) | simp)))
theorem itemsEnd {xk xv : Str} {pk pv pt : Pos} {x1} {body : List Stmt} {it d : Addr} {i ep : Nat} {kvs : List (Str × Value)} {ok ov : Value} (O : Ok w mg mb ms s₀) (G : Go s₀ s) (hh : A.handled = none)
    (hI : s₀.heap.get? it = none) (hit : IsItemIter s.heap it d i kvs.length ep ok ov) (hm : s.heap.DictAt (sK w) d kvs ep) (hx : kvs[i]? = none)
    (h : ∀ s', Go s₀ s' → Ke it s s' → R (.ok .next) s') :
    codeAny (MD w) A (.forLoop (.Tuple [.Name xk pk, .Name xv pv] x1 pt) (.ref it) body [] env) R s := by
  refine for1 ?_
  refine wpAny_pyNext_items_end (knd := sK w) hh hit hm hx ?_
  intro h' he
  have ke1 : Ke it s { s with heap := h' } := ⟨he, rfl, rfl⟩
  try dsimp only
  refine wpAny_execs_nil ?_
  exact h _ (Go.ke G O.top hI ke1) ke1
/-- d.items() and its iterator -/
theorem itemsIter {o : Expr} {apos pos : Pos} {d : Addr} {kvs : List (Str × Value)} {ep : Nat} {Q : Value → Shared → Prop} (hdS : (d == sysModules) = false) (hm : s.heap.DictAt (sK w) d kvs ep)
    (hbase : attributeBase o "items" env (eval o env) = eval o env) (hline : (apos.endLine == pos.line) = true)
    (ho : ∀ Q' : Value → Shared → Prop, Q' (.ref d) s → wpAny (MD w) A (eval o env) Q' E s)
    (h : ∀ I s', s.heap.get? I = none → IsItemIter s'.heap I d 0 kvs.length ep .none .none → Kp s s' → Q (.ref I) s') :
    wpAny (MD w) A (eval (.Call (.Attribute o "items" apos) [] [] pos) env) (fun v s₁ => wpAny (MD w) A (pyIter v) Q E s₁) E s := by
  refine wpAny_Call_items hdS hm.dictOf hbase hline ho ?_
  refine wpAny_pyIter_items (knd := sK w) (d := d) (kvs := kvs) (ep := ep) ⟨_, Heap.get?_push_size _ rfl, rfl, rfl⟩ (hm.push _) ?_
  have hsz : (s.heap.push { cls := .type "dict_items", data := .fields #[.ref d] }).objs.size = s.heap.objs.size + 1 := Heap.size_push ..
  refine h _ _ ?_ (Heap.get?_push_size _ rfl) ⟨fun b o e => Heap.get?_push_of_some _ (Heap.get?_push_of_some _ e), rfl, rfl⟩
  show s.heap.get? (s.heap.push _).objs.size = none
  rw [hsz]
  cases e : s.heap.get? (s.heap.objs.size + 1) with
  | none => rfl
  | some o => exact absurd (Heap.lt_size e) (Nat.not_lt.mpr (Nat.le_succ _))
end
end Mine
end TextC2
section TextC3
namespace Mine
open PySem PySem.W PySem.Calls PyProof.Rows PySem.Spec
theorem bd_ac (w : World) (a b : Value) : bindArgs (fdOf w 56) ⟨[a, b], []⟩ = pure [(Str.ofString "target", a), (Str.ofString "source", b)] := by kernel_rfl
section
variable {w : World} {mg mb : Str → Option Value} {A : Around} {s s₀ : Shared} {ms : List Addr} {Q E : Value → Shared → Prop}
theorem CV.heap {W : Bool} {h : Heap} {v : Value} {xs : List Int} (x : CV W (vw ms h) v xs) : CV W (fun b => h.get? b) v xs := x.mono fun _ _ e => vw_get e
theorem fF_len (W : Bool) (u v : Vec) : (fF W u).length = (fF W v).length := by cases W <;> rfl
theorem fG_len (W : Bool) (u v : Vec) : (fG W u).length = (fG W v).length := by cases W <;> rfl
theorem fF_le (W : Bool) (u : Vec) : (fF W u).length ≤ 100 := by cases W <;> simp [fF]
theorem fG_le (W : Bool) (u : Vec) : (fG W u).length ≤ 100 := by cases W <;> simp [fG]
theorem NV.cv {W : Bool} {s s' s'' : Shared} {v : Value} {zs : List Int} (x : NV W s s' v zs) (O : Ok w mg mb ms s₀) (G : Go s₀ s) (k : ∀ N, v = .ref N → ∀ o, N ≠ 51 → s.heap.get? N = none → s'.heap.get? N = some o → s''.heap.get? N = some o) : CV W (vw ms s''.heap) v zs := by
  cases W with
  | true =>
    obtain ⟨N, rfl, n, ws, a, b⟩ := x
    have F := O.new G n
    exact ⟨N, rfl, ws, Sq.ofT (k N rfl _ F.2.1 n a) F.2.1 F.2.2, b⟩
  | false => exact x
set_option maxHeartbeats 1000000
/-- what the second loop does -/
theorem ac_loop2 {L D q I : Addr} {m : Str → Option Value} {cur : List (Str × Value)} {ep : Nat} {ok ov : Value} {u v : Vec} {F2 G2 : Value} {W : Bool} {tgt : Expr} {R : Result → Shared → Prop} (htg : ∃ p1 p2 x1 pt, tgt = .Tuple [.Name "func" p1, .Name "caller" p2] x1 pt)
    (O : Ok w mg mb ms s₀) (G : Go s₀ s) (hA : Fit A 8 30)
    (hL : s₀.heap.get? L = none) (hD : s₀.heap.get? D = none) (hI : s₀.heap.get? I = none) (hD1 : (D == sysModules) = false) (hIL : I ≠ L) (hID : I ≠ D) (hDL : D ≠ L) (hqL : q ≠ L) (hqI : q ≠ I) (hqD : q ≠ D) (hq51 : q ≠ 51)
    (hns : s.heap.Ns L m) (m3 : m "new_callers" = some (.ref D))
    (hd : s.heap.DictOf (sK w) D cur) (hit : IsItemIter s.heap I q 0 2 ep ok ov) (hm : s.heap.DictAt (sK w) q [("f", F2), ("g", G2)] ep)
    (c1 : CV W (vw ms s₀.heap) F2 (fF W v)) (c2 : CV W (vw ms s₀.heap) G2 (fG W v))
    (hcur : cur = [] ∨ ∃ F1 G1, cur = [(Str.ofString "f", F1), (Str.ofString "g", G1)] ∧ CV W (vw ms s₀.heap) F1 (fF W u) ∧ CV W (vw ms s₀.heap) G1 (fG W u))
    (kk : ∀ s' F G m', Go s₀ s' → s'.heap.Ns L m' → m' "new_callers" = some (.ref D) → s'.heap.DictOf (sK w) D [("f", F), ("g", G)] →
      ((cur = [] ∧ CV W (vw ms s'.heap) F (fF W v) ∧ CV W (vw ms s'.heap) G (fG W v)) ∨ (cur ≠ [] ∧ CV W (vw ms s'.heap) F (fF W (u.add v)) ∧ CV W (vw ms s'.heap) G (fG W (u.add v)))) → R (.ok .next) s') :
    codeAny (MD w) A (.forLoop tgt (.ref I) (acTurn w) [] (callEnvC (fdOf w 56) L 56)) R s := by
  obtain ⟨p1, p2, x1, pt, rfl⟩ := htg
  have L51 := O.top.ne51 hL
  have D51 := O.top.ne51 hD
  have I51 := O.top.ne51 hI
  refine itemsTurn (env := callEnvC (fdOf w 56) L 56) (kvs := [("f", F2), ("g", G2)]) (k := "f") (v := F2) O G hA.h hL hI hIL hns hit hm rfl ?_
  intro t key v' s1 G1 hns1 hit1 k1
  have hd1 : s1.heap.DictOf (sK w) D cur := dict_at hd fun o e => k1 D o D51 (by first | exact nin1 (⟨Ne.symm hID, hDL⟩) | exact ninp (⟨Ne.symm hID, hDL⟩) | exact nin3 (⟨Ne.symm hID, hDL⟩) | exact zall1 (⟨Ne.symm hID, hDL⟩) | exact zall2 (⟨Ne.symm hID, hDL⟩) | exact zall3 (⟨Ne.symm hID, hDL⟩) | exact zall4 (⟨Ne.symm hID, hDL⟩) | (simp; exact ⟨Ne.symm hID, hDL⟩)) e
  have hm1 : s1.heap.DictAt (sK w) q [("f", F2), ("g", G2)] ep := hm.at' fun o e => k1 q o hq51 (by first | exact nin1 (⟨hqI, hqL⟩) | exact ninp (⟨hqI, hqL⟩) | exact nin3 (⟨hqI, hqL⟩) | exact zall1 (⟨hqI, hqL⟩) | exact zall2 (⟨hqI, hqL⟩) | exact zall3 (⟨hqI, hqL⟩) | exact zall4 (⟨hqI, hqL⟩) | (simp; exact ⟨hqI, hqL⟩)) e
  rcases hcur with rfl | ⟨F1, G1', rfl, d1, d2⟩
  · refine ac_new O G1 hD hD1 hns1 rfl rfl m3 hd1 (Nat.zero_le _) rfl ?_
    intro s2 G2' hd2 k2
    try dsimp only
    have hns2 := k2.ns hns1 L51 (by first | exact nin1 (Ne.symm hDL) | exact ninp (Ne.symm hDL) | exact nin3 (Ne.symm hDL) | exact zall1 (Ne.symm hDL) | exact zall2 (Ne.symm hDL) | exact zall3 (Ne.symm hDL) | exact zall4 (Ne.symm hDL) | (simp; exact Ne.symm hDL))
    have hm2 : s2.heap.DictAt (sK w) q [("f", F2), ("g", G2)] ep := hm1.at' fun o e => k2 q o hq51 (by first | exact nin1 (hqD) | exact ninp (hqD) | exact nin3 (hqD) | exact zall1 (hqD) | exact zall2 (hqD) | exact zall3 (hqD) | exact zall4 (hqD) | (simp; exact hqD)) e
    refine itemsTurn (env := callEnvC (fdOf w 56) L 56) (kvs := [("f", F2), ("g", G2)]) (k := "g") (v := G2) O G2' hA.h hL hI hIL hns2 (k2 _ _ I51 (by first | exact nin1 (hID) | exact ninp (hID) | exact nin3 (hID) | exact zall1 (hID) | exact zall2 (hID) | exact zall3 (hID) | exact zall4 (hID) | (simp; exact hID)) hit1) hm2 rfl ?_
    intro t' key' v'' s3 G3 hns3 hit3 k3
    have hd3 := dict_at hd2 fun o e => k3 D o D51 (by first | exact nin1 (⟨Ne.symm hID, hDL⟩) | exact ninp (⟨Ne.symm hID, hDL⟩) | exact nin3 (⟨Ne.symm hID, hDL⟩) | exact zall1 (⟨Ne.symm hID, hDL⟩) | exact zall2 (⟨Ne.symm hID, hDL⟩) | exact zall3 (⟨Ne.symm hID, hDL⟩) | exact zall4 (⟨Ne.symm hID, hDL⟩) | (simp; exact ⟨Ne.symm hID, hDL⟩)) e
    have hm3 : s3.heap.DictAt (sK w) q [("f", F2), ("g", G2)] ep := hm2.at' fun o e => k3 q o hq51 (by first | exact nin1 (⟨hqI, hqL⟩) | exact ninp (⟨hqI, hqL⟩) | exact nin3 (⟨hqI, hqL⟩) | exact zall1 (⟨hqI, hqL⟩) | exact zall2 (⟨hqI, hqL⟩) | exact zall3 (⟨hqI, hqL⟩) | exact zall4 (⟨hqI, hqL⟩) | (simp; exact ⟨hqI, hqL⟩)) e
    refine ac_new O G3 hD hD1 hns3 rfl rfl m3 hd3 (Nat.le_of_ble_eq_true rfl) rfl ?_
    intro s4 G4 hd4 k4
    try dsimp only
    have hns4 := k4.ns hns3 L51 (by first | exact nin1 (Ne.symm hDL) | exact ninp (Ne.symm hDL) | exact nin3 (Ne.symm hDL) | exact zall1 (Ne.symm hDL) | exact zall2 (Ne.symm hDL) | exact zall3 (Ne.symm hDL) | exact zall4 (Ne.symm hDL) | (simp; exact Ne.symm hDL))
    have hm4 : s4.heap.DictAt (sK w) q [("f", F2), ("g", G2)] ep := hm3.at' fun o e => k4 q o hq51 (by first | exact nin1 (hqD) | exact ninp (hqD) | exact nin3 (hqD) | exact zall1 (hqD) | exact zall2 (hqD) | exact zall3 (hqD) | exact zall4 (hqD) | (simp; exact hqD)) e
    refine itemsEnd (kvs := [("f", F2), ("g", G2)]) O G4 hA.h hI (k4 _ _ I51 (by first | exact nin1 (hID) | exact ninp (hID) | exact nin3 (hID) | exact zall1 (hID) | exact zall2 (hID) | exact zall3 (hID) | exact zall4 (hID) | (simp; exact hID)) hit3) hm4 rfl ?_
    intro s5 G5 k5
    refine kk s5 F2 G2 _ G5 (ns_ke hns4 k5 (Ne.symm hIL)) m3 (dict_at hd4 fun o e => k5.1 D o (Ne.symm hID) e) (.inl ⟨rfl, c1.mono (vw_go G5), c2.mono (vw_go G5)⟩)
  · refine ac_turn (xs1 := fF W u) (xs2 := fF W v) O G1 hA hD hD1 hns1 rfl rfl m3 hd1 (Nat.le_of_ble_eq_true rfl) rfl (d1.mono (vw_go G1)).heap (c1.mono (vw_go G1)).heap (fF_len ..) (fF_le ..) ?_
    intro vf s2 G2' hd2 k2 n2
    try dsimp only
    have hns2 := k2.ns hns1 L51 (by first | exact nin1 (Ne.symm hDL) | exact ninp (Ne.symm hDL) | exact nin3 (Ne.symm hDL) | exact zall1 (Ne.symm hDL) | exact zall2 (Ne.symm hDL) | exact zall3 (Ne.symm hDL) | exact zall4 (Ne.symm hDL) | (simp; exact Ne.symm hDL))
    have hm2 : s2.heap.DictAt (sK w) q [("f", F2), ("g", G2)] ep := hm1.at' fun o e => k2 q o hq51 (by first | exact nin1 (hqD) | exact ninp (hqD) | exact nin3 (hqD) | exact zall1 (hqD) | exact zall2 (hqD) | exact zall3 (hqD) | exact zall4 (hqD) | (simp; exact hqD)) e
    refine itemsTurn (env := callEnvC (fdOf w 56) L 56) (kvs := [("f", F2), ("g", G2)]) (k := "g") (v := G2) O G2' hA.h hL hI hIL hns2 (k2 _ _ I51 (by first | exact nin1 (hID) | exact ninp (hID) | exact nin3 (hID) | exact zall1 (hID) | exact zall2 (hID) | exact zall3 (hID) | exact zall4 (hID) | (simp; exact hID)) hit1) hm2 rfl ?_
    intro t' key' v'' s3 G3 hns3 hit3 k3
    have hd3 := dict_at hd2 fun o e => k3 D o D51 (by first | exact nin1 (⟨Ne.symm hID, hDL⟩) | exact ninp (⟨Ne.symm hID, hDL⟩) | exact nin3 (⟨Ne.symm hID, hDL⟩) | exact zall1 (⟨Ne.symm hID, hDL⟩) | exact zall2 (⟨Ne.symm hID, hDL⟩) | exact zall3 (⟨Ne.symm hID, hDL⟩) | exact zall4 (⟨Ne.symm hID, hDL⟩) | (simp; exact ⟨Ne.symm hID, hDL⟩)) e
    have hm3 : s3.heap.DictAt (sK w) q [("f", F2), ("g", G2)] ep := hm2.at' fun o e => k3 q o hq51 (by first | exact nin1 (⟨hqI, hqL⟩) | exact ninp (⟨hqI, hqL⟩) | exact nin3 (⟨hqI, hqL⟩) | exact zall1 (⟨hqI, hqL⟩) | exact zall2 (⟨hqI, hqL⟩) | exact zall3 (⟨hqI, hqL⟩) | exact zall4 (⟨hqI, hqL⟩) | (simp; exact ⟨hqI, hqL⟩)) e
    refine ac_turn (xs1 := fG W u) (xs2 := fG W v) O G3 hA hD hD1 hns3 rfl rfl m3 hd3 (Nat.le_of_ble_eq_true rfl) rfl (d2.mono (vw_go G3)).heap (c2.mono (vw_go G3)).heap (fG_len ..) (fG_le ..) ?_
    intro vg s4 G4 hd4 k4 n4
    try dsimp only
    have hns4 := k4.ns hns3 L51 (by first | exact nin1 (Ne.symm hDL) | exact ninp (Ne.symm hDL) | exact nin3 (Ne.symm hDL) | exact zall1 (Ne.symm hDL) | exact zall2 (Ne.symm hDL) | exact zall3 (Ne.symm hDL) | exact zall4 (Ne.symm hDL) | (simp; exact Ne.symm hDL))
    have hm4 : s4.heap.DictAt (sK w) q [("f", F2), ("g", G2)] ep := hm3.at' fun o e => k4 q o hq51 (by first | exact nin1 (hqD) | exact ninp (hqD) | exact nin3 (hqD) | exact zall1 (hqD) | exact zall2 (hqD) | exact zall3 (hqD) | exact zall4 (hqD) | (simp; exact hqD)) e
    refine itemsEnd (kvs := [("f", F2), ("g", G2)]) O G4 hA.h hI (k4 _ _ I51 (by first | exact nin1 (hID) | exact ninp (hID) | exact nin3 (hID) | exact zall1 (hID) | exact zall2 (hID) | exact zall3 (hID) | exact zall4 (hID) | (simp; exact hID)) hit3) hm4 rfl ?_
    intro s5 G5 k5
    refine kk s5 vf vg _ G5 (ns_ke hns4 k5 (Ne.symm hIL)) m3 (dict_at hd4 fun o e => k5.1 D o (Ne.symm hID) e) (.inr ⟨List.cons_ne_nil _ _, ?_, ?_⟩)
    · rw [fF_add]
      refine n2.cv O G1 fun N _ o a b c => ?_
      have nI : N ≠ I := Ne.symm (ne_of_get hit1 b)
      have nL' : N ≠ L := by obtain ⟨o', _, _, e, _⟩ := hns1; exact Ne.symm (ne_of_get e b)
      have nD : N ≠ D := by obtain ⟨o', e, _⟩ := Heap.dictOf_iff.mp hd1; exact Ne.symm (ne_of_get e b)
      exact k5.1 N o nI (k4 N o a (by first | exact nin1 (nD) | exact ninp (nD) | exact nin3 (nD) | exact zall1 (nD) | exact zall2 (nD) | exact zall3 (nD) | exact zall4 (nD) | (simp; exact nD)) (k3 N o a (by first | exact nin1 (⟨nI, nL'⟩) | exact ninp (⟨nI, nL'⟩) | exact nin3 (⟨nI, nL'⟩) | exact zall1 (⟨nI, nL'⟩) | exact zall2 (⟨nI, nL'⟩) | exact zall3 (⟨nI, nL'⟩) | exact zall4 (⟨nI, nL'⟩) | (simp; exact ⟨nI, nL'⟩)) c))
    · rw [fG_add]
      refine n4.cv O G3 fun N _ o a b c => ?_
      exact k5.1 N o (Ne.symm (ne_of_get hit3 b)) c
end
end Mine
end TextC3
section TextC4
namespace Mine
open PySem PySem.W PySem.Calls PyProof.Rows PySem.Spec
section
variable {w : World} {mg mb : Str → Option Value} {A : Around} {s s₀ : Shared} {ms : List Addr} {Q E : Value → Shared → Prop}
theorem dictNew {env : Env} {pos : Pos} (T : TabOk s.heap) (h : ∀ D s', s.heap.get? D = none → (D == sysModules) = false → s'.heap.DictOf (sK w) D [] → Kp s s' → Q (.ref D) s') : wpAny (MD w) A (eval (.Dict [] [] pos) env) Q E s := by
  refine wpAny_Dict_empty (h _ _ (get_size _) ?_ ?_ ⟨fun b o e => Heap.get?_push_of_some _ e, rfl, rfl⟩)
  · have := size_new T
    exact beq_eq_false_iff_ne.mpr fun e => by rw [e] at this; exact absurd this (by decide)
  · exact ⟨_, #[], 0, Heap.get?_push_size _ rfl, ⟨rfl, rfl, rfl⟩, rfl, fun _ he => by simp at he, .nil, by simp⟩
theorem Di.live {g : View} {q : Addr} {kvs : List (Str × Value)} (x : Di w g q kvs) : ∃ o, g q = some o := let ⟨_, o, e, _⟩ := x; ⟨o, e⟩
set_option maxHeartbeats 1000000
theorem ac_spec {q1 q2 : Addr} {u v : Vec} {W : Bool} (O : Ok w mg mb ms s) (hA : Fit A 12 40) (h1 : Cl w W (vw ms s.heap) q1 u) (h2 : Cl w W (vw ms s.heap) q2 v) (hv : 0 < v.d)
    (k : ∀ r s', Go s s' → Cl w W (vw ms s'.heap) r (u.add v) → Q (.ref r) s') : wpAny (MD w) A (call (.ref 56) [.ref q1, .ref q2]) Q E s := by
  have hB : Fit (A.deeper (callEnvC (fdOf w 56) 0 56)) 8 30 := Fit.deeper (hA.le (d' := 9) (u' := 33))
  rcases h2 with ⟨rfl, _⟩ | ⟨_, F2, G2, e2, e3, e4⟩
  · exact absurd hv (by decide)
  refine call_fn O hA.room rfl rfl rfl rfl (bd_ac _ _ _) rfl rfl ?_
  intro L s1 hL G hns hc hpw
  replace hB : Fit (A.deeper (callEnvC (fdOf w 56) L 56)) 8 30 := ⟨hB.h, hB.d, hB.u⟩
  refine wpAny_execs_cons ?_
  refine wpAny_Assign_Name ?_
  refine dictNew (O.top.go G).tab ?_
  intro D s2 hDn hD1 hD2 k2
  have ND := O.new G hDn
  have hDL : D ≠ L := by obtain ⟨o', _, _, e, _⟩ := hns; exact Ne.symm (ne_of_get e hDn)
  replace hns := hns.keeps k2.1
  replace G := G.trans k2.go
  refine sL O G hL hns ?_
  intro s3 G hns hs3
  have hd3 := dict_at hD2 fun o e => hs3.extBut D o hDL e
  try dsimp only
  refine wpAny_execs_cons ?_
  refine wpAny_For ?_
  have live : ∀ q, (∃ o, vw ms s.heap q = some o) → q ≠ L ∧ q ≠ D ∧ q ≠ 51 := fun q ⟨o, e⟩ => by
    have := vw_iff.mp e
    exact ⟨ne_of_get this.2.2 hL, ne_of_get this.2.2 ND.1, this.1⟩
  have lq2 := live q2 e2.live
  -- the rest behind the first loop
  have rest : ∀ (s4 : Shared) (m : Str → Option Value) (cur : List (Str × Value)), Go s s4 → s4.heap.Ns L m → m "source" = some (.ref q2) → m "new_callers" = some (.ref D) → s4.heap.DictOf (sK w) D cur →
      ((cur = [] ∧ u = Vec.z) ∨ ∃ F1 G1, 0 < u.d ∧ cur = [(Str.ofString "f", F1), (Str.ofString "g", G1)] ∧ CV W (vw ms s.heap) F1 (fF W u) ∧ CV W (vw ms s.heap) G1 (fG W u)) →
      wpAny (MD w) (A.deeper (callEnvC (fdOf w 56) L 56)) (execs (match (fdOf w 56).body with | .stmts l => l.drop 2 | _ => []) (callEnvC (fdOf w 56) L 56)) (fun fl s' => Q (match fl with | .ret v => v | _ => .none) s') NE s4 := by
    intro s4 m cur G4 hns4 m1 m2 hd4 hcur
    refine wpAny_execs_cons ?_
    refine wpAny_For ?_
    obtain ⟨ep, ha⟩ := (e2.mono (vw_go G4)).dict.dictAt
    refine itemsIter e2.1 ha rfl rfl (fun Q' hQ' => nL hns4 m1 hQ') ?_
    intro I s5 hI hit5 k5
    have NI := O.new G4 hI
    have hns5 := hns4.keeps k5.1
    have hd5 := dict_at hd4 fun o e => k5.1 D o e
    have G5 := G4.trans k5.go
    have lI : I ≠ L ∧ I ≠ D := ⟨by obtain ⟨o', _, _, e, _⟩ := hns4; exact Ne.symm (ne_of_get e hI), by obtain ⟨o', e, _⟩ := Heap.dictOf_iff.mp hd4; exact Ne.symm (ne_of_get e hI)⟩
    have lq2I : q2 ≠ I := by obtain ⟨o, e⟩ := e2.live; exact ne_of_get (vw_iff.mp e).2.2 NI.1
    refine ac_loop2 (q := q2) (D := D) (u := u) (v := v) (F2 := F2) (G2 := G2) (W := W) ⟨_, _, _, _, rfl⟩ O G5 hB hL ND.1 NI.1 hD1 lI.1 lI.2 hDL lq2.1 lq2I lq2.2.1 lq2.2.2 hns5 m2 hd5 hit5 (ha.keep k5.1) e3 e4 ?_ ?_
    · rcases hcur with ⟨a, b⟩ | ⟨F1, G1, _, a, b, c⟩
      · exact .inl a
      · exact .inr ⟨F1, G1, a, b, c⟩
    · intro s6 F G' m' G6 hns6 m6 hd6 hc6
      try dsimp only
      refine wpAny_execs_cons ?_
      refine wpAny_Return_some ?_
      refine nL hns6 m6 ?_
      refine k D s6 G6 (.inr ?_)
      have hdi : Di w (vw ms s6.heap) D [(Str.ofString "f", F), (Str.ofString "g", G')] := by
        obtain ⟨o, e, x⟩ := Heap.dictOf_iff.mp hd6
        exact ⟨hD1, o, vw_iff.mpr ⟨ND.2.1, ND.2.2, e⟩, x⟩
      rcases hcur with ⟨a, b⟩ | ⟨F1, G1, hu, a, b, c⟩
      · rcases hc6 with ⟨_, c1, c2⟩ | ⟨n, _⟩
        · rw [b, Vec.z_add]; exact ⟨hv, F, G', hdi, c1, c2⟩
        · exact absurd a n
      · rcases hc6 with ⟨a', _⟩ | ⟨_, c1, c2⟩
        · rw [a] at a'; cases a'
        · exact ⟨by show 0 < u.d + v.d; omega, F, G', hdi, c1, c2⟩
  have le3 := vw_go (ms := ms) G
  have hq1 : ∃ kvs, Di w (vw ms s.heap) q1 kvs ∧ ((kvs = [] ∧ u = Vec.z) ∨ ∃ F1 G1, 0 < u.d ∧ kvs = [(Str.ofString "f", F1), (Str.ofString "g", G1)] ∧ CV W (vw ms s.heap) F1 (fF W u) ∧ CV W (vw ms s.heap) G1 (fG W u)) := by
    rcases h1 with ⟨a, b⟩ | ⟨hu, F1, G1, a, b, c⟩
    · exact ⟨_, b, .inl ⟨rfl, a⟩⟩
    · exact ⟨_, a, .inr ⟨F1, G1, hu, rfl, b, c⟩⟩
  obtain ⟨kvs, d1, hk⟩ := hq1
  obtain ⟨ep, ha⟩ := (d1.mono le3).dict.dictAt
  have lq1 := live q1 d1.live
  refine itemsIter d1.1 ha rfl rfl (fun Q' hQ' => nL hns rfl hQ') ?_
  intro I s4 hI hit4 k4
  have NI := O.new G hI
  have hIL : I ≠ L := by obtain ⟨o', _, _, e, _⟩ := hns; exact Ne.symm (ne_of_get e hI)
  have hID : I ≠ D := by obtain ⟨o', e, _⟩ := Heap.dictOf_iff.mp hd3; exact Ne.symm (ne_of_get e hI)
  have hqI : q1 ≠ I := by obtain ⟨o, e⟩ := d1.live; exact ne_of_get (vw_iff.mp e).2.2 NI.1
  have hns4 := hns.keeps k4.1
  have hd4 := dict_at hd3 fun o e => k4.1 D o e
  have G4 := G.trans k4.go
  have hm4 := ha.keep k4.1
  rcases hk with ⟨rfl, hz⟩ | ⟨F1, G1, hu, rfl, b, c⟩
  · refine itemsEnd (kvs := []) O G4 hA.h NI.1 hit4 hm4 rfl ?_
    intro s5 G5 k5
    try dsimp only
    exact rest s5 _ [] G5 (ns_ke hns4 k5 (Ne.symm hIL)) rfl rfl (dict_at hd4 fun o e => k5.1 D o (Ne.symm hID) e) (.inl ⟨rfl, hz⟩)
  · refine itemsTurn (env := callEnvC (fdOf w 56) L 56) (kvs := [(Str.ofString "f", F1), (Str.ofString "g", G1)]) O G4 hA.h hL NI.1 hIL hns4 hit4 hm4 rfl ?_
    intro t key v' s5 G5 hns5 hit5 k5
    have hd5 := dict_at hd4 fun o e => k5 D o ND.2.1 (by first | exact nin1 (⟨Ne.symm hID, hDL⟩) | exact ninp (⟨Ne.symm hID, hDL⟩) | exact nin3 (⟨Ne.symm hID, hDL⟩) | exact zall1 (⟨Ne.symm hID, hDL⟩) | exact zall2 (⟨Ne.symm hID, hDL⟩) | exact zall3 (⟨Ne.symm hID, hDL⟩) | exact zall4 (⟨Ne.symm hID, hDL⟩) | (simp; exact ⟨Ne.symm hID, hDL⟩)) e
    have hm5 := hm4.at' fun o e => k5 q1 o lq1.2.2 (by first | exact nin1 (⟨hqI, lq1.1⟩) | exact ninp (⟨hqI, lq1.1⟩) | exact nin3 (⟨hqI, lq1.1⟩) | exact zall1 (⟨hqI, lq1.1⟩) | exact zall2 (⟨hqI, lq1.1⟩) | exact zall3 (⟨hqI, lq1.1⟩) | exact zall4 (⟨hqI, lq1.1⟩) | (simp; exact ⟨hqI, lq1.1⟩)) e
    refine wpAny_execs_cons ?_
    refine wpAny_Assign_Subscript ?_
    refine nL hns5 rfl ?_
    refine nL hns5 rfl ?_
    refine nL hns5 rfl ?_
    refine wpAny_setItem_pairs (knd := sK w) (strKind_is ..) hd5 (fun h6 hd6 hs6 => ?_) (len_line (Nat.le_of_ble_eq_true rfl))
    have G6 := G5.set (t := s5.toks + 1) O.top ND.1 hs6
    generalize hs6e : ({ s5 with heap := h6, toks := s5.toks + 1 } : Shared) = s6 at G6
    have h6e : h6 = s6.heap := by rw [← hs6e]
    rw [h6e] at hd6 hs6
    have hns6 := (hns5.at' (h' := s6.heap) fun o e => hs6.extBut L o (Ne.symm hDL) e)
    have hm6 := hm5.at' (h' := s6.heap) fun o e => hs6.extBut q1 o lq1.2.1 e
    have hit6 := hs6.extBut I _ hID hit5
    refine wpAny_execs_nil ?_
    try dsimp only
    refine itemsTurn (env := callEnvC (fdOf w 56) L 56) (kvs := [(Str.ofString "f", F1), (Str.ofString "g", G1)]) O G6 hA.h hL NI.1 hIL hns6 hit6 hm6 rfl ?_
    intro t2 key2 v2 s7 G7 hns7 hit7 k7
    have hd7 := dict_at hd6 fun o e => k7 D o ND.2.1 (by first | exact nin1 (⟨Ne.symm hID, hDL⟩) | exact ninp (⟨Ne.symm hID, hDL⟩) | exact nin3 (⟨Ne.symm hID, hDL⟩) | exact zall1 (⟨Ne.symm hID, hDL⟩) | exact zall2 (⟨Ne.symm hID, hDL⟩) | exact zall3 (⟨Ne.symm hID, hDL⟩) | exact zall4 (⟨Ne.symm hID, hDL⟩) | (simp; exact ⟨Ne.symm hID, hDL⟩)) e
    have hm7 := hm6.at' fun o e => k7 q1 o lq1.2.2 (by first | exact nin1 (⟨hqI, lq1.1⟩) | exact ninp (⟨hqI, lq1.1⟩) | exact nin3 (⟨hqI, lq1.1⟩) | exact zall1 (⟨hqI, lq1.1⟩) | exact zall2 (⟨hqI, lq1.1⟩) | exact zall3 (⟨hqI, lq1.1⟩) | exact zall4 (⟨hqI, lq1.1⟩) | (simp; exact ⟨hqI, lq1.1⟩)) e
    refine wpAny_execs_cons ?_
    refine wpAny_Assign_Subscript ?_
    refine nL hns7 rfl ?_
    refine nL hns7 rfl ?_
    refine nL hns7 rfl ?_
    refine wpAny_setItem_pairs (knd := sK w) (strKind_is ..) hd7 (fun h8 hd8 hs8 => ?_) (len_line (Nat.le_of_ble_eq_true rfl))
    have G8 := G7.set (t := s7.toks + 1) O.top ND.1 hs8
    generalize hs8e : ({ s7 with heap := h8, toks := s7.toks + 1 } : Shared) = s8 at G8
    have h8e : h8 = s8.heap := by rw [← hs8e]
    rw [h8e] at hd8 hs8
    have hns8 := (hns7.at' (h' := s8.heap) fun o e => hs8.extBut L o (Ne.symm hDL) e)
    have hm8 := hm7.at' (h' := s8.heap) fun o e => hs8.extBut q1 o lq1.2.1 e
    have hit8 := hs8.extBut I _ hID hit7
    refine wpAny_execs_nil ?_
    try dsimp only
    refine itemsEnd (kvs := [(Str.ofString "f", F1), (Str.ofString "g", G1)]) O G8 hA.h NI.1 hit8 hm8 rfl ?_
    intro s9 G9 k9
    try dsimp only
    exact rest s9 _ _ G9 (ns_ke hns8 k9 (Ne.symm hIL)) rfl rfl (dict_at hd8 fun o e => k9.1 D o (Ne.symm hID) e) (.inr ⟨F1, G1, hu, rfl, b, c⟩)
end
end Mine
end TextC4
section TextC5
namespace Mine
open PySem PySem.W PySem.Calls PyProof.Rows PySem.Spec
theorem bd_afs (w : World) (a b : Value) : bindArgs (fdOf w 49) ⟨[a, b], []⟩ = pure [(Str.ofString "target", a), (Str.ofString "source", b)] := by kernel_rfl
section
variable {w : World} {mg mb : Str → Option Value} {A : Around} {s s₀ : Shared} {ms : List Addr} {Q E : Value → Shared → Prop}
set_option maxHeartbeats 1000000
theorem afs_spec {p q : Addr} {u v : Vec} {W : Bool} (O : Ok w mg mb ms s) (hA : Fit A 14 45) (h1 : Ent w W (vw ms s.heap) p u) (h2 : Ent w W (vw ms s.heap) q v) (hv : 0 < v.d)
    (k : ∀ r s', Go s s' → Ent w W (vw ms s'.heap) r (u.add v) → Q (.ref r) s') : wpAny (MD w) A (call (.ref 49) [.ref p, .ref q]) Q E s := by
  obtain ⟨qc, ta, tb, tc, td, e1, e2⟩ := h1
  obtain ⟨qd, ua, ub, uc, ud, f1, f2⟩ := h2
  refine call_fn O hA.room rfl rfl rfl rfl (bd_afs _ _ _) rfl rfl ?_
  intro L s1 hL G hns hc hpw
  refine wpAny_execs_cons ?_
  refine Assign_Tuple ?_
  refine nL hns rfl ?_
  refine unpackT hA.h (f1.mono (vw_go G)).tup rfl rfl ?_
  intro s2 k2
  replace G := G.trans k2.go
  replace hns := hns.keeps k2.1
  refine asg ?_
  refine sL O G hL hns ?_
  intro s3 G hns hs3
  refine asg ?_
  refine sL O G hL hns ?_
  intro s4 G hns hs4
  refine asg ?_
  refine sL O G hL hns ?_
  intro s5 G hns hs5
  refine asg ?_
  refine sL O G hL hns ?_
  intro s6 G hns hs6
  refine asg ?_
  refine sL O G hL hns ?_
  intro s7 G hns hs7
  refine asg0 ?_
  try dsimp only
  refine wpAny_execs_cons ?_
  refine Assign_Tuple ?_
  refine nL hns rfl ?_
  refine unpackT hA.h (e1.mono (vw_go G)).tup rfl rfl ?_
  intro s8 k8
  replace G := G.trans k8.go
  replace hns := hns.keeps k8.1
  refine asg ?_
  refine sL O G hL hns ?_
  intro s9 G hns hs9
  refine asg ?_
  refine sL O G hL hns ?_
  intro s10 G hns hs10
  refine asg ?_
  refine sL O G hL hns ?_
  intro s11 G hns hs11
  refine asg ?_
  refine sL O G hL hns ?_
  intro s12 G hns hs12
  refine asg ?_
  refine sL O G hL hns ?_
  intro s13 G hns hs13
  refine asg0 ?_
  try dsimp only
  refine wpAny_execs_cons ?_
  refine wpAny_Return_some ?_
  refine PyProof.Rows.Tuple_ ?_
  refine args_cons ?_
  refine wpAny_BinOp ?_
  refine nL hns rfl ?_
  refine nL hns rfl ?_
  refine add_int ?_
  refine args_cons ?_
  refine wpAny_BinOp ?_
  refine nL hns rfl ?_
  refine nL hns rfl ?_
  refine add_int ?_
  refine args_cons ?_
  refine wpAny_BinOp ?_
  refine nL hns rfl ?_
  refine nL hns rfl ?_
  refine add_int ?_
  refine args_cons ?_
  refine wpAny_BinOp ?_
  refine nL hns rfl ?_
  refine nL hns rfl ?_
  refine add_int ?_
  refine args_cons ?_
  refine callG (O.top.go G) (f_ac w) (kp w).2.1 ?_
  refine args_cons ?_
  refine nL hns rfl ?_
  refine args_cons ?_
  refine nL hns rfl ?_
  refine args_nil ?_
  refine ⟨(O.top.go G).k, ?_⟩
  have Of : Ok w mg mb (L :: ms) s13 := O.fr G hL hns
  have le := vw_more (ms := ms) [L] G (by simpa using hL)
  refine ac_spec (s := { s13 with toks := _ }) (ms := L :: ms) (u := u) (v := v) (W := W) Of (Fit.deeper (hA.le (d' := 13) (u' := 43))) (e2.mono le) (f2.mono le) hv ?_
  intro r s14 G14 hc14
  have G' := G.trans G14
  refine args_nil ?_
  refine mkT (small_list (Nat.le_of_ble_eq_true rfl)) fun a s15 ha ho hk => ?_
  have Na := O.new G' ha
  have := Sq.ofT ho Na.2.1 Na.2.2
  rw [Int.add_comm v.a, Int.add_comm v.b, Int.add_comm v.c, Int.add_comm v.d] at this
  exact k a s15 (G'.trans hk.go) ⟨r, _, _, _, _, this, (hc14.mono (vw_less [L])).mono (vw_go hk.go)⟩
end
end Mine
end TextC5
section TextL1
namespace Mine
open PySem PySem.W PySem.Calls PyProof.Rows PySem.Spec
theorem filter_take_succ {α : Type} {ds : List α} {p : α → Bool} {i : Nat} {d : α} (h : ds[i]? = some d) : (ds.take (i + 1)).filter p = (ds.take i).filter p ++ (if p d then [d] else []) := by
  rw [List.take_add_one, h, Option.toList_some, List.filter_append]
  congr 1
  cases hp : p d <;> simp [hp]
section
variable {w : World} {mg mb : Str → Option Value} {A : Around} {s : Shared} {ms : List Addr} {E : Value → Shared → Prop}
theorem Kb.ok {xs : List Addr} {s s' : Shared} (k : Kb xs s s') {b : Addr} (n : b ≠ 51) (m : b ∉ xs) : ∀ o, s.heap.get? b = some o → s'.heap.get? b = some o := fun o e => k b o n m e
theorem vw_kb {xs ys : List Addr} {s s' : Shared} (k : Kb xs s s') (h : ∀ x ∈ xs, x ∈ ys) : Le (vw ys s.heap) (vw ys s'.heap) := fun b o e => by
  obtain ⟨a, c, d⟩ := vw_iff.mp e
  exact vw_iff.mpr ⟨a, c, k b o a (fun q => c (h b q)) d⟩
abbrev tests (ifs : List Expr) (cenv : Env) : Sem Bool := forIn ifs true fun c r => if r = true then do let ok ← isTrue c cenv (eval c cenv); pure (ForInStep.yield ok) else pure (ForInStep.yield r)
theorem lcLoop {α : Type} {ds : List α} {K : α → Value → Prop} {p : α → Bool} {R : α → View → Value → Prop} {M : α → Shared → Prop} {Fr : Shared → Prop} {I D : Addr} {fp : List Addr} {P : Nat → Value → Prop} {St : Nat → Heap → Prop} {cs : List Addr} {cenv : Env}
    {elt target iter : Expr} {ifs : List Expr} {scope : Scope} {pos : Pos} {RR : Result → Shared → Prop}
    (O : Ok w mg mb ms s) (hRm : ∀ d g g' y, Le g g' → R d g y → R d g' y)
    (W : Walks PG w A I fp [I] ds.length P St) (hP : ∀ i v, P i v → i < ds.length → ∃ d, ds[i]? = some d ∧ K d v) (hfp : ∀ b ∈ fp, b ≠ 51) (hIo : ∀ i h, St i h → ∃ o, h.get? I = some o) (hds : ds.length ≤ 1000)
    (nI : s.heap.get? I = none) (nD : s.heap.get? D = none) (ncs : ∀ c ∈ cs, s.heap.get? c = none) (hDf : D ∉ fp) (hcf : ∀ c ∈ cs, c ∉ fp) (hDc : D ∉ cs)
    (hFr : ∀ s₁ s₂ : Shared, Fr s₁ → (∀ c ∈ cs, ∀ o, s₁.heap.get? c = some o → s₂.heap.get? c = some o) → Fr s₂) (hFl : ∀ s₁ : Shared, Fr s₁ → ∀ c ∈ cs, ∃ o, s₁.heap.get? c = some o)
    (tgt : ∀ i d v s₃, ds[i]? = some d → K d v → Fr s₃ → Go s s₃ → St (i + 1) s₃.heap → wpAny (MD w) A (letOwnedTupleGo target (.ref I) v) (fun _ s' => wpAny (MD w) A (assign target cenv v) (fun _ s'' => Fr s'' ∧ M d s'' ∧ Go s s'' ∧ Kb cs s₃ s'') NE s') NE s₃)
    (body : ∀ d s₃, d ∈ ds → M d s₃ → Go s s₃ → Ok w mg mb (I :: D :: (cs ++ ms)) s₃ →
      wpAny (MD w) A (tests ifs cenv) (fun ok s₄ => ok = p d ∧ Go s₃ s₄ ∧ (p d = true → wpAny (MD w) A (eval elt cenv) (fun y s₅ => Go s₄ s₅ ∧ R d (vw (I :: D :: (cs ++ ms)) s₅.heap) y) NE s₄)) NE s₃)
    (fin : ∀ ys k s', Go s s' → Fr s' → s'.heap.get? D = some (lstO ys k) → All2 (fun y d => R d (vw (I :: D :: (cs ++ ms)) s'.heap) y) ys (ds.filter p) → RR (.ok .next) s') :
    ∀ (n i : Nat) (s₂ : Shared) (ys : List Value) (k : Nat), ds.length - i = n → i ≤ ds.length → ys.length ≤ i → Go s s₂ → Fr s₂ → St i s₂.heap → s₂.heap.get? D = some (lstO ys k) →
      All2 (fun y d => R d (vw (I :: D :: (cs ++ ms)) s₂.heap) y) ys ((ds.take i).filter p) →
      codeAny (MD w) A (.compLoop (.ListComp elt [⟨target, iter, ifs, 0⟩] scope pos) 0 (.ref I) (.ref D) cenv) RR s₂ := by
  have hIf : I ∈ fp := W.sub I (List.mem_singleton.mpr rfl)
  have hIc : I ∉ cs := fun h => hcf I h hIf
  have hDI : D ≠ I := fun h => hDf (h ▸ hIf)
  have D51 := O.top.ne51 nD
  have c51 : ∀ c ∈ cs, c ≠ 51 := fun c h => O.top.ne51 (ncs c h)
  intro n
  induction n with
  | zero =>
    intro i s₂ ys k hn hi hyl G F st hD hA
    have hie : i = ds.length := (by first | exact ind0 (by assumption) (by assumption) | exact ind1 (by assumption) | omega)
    refine comp1 ?_
    refine W.done _ _ _ (by rw [← hie]; exact st) ?_
    intro h' tk kp
    have ke : Ke I s₂ { s₂ with heap := h', toks := tk } := ⟨fun b o n e => kp b o (by simpa using n) e, rfl, rfl⟩
    rw [hie, List.take_length] at hA
    exact fin ys k _ (Go.ke G O.top nI ke) (hFr _ _ F fun c hc o e => ke.1 c o (fun q => hIc (q ▸ hc)) e) (ke.1 _ _ hDI hD) (hA.imp fun y d r => hRm d _ _ y (vw_kb (Kb.ke ke (xs := [I]) (by first | exact zm0 | exact zm1 | exact zm2 | exact zm3 | exact zm4 | exact zm5 | exact zm6 | exact zm7 | exact zs0 | exact zs1 | exact zs2 | exact zs3 | exact zn0 | exact zn1 (by decide) | simp)) (by first | exact zm0 | exact zm1 | exact zm2 | exact zm3 | exact zm4 | exact zm5 | exact zm6 | exact zm7 | exact zs0 | exact zs1 | exact zs2 | exact zs3 | exact zn0 | exact zn1 (by decide) | simp)) r)
  | succ n ih =>
    intro i s₂ ys k hn hi hyl G F st hD hA
    have hlt : i < ds.length := (by first | exact ind0 (by assumption) (by assumption) | exact ind1 (by assumption) | omega)
    refine comp1 ?_
    refine W.item i _ _ _ hlt st ?_
    intro v h' tk hPv st' kp
    obtain ⟨d, hd, hKd⟩ := hP i v hPv hlt
    have ke : Ke I s₂ { s₂ with heap := h', toks := tk } := ⟨fun b o n e => kp b o (by simpa using n) e, rfl, rfl⟩
    have hS : St (i + 1) ({ s₂ with heap := h', toks := tk } : Shared).heap := st'
    have hD3 := ke.1 _ _ hDI hD
    generalize ({ s₂ with heap := h', toks := tk } : Shared) = s3 at ke hS hD3
    have G3 := Go.ke G O.top nI ke
    have F3 := hFr _ _ F fun c hc o e => ke.1 c o (fun q => hIc (q ▸ hc)) e
    refine wpAny_mono (tgt i d v s3 hd hKd F3 G3 hS) (fun _ s3' h3 => ?_) fun _ _ e => e
    refine wpAny_mono h3 (fun _ s4 h4 => ?_) fun _ _ e => e
    obtain ⟨F4, M4, G4, k4⟩ := h4
    have st4 : St (i + 1) s4.heap := W.frame _ _ _ hS fun b hb o e => k4 b o (hfp b hb) (fun q => hcf b q hb) e
    have hD4 := k4 _ _ D51 hDc hD3
    have live4 : ∀ x ∈ I :: D :: cs, s.heap.get? x = none ∧ ∃ o, s4.heap.get? x = some o := fun x hx => by
      rcases List.mem_cons.mp hx with rfl | hx
      · refine ⟨nI, ?_⟩
        have : ∃ o, s3.heap.get? x = some o := hIo _ _ hS
        obtain ⟨o, e⟩ := this
        exact ⟨o, k4 x o (hfp x hIf) hIc e⟩
      · rcases List.mem_cons.mp hx with rfl | hx
        · exact ⟨nD, _, hD4⟩
        · exact ⟨ncs x hx, hFl _ F4 x hx⟩
    have O4 : Ok w mg mb (I :: D :: (cs ++ ms)) s4 := O.more (xs := I :: D :: cs) G4 live4
    refine wpAny_mono (body d s4 (List.mem_of_getElem? hd) M4 G4 O4) (fun ok s5 h5 => ?_) fun _ _ e => e
    obtain ⟨rfl, G5, h5⟩ := h5
    have le3 : Le (vw (I :: D :: (cs ++ ms)) s₂.heap) (vw (I :: D :: (cs ++ ms)) s5.heap) :=
      ((vw_kb (Kb.ke ke (xs := [I]) (by first | exact zm0 | exact zm1 | exact zm2 | exact zm3 | exact zm4 | exact zm5 | exact zm6 | exact zm7 | exact zs0 | exact zs1 | exact zs2 | exact zs3 | exact zn0 | exact zn1 (by decide) | simp)) (by first | exact zm0 | exact zm1 | exact zm2 | exact zm3 | exact zm4 | exact zm5 | exact zm6 | exact zm7 | exact zs0 | exact zs1 | exact zs2 | exact zs3 | exact zn0 | exact zn1 (by decide) | simp)).trans (vw_kb k4 (fun x hx => by simp [hx]))).trans (vw_go G5)
    have ft := filter_take_succ (p := p) hd
    cases hp : p d with
    | false =>
      rw [if_neg Bool.false_ne_true]
      rw [hp, if_neg Bool.false_ne_true, List.append_nil] at ft
      refine ih (i + 1) s5 ys k (by first | assumption | exact ind2 (by assumption) | exact ind1 (by assumption) | exact Nat.le_trans (by assumption) (by decide) | exact Nat.le_of_lt (by assumption) | exact Nat.lt_of_le_of_lt (Nat.le_add_right _ _) (by assumption) | omega) hlt (by first | assumption | exact ind2 (by assumption) | exact ind1 (by assumption) | exact Nat.le_trans (by assumption) (by decide) | exact Nat.le_of_lt (by assumption) | exact Nat.lt_of_le_of_lt (Nat.le_add_right _ _) (by assumption) | omega) (G4.trans G5) (hFr _ _ F4 fun c hc o e => G5.keep c o (c51 c hc) e) (W.frame _ _ _ st4 fun b hb o e => G5.keep b o (hfp b hb) e) (G5.keep _ _ D51 hD4) ?_
      rw [ft]
      exact hA.imp fun y d r => hRm d _ _ y le3 r
    | true =>
      rw [if_pos rfl]
      rw [hp, if_pos rfl] at ft
      refine wpAny_mono (h5 hp) (fun y s6 h6 => ?_) fun _ _ e => e
      obtain ⟨G6, R6⟩ := h6
      have G56 := G5.trans G6
      refine append_at (hsz := by show ys.toArray.size ≤ sizeLine; rw [List.size_toArray]; exact Nat.le_trans (Nat.le_trans hyl hi) (Nat.le_trans hds (by rw [sizeLine_eq]; decide))) (G56.keep _ _ D51 hD4) fun h7 hs7 hD7 => ?_
      have G7 := (G4.trans G56).set (t := s6.toks) O.top nD hs7
      have k7 : Kb [D] s6 { s6 with heap := h7 } := Kb.same hs7 (by first | exact zm0 | exact zm1 | exact zm2 | exact zm3 | exact zm4 | exact zm5 | exact zm6 | exact zm7 | exact zs0 | exact zs1 | exact zs2 | exact zs3 | exact zn0 | exact zn1 (by decide) | simp)
      have hL7 : ({ s6 with heap := h7 } : Shared).heap.get? D = some (lstO (ys ++ [y]) (k + 1)) := by
        rw [hD7, List.push_toArray]
      generalize ({ s6 with heap := h7 } : Shared) = s7 at G7 k7 hL7
      have le7 : Le (vw (I :: D :: (cs ++ ms)) s6.heap) (vw (I :: D :: (cs ++ ms)) s7.heap) := vw_kb k7 (by first | exact zm0 | exact zm1 | exact zm2 | exact zm3 | exact zm4 | exact zm5 | exact zm6 | exact zm7 | exact zs0 | exact zs1 | exact zs2 | exact zs3 | exact zn0 | exact zn1 (by decide) | simp)
      refine ih (i + 1) s7 (ys ++ [y]) (k + 1) (by first | assumption | exact ind2 (by assumption) | exact ind1 (by assumption) | exact Nat.le_trans (by assumption) (by decide) | exact Nat.le_of_lt (by assumption) | exact Nat.lt_of_le_of_lt (Nat.le_add_right _ _) (by assumption) | omega) hlt (by rw [List.length_append, List.length_singleton]; omega) G7 (hFr _ _ F4 fun c hc o e => k7 c o (c51 c hc) (by first | exact nin1 (fun q => hDc (q ▸ hc)) | exact ninp (fun q => hDc (q ▸ hc)) | exact nin3 (fun q => hDc (q ▸ hc)) | exact zall1 (fun q => hDc (q ▸ hc)) | exact zall2 (fun q => hDc (q ▸ hc)) | exact zall3 (fun q => hDc (q ▸ hc)) | exact zall4 (fun q => hDc (q ▸ hc)) | (simp; exact fun q => hDc (q ▸ hc))) (G56.keep c o (c51 c hc) e))
        (W.frame _ _ _ st4 fun b hb o e => k7 b o (hfp b hb) (by first | exact nin1 (fun q => hDf (q ▸ hb)) | exact ninp (fun q => hDf (q ▸ hb)) | exact nin3 (fun q => hDf (q ▸ hb)) | exact zall1 (fun q => hDf (q ▸ hb)) | exact zall2 (fun q => hDf (q ▸ hb)) | exact zall3 (fun q => hDf (q ▸ hb)) | exact zall4 (fun q => hDf (q ▸ hb)) | (simp; exact fun q => hDf (q ▸ hb))) (G56.keep b o (hfp b hb) e)) hL7 ?_
      rw [ft]
      exact (hA.imp fun y d r => hRm d _ _ y ((le3.trans (vw_go G6)).trans le7) r).snoc (hRm d _ _ y le7 R6)
end
end Mine
end TextL1
section TextL2
namespace Mine
open PySem PySem.W PySem.Calls PyProof.Rows PySem.Spec
/-- an iterator over data -/
def SrcIt (w : World) (A : Around) (T : String) {α : Type} (ds : List α) (K : α → Value → Prop) (s s₂ : Shared) (it : Value) : Prop :=
  ∃ I fp P St, it = .ref I ∧ s.heap.get? I = none ∧ Walks PG w A I fp [I] ds.length P St ∧ (∀ i v, P i v → i < ds.length → ∃ d, ds[i]? = some d ∧ K d v) ∧ (∀ b ∈ fp, b ≠ 51 ∧ ∃ o, s₂.heap.get? b = some o) ∧
    (∀ i (h : Heap), St i h → ∃ o, h.get? I = some o ∧ o.cls = .type T) ∧ St 0 s₂.heap
section
variable {w : World} {mg mb : Str → Option Value} {A : Around} {s s₂ : Shared} {ms : List Addr} {E : Value → Shared → Prop} {env : Env}
theorem none_of_le {h : Heap} {a : Addr} (ha : h.objs.size ≤ a) : h.get? a = none := by
  cases e : h.get? a with
  | none => rfl
  | some o' => exact absurd (Heap.lt_size e) (Nat.not_lt.mpr ha)
theorem lcBlock {α : Type} {T : String} {ds : List α} {K : α → Value → Prop} {p : α → Bool} {R : α → View → Value → Prop} {M : α → (Str → Option Value) → Prop} {it : Value}
    {elt target iter : Expr} {ifs : List Expr} {scope : Scope} {cl : List (Str × Addr)} {pos : Pos} {RR : Value → Addr → Result → Shared → Prop}
    (O : Ok w mg mb ms s) (G : Go s s₂) (hRm : ∀ d g g' y, Le g g' → R d g y → R d g' y) (S : SrcIt w A T ds K s s₂ it) (hds : ds.length ≤ 1000)
    (hcell : ∀ y ∈ scope.names, y.2 ≠ .cell) (hkind : scope.kind = .function)
    (tgt : ∀ C I (i : Nat) d v m s₃, ds[i]? = some d → K d v → s.heap.get? C = none → s₃.heap.Ns C m → Go s s₃ → (∃ o, s₃.heap.get? I = some o ∧ o.cls = .type T) →
      wpAny (MD w) A (letOwnedTupleGo target (.ref I) v) (fun _ s' => wpAny (MD w) A (assign target (compEnvC scope cl C env) v) (fun _ s'' => (∃ m', s''.heap.Ns C m' ∧ M d m') ∧ Go s s'' ∧ Kb [C] s₃ s'') NE s') NE s₃)
    (body : ∀ C D I d m s₃, d ∈ ds → s₃.heap.Ns C m → M d m → Go s s₃ → s.heap.get? C = none → s.heap.get? D = none → s.heap.get? I = none → Ok w mg mb (I :: D :: C :: ms) s₃ →
      wpAny (MD w) A (tests ifs (compEnvC scope cl C env)) (fun ok s₄ => ok = p d ∧ Go s₃ s₄ ∧ (p d = true → wpAny (MD w) A (eval elt (compEnvC scope cl C env)) (fun y s₅ => Go s₄ s₅ ∧ R d (vw (I :: D :: C :: ms) s₅.heap) y) NE s₄)) NE s₃)
    (hRR : ∀ D C ys k s' m', Go s s' → s.heap.get? D = none → s.heap.get? C = none → C ≠ D → s'.heap.Ns C m' → s'.heap.get? D = some (lstO ys k) → All2 (fun y d => R d (vw (C :: ms) s'.heap) y) ys (ds.filter p) → RR (.ref D) C (.ok .next) s') :
    wpAny (MD w) A (newList []) (fun acc s₃ => wpAny (MD w) A (newFunctionEnv scope env.globals cl [] env.qual none .none (some env)) (fun cenv s₄ =>
      codeAny (MD w) A (.compStart (.ListComp elt [⟨target, iter, ifs, 0⟩] scope pos) 0 it acc { cenv with scope := relabel scope env }) (RR acc cenv.locals) s₄) E s₃) E s₂ := by
  obtain ⟨I, fp, P, St, rfl, nI, W, hP, hfp, hIo, hst⟩ := S
  refine wpAny_newObj_type (wpAny_newFunctionEnv hcell (by intro y hy; simp at hy) (fun h₁ hns₁ hsb₁ => ?_) hkind)
  dsimp only at hns₁ hsb₁ ⊢
  generalize hH2 : s₂.heap.push { cls := .type "list", dict := none, data := .seq ([] : List Value).toArray } = H2 at hns₁ hsb₁ ⊢
  have hC : H2.objs.size = s₂.heap.objs.size + 1 := by rw [← hH2, Heap.size_push]
  have hDC : s₂.heap.objs.size ≠ H2.objs.size := by rw [hC]; exact Nat.ne_of_lt (Nat.lt_succ_self _)
  have below : ∀ b, b < s₂.heap.objs.size → b ≠ H2.objs.size ∧ b ≠ s₂.heap.objs.size := fun b hb => ⟨by rw [hC]; exact Nat.ne_of_lt (Nat.lt_succ_of_lt hb), Nat.ne_of_lt hb⟩
  have hfl : ∀ b ∈ fp, b < s₂.heap.objs.size := fun b hb => let ⟨_, e⟩ := (hfp b hb).2; Heap.lt_size e
  have hDf : s₂.heap.objs.size ∉ fp := fun hm => Nat.lt_irrefl _ (hfl _ hm)
  have hCf : H2.objs.size ∉ fp := fun hm => by have := hfl _ hm; rw [hC] at this; exact Nat.lt_irrefl _ (Nat.lt_of_succ_lt this)
  have old : ∀ b o, s₂.heap.get? b = some o → h₁.get? b = some o := fun b o e => hsb₁.extBut b o (below b (Heap.lt_size e)).1 (Heap.get?_push_of_some _ (hH2 ▸ Heap.get?_push_of_some _ e))
  have hacc : h₁.get? s₂.heap.objs.size = some (lstO [] 0) := hsb₁.extBut _ _ hDC (Heap.get?_push_of_some _ (hH2 ▸ Heap.get?_push_size _ rfl))
  have nD := O.new G (get_size s₂.heap)
  have nC := O.new G (none_of_le (h := s₂.heap) (a := H2.objs.size) (by rw [hC]; exact Nat.le_succ _))
  have loop : ∀ s₃ : Shared, s₃ = { s₂ with heap := h₁, toks := s₂.toks + ([] : List (Str × Value)).length } →
      codeAny (MD w) A (.compLoop (.ListComp elt [⟨target, iter, ifs, 0⟩] scope pos) 0 (.ref I) (.ref s₂.heap.objs.size) (compEnvC scope cl H2.objs.size env))
        (RR (.ref s₂.heap.objs.size) H2.objs.size) s₃ := by
    rintro s₃ rfl
    refine lcLoop (ds := ds) (K := K) (p := p) (R := R) (M := fun d s => ∃ m, s.heap.Ns H2.objs.size m ∧ M d m) (Fr := fun s => ∃ m, s.heap.Ns H2.objs.size m) (fp := fp) (P := P) (St := St) (cs := [H2.objs.size]) O hRm W hP (fun b hb => (hfp b hb).1)
      (fun i h st => let ⟨o, e, _⟩ := hIo i h st; ⟨o, e⟩) hds nI nD.1 (fun c hc => by rw [List.mem_singleton.mp hc]; exact nC.1) hDf (fun c hc => by rw [List.mem_singleton.mp hc]; exact hCf) (fun h => hDC (List.mem_singleton.mp h))
      (fun s1 s2 ⟨m, hn⟩ k => ⟨m, hn.at' fun o e => k _ (List.mem_singleton.mpr rfl) o e⟩) (fun s1 ⟨m, hn⟩ c hc => by rw [List.mem_singleton.mp hc]; obtain ⟨o, _, _, e, _⟩ := hn; exact ⟨o, e⟩)
      ?_ ?_ ?_ ds.length 0 _ [] 0 rfl (Nat.zero_le _) (Nat.le_refl _) ?_ ⟨_, hns₁⟩ (W.frame _ _ _ hst fun b _ o e => old b o e) hacc ?_
    · intro i d v s3 hd hK ⟨m, hn⟩ G3 st3
      refine wpAny_mono (tgt H2.objs.size I i d v m s3 hd hK nC.1 hn G3 (hIo _ _ st3)) (fun _ s' h' => wpAny_mono h' (fun _ s'' h'' => ?_) fun _ _ e => e) fun _ _ e => e
      obtain ⟨⟨m', a, b⟩, c, d⟩ := h''
      exact ⟨⟨m', a⟩, ⟨m', a, b⟩, c, d⟩
    · intro d s3 hd ⟨m, hn, hM⟩ G3 O3
      exact body _ _ _ d m s3 hd hn hM G3 nC.1 nD.1 nI O3
    · intro ys k s' G' ⟨m', hn'⟩ hD' hA'
      refine hRR _ _ ys k s' m' G' nD.1 nC.1 (Ne.symm hDC) hn' hD' (hA'.imp fun y d r => hRm d _ _ y (vw_sub fun x hx => ?_) r)
      simp at hx ⊢
      rcases hx with h | h
      · exact .inr (.inr (.inl h))
      · exact .inr (.inr (.inr h))
    · exact G.trans (Go.of (s := s₂) old)
    · exact .nil
  exact codeAny_compStart_list (loop _ rfl) (W.self 0 _ _ _ (W.frame _ _ _ hst fun b _ o e => old b o e) (loop _ rfl))
/-- what the user of a comprehension owes once its source is there (at s) -/
def LcK (w : World) (mg mb : Str → Option Value) (A : Around) (ms : List Addr) (env : Env) (elt target : Expr) (ifs : List Expr) (scope : Scope) (cl : List (Str × Addr)) {α : Type} (T : String) (ds : List α) (p : α → Bool) (R : α → View → Value → Prop) (xv : Value) (s : Shared) : Prop :=
  ∃ (K : α → Value → Prop) (M : α → (Str → Option Value) → Prop), Ok w mg mb ms s ∧ wpAny (MD w) A (pyIter xv) (fun it s₂ => Go s s₂ ∧ SrcIt w A T ds K s s₂ it) NE s ∧
    (∀ C I (i : Nat) d v m s₃, ds[i]? = some d → K d v → s.heap.get? C = none → s₃.heap.Ns C m → Go s s₃ → (∃ o, s₃.heap.get? I = some o ∧ o.cls = .type T) →
      wpAny (MD w) A (letOwnedTupleGo target (.ref I) v) (fun _ s' => wpAny (MD w) A (assign target (compEnvC scope cl C env) v) (fun _ s'' => (∃ m', s''.heap.Ns C m' ∧ M d m') ∧ Go s s'' ∧ Kb [C] s₃ s'') NE s') NE s₃) ∧
    (∀ C D I d m s₃, d ∈ ds → s₃.heap.Ns C m → M d m → Go s s₃ → s.heap.get? C = none → s.heap.get? D = none → s.heap.get? I = none → Ok w mg mb (I :: D :: C :: ms) s₃ →
      wpAny (MD w) A (tests ifs (compEnvC scope cl C env)) (fun ok s₄ => ok = p d ∧ Go s₃ s₄ ∧ (p d = true → wpAny (MD w) A (eval elt (compEnvC scope cl C env)) (fun y s₅ => Go s₄ s₅ ∧ R d (vw (I :: D :: C :: ms) s₅.heap) y) NE s₄)) NE s₃)
/-- a list comprehension as a value -/
theorem lcV {α : Type} {T : String} {ds : List α} {p : α → Bool} {R : α → View → Value → Prop}
    {elt target iter : Expr} {ifs : List Expr} {scope : Scope} {cl : List (Str × Addr)} {pos : Pos} {Q : Value → Shared → Prop}
    (hRm : ∀ d g g' y, Le g g' → R d g y → R d g' y) (hds : ds.length ≤ 1000)
    (hclos : closureFor scope env = pure cl) (hcell : ∀ y ∈ scope.names, y.2 ≠ .cell) (hkind : scope.kind = .function) (hnames : ∀ x ∈ scope.names, x.2 = .local → scope.names.lookup x.1 = some .local) (hs : ∀ x, foldedSetIterable iter env x = pure x)
    (h : wpAny (MD w) A (eval iter env) (fun xv s₁ => LcK w mg mb A ms env elt target ifs scope cl T ds p R xv s₁ ∧
      ∀ D ys k s', Go s₁ s' → s₁.heap.get? D = none → s'.heap.get? D = some (lstO ys k) → All2 (fun y d => R d (vw ms s'.heap) y) ys (ds.filter p) → Q (.ref D) s') E s) :
    wpAny (MD w) A (eval (.ListComp elt [⟨target, iter, ifs, 0⟩] scope pos) env) Q E s := by
  rw [eval_ListComp]
  refine wpAny_comprehension_free (use := none) rfl hs hclos hkind hnames (wpAny_mono h (fun xv s₁ h₁ => ?_) fun _ _ e => e)
  obtain ⟨⟨K, M, O, hsrc, tgt, body⟩, fin⟩ := h₁
  refine wpAny_noRaise (wpAny_mono hsrc (fun it s₂ h₂ => ?_) fun _ _ e => e)
  obtain ⟨G, S⟩ := h₂
  refine lcBlock (RR := fun acc C => compPost (MD w) A _ none Q acc C) O G hRm S hds hcell hkind tgt body ?_
  intro D C ys k s' m' G' hD hC hCD hn hl hA
  refine ⟨m', hn, fun h'' hs'' => fin D ys k _ (G'.set (t := s'.toks) O.top hC hs'') hD (hs''.extBut _ _ (Ne.symm hCD) hl) (hA.imp fun y d r => hRm d _ _ y ?_ r)⟩
  exact (vw_same hs'' (by first | exact zm0 | exact zm1 | exact zm2 | exact zm3 | exact zm4 | exact zm5 | exact zm6 | exact zm7 | exact zs0 | exact zs1 | exact zs2 | exact zs3 | exact zn0 | exact zn1 (by decide) | simp)).trans (vw_sub fun x hx => by simp [hx])
/-- a list comprehension that is named -/
theorem lcA {α : Type} {T : String} {ds : List α} {p : α → Bool} {R : α → View → Value → Prop}
    {elt target iter : Expr} {ifs : List Expr} {scope : Scope} {cl : List (Str × Addr)} {pos spos py : Pos} {y : Str} {Q : Flow → Shared → Prop}
    (hRm : ∀ d g g' y, Le g g' → R d g y → R d g' y) (hds : ds.length ≤ 1000)
    (hsw : swapsWith (.ListComp elt [⟨target, iter, ifs, 0⟩] scope pos) (some (.Name y py)) spos.line env = pure true)
    (hclos : closureFor scope env = pure cl) (hcell : ∀ y ∈ scope.names, y.2 ≠ .cell) (hkind : scope.kind = .function) (hnames : ∀ x ∈ scope.names, x.2 = .local → scope.names.lookup x.1 = some .local) (hs : ∀ x, foldedSetIterable iter env x = pure x)
    (h : wpAny (MD w) A (eval iter env) (fun xv s₁ => LcK w mg mb A ms env elt target ifs scope cl T ds p R xv s₁ ∧
      ∀ D C ys k s' m', Go s₁ s' → s₁.heap.get? D = none → s₁.heap.get? C = none → C ≠ D → s'.heap.Ns C m' → s'.heap.get? D = some (lstO ys k) → All2 (fun y d => R d (vw (C :: ms) s'.heap) y) ys (ds.filter p) →
      wpAny (MD w) A (storeName env y (.ref D)) (fun _ s'' => (∃ m, s''.heap.Ns C m) ∧ ∀ h', Heap.SameBut C s''.heap h' → Q .next { s'' with heap := h' }) E s') E s) :
    wpAny (MD w) A (exec (.Assign [.Name y py] (.ListComp elt [⟨target, iter, ifs, 0⟩] scope pos) spos) env) Q E s := by
  rw [exec_Assign_Name_used _ _ _ _ hsw]
  refine wpAny_bind (wpAny_standAt (wpAny_bind ?_))
  show wpAny _ A (do let _ ← comprehension (.ListComp elt [⟨target, iter, ifs, 0⟩] scope pos) scope env _ (newList []) false (eval iter env) (some (assign (.Name y py) env))) _ _ s
  refine wpAny_bind (wpAny_mono (wpAny_comprehension_free (use := some (assign (.Name y py) env)) (Q := fun _ s' => Q .next s') rfl hs hclos hkind hnames
    (wpAny_mono h (fun xv s₁ h₁ => ?_) fun _ _ e => e)) (fun _ s' hq => wpAny_pure (wpAny_pure hq)) fun _ _ e => e)
  obtain ⟨⟨K, M, O, hsrc, tgt, body⟩, fin⟩ := h₁
  refine wpAny_noRaise (wpAny_mono hsrc (fun it s₂ h₂ => ?_) fun _ _ e => e)
  obtain ⟨G, S⟩ := h₂
  refine lcBlock (RR := fun acc C => compPost (MD w) A _ (some (assign (.Name y py) env)) (fun _ s' => Q .next s') acc C) O G hRm S hds hcell hkind tgt body ?_
  intro D C ys k s' m' G' hD hC hCD hn hl hA
  show wpAny _ A (assign (.Name y py) env (.ref D)) _ _ _
  refine wpAny_assign_Name (wpAny_mono (fin D C ys k s' m' G' hD hC hCD hn hl hA) (fun _ s'' h'' => ?_) fun _ _ e => e)
  obtain ⟨⟨m, a⟩, b⟩ := h''
  exact ⟨m, a, b⟩
end
end Mine
end TextL2
section TextL3
namespace Mine
open PySem PySem.W PySem.Calls PyProof.Rows PySem.Spec
section
variable {w : World} {mg mb : Str → Option Value} {A : Around} {s s₁ : Shared} {ms : List Addr} {E : Value → Shared → Prop} {env : Env}
/-- the target is one local name -/
theorem tgtN {α : Type} {T : String} {ds : List α} {K : α → Value → Prop} {x : Str} {px : Pos} {scope : Scope} {cl : List (Str × Addr)} (O : Ok w mg mb ms s) (hx : scope.names.lookup x = some .local) (hkind : scope.kind = .function) :
    ∀ C I (i : Nat) d v m s₃, ds[i]? = some d → K d v → s.heap.get? C = none → s₃.heap.Ns C m → Go s s₃ → (∃ o, s₃.heap.get? I = some o ∧ o.cls = .type T) →
      wpAny (MD w) A (letOwnedTupleGo (.Name x px) (.ref I) v) (fun _ s' => wpAny (MD w) A (assign (.Name x px) (compEnvC scope cl C env) v) (fun _ s'' => (∃ m', s''.heap.Ns C m' ∧ ∃ v, m' x = some v ∧ K d v) ∧ Go s s'' ∧ Kb [C] s₃ s'') NE s') NE s₃ := by
  intro C I i d v m s3 hd hK hC hn G hI
  refine wpAny_pure ?_
  refine wpAny_assign_Name ?_
  refine sL (env := compEnvC scope cl C env) O G hC hn ?_ (lookup_relabel_local hx) (by simp [compEnvC, relabel, hkind])
  intro s4 G4 hn4 hs4
  exact ⟨⟨_, hn4, v, if_pos rfl, hK⟩, G4, Kb.same hs4 (by simp [compEnvC])⟩
/-- the source is a list -/
theorem srcL {α : Type} {ds : List α} {K : α → Value → Prop} {l : Addr} {vs : List Value} (hh : A.handled = none) (O : Ok w mg mb ms s) (G : Go s s₁) (hl : s₁.heap.IsList l vs.toArray) (h51 : l ≠ 51) (hK : All2 (fun v d => K d v) vs ds) :
    wpAny (MD w) A (pyIter (.ref l)) (fun it s₂ => Go s s₂ ∧ SrcIt w A "list_iterator" ds K s s₂ it) E s₁ := by
  have hlt : l < s₁.heap.objs.size := by obtain ⟨_, e, _⟩ := hl; exact Heap.lt_size e
  refine wpAny_pyIter_list hl ⟨G.trans Go.push, s₁.heap.objs.size, [s₁.heap.objs.size, l], fun i v => vs.toArray[i]? = some v, fun i h => h.IsListIter s₁.heap.objs.size l i ∧ h.IsList l vs.toArray, rfl, (O.new G (get_size _)).1, ?_, ?_, ?_, ?_, ?_⟩
  · have := Walks.list (prog := PG) (w := w) hh s₁.heap.objs.size l (Nat.ne_of_lt hlt) vs.toArray
    rw [show vs.toArray.size = ds.length by rw [List.size_toArray]; exact hK.length] at this
    exact this
  · intro i v hv hi
    obtain ⟨d, a, b⟩ := hK.get' (i := i) (a := v) (by simpa using hv)
    exact ⟨d, a, b⟩
  · intro b hb
    rcases List.mem_cons.mp hb with rfl | hb
    · exact ⟨(O.new G (get_size _)).2.1, _, Heap.get?_push_size _ rfl⟩
    · rw [List.mem_singleton.mp hb]; obtain ⟨o, e, _⟩ := hl; exact ⟨h51, o, Heap.get?_push_of_some _ e⟩
  · intro i h ⟨⟨o, e, c, _⟩, _⟩
    exact ⟨o, e, c⟩
  · exact ⟨⟨_, Heap.get?_push_size _ rfl, rfl, rfl⟩, hl.push _⟩
def rangeL (a c : Int) (n : Nat) : List Int := (List.range n).map fun (i : Nat) => a + (i : Int) * c
/-- the source is a range -/
theorem srcR {r : Addr} {a b c : Int} {t u v : Tok} {n : Nat} (hh : A.handled = none) (O : Ok w mg mb ms s) (G : Go s s₁) (hr : IsRange s₁.heap r a b c t u v) (hsm : Builtin.Range.small a b c = true) (hn : Builtin.Range.rangeSize a b c = ((n : Nat) : Int)) :
    wpAny (MD w) A (pyIter (.ref r)) (fun it s₂ => Go s s₂ ∧ SrcIt w A "range_iterator" (rangeL a c n) (fun d v => ∃ t, v = .int d t) s s₂ it) E s₁ := by
  refine wpAny_pyIter_range hr hsm ⟨G.trans Go.push, s₁.heap.objs.size, [s₁.heap.objs.size], fun i v => ∃ t, v = .int (a + (i : Int) * c) t, fun i h => IsRangeIter h s₁.heap.objs.size (a + (i : Nat) * c) ((n : Int) - (i : Nat)) c, rfl, (O.new G (get_size _)).1, ?_, ?_, ?_, ?_, ?_⟩
  · have := Walks.range (prog := PG) (w := w) hh s₁.heap.objs.size a c n
    rw [show (rangeL a c n).length = n by simp [rangeL]]
    exact this
  · intro i v hv hi
    refine ⟨a + (i : Int) * c, ?_, hv⟩
    have hi' : i < n := by simpa [rangeL] using hi
    simp [rangeL, hi']
  · intro b hb
    rw [List.mem_singleton.mp hb]
    exact ⟨(O.new G (get_size _)).2.1, _, Heap.get?_push_size _ rfl⟩
  · intro i h e
    exact ⟨_, e, rfl⟩
  · show IsRangeIter _ _ _ _ _
    rw [hn]; simpa using Heap.get?_push_size _ rfl
/-- range(n) and range(a, b) -/
theorem rng1 {n : Int} {t : Tok} {Q : Value → Shared → Prop} (h : ∀ r t u v s', s.heap.get? r = none → IsRange s'.heap r 0 n 1 t u v → Kp s s' → Q (.ref r) s') : wpAny (MD w) A (call (.type "range") [.int n t]) Q E s :=
  call_range_1 (h _ _ _ _ _ (get_size _) (Heap.get?_push_size _ rfl) ⟨fun _ _ e => Heap.get?_push_of_some _ e, rfl, rfl⟩)
theorem rng2 {a n : Int} {t u : Tok} {Q : Value → Shared → Prop} (h : ∀ r t u v s', s.heap.get? r = none → IsRange s'.heap r a n 1 t u v → Kp s s' → Q (.ref r) s') : wpAny (MD w) A (call (.type "range") [.int a t, .int n u]) Q E s :=
  call_range_2 (h _ _ _ _ _ (get_size _) (Heap.get?_push_size _ rfl) ⟨fun _ _ e => Heap.get?_push_of_some _ e, rfl, rfl⟩)
end
end Mine
end TextL3
section TextD1
namespace Mine
open PySem PySem.W PySem.Calls PyProof.Rows PySem.Spec
/-- a list of entries -/
def EntL (w : World) (W : Bool) (g : View) (l : Addr) (us : List Vec) : Prop := ∃ vs, Sq "list" g l vs ∧ All2 (fun v u => ∃ a, v = .ref a ∧ Ent w W g a u) vs us
theorem EntL.mono {w : World} {W : Bool} {g g' : View} {l : Addr} {us : List Vec} (x : EntL w W g l us) (k : Le g g') : EntL w W g' l us :=
  let ⟨vs, a, b⟩ := x; ⟨vs, a.mono k, b.imp fun _ _ ⟨a, e, q⟩ => ⟨a, e, q.mono k⟩⟩
def psum (us : List Vec) (i : Nat) : Vec := (us.take i).foldl Vec.add Vec.z
def psums (us : List Vec) : List Vec := (List.range (us.length + 1)).map (psum us)
theorem psum_succ {us : List Vec} {i : Nat} {u : Vec} (h : us[i]? = some u) : psum us (i + 1) = (psum us i).add u := by
  unfold psum
  rw [List.take_add_one, h, Option.toList_some, List.foldl_append]; rfl
section
variable {w : World} {mg mb : Str → Option Value} {A : Around} {s s₀ : Shared} {ms : List Addr} {E : Value → Shared → Prop} {env : Env}
/-- x.append(e) -/
theorem apnd {x : Str} {e : Expr} {p ap cp pos : Pos} {D : Addr} {ys : List Value} {k : Nat} {m : Str → Option Value} {Q : Flow → Shared → Prop} (hns : s.heap.Ns env.locals m) (hx : m x = some (.ref D)) (hD : s.heap.get? D = some (lstO ys k)) (hl : ys.length ≤ 1000)
    (h : wpAny (MD w) A (eval e env) (fun v s₁ => s₁.heap.get? D = some (lstO ys k) ∧ ∀ s', Ch D s₁ s' → s'.heap.get? D = some (lstO (ys ++ [v]) (k + 1)) → Q .next s') E s)
    (hk : env.scope.kind = .function := by rfl) (hlo : env.kindOf x = some .local := by rfl) (hdb : (x == ("__debug__" : Str)) = false := by rfl)
    (hi : interactive env = false := by rfl) (hs : swapsWith (.Call (.Attribute (.Name x p) "append" ap) [e] [] cp) none pos.line env = pure false := by rfl)
    (pl : Sem Bool)
    (he : eval (.Call (.Attribute (.Name x p) "append" ap) [e] [] cp) env = (do
      let ov ← eval (.Name x p) env
      standAt ap.atName
      let (f, first) ← holding [ov] (getMethod ov "append" pl)
      callWith cp f first (backTo cp (starEach [e] env)) []) := by rfl) (he2 : starEach [e] env = (false, eval e env) :: starEach [] env := by rfl) :
    wpAny (MD w) A (exec (.Expr (.Call (.Attribute (.Name x p) "append" ap) [e] [] cp) pos) env) Q E s := by
  refine wpAny_Expr ?_ hi hs
  refine MethodCall_ (pl := pl) ?_ he
  refine nL hns hx ?_ hk hlo hdb
  refine getMethod_list_append hD rfl rfl ?_
  refine callWith_method1 ?_ he2 rfl
  rw [he2]
  refine Calls.spliced_cons ?_
  refine wpAny_mono h (fun v s₁ h₁ => ?_) fun _ _ e => e
  refine Calls.spliced_nil ?_
  refine append_at (hsz := by rw [List.size_toArray]; exact Nat.le_trans hl (by rw [sizeLine_eq]; decide)) h₁.1 fun h' hs' hD' => ?_
  exact h₁.2 { s₁ with heap := h' } ⟨hs', rfl, rfl⟩ (by rw [hD', List.push_toArray])
theorem vec_z_ent {a q : Addr} {W : Bool} {g : View} {ta tb tc td : Tok} (h : Sq "tuple" g a [.int 0 ta, .int 0 tb, .int 0 tc, .int 0 td, .ref q]) (hd : Di w g q []) : Ent w W g a Vec.z :=
  ⟨q, ta, tb, tc, td, h, .inl ⟨rfl, hd⟩⟩
/-- (0, 0, 0, 0, {}) -/
theorem zeroE {p1 p2 p3 p4 p5 pos : Pos} {k1 k2 k3 k4 : Nat} {x1} {W : Bool} {Q : Value → Shared → Prop} (O : Ok w mg mb ms s) (h : ∀ a s', s.heap.get? a = none → Go s s' → Kp s s' → Ent w W (vw ms s'.heap) a Vec.z → Q (.ref a) s') :
    wpAny (MD w) A (eval (.Tuple [.Constant (.int 0) k1 p1, .Constant (.int 0) k2 p2, .Constant (.int 0) k3 p3, .Constant (.int 0) k4 p4, .Dict [] [] p5] x1 pos) env) Q E s := by
  refine PyProof.Rows.Tuple_ ?_
  refine args_cons ?_
  refine wpAny_Constant_int ?_
  refine args_cons ?_
  refine wpAny_Constant_int ?_
  refine args_cons ?_
  refine wpAny_Constant_int ?_
  refine args_cons ?_
  refine wpAny_Constant_int ?_
  refine args_cons ?_
  refine dictNew O.top.tab ?_
  intro d s1 hd h1 hdi k1
  refine args_nil ?_
  refine mkT (small_list (Nat.le_of_ble_eq_true rfl)) fun a s2 ha ho hk => ?_
  have kk : Kp s s2 := ⟨fun b o e => hk.1 b o (k1.1 b o e), hk.2.1.trans k1.2.1, hk.2.2.trans k1.2.2⟩
  have Nd := O.fresh hd
  have Na := O.new (Kp.go (s := s) k1) ha
  obtain ⟨o, e, x⟩ := Heap.dictOf_iff.mp hdi
  exact h a s2 Na.1 kk.go kk (vec_z_ent (Sq.ofT ho Na.2.1 Na.2.2) ⟨h1, o, vw_iff.mpr ⟨Nd.1, Nd.2, hk.1 _ _ e⟩, x⟩)
end
theorem bd_along (w : World) (a : Value) : bindArgs (fdOf w 94) ⟨[a], []⟩ = pure [(Str.ofString "entries", a)] := by kernel_rfl
section
variable {w : World} {mg mb : Str → Option Value} {A : Around} {s : Shared} {ms : List Addr} {Q E : Value → Shared → Prop}
set_option maxHeartbeats 1000000
theorem along_spec {l : Addr} {us : List Vec} {W : Bool} (O : Ok w mg mb ms s) (hA : Fit A 20 60) (hl : EntL w W (vw ms s.heap) l us) (hpos : ∀ u ∈ us, 0 < u.d) (hlen : us.length ≤ 900)
    (k : ∀ r s', Go s s' → s.heap.get? r = none → EntL w W (vw ms s'.heap) r (psums us) → Q (.ref r) s') : wpAny (MD w) A (call (.ref 94) [.ref l]) Q E s := by
  obtain ⟨vs, l1, l2⟩ := hl
  refine call_fn O hA.room rfl rfl rfl rfl (bd_along _ _) rfl rfl ?_
  intro L s1 hL G hns hc hpw
  have hB : Fit (A.deeper (callEnvC (fdOf w 94) L 94)) 14 45 := Fit.deeper (hA.le (d' := 15) (u' := 48))
  refine wpAny_execs_cons ?_
  refine wpAny_Assign_Name ?_
  refine PyProof.Rows.List_ ?_
  refine args_cons ?_
  refine zeroE (W := W) (O.fr G hL hns) ?_
  intro a s2 ha G2 k2 ea
  refine args_nil ?_
  refine mkL (small_list (Nat.le_of_ble_eq_true rfl)) fun D s3 hD hDo k3 => ?_
  have G3 := (G.trans G2).trans k3.go
  have ND := O.new (G.trans G2) hD
  have hDL : D ≠ L := by obtain ⟨o, _, _, e, _⟩ := hns; exact Ne.symm (ne_of_get (k2.1 _ _ e) hD)
  replace ea := ea.mono (vw_more [D] k3.go (by simpa using hD))
  replace hns := (hns.keeps k2.1).keeps k3.1
  refine sL O G3 hL hns ?_
  intro s4 G4 hns4 hs4
  replace ea := ea.mono (vw_same hs4 (show L ∈ [D] ++ (L :: ms) by simp))
  replace hDo := hs4.extBut _ _ hDL hDo
  try dsimp only
  refine wpAny_execs_cons ?_
  refine wpAny_For ?_
  refine nL hns4 rfl ?_
  refine iterL (l1.mono (vw_go G4)).list ?_
  intro I s5 hI hit5 k5
  have NI := O.new G4 hI
  have hIL : I ≠ L := by obtain ⟨o, _, _, e, _⟩ := hns4; exact Ne.symm (ne_of_get e hI)
  have hID : I ≠ D := Ne.symm (ne_of_get hDo hI)
  have hns5 := hns4.keeps k5.1
  have G5 := G4.trans k5.go
  replace hDo := k5.1 _ _ hDo
  replace ea := ea.mono (vw_more [I] k5.go (by simpa using hI))
  refine absR fun R' hR' => ?_
  obtain ⟨i, m, ys, kk, hi, hns, hm1, hit, hDy, hya, G, hyl⟩ : ∃ (i : Nat) (m : Str → Option Value) (ys : List Value) (kk : Nat), i ≤ us.length ∧ s5.heap.Ns L m ∧ m "sums" = some (.ref D) ∧ s5.heap.IsListIter I l i ∧ s5.heap.get? D = some (lstO ys kk) ∧
      All2 (fun v u => ∃ a, v = .ref a ∧ Ent w W (vw (I :: D :: L :: ms) s5.heap) a u) ys ((List.range (i + 1)).map (psum us)) ∧ Go s s5 ∧ ys.length = i + 1 :=
    ⟨0, _, [.ref a], 0, Nat.zero_le _, hns5, rfl, hit5, hDo, .cons ⟨a, rfl, ea⟩ .nil, G5, rfl⟩
  clear hns5 hns4 hit5 hDo ea k5 hI G5 hs4 G4 k3 hD G3 k2 G2 ha
  have I51 := NI.2.1
  have D51 := ND.2.1
  have hlI : l ≠ I := by obtain ⟨o, e, _⟩ := l1; exact ne_of_get (vw_iff.mp e).2.2 NI.1
  have hlD : l ≠ D := by obtain ⟨o, e, _⟩ := l1; exact ne_of_get (vw_iff.mp e).2.2 ND.1
  induction hn : us.length - i generalizing i s5 m ys kk with
  | zero =>
    have hie : i = us.length := (by first | exact ind0 (by assumption) (by assumption) | exact ind1 (by assumption) | omega)
    refine for1 ?_
    refine nextL0 hA.h hit (l1.mono (vw_go G)).list (by rw [hie, ← l2.length]; simp) ?_
    intro s6 k6
    try dsimp only
    refine wpAny_execs_nil ?_
    refine hR' _ _ ?_
    try dsimp only
    refine wpAny_execs_cons ?_
    refine wpAny_Return_some ?_
    refine nL (ns_ke hns k6 (Ne.symm hIL)) hm1 ?_
    refine k D s6 (Go.ke G O.top NI.1 k6) ND.1 ⟨ys, Sq.ofL (k6.1 _ _ (Ne.symm hID) hDy) ND.2.1 ND.2.2, ?_⟩
    have le : Le (vw (I :: D :: L :: ms) s5.heap) (vw ms s6.heap) := (vw_kb (Kb.ke k6 (xs := [I]) (by first | exact zm0 | exact zm1 | exact zm2 | exact zm3 | exact zm4 | exact zm5 | exact zm6 | exact zm7 | exact zs0 | exact zs1 | exact zs2 | exact zs3 | exact zn0 | exact zn1 (by decide) | simp)) (by first | exact zm0 | exact zm1 | exact zm2 | exact zm3 | exact zm4 | exact zm5 | exact zm6 | exact zm7 | exact zs0 | exact zs1 | exact zs2 | exact zs3 | exact zn0 | exact zn1 (by decide) | simp)).trans (vw_less [I, D, L])
    rw [hie] at hya
    exact hya.imp fun v u ⟨a, e, x⟩ => ⟨a, e, x.mono le⟩
  | succ n ih =>
    have hlt : i < us.length := (by first | exact ind0 (by assumption) (by assumption) | exact ind1 (by assumption) | omega)
    obtain ⟨u, hu⟩ : ∃ u, us[i]? = some u := ⟨us[i], by simp [hlt]⟩
    obtain ⟨_, hvi, b, rfl, eb⟩ := l2.get hu
    refine for1 ?_
    refine nextL hit (l1.mono (vw_go G)).list hvi ?_
    intro s6 hit6 k6
    try dsimp only
    have hns6 := ns_ke hns k6.ke (Ne.symm hIL)
    have G6 := Go.ke G O.top NI.1 k6.ke
    have hD6 := k6.ke.1 _ _ (Ne.symm hID) hDy
    refine wpAny_pure ?_
    refine wpAny_assign_Name ?_
    refine sL O G6 hL hns6 ?_
    intro s7 G7 hns7 hs7
    have hD7 := hs7.extBut _ _ hDL hD6
    have hit7 := hit6.extBut hs7.extBut hIL
    have le7 : Le (vw (I :: D :: L :: ms) s5.heap) (vw (I :: D :: L :: ms) s7.heap) := (vw_kb (Kb.ke k6.ke (xs := [I]) (by first | exact zm0 | exact zm1 | exact zm2 | exact zm3 | exact zm4 | exact zm5 | exact zm6 | exact zm7 | exact zs0 | exact zs1 | exact zs2 | exact zs3 | exact zn0 | exact zn1 (by decide) | simp)) (by first | exact zm0 | exact zm1 | exact zm2 | exact zm3 | exact zm4 | exact zm5 | exact zm6 | exact zm7 | exact zs0 | exact zs1 | exact zs2 | exact zs3 | exact zn0 | exact zn1 (by decide) | simp)).trans (vw_same hs7 (show L ∈ _ by simp))
    refine wpAny_execs_cons ?_
    refine apnd (D := D) hns7 hm1 hD7 (by first | assumption | exact ind2 (by assumption) | exact ind1 (by assumption) | exact Nat.le_trans (by assumption) (by decide) | exact Nat.le_of_lt (by assumption) | exact Nat.lt_of_le_of_lt (Nat.le_add_right _ _) (by assumption) | omega) ?_ (pl := _)
    refine callG (O.top.go G7) (f_afs w) (kp w).1 ?_
    refine args_cons ?_
    refine PyProof.Rows.Subscript_ ?_
    refine nL hns7 hm1 ?_
    refine wpAny_UnaryOp ?_
    refine wpAny_Constant_int ?_
    refine neg_int ?_
    obtain ⟨_, hlast, c, rfl, ec⟩ := hya.get (i := i) (b := psum us i) (by first | exact zm0 | exact zm1 | exact zm2 | exact zm3 | exact zm4 | exact zm5 | exact zm6 | exact zm7 | exact zs0 | exact zs1 | exact zs2 | exact zs3 | exact zn0 | exact zn1 (by decide) | simp)
    refine subscriptTail_builtin (T := "list") ⟨_, hD7, rfl⟩ slot_list_getitem.lookup ?_
    refine wpAny_getItem_list_neg (items := ys.toArray) (x := .ref c) ⟨_, hD7, rfl, _, rfl⟩ (by decide) (by rw [List.size_toArray, hyl]; push_cast; omega) (by decide) ?_ ?_
    · have : (-1 + (ys.toArray.size : Int)).toNat = i := by rw [List.size_toArray, hyl]; push_cast; omega
      rw [this]; simpa using hlast
    refine args_cons ?_
    refine nL hns7 rfl ?_
    refine args_nil ?_
    refine ⟨(O.top.go G7).k, ?_⟩
    have O7 : Ok w mg mb (I :: D :: L :: ms) s7 := O.more (xs := [I, D, L]) G7 (by
      intro x hx
      simp only [List.mem_cons, List.not_mem_nil, or_false] at hx
      rcases hx with rfl | rfl | rfl
      · obtain ⟨o, e, _⟩ := hit7; exact ⟨NI.1, o, e⟩
      · exact ⟨ND.1, _, hD7⟩
      · obtain ⟨o, _, _, e, _⟩ := hns7; exact ⟨hL, o, e⟩)
    have eb7 := eb.mono (vw_more [I, D, L] G7 (by first | exact nin1 (⟨NI.1, ND.1, hL⟩) | exact ninp (⟨NI.1, ND.1, hL⟩) | exact nin3 (⟨NI.1, ND.1, hL⟩) | exact zall1 (⟨NI.1, ND.1, hL⟩) | exact zall2 (⟨NI.1, ND.1, hL⟩) | exact zall3 (⟨NI.1, ND.1, hL⟩) | exact zall4 (⟨NI.1, ND.1, hL⟩) | (simp; exact ⟨NI.1, ND.1, hL⟩)))
    refine afs_spec (s := { s7 with toks := _ }) (u := psum us i) (v := u) (W := W) O7 hB (ec.mono le7) eb7 (hpos u (List.mem_of_getElem? hu)) ?_
    intro r s8 G8 er
    have G8' : Go s7 s8 := G8
    refine ⟨G8'.keep _ _ D51 hD7, fun s9 c9 hD9 => ?_⟩
    have G9 := Go.ke (G7.trans G8') O.top ND.1 c9.ke
    have L51 := O.top.ne51 hL
    have hns9 : s9.heap.Ns L _ := ns_ke (hns7.at' fun o e => G8'.keep _ _ L51 e) c9.ke (Ne.symm hDL)
    have hit9 : s9.heap.IsListIter I l (i + 1) := (hit7.at fun o e => G8'.keep _ _ I51 e).extBut c9.ke.1 hID
    have le9 : Le (vw (I :: D :: L :: ms) s8.heap) (vw (I :: D :: L :: ms) s9.heap) := vw_kb (Kb.ke c9.ke (xs := [D]) (by first | exact zm0 | exact zm1 | exact zm2 | exact zm3 | exact zm4 | exact zm5 | exact zm6 | exact zm7 | exact zs0 | exact zs1 | exact zs2 | exact zs3 | exact zn0 | exact zn1 (by decide) | simp)) (by first | exact zm0 | exact zm1 | exact zm2 | exact zm3 | exact zm4 | exact zm5 | exact zm6 | exact zm7 | exact zs0 | exact zs1 | exact zs2 | exact zs3 | exact zn0 | exact zn1 (by decide) | simp)
    try dsimp only
    refine wpAny_execs_nil ?_
    try dsimp only
    refine ih s9 (i + 1) _ (ys ++ [.ref r]) (kk + 1) hlt hns9 hm1 hit9 hD9 ?_ G9 (by rw [List.length_append, List.length_singleton, hyl]) (by first | assumption | exact ind2 (by assumption) | exact ind1 (by assumption) | exact Nat.le_trans (by assumption) (by decide) | exact Nat.le_of_lt (by assumption) | exact Nat.lt_of_le_of_lt (Nat.le_add_right _ _) (by assumption) | omega)
    rw [List.range_succ, List.map_append]
    refine (hya.imp fun v u ⟨a, e, x⟩ => ⟨a, e, x.mono ((le7.trans (vw_go G8')).trans le9)⟩).append (.cons ⟨r, rfl, ?_⟩ .nil)
    rw [psum_succ hu]
    exact er.mono le9
end
end Mine
end TextD1
section TextD2
namespace Mine
open PySem PySem.W PySem.Calls PyProof.Rows PySem.Spec
def great (pk : List (Int × Int)) : Vec → List Vec → Vec
  | t, [] => t
  | t, u :: r => great pk (if cmpV pk u t = 1 then u else t) r
theorem bd_greatest (w : World) (a b : Value) : bindArgs (fdOf w 101) ⟨[a, b], []⟩ = pure [(Str.ofString "sums", a), (Str.ofString "comp", b)] := by kernel_rfl
section
variable {w : World} {mg mb : Str → Option Value} {A : Around} {s : Shared} {ms : List Addr} {Q E : Value → Shared → Prop} {env : Env}
/-- x.compare(a, b) -/
theorem cmpCall {o e1 e2 : Expr} {ap cp : Pos} {x : Addr} {u v : Vec} {W : Bool} {pk : List (Int × Int)} (O : Ok w mg mb ms s) (hA : Fit A 10 20)
    (ho : ∀ Q' : Value → Shared → Prop, Q' (.ref x) s → wpAny (MD w) A (eval o env) Q' E s) (hx : Cm (vw ms s.heap) x pk) (hpk : ∀ cd ∈ pk, 0 ≤ cd.1 ∧ cd.1 ≤ 2)
    (h : wpAny (MD w) A (eval e1 env) (fun v1 s1 => wpAny (MD w) A (eval e2 env) (fun v2 s2 => ∃ p q, v1 = .ref p ∧ v2 = .ref q ∧ Go s s2 ∧ Ent w W (vw ms s2.heap) p u ∧ Ent w W (vw ms s2.heap) q v ∧
      ∀ t s', Go s2 s' → Q (.int (cmpV pk u v) t) s') E s1) E s) (pl : Sem Bool)
    (he : eval (.Call (.Attribute o "compare" ap) [e1, e2] [] cp) env = (do
      let ov ← eval o env
      standAt ap.atName
      let (f, first) ← holding [ov] (getMethod ov "compare" pl)
      callWith cp f first (backTo cp (starEach [e1, e2] env)) []) := by rfl) (he1 : starEach [e1, e2] env = (false, eval e1 env) :: starEach [e2] env := by rfl) (he2 : starEach [e2] env = (false, eval e2 env) :: starEach [] env := by rfl) :
    wpAny (MD w) A (eval (.Call (.Attribute o "compare" ap) [e1, e2] [] cp) env) Q E s := by
  obtain ⟨dx, hs, t, n, l, a, b, c⟩ := id hx
  refine MethodCall_ (pl := pl) ?_ he
  refine ho _ ?_
  refine method_fn (K := KK w) (C := 38) (od := some _) O.top.k ⟨vw_get a, rfl, rfl, vw_get b⟩ (cls38 w).1 (cls38 w).2.1 (cls38 w).2.2.2.2.1 (cls38 w).2.2.2.2.2 rfl ?_
  refine callWith_K (K := KK w) O.top.k (by kernel_rfl) ?_ he1 (by rw [he2]; rfl)
  rw [he1]
  refine Calls.spliced_cons ?_
  refine wpAny_mono h (fun v1 s1 h1 => ?_) fun _ _ e => e
  show wpAny _ _ (spliced (backTo cp (starEach [e2] env))) _ _ _
  rw [he2]
  refine Calls.spliced_cons ?_
  refine wpAny_mono h1 (fun v2 s2 h2 => ?_) fun _ _ e => e
  obtain ⟨p, q, rfl, rfl, G2, ep, eq, k⟩ := h2
  refine Calls.spliced_nil ?_
  refine ⟨(O.top.go G2).k, ?_⟩
  exact compare_spec (O.go G2) hA (hx.mono (vw_go G2)) hpk ep eq k
set_option maxHeartbeats 1000000
theorem greatest_spec {l x : Addr} {u0 : Vec} {us : List Vec} {W : Bool} {pk : List (Int × Int)} (O : Ok w mg mb ms s) (hA : Fit A 20 60) (hl : EntL w W (vw ms s.heap) l (u0 :: us)) (hx : Cm (vw ms s.heap) x pk) (hpk : ∀ cd ∈ pk, 0 ≤ cd.1 ∧ cd.1 ≤ 2)
    (k : ∀ r s', Go s s' → Ent w W (vw ms s'.heap) r (great pk u0 (u0 :: us)) → Q (.ref r) s') : wpAny (MD w) A (call (.ref 101) [.ref l, .ref x]) Q E s := by
  obtain ⟨vs, l1, l2⟩ := hl
  refine call_fn O hA.room rfl rfl rfl rfl (bd_greatest _ _ _) rfl rfl ?_
  intro L s1 hL G hns hc hpw
  have hB : Fit (A.deeper (callEnvC (fdOf w 101) L 101)) 10 20 := Fit.deeper (hA.le (d' := 11) (u' := 23))
  have L51 := O.top.ne51 hL
  refine wpAny_execs_cons ?_
  refine wpAny_Assign_Name ?_
  refine PyProof.Rows.Subscript_ ?_
  refine nL hns rfl ?_
  refine wpAny_Constant_int ?_
  obtain ⟨_, h0, a0, rfl, e0⟩ := l2.get (i := 0) (b := u0) rfl
  refine item_listL (l1.mono (vw_go G)).list (by decide) (by decide) (x := .ref a0) h0 ?_
  refine sL O G hL hns ?_
  intro s2 G2 hns2 hs2
  try dsimp only
  refine wpAny_execs_cons ?_
  refine wpAny_For ?_
  refine nL hns2 rfl ?_
  refine iterL (l1.mono (vw_go G2)).list ?_
  intro I s3 hI hit3 k3
  have NI := O.new G2 hI
  have hIL : I ≠ L := by obtain ⟨o, _, _, e, _⟩ := hns2; exact Ne.symm (ne_of_get e hI)
  have hns3 := hns2.keeps k3.1
  have G3 := G2.trans k3.go
  have I51 := NI.2.1
  refine absR fun R' hR' => ?_
  obtain ⟨i, m, t, a, hi, hns, hm1, hm2, hit, ea, hg, G⟩ : ∃ (i : Nat) (m : Str → Option Value) (t : Vec) (a : Addr), i ≤ (u0 :: us).length ∧ s3.heap.Ns L m ∧ m "comp" = some (.ref x) ∧ m "top" = some (.ref a) ∧ s3.heap.IsListIter I l i ∧ Ent w W (vw ms s.heap) a t ∧
      great pk u0 (u0 :: us) = great pk t ((u0 :: us).drop i) ∧ Go s s3 :=
    ⟨0, _, u0, a0, Nat.zero_le _, hns3, rfl, rfl, hit3, e0, rfl, G3⟩
  clear hns3 hns2 hit3 k3 hI G3 hs2 G2 h0 e0 
  rename_i hnsX GX
  clear hnsX GX
  induction hn : (u0 :: us).length - i generalizing i s3 m t a with
  | zero =>
    have hie : i = (u0 :: us).length := (by first | exact ind0 (by assumption) (by assumption) | exact ind1 (by assumption) | omega)
    refine for1 ?_
    refine nextL0 hA.h hit (l1.mono (vw_go G)).list (by rw [hie, ← l2.length]; simp) ?_
    intro s6 k6
    try dsimp only
    refine wpAny_execs_nil ?_
    refine hR' _ _ ?_
    try dsimp only
    refine wpAny_execs_cons ?_
    refine wpAny_Return_some ?_
    refine nL (ns_ke hns k6 (Ne.symm hIL)) hm2 ?_
    have G6 := Go.ke G O.top NI.1 k6
    refine k a s6 G6 ?_
    rw [hg, hie, List.drop_length]
    exact ea.mono (vw_go G6)
  | succ n ih =>
    have hlt : i < (u0 :: us).length := (by first | exact ind0 (by assumption) (by assumption) | exact ind1 (by assumption) | omega)
    obtain ⟨u, hu⟩ : ∃ u, (u0 :: us)[i]? = some u := ⟨(u0 :: us)[i], by simp [hlt]⟩
    obtain ⟨_, hvi, b, rfl, eb⟩ := l2.get hu
    refine for1 ?_
    refine nextL hit (l1.mono (vw_go G)).list hvi ?_
    intro s6 hit6 k6
    try dsimp only
    have hns6 := ns_ke hns k6.ke (Ne.symm hIL)
    have G6 := Go.ke G O.top NI.1 k6.ke
    refine wpAny_pure ?_
    refine wpAny_assign_Name ?_
    refine sL O G6 hL hns6 ?_
    intro s7 G7 hns7 hs7
    have hit7 := hit6.extBut hs7.extBut hIL
    have hdi : (u0 :: us).drop i = u :: (u0 :: us).drop (i + 1) := by
      rw [List.drop_eq_getElem_cons hlt]
      rw [List.getElem?_eq_getElem hlt] at hu
      rw [Option.some.inj hu]
    rw [hdi] at hg
    replace hg : great pk u0 (u0 :: us) = great pk (if cmpV pk u t = 1 then u else t) ((u0 :: us).drop (i + 1)) := hg
    refine wpAny_execs_cons ?_
    refine wpAny_If ?_
    refine wpAny_isTrue_Compare1 ?_
    have O7 : Ok w mg mb (I :: L :: ms) s7 := O.more (xs := [I, L]) G7 (by
      intro x hx
      simp only [List.mem_cons, List.not_mem_nil, or_false] at hx
      rcases hx with rfl | rfl
      · obtain ⟨o, e, _⟩ := hit7; exact ⟨NI.1, o, e⟩
      · obtain ⟨o, _, _, e, _⟩ := hns7; exact ⟨hL, o, e⟩)
    have le7 : Le (vw ms s.heap) (vw (I :: L :: ms) s7.heap) := vw_more [I, L] G7 (by first | exact nin1 (⟨NI.1, hL⟩) | exact ninp (⟨NI.1, hL⟩) | exact nin3 (⟨NI.1, hL⟩) | exact zall1 (⟨NI.1, hL⟩) | exact zall2 (⟨NI.1, hL⟩) | exact zall3 (⟨NI.1, hL⟩) | exact zall4 (⟨NI.1, hL⟩) | (simp; exact ⟨NI.1, hL⟩))
    refine cmpCall (x := x) (W := W) (u := u) (v := t) O7 hB (fun Q' hQ' => nL hns7 hm1 hQ') (hx.mono le7) hpk ?_ (pl := _)
    refine nL hns7 rfl ?_
    refine nL hns7 hm2 ?_
    refine ⟨b, a, rfl, rfl, Go.refl _, eb.mono le7, ea.mono le7, fun tk s8 G8 => ?_⟩
    have hns8 : s8.heap.Ns L _ := hns7.at' fun o e => G8.keep _ _ L51 e
    have hit8 : s8.heap.IsListIter I l (i + 1) := hit7.at fun o e => G8.keep _ _ I51 e
    have G8' := G7.trans G8
    refine wpAny_Constant_int ?_
    refine eq_int ?_
    refine wpAny_truthy_bool ?_
    by_cases hc1 : cmpV pk u t = 1
    · rw [hc1] at hg ⊢
      rw [if_pos rfl] at hg
      rw [if_pos (by decide)]
      refine wpAny_execs_cons ?_
      refine wpAny_Assign_Name ?_
      refine nL hns8 rfl ?_
      refine sL O G8' hL hns8 ?_
      intro s9 G9 hns9 hs9
      try dsimp only
      refine wpAny_execs_nil ?_
      try dsimp only
      refine wpAny_execs_nil ?_
      try dsimp only
      exact ih s9 (i + 1) _ u b hlt hns9 hm1 rfl (hit8.extBut hs9.extBut hIL) eb hg G9 (by first | assumption | exact ind2 (by assumption) | exact ind1 (by assumption) | exact Nat.le_trans (by assumption) (by decide) | exact Nat.le_of_lt (by assumption) | exact Nat.lt_of_le_of_lt (Nat.le_add_right _ _) (by assumption) | omega)
    · rw [if_neg hc1] at hg
      rw [if_neg (by simpa using hc1)]
      refine wpAny_execs_nil ?_
      try dsimp only
      refine wpAny_execs_nil ?_
      try dsimp only
      exact ih _ (i + 1) _ t a hlt hns8 hm1 hm2 hit8 ea hg G8' (by first | assumption | exact ind2 (by assumption) | exact ind1 (by assumption) | exact Nat.le_trans (by assumption) (by decide) | exact Nat.le_of_lt (by assumption) | exact Nat.lt_of_le_of_lt (Nat.le_add_right _ _) (by assumption) | omega)
end
end Mine
end TextD2
section TextR1
namespace Mine
open PySem PySem.W PySem.Calls PyProof.Rows PySem.Spec
def getAt (f : List Int) (c : Int) : Option Int := if 0 ≤ c then f[c.toNat]? else none
def ringGo (f : List Int) (k : Int) : Nat → List Int → Option (List Int)
  | 0, _ => none
  | n + 1, ring => match ring.getLast? with
    | none => none
    | some c => match getAt f c with
      | none => none
      | some d => if d = k then some ring else ringGo f k n (ring ++ [d])
def ringsGo (f : List Int) : List Int → List (List Int) → Option (List (List Int))
  | [], rs => some rs
  | k :: ks, rs => if rs.any (fun one => one.any (· == k)) then ringsGo f ks rs else match ringGo f k 10 [k] with
    | none => none
    | some r => ringsGo f ks (rs ++ [r])
def rings (f : List Int) : Option (List (List Int)) := ringsGo f (rangeL 0 1 f.length) []
/-- a list of lists of ints -/
def IntLL (g : View) (l : Addr) (xss : List (List Int)) : Prop := ∃ vs, Sq "list" g l vs ∧ All2 (fun v xs => ∃ a, v = .ref a ∧ SqI "list" g a xs) vs xss
theorem IntLL.mono {g g' : View} {l : Addr} {us : List (List Int)} (x : IntLL g l us) (k : Le g g') : IntLL g' l us :=
  let ⟨vs, a, b⟩ := x; ⟨vs, a.mono k, b.imp fun _ _ ⟨a, e, q⟩ => ⟨a, e, q.mono k⟩⟩
theorem bd_rings (w : World) (a : Value) : bindArgs (fdOf w 106) ⟨[a], []⟩ = pure [(Str.ofString "order", a)] := by kernel_rfl
section
variable {w : World} {mg mb : Str → Option Value} {A : Around} {s : Shared} {ms : List Addr} {E : Value → Shared → Prop}
theorem nextR {it : Addr} {x left step : Int} {Q : Option Value → Shared → Prop} (hit : IsRangeIter s.heap it x left step) (hl : 0 < left)
    (h : ∀ t s', IsRangeIter s'.heap it (x + step) (left - 1) step → Ch it s s' → Q (some (.int x t)) s') : wpAny (MD w) A (pyNext (.ref it)) Q E s :=
  wpAny_pyNext_range_item hit hl fun h' a b => h _ { s with heap := h', toks := _ } a ⟨b, rfl, rfl⟩
theorem nextR0 {it : Addr} {x left step : Int} {Q : Option Value → Shared → Prop} (hh : A.handled = none) (hit : IsRangeIter s.heap it x left step) (hl : left ≤ 0)
    (h : ∀ s', Ke it s s' → Q none s') : wpAny (MD w) A (pyNext (.ref it)) Q E s :=
  wpAny_pyNext_range_end hh hit hl fun h' b => h { s with heap := h' } ⟨b, rfl, rfl⟩
end
end Mine
end TextR1
section TextR2
namespace Mine
open PySem PySem.W PySem.Calls PyProof.Rows PySem.Spec
noncomputable def rgWhile (w : World) : Expr × List Stmt := match (fdOf w 106).body with
  | .stmts [_, .For _ _ [.If _ [_, .While t b _ _, _] _ _] _ _, _] => (t, b)
  | _ => (.Constant .none 0 ⟨0, 0, 0, 0⟩, [])
theorem cell_at {h h' : Heap} {c : Addr} {v : Option Value} (x : h.IsCell c v) (k : ∀ o, h.get? c = some o → h'.get? c = some o) : h'.IsCell c v := let ⟨o, e, d⟩ := x; ⟨o, k o e, d⟩
theorem ints_last {vs : List Value} {xs : List Int} {c : Int} (h : IntsAre vs xs) (e : xs.getLast? = some c) : ∃ t, vs[vs.length - 1]? = some (.int c t) ∧ 0 < vs.length := by
  rw [List.getLast?_eq_getElem?] at e
  rw [h.length]
  obtain ⟨t, q⟩ := h.get _ _ e
  refine ⟨t, q, ?_⟩
  rcases xs with _ | ⟨a, r⟩
  · cases e
  · simp
section
variable {w : World} {mg mb : Str → Option Value} {A : Around} {s s₀ : Shared} {ms : List Addr} {R : Result → Shared → Prop}
set_option maxHeartbeats 1000000
theorem rg_while {L N c l : Addr} {m : Str → Option Value} {f out : List Int} {k : Int} {t : Tok} (O : Ok w mg mb ms s₀) (hl : SqI "list" (vw ms s₀.heap) l f) (hN : s₀.heap.get? N = none) (hNL : N ≠ L) (hNc : N ≠ c) (L51 : L ≠ 51) (c51 : c ≠ 51)
    (hc : (callEnvC (fdOf w 106) L 106).cells.lookup (Str.ofString "k") = some c) (m1 : m "order" = some (.ref l)) (m2 : m "ring" = some (.ref N)) (hf : f.length ≤ 1000) :
    ∀ (fuel : Nat) (ring : List Int) (ys : List Value) (kk : Nat) (s : Shared), ringGo f k fuel ring = some out → ring.length + fuel ≤ 1000 → Go s₀ s → s.heap.Ns L m → s.heap.IsCell c (some (.int k t)) → s.heap.get? N = some (lstO ys kk) → IntsAre ys ring →
      (∀ s' ys' kk', Go s₀ s' → Kb [N] s s' → s'.heap.get? N = some (lstO ys' kk') → IntsAre ys' out → R (.ok .next) s') →
      codeAny (MD w) A (.whileLoop (rgWhile w).1 (rgWhile w).2 [] (callEnvC (fdOf w 106) L 106)) R s := by
  intro fuel
  induction fuel with
  | zero => intro ring ys kk s h; cases h
  | succ n ih =>
    intro ring ys kk s hgo hlen G hns hcell hNy hI kf
    rw [ringGo] at hgo
    cases hla : ring.getLast? with
    | none => rw [hla] at hgo; cases hgo
    | some c0 =>
      rw [hla] at hgo
      dsimp only at hgo
      cases hat : getAt f c0 with
      | none => rw [hat] at hgo; cases hgo
      | some d =>
        rw [hat] at hgo
        dsimp only at hgo
        obtain ⟨vs, l1, l2⟩ := hl
        have hc0 : 0 ≤ c0 := by
          unfold getAt at hat; split at hat
          · assumption
          · cases hat
        have hfd : f[c0.toNat]? = some d := by rw [getAt, if_pos hc0] at hat; exact hat
        have hclt : c0.toNat < f.length := by
          rcases Nat.lt_or_ge c0.toNat f.length with h | h
          · exact h
          · rw [List.getElem?_eq_none h] at hfd; cases hfd
        obtain ⟨td, hvd⟩ := l2.get _ _ hfd
        obtain ⟨tc, hyc, hy0⟩ := ints_last hI hla
        have getLast : ∀ (Q : Value → Shared → Prop) (E : Value → Shared → Prop) (s : Shared) (value : Expr) (slice : Expr) (tt : Tok), s.heap.get? N = some (lstO ys kk) → Q (.int c0 tc) s → wpAny (MD w) A (getItem (.ref N) (.int (-1) tt)) Q E s := by
          intro Q E s value slice tt hN hq
          refine wpAny_getItem_list_neg (items := ys.toArray) (x := .int c0 tc) ⟨_, hN, rfl, _, rfl⟩ (by decide) (by rw [List.size_toArray]; omega) (by decide) ?_ hq
          have : (-1 + (ys.toArray.size : Int)).toNat = ys.length - 1 := by rw [List.size_toArray]; omega
          rw [this]; simpa using hyc
        refine while1 ?_
        refine wpAny_isTrue_Compare1 ?_
        refine PyProof.Rows.Subscript_ ?_
        refine nL hns m1 ?_
        refine PyProof.Rows.Subscript_ ?_
        refine nL hns m2 ?_
        refine wpAny_UnaryOp ?_
        refine wpAny_Constant_int ?_
        refine neg_int ?_
        refine subscriptTail_builtin (T := "list") ⟨_, hNy, rfl⟩ slot_list_getitem.lookup ?_
        refine getLast _ _ _ (.Constant .none 0 ⟨0, 0, 0, 0⟩) (.Constant .none 0 ⟨0, 0, 0, 0⟩) _ hNy ?_
        refine item_listL (l1.mono (vw_go G)).list hc0 (by first | assumption | exact ind2 (by assumption) | exact ind1 (by assumption) | exact Nat.le_trans (by assumption) (by decide) | exact Nat.le_of_lt (by assumption) | exact Nat.lt_of_le_of_lt (Nat.le_add_right _ _) (by assumption) | omega) (x := .int d td) hvd ?_
        refine nC hc hcell ?_
        refine ne_int ?_
        refine wpAny_truthy_bool ?_
        by_cases hdk : d = k
        · rw [if_pos hdk] at hgo
          cases hgo
          rw [if_neg (by simp [hdk])]
          refine wpAny_execs_nil ?_
          exact kf _ ys kk G (fun b o _ _ e => e) hNy hI
        · rw [if_neg hdk] at hgo
          rw [if_pos (by simp [hdk])]
          refine wpAny_execs_cons ?_
          refine apnd (D := N) hns m2 hNy (by have := hI.length; omega) ?_ (pl := _)
          refine PyProof.Rows.Subscript_ ?_
          refine nL hns m1 ?_
          refine PyProof.Rows.Subscript_ ?_
          refine nL hns m2 ?_
          refine wpAny_UnaryOp ?_
          refine wpAny_Constant_int ?_
          refine neg_int ?_
          refine subscriptTail_builtin (T := "list") ⟨_, hNy, rfl⟩ slot_list_getitem.lookup ?_
          refine getLast _ _ _ (.Constant .none 0 ⟨0, 0, 0, 0⟩) (.Constant .none 0 ⟨0, 0, 0, 0⟩) _ hNy ?_
          refine item_listL (l1.mono (vw_go G)).list hc0 (by first | assumption | exact ind2 (by assumption) | exact ind1 (by assumption) | exact Nat.le_trans (by assumption) (by decide) | exact Nat.le_of_lt (by assumption) | exact Nat.lt_of_le_of_lt (Nat.le_add_right _ _) (by assumption) | omega) (x := .int d td) hvd ?_
          refine ⟨hNy, fun s' ch hN' => ?_⟩
          have G' : Go s₀ s' := Go.ke (s := { s with toks := _ }) G O.top hN ch.ke
          refine wpAny_execs_nil ?_
          try dsimp only
          have k1 : Kb [N] s s' := Kb.ke (s := { s with toks := _ }) ch.ke (by first | exact zm0 | exact zm1 | exact zm2 | exact zm3 | exact zm4 | exact zm5 | exact zm6 | exact zm7 | exact zs0 | exact zs1 | exact zs2 | exact zs3 | exact zn0 | exact zn1 (by decide) | simp)
          refine ih (ring ++ [d]) (ys ++ [.int d td]) (kk + 1) s' hgo (by rw [List.length_append, List.length_singleton]; omega) G' (k1.ns hns L51 (by first | exact nin1 (Ne.symm hNL) | exact ninp (Ne.symm hNL) | exact nin3 (Ne.symm hNL) | exact zall1 (Ne.symm hNL) | exact zall2 (Ne.symm hNL) | exact zall3 (Ne.symm hNL) | exact zall4 (Ne.symm hNL) | (simp; exact Ne.symm hNL))) (cell_at hcell fun o e => k1 c o c51 (by first | exact nin1 (Ne.symm hNc) | exact ninp (Ne.symm hNc) | exact nin3 (Ne.symm hNc) | exact zall1 (Ne.symm hNc) | exact zall2 (Ne.symm hNc) | exact zall3 (Ne.symm hNc) | exact zall4 (Ne.symm hNc) | (simp; exact Ne.symm hNc)) e) hN' ?_ ?_
          · exact hI.append (.cons d td .nil)
          · intro s'' ys' kk' G'' k'' hN'' hI''
            exact kf s'' ys' kk' G'' (k1.trans k'') hN'' hI''
end
end Mine
end TextR2
section TextR3
namespace Mine
open PySem PySem.W PySem.Calls PyProof.Rows PySem.Spec
section
variable {w : World} {mg mb : Str → Option Value} {A : Around} {s : Shared} {ms : List Addr} {Q E : Value → Shared → Prop}
theorem rsz (n : Nat) (h : n ≤ 1000) : Builtin.Range.rangeSize 0 (n : Int) 1 = ((n : Nat) : Int) ∧ Builtin.Range.small 0 (n : Int) 1 = true := by
  refine ⟨?_, small_one (by decide) (by decide) (by first | assumption | exact ind2 (by assumption) | exact ind1 (by assumption) | exact Nat.le_trans (by assumption) (by decide) | exact Nat.le_of_lt (by assumption) | exact Nat.lt_of_le_of_lt (Nat.le_add_right _ _) (by assumption) | omega) (by first | assumption | exact ind2 (by assumption) | exact ind1 (by assumption) | exact Nat.le_trans (by assumption) (by decide) | exact Nat.le_of_lt (by assumption) | exact Nat.lt_of_le_of_lt (Nat.le_add_right _ _) (by assumption) | omega)⟩
  rw [rangeSize_one]; split <;> omega
theorem rangeL_cons (a : Int) (n : Nat) : rangeL a 1 (n + 1) = a :: rangeL (a + 1) 1 n := by
  unfold rangeL
  rw [List.range_succ_eq_map, List.map_cons, List.map_map]
  congr 1
  · simp
  · apply List.map_congr_left
    intro i _
    simp only [Function.comp]
    push_cast
    omega
theorem iterR {r : Addr} {a b c : Int} {t u v : Tok} {n : Nat} {Q : Value → Shared → Prop} (hr : IsRange s.heap r a b c t u v) (hsm : Builtin.Range.small a b c = true) (hn : Builtin.Range.rangeSize a b c = ((n : Nat) : Int))
    (h : ∀ I s', s.heap.get? I = none → IsRangeIter s'.heap I a n c → Kp s s' → Q (.ref I) s') : wpAny (MD w) A (pyIter (.ref r)) Q E s :=
  wpAny_pyIter_range hr hsm (h _ _ (get_size _) (by rw [hn]; exact Heap.get?_push_size _ rfl) ⟨fun _ _ e => Heap.get?_push_of_some _ e, rfl, rfl⟩)
theorem filter_nil_any {α : Type} {p : α → Bool} {xs : List α} : (xs.filter p).length = 0 ↔ xs.any p = false := by
  rw [List.length_eq_zero_iff, List.filter_eq_nil_iff, List.any_eq_false]
set_option maxHeartbeats 2000000
theorem rings_spec {l : Addr} {f : List Int} {rs : List (List Int)} (O : Ok w mg mb ms s) (hA : Fit A 20 60) (hl : SqI "list" (vw ms s.heap) l f) (hf : f.length ≤ 900) (hr : rings f = some rs)
    (k : ∀ r s', Go s s' → s.heap.get? r = none → IntLL (vw ms s'.heap) r rs → Q (.ref r) s') : wpAny (MD w) A (call (.ref 106) [.ref l]) Q E s := by
  obtain ⟨vs, l1, l2⟩ := id hl
  refine call_fn O hA.room rfl rfl rfl rfl (bd_rings _ _) rfl rfl ?_
  intro L s1 hL G hns hc hpw
  obtain ⟨cN, cL, hcell⟩ := hc (Str.ofString "k") (L + 1) rfl
  have hB : Fit (A.deeper (callEnvC (fdOf w 106) L 106)) 10 20 := Fit.deeper (hA.le (d' := 11) (u' := 23))
  have L51 := O.top.ne51 hL
  have c51 := O.top.ne51 cN
  refine wpAny_execs_cons ?_
  refine wpAny_Assign_Name ?_
  refine PyProof.Rows.List_ ?_
  refine args_nil ?_
  refine mkL (small_list (Nat.le_of_ble_eq_true rfl)) fun D s2 hD hDo k2 => ?_
  have ND := O.new G hD
  have hDL : D ≠ L := by obtain ⟨o, _, _, e, _⟩ := hns; exact Ne.symm (ne_of_get e hD)
  have hDc : D ≠ L + 1 := by obtain ⟨o, e, _⟩ := hcell; exact Ne.symm (ne_of_get e hD)
  refine sL O (G.trans k2.go) hL (hns.keeps k2.1) ?_
  intro s3 G3 hns3 hs3
  have hD3 := hs3.extBut _ _ hDL hDo
  have hcell3 := cell_at (h' := s3.heap) hcell fun o e => hs3.extBut _ o cL (k2.1 _ o e)
  try dsimp only
  refine wpAny_execs_cons ?_
  refine wpAny_For ?_
  refine PyProof.Rows.Call_ ?_
  refine nB (O.top.go G3) (g_range w) ?_
  refine PyProof.Rows.callWith_type1 ?_
  refine args_cons ?_
  refine PyProof.Rows.Call_ ?_
  refine nB (O.top.go G3) (g_len w) ?_
  refine PyProof.Rows.callWith_builtin1 ?_
  refine args_cons ?_
  refine nL hns3 rfl ?_
  refine args_nil ?_
  refine len_list (l1.mono (vw_go G3)).list (by rw [List.size_toArray, l2.length]; omega) ?_
  refine args_nil ?_
  refine rng1 ?_
  intro rr t1 t2 t3 s4 hrr hr4 k4
  obtain ⟨z1, z2⟩ := rsz f.length (by first | assumption | exact ind2 (by assumption) | exact ind1 (by assumption) | exact Nat.le_trans (by assumption) (by decide) | exact Nat.le_of_lt (by assumption) | exact Nat.lt_of_le_of_lt (Nat.le_add_right _ _) (by assumption) | omega)
  have hsz : (vs.toArray.size : Int) = (f.length : Int) := by rw [List.size_toArray, l2.length]
  rw [hsz] at hr4
  refine iterR hr4 z2 z1 ?_
  intro I s5 hI hit5 k5
  have G4 : Go s s4 := Go.trans (s' := { s3 with toks := _ }) G3 k4.go
  have G5 := G4.trans k5.go
  have NI := O.new G4 hI
  have k45 : ∀ b o, s3.heap.get? b = some o → s5.heap.get? b = some o := fun b o e => k5.1 b o (k4.1 b o e)
  have hIL : I ≠ L := by obtain ⟨o, _, _, e, _⟩ := hns3; exact Ne.symm (ne_of_get (k4.1 _ _ e) hI)
  have hID : I ≠ D := Ne.symm (ne_of_get (k4.1 _ _ hD3) hI)
  have hIc : I ≠ L + 1 := by obtain ⟨o, e, _⟩ := hcell3; exact Ne.symm (ne_of_get (k4.1 _ _ e) hI)
  have hns5 := hns3.keeps k45
  have hcell5 := cell_at (h' := s5.heap) hcell3 fun o e => k45 _ o e
  refine absR fun R' hR' => ?_
  obtain ⟨n, x, m, ys, kk, cur, ov, hgo, G, hns, m1, m2, hit, hce, hDy, hya, hle⟩ : ∃ (n : Nat) (x : Int) (m : Str → Option Value) (ys : List Value) (kk : Nat) (cur : List (List Int)) (ov : Option Value), ringsGo f (rangeL x 1 n) cur = some rs ∧ Go s s5 ∧ s5.heap.Ns L m ∧ m "order" = some (.ref l) ∧
      m "rings" = some (.ref D) ∧ IsRangeIter s5.heap I x n 1 ∧ s5.heap.IsCell (L + 1) ov ∧ s5.heap.get? D = some (lstO ys kk) ∧ All2 (fun v xs => ∃ a, v = .ref a ∧ SqI "list" (vw (I :: D :: L :: (L + 1) :: ms) s5.heap) a xs) ys cur ∧ cur.length + n ≤ 900 :=
    ⟨f.length, 0, _, [], 0, [], _, hr, G5, hns5, rfl, rfl, hit5, hcell5, k45 _ _ hD3, .nil, by simpa using hf⟩
  clear hns5 hit5 hcell5 k45 hI k5 k4 G4 G5 hr4 z1 z2 hsz hrr hcell3 hns3 hs3 hD3 G3 k2 hDo hD hc hcell hr
  rename_i hnsX GX
  clear hnsX
  induction n generalizing s5 x m ys kk cur ov with
  | zero =>
    refine for1 ?_
    refine nextR0 hA.h hit (by first | assumption | exact ind2 (by assumption) | exact ind1 (by assumption) | exact Nat.le_trans (by assumption) (by decide) | exact Nat.le_of_lt (by assumption) | exact Nat.lt_of_le_of_lt (Nat.le_add_right _ _) (by assumption) | omega) ?_
    intro s6 k6
    try dsimp only
    refine wpAny_execs_nil ?_
    refine hR' _ _ ?_
    try dsimp only
    refine wpAny_execs_cons ?_
    refine wpAny_Return_some ?_
    refine nL (ns_ke hns k6 (Ne.symm hIL)) m2 ?_
    have hcr : cur = rs := by simpa [rangeL, ringsGo] using hgo
    subst hcr
    refine k D s6 (Go.ke G O.top NI.1 k6) ND.1 ⟨ys, Sq.ofL (k6.1 _ _ (Ne.symm hID) hDy) ND.2.1 ND.2.2, ?_⟩
    have le : Le (vw (I :: D :: L :: (L + 1) :: ms) s5.heap) (vw ms s6.heap) := (vw_kb (Kb.ke k6 (xs := [I]) (by first | exact zm0 | exact zm1 | exact zm2 | exact zm3 | exact zm4 | exact zm5 | exact zm6 | exact zm7 | exact zs0 | exact zs1 | exact zs2 | exact zs3 | exact zn0 | exact zn1 (by decide) | simp)) (by first | exact zm0 | exact zm1 | exact zm2 | exact zm3 | exact zm4 | exact zm5 | exact zm6 | exact zm7 | exact zs0 | exact zs1 | exact zs2 | exact zs3 | exact zn0 | exact zn1 (by decide) | simp)).trans (vw_less [I, D, L, L + 1])
    exact hya.imp fun v u ⟨a, e, x⟩ => ⟨a, e, x.mono le⟩
  | succ n ih =>
    rw [rangeL_cons, ringsGo] at hgo
    refine for1 ?_
    refine nextR hit (by push_cast; omega) ?_
    intro tx s6 hit6 k6
    try dsimp only
    have hns6 := ns_ke hns k6.ke (Ne.symm hIL)
    have G6 := Go.ke G O.top NI.1 k6.ke
    have hD6 := k6.ke.1 _ _ (Ne.symm hID) hDy
    have hc6 := cell_at (h' := s6.heap) hce fun o e => k6.ke.1 _ o (Ne.symm hIc) e
    refine wpAny_pure ?_
    refine wpAny_assign_Name ?_
    refine sC (c := L + 1) O G6 rfl cN hc6 ?_
    intro s7 G7 hc7 hs7
    have hns7 : s7.heap.Ns L m := hns6.at' fun o e => hs7.extBut _ o (Ne.symm cL) e
    have hD7 := hs7.extBut _ _ hDc hD6
    have hit7 := hs7.extBut _ _ hIc hit6
    have le7 : Le (vw (I :: D :: L :: (L + 1) :: ms) s5.heap) (vw (I :: D :: L :: (L + 1) :: ms) s7.heap) := (vw_kb (Kb.ke k6.ke (xs := [I]) (by first | exact zm0 | exact zm1 | exact zm2 | exact zm3 | exact zm4 | exact zm5 | exact zm6 | exact zm7 | exact zs0 | exact zs1 | exact zs2 | exact zs3 | exact zn0 | exact zn1 (by decide) | simp)) (by first | exact zm0 | exact zm1 | exact zm2 | exact zm3 | exact zm4 | exact zm5 | exact zm6 | exact zm7 | exact zs0 | exact zs1 | exact zs2 | exact zs3 | exact zn0 | exact zn1 (by decide) | simp)).trans (vw_same hs7 (show L + 1 ∈ _ by simp))
    have O7 : Ok w mg mb (I :: D :: L :: (L + 1) :: ms) s7 := O.more (xs := [I, D, L, L + 1]) G7 (by
      intro x hx
      simp only [List.mem_cons, List.not_mem_nil, or_false] at hx
      rcases hx with rfl | rfl | rfl | rfl
      · exact ⟨NI.1, _, hit7⟩
      · exact ⟨ND.1, _, hD7⟩
      · obtain ⟨o, _, _, e, _⟩ := hns7; exact ⟨hL, o, e⟩
      · obtain ⟨o, e, _⟩ := hc7; exact ⟨cN, o, e⟩)
    have hya7 := hya.imp fun v u (h : ∃ a, v = .ref a ∧ SqI "list" (vw (I :: D :: L :: (L + 1) :: ms) s5.heap) a u) => (let ⟨a, e, x⟩ := h; ⟨a, e, x.mono le7⟩ : ∃ a, v = .ref a ∧ SqI "list" (vw (I :: D :: L :: (L + 1) :: ms) s7.heap) a u)
    refine wpAny_execs_cons ?_
    refine wpAny_If ?_
    refine wpAny_isTrue_Compare1 ?_
    refine lcV (mg := mg) (mb := mb) (ms := I :: D :: L :: (L + 1) :: ms) (ds := cur) (p := fun xs => xs.any (· == x)) (R := fun _ _ _ => True) (T := "list_iterator") (fun _ _ _ _ _ _ => trivial) (by first | assumption | exact ind2 (by assumption) | exact ind1 (by assumption) | exact Nat.le_trans (by assumption) (by decide) | exact Nat.le_of_lt (by assumption) | exact Nat.lt_of_le_of_lt (Nat.le_add_right _ _) (by assumption) | omega) rfl (by decide) rfl (by decide) (by intro x; rfl) ?_
    refine nL hns7 m2 ?_
    refine ⟨⟨fun xs v => ∃ a, v = .ref a ∧ SqI "list" (vw (I :: D :: L :: (L + 1) :: ms) s7.heap) a xs, _, O7, srcL hA.h O7 (Go.refl _) ⟨_, hD7, rfl, _, rfl⟩ ND.2.1 hya7, tgtN O7 rfl rfl, ?_⟩, ?_⟩
    · intro C D' I' d mc s8 hd hnc hM G8 hC hD' hI' O8
      obtain ⟨v, hv, a, rfl, vs', q1, q2⟩ := hM
      refine wpAny_tests_one ?_
      refine wpAny_isTrue_Compare1 ?_
      refine nC (c := L + 1) rfl (cell_at hc7 fun o e => G8.keep _ o c51 e) ?_
      refine nL hnc hv ?_
      refine in_list_ints (q1.mono (vw_go G8)).list q2 ?_
      refine wpAny_truthy_bool ?_
      refine ⟨rfl, Go.refl _, fun _ => ?_⟩
      refine nL hnc hv ?_
      exact ⟨Go.refl _, trivial⟩
    intro D' ys' k' s8 G8 hD' hl8 ha8
    have hlen8 := ha8.length
    have ND' := O7.fresh hD'
    refine PyProof.Rows.List_ ?_
    refine args_nil ?_
    refine mkL (small_list (Nat.le_of_ble_eq_true rfl)) fun Z s9 hZ hZo k9 => ?_
    have G9 : Go s7 s9 := G8.trans k9.go
    have hl9 := k9.1 _ _ hl8
    have hns9 : s9.heap.Ns L m := hns7.at' fun o e => G9.keep _ o L51 e
    have hc9 := cell_at (h' := s9.heap) hc7 fun o e => G9.keep _ o c51 e
    have hD9 := G9.keep _ _ ND.2.1 hD7
    have hit9 := G9.keep _ _ NI.2.1 hit7
    have hya9 := hya7.imp fun v u (h : ∃ a, v = .ref a ∧ SqI "list" (vw (I :: D :: L :: (L + 1) :: ms) s7.heap) a u) => (let ⟨a, e, x⟩ := h; ⟨a, e, x.mono (vw_go G9)⟩ : ∃ a, v = .ref a ∧ SqI "list" (vw (I :: D :: L :: (L + 1) :: ms) s9.heap) a u)
    have G9' := G7.trans G9
    have O9 := O7.go G9
    cases hany : cur.any (fun one => one.any (· == x)) with
    | true =>
      rw [hany, if_pos rfl] at hgo
      have hne : ¬ ys'.length = 0 := fun h => by rw [hlen8, filter_nil_any, hany] at h; cases h
      refine SeqAt.eq_list_lengthsAt (items := ys'.toArray) (items2 := #[]) ⟨_, hl9, rfl, _, rfl⟩ ⟨_, hZo, rfl, _, rfl⟩ (by simpa using hne) hB.units ?_
      refine wpAny_truthy_bool ?_
      rw [if_neg Bool.false_ne_true]
      refine wpAny_execs_nil ?_
      try dsimp only
      refine wpAny_execs_nil ?_
      try dsimp only
      refine ih s9 (x + 1) m ys kk cur _ hgo G9' hns9 m1 m2 ?_ hc9 hD9 hya9 (by first | assumption | exact ind2 (by assumption) | exact ind1 (by assumption) | exact Nat.le_trans (by assumption) (by decide) | exact Nat.le_of_lt (by assumption) | exact Nat.lt_of_le_of_lt (Nat.le_add_right _ _) (by assumption) | omega)
      rw [show (((n + 1 : Nat) : Int) - 1) = (n : Int) by push_cast; omega] at hit9
      exact hit9
    | false =>
      rw [hany, if_neg Bool.false_ne_true] at hgo
      cases hrg : ringGo f x 10 [x] with
      | none => rw [hrg] at hgo; cases hgo
      | some ring =>
        rw [hrg] at hgo
        dsimp only at hgo
        have hz : ys'.length = 0 := by rw [hlen8, filter_nil_any, hany]
        refine SeqAt.eq_listAt (items := ys'.toArray) (items2 := #[]) (e := fun _ => true) ⟨_, hl9, rfl, _, rfl⟩ ⟨_, hZo, rfl, _, rfl⟩ (by simpa using hz) hB.units (fun j h1 h2 => absurd h2 (by first | exact zm0 | exact zm1 | exact zm2 | exact zm3 | exact zm4 | exact zm5 | exact zm6 | exact zm7 | exact zs0 | exact zs1 | exact zs2 | exact zs3 | exact zn0 | exact zn1 (by decide) | simp)) ?_
        refine wpAny_truthy_bool ?_
        rw [if_pos (by first | exact zm0 | exact zm1 | exact zm2 | exact zm3 | exact zm4 | exact zm5 | exact zm6 | exact zm7 | exact zs0 | exact zs1 | exact zs2 | exact zs3 | exact zn0 | exact zn1 (by decide) | simp)]
        refine wpAny_execs_cons ?_
        refine wpAny_Assign_Name ?_
        refine PyProof.Rows.List_ ?_
        refine args_cons ?_
        refine nC (c := L + 1) rfl hc9 ?_
        refine args_nil ?_
        refine mkL (small_list (Nat.le_of_ble_eq_true rfl)) fun N s10 hN hNo k10 => ?_
        have NN := O9.fresh hN
        have NN0 := O.new G9' hN
        have hNL : N ≠ L := fun h => NN.2 (by simp [h])
        have hNc : N ≠ L + 1 := fun h => NN.2 (by simp [h])
        have hND : N ≠ D := fun h => NN.2 (by simp [h])
        have hNI : N ≠ I := fun h => NN.2 (by simp [h])
        refine sL O (G9'.trans k10.go) hL (hns9.keeps k10.1) ?_
        intro s11 G11 hns11 hs11
        have hN11 := hs11.extBut _ _ hNL hNo
        have hc11 := cell_at (h' := s11.heap) hc9 fun o e => hs11.extBut _ o cL (k10.1 _ o e)
        have kb11 : Kb [L] s9 s11 := (Kb.of k10).trans (Kb.same hs11 (List.mem_singleton.mpr rfl))
        try dsimp only
        refine wpAny_execs_cons ?_
        refine wpAny_While ?_
        refine rg_while (m := fun y => if y = Str.ofString "ring" then some (.ref N) else m y) (N := N) (c := L + 1) (out := ring) O hl NN0.1 hNL hNc L51 c51 rfl m1 rfl (by first | assumption | exact ind2 (by assumption) | exact ind1 (by assumption) | exact Nat.le_trans (by assumption) (by decide) | exact Nat.le_of_lt (by assumption) | exact Nat.lt_of_le_of_lt (Nat.le_add_right _ _) (by assumption) | omega) 10 [x] _ _ s11 hrg (by first | exact zm0 | exact zm1 | exact zm2 | exact zm3 | exact zm4 | exact zm5 | exact zm6 | exact zm7 | exact zs0 | exact zs1 | exact zs2 | exact zs3 | exact zn0 | exact zn1 (by decide) | simp) G11 hns11 hc11 hN11 (.cons x tx .nil) ?_
        intro s12 ys12 kk12 G12 k12 hN12 hI12
        have kb12 : Kb [L, N] s9 s12 := (kb11.sub (by first | exact zm0 | exact zm1 | exact zm2 | exact zm3 | exact zm4 | exact zm5 | exact zm6 | exact zm7 | exact zs0 | exact zs1 | exact zs2 | exact zs3 | exact zn0 | exact zn1 (by decide) | simp)).trans (k12.sub (by first | exact zm0 | exact zm1 | exact zm2 | exact zm3 | exact zm4 | exact zm5 | exact zm6 | exact zm7 | exact zs0 | exact zs1 | exact zs2 | exact zs3 | exact zn0 | exact zn1 (by decide) | simp))
        have hns12 := k12.ns hns11 L51 (by first | exact nin1 (Ne.symm hNL) | exact ninp (Ne.symm hNL) | exact nin3 (Ne.symm hNL) | exact zall1 (Ne.symm hNL) | exact zall2 (Ne.symm hNL) | exact zall3 (Ne.symm hNL) | exact zall4 (Ne.symm hNL) | (simp; exact Ne.symm hNL))
        have hc12 := cell_at (h' := s12.heap) hc11 fun o e => k12 _ o c51 (by first | exact nin1 (Ne.symm hNc) | exact ninp (Ne.symm hNc) | exact nin3 (Ne.symm hNc) | exact zall1 (Ne.symm hNc) | exact zall2 (Ne.symm hNc) | exact zall3 (Ne.symm hNc) | exact zall4 (Ne.symm hNc) | (simp; exact Ne.symm hNc)) e
        have hD12 := kb12 _ _ ND.2.1 (by first | exact nin1 (⟨hDL, Ne.symm hND⟩) | exact ninp (⟨hDL, Ne.symm hND⟩) | exact nin3 (⟨hDL, Ne.symm hND⟩) | exact zall1 (⟨hDL, Ne.symm hND⟩) | exact zall2 (⟨hDL, Ne.symm hND⟩) | exact zall3 (⟨hDL, Ne.symm hND⟩) | exact zall4 (⟨hDL, Ne.symm hND⟩) | (simp; exact ⟨hDL, Ne.symm hND⟩)) hD9
        have hit12 := kb12 _ _ NI.2.1 (by first | exact nin1 (⟨hIL, Ne.symm hNI⟩) | exact ninp (⟨hIL, Ne.symm hNI⟩) | exact nin3 (⟨hIL, Ne.symm hNI⟩) | exact zall1 (⟨hIL, Ne.symm hNI⟩) | exact zall2 (⟨hIL, Ne.symm hNI⟩) | exact zall3 (⟨hIL, Ne.symm hNI⟩) | exact zall4 (⟨hIL, Ne.symm hNI⟩) | (simp; exact ⟨hIL, Ne.symm hNI⟩)) hit9
        try dsimp only
        refine wpAny_execs_cons ?_
        refine apnd (D := D) hns12 m2 hD12 (by have := hya9.length; omega) ?_ (pl := _)
        refine nL hns12 rfl ?_
        refine ⟨hD12, fun s13 c13 hD13 => ?_⟩
        have G13 := Go.ke G12 O.top ND.1 c13.ke
        have hns13 := ns_ke hns12 c13.ke (Ne.symm hDL)
        have hc13 := cell_at (h' := s13.heap) hc12 fun o e => c13.ke.1 _ o (Ne.symm hDc) e
        have hit13 := c13.ke.1 _ _ hID hit12
        have le13 : Le (vw (I :: D :: L :: (L + 1) :: ms) s9.heap) (vw (I :: D :: L :: (L + 1) :: ms) s13.heap) := fun b o e => by
          obtain ⟨e1, e2, e3⟩ := vw_iff.mp e
          have bN : b ≠ N := ne_of_get e3 hN
          refine vw_iff.mpr ⟨e1, e2, c13.ke.1 b o (fun q => e2 (by simp [q])) (kb12 b o e1 ?_ e3)⟩
          simp only [List.mem_cons, List.not_mem_nil, or_false]
          rintro (rfl | rfl)
          · exact e2 (by first | exact zm0 | exact zm1 | exact zm2 | exact zm3 | exact zm4 | exact zm5 | exact zm6 | exact zm7 | exact zs0 | exact zs1 | exact zs2 | exact zs3 | exact zn0 | exact zn1 (by decide) | simp)
          · exact bN rfl
        refine wpAny_execs_nil ?_
        try dsimp only
        refine wpAny_execs_nil ?_
        try dsimp only
        refine ih s13 (x + 1) _ (ys ++ [.ref N]) (kk + 1) (cur ++ [ring]) _ hgo G13 hns13 m1 m2 ?_ hc13 hD13 ?_ (by rw [List.length_append, List.length_singleton]; omega)
        · rw [show (((n + 1 : Nat) : Int) - 1) = (n : Int) by push_cast; omega] at hit13
          exact hit13
        · refine (hya9.imp fun v u ⟨a, e, x⟩ => ⟨a, e, x.mono le13⟩).snoc ⟨N, rfl, ys12, Sq.ofL (c13.ke.1 _ _ hND hN12) NN.1 NN.2, hI12⟩
end
end Mine
end TextR3
section TextR4
namespace Mine
open PySem PySem.W PySem.Calls PyProof.Rows PySem.Spec
theorem ints_all2 {vs : List Value} {xs : List Int} (h : IntsAre vs xs) : All2 (fun v x => ∃ t, v = .int x t) vs xs := by
  induction h with
  | nil => exact .nil
  | cons n t _ ih => exact .cons ⟨t, rfl⟩ ih
theorem All2.map {α β γ : Type} {R : α → γ → Prop} {f : β → γ} {as : List α} {bs : List β} (h : All2 (fun a b => R a (f b)) as bs) : All2 R as (bs.map f) := by
  induction h with
  | nil => exact .nil
  | cons r _ ih => exact .cons r ih
theorem filter_true {α : Type} (xs : List α) : xs.filter (fun _ => true) = xs := by simp
section
variable {w : World} {mg mb : Str → Option Value} {A : Around} {s : Shared} {ms : List Addr} {E : Value → Shared → Prop} {env : Env}
/-- [nm[k] for k in iter] -/
theorem pickC {β : Type} {Rv : View → Value → β → Prop} {nm : Str} {p1 p2 p3 p4 pos : Pos} {iter : Expr} {scope : Scope} {cl : List (Str × Addr)} {c l : Addr} {vs : List Value} {us : List β} {ks : List Int} {Q : Value → Shared → Prop} (dflt : β)
    (hh : A.handled = none) (O : Ok w mg mb ms s) (hRm : ∀ g g' v u, Le g g' → Rv g v u → Rv g' v u)
    (hclos : closureFor scope env = pure cl) (hcell : ∀ y ∈ scope.names, y.2 ≠ .cell) (hkind : scope.kind = .function) (hnames : ∀ x ∈ scope.names, x.2 = .local → scope.names.lookup x.1 = some .local) (hs : ∀ x, foldedSetIterable iter env x = pure x)
    (hcl : cl.lookup nm = some c) (hk : ∀ C, (compEnvC scope cl C env).kindOf nm = some .cell) (hkx : scope.names.lookup (Str.ofString "k") = some .local) (hdb : (nm == ("__debug__" : Str)) = false)
    (hc : s.heap.IsCell c (some (.ref l))) (c51 : c ≠ 51) (hl : Sq "list" (vw ms s.heap) l vs) (ha : All2 (Rv (vw ms s.heap)) vs us)
    (hks : ∀ k ∈ ks, 0 ≤ k ∧ k < us.length) (hlen : us.length ≤ 1000) (hlen2 : ks.length ≤ 1000)
    (h : wpAny (MD w) A (eval iter env) (fun xv s₁ => ∃ lk kvs, xv = .ref lk ∧ Go s s₁ ∧ s₁.heap.IsList lk (List.toArray kvs) ∧ lk ≠ 51 ∧ IntsAre kvs ks) E s)
    (fin : ∀ D ys k s', Go s s' → s.heap.get? D = none → s'.heap.get? D = some (lstO ys k) → All2 (Rv (vw ms s'.heap)) ys (ks.map fun k => us.getD k.toNat dflt) → Q (.ref D) s') :
    wpAny (MD w) A (eval (.ListComp (.Subscript (.Name nm p1) (.Name "k" p2) p3) [⟨.Name "k" p4, iter, [], 0⟩] scope pos) env) Q E s := by
  refine lcV (mg := mg) (mb := mb) (ms := ms) (ds := ks) (p := fun _ => true) (R := fun d g y => Rv g y (us.getD d.toNat dflt)) (T := "list_iterator") (fun d g g' y le r => hRm g g' y _ le r) hlen2 hclos hcell hkind hnames hs ?_
  refine wpAny_mono h (fun xv s1 h1 => ?_) fun _ _ e => e
  obtain ⟨lk, kvs, rfl, G1, a, b, c'⟩ := h1
  have O1 := O.go G1
  refine ⟨⟨fun d v => ∃ t, v = .int d t, _, O1, srcL hh O1 (Go.refl _) a b (ints_all2 c'), tgtN O1 hkx hkind, ?_⟩, ?_⟩
  · intro C D I d m s3 hd hn hM G3 hC hD hI O3
    obtain ⟨v, hv, t, rfl⟩ := hM
    refine wpAny_tests_nil ?_
    refine ⟨rfl, Go.refl _, fun _ => ?_⟩
    obtain ⟨h0, h1⟩ := hks d hd
    refine PyProof.Rows.Subscript_ ?_
    refine nC (c := c) hcl (cell_at hc fun o e => (G1.trans G3).keep _ o c51 e) ?_ (by show (relabel scope env).kind = .function; exact hkind) (hk C) hdb
    refine nL hn hv ?_ (by show (relabel scope env).kind = .function; exact hkind) (lookup_relabel_local hkx) (by rfl)
    obtain ⟨u, hu⟩ : ∃ u, us[d.toNat]? = some u := ⟨us[d.toNat]'(by first | assumption | exact ind2 (by assumption) | exact ind1 (by assumption) | exact Nat.le_trans (by assumption) (by decide) | exact Nat.le_of_lt (by assumption) | exact Nat.lt_of_le_of_lt (Nat.le_add_right _ _) (by assumption) | omega), by rw [List.getElem?_eq_getElem]⟩
    obtain ⟨x, hx, rx⟩ := ha.get hu
    refine item_listL (hl.mono (vw_go (G1.trans G3))).list h0 (by first | assumption | exact ind2 (by assumption) | exact ind1 (by assumption) | exact Nat.le_trans (by assumption) (by decide) | exact Nat.le_of_lt (by assumption) | exact Nat.lt_of_le_of_lt (Nat.le_add_right _ _) (by assumption) | omega) hx ?_
    refine ⟨Go.refl _, ?_⟩
    show Rv _ _ _
    rw [List.getD_eq_getElem?_getD, hu]
    exact hRm _ _ _ _ ((vw_go G1).trans (vw_more [I, D, C] G3 (by first | exact nin1 (⟨hI, hD, hC⟩) | exact ninp (⟨hI, hD, hC⟩) | exact nin3 (⟨hI, hD, hC⟩) | exact zall1 (⟨hI, hD, hC⟩) | exact zall2 (⟨hI, hD, hC⟩) | exact zall3 (⟨hI, hD, hC⟩) | exact zall4 (⟨hI, hD, hC⟩) | (simp; exact ⟨hI, hD, hC⟩)))) rx
  · intro D ys k s' G' hD hl' ha'
    rw [filter_true] at ha'
    exact fin D ys k s' (G1.trans G') (O.new G1 hD).1 hl' (All2.map ha')
end
end Mine
end TextR4
section TextR5
namespace Mine
open PySem PySem.W PySem.Calls PyProof.Rows PySem.Spec
def tot (us : List Vec) : Vec := us.foldl Vec.add Vec.z
def sel (us : List Vec) (ks : List Int) : List Vec := ks.map fun k => us.getD k.toNat Vec.z
theorem psums_last (us : List Vec) : (psums us)[us.length]? = some (tot us) := by
  simp [psums, psum, tot]
theorem psums_len (us : List Vec) : (psums us).length = us.length + 1 := by simp [psums]
theorem add_d (u v : Vec) : (u.add v).d = u.d + v.d := rfl
theorem foldl_d (us : List Vec) : ∀ z : Vec, (∀ u ∈ us, 0 < u.d) → z.d + us.length ≤ (us.foldl Vec.add z).d := by
  induction us with
  | nil => intro z _; simp
  | cons u r ih =>
    intro z h
    have := ih (z.add u) fun v hv => h v (List.mem_cons_of_mem _ hv)
    have h1 := h u List.mem_cons_self
    rw [add_d] at this
    simp only [List.foldl_cons, List.length_cons]
    push_cast
    omega
theorem tot_pos {us : List Vec} (h : ∀ u ∈ us, 0 < u.d) (hn : us ≠ []) : 0 < (tot us).d := by
  have := foldl_d us Vec.z h
  have h2 : 0 < us.length := List.length_pos_iff.mpr hn
  have h3 : Vec.z.d = 0 := rfl
  unfold tot
  omega
def aboveV (pk : List (Int × Int)) (us : List Vec) (rs : List (List Int)) : Vec := tot ((rs.map fun r => tot (sel us r)).filter fun t => cmpV pk t Vec.z == 1)
theorem bd_above (w : World) (a b c : Value) : bindArgs (fdOf w 111) ⟨[a, b, c], []⟩ = pure [(Str.ofString "entries", a), (Str.ofString "order", b), (Str.ofString "comp", c)] := by kernel_rfl
section
variable {w : World} {mg mb : Str → Option Value} {A : Around} {s : Shared} {ms : List Addr} {Q E : Value → Shared → Prop}
theorem lastR {value slice : Expr} {l : Addr} {ys : List Value} {x : Value} {t : Tok} (hl : s.heap.IsList l ys.toArray) (hx : ys[ys.length - 1]? = some x) (h : Q x s)
    (hs : subscripted slice false (.ref l) (.int (-1) t) = operate [.ref l, .int (-1) t] (getItem (.ref l) (.int (-1) t)) := by with_unfolding_all rfl) :
    wpAny (MD w) A (subscriptTail value slice (.ref l) (.int (-1) t)) Q E s := by
  have h0 : 0 < ys.length := by
    rcases ys with _ | ⟨a, r⟩
    · cases hx
    · simp
  refine subscriptTail_builtinR (x := x) hl.typeIs slot_list_getitem.lookup (wpAny_getItem_list_neg hl (by decide) (by rw [List.size_toArray]; omega) (by decide) (x := x) ?_ ⟨rfl, h⟩) hs
  have : (-1 + (ys.toArray.size : Int)).toNat = ys.length - 1 := by rw [List.size_toArray]; omega
  rw [this]; simpa using hx
theorem entL_last {W : Bool} {g : View} {l : Addr} {us : List Vec} (h : EntL w W g l (psums us)) : ∃ ys a, Sq "list" g l ys ∧ ys[ys.length - 1]? = some (.ref a) ∧ Ent w W g a (tot us) := by
  obtain ⟨ys, h1, h2⟩ := h
  obtain ⟨_, e, a, rfl, x⟩ := h2.get (psums_last us)
  refine ⟨ys, a, h1, ?_, x⟩
  rw [h2.length, psums_len]; exact e
set_option maxHeartbeats 2000000
theorem above_spec {le lo x : Addr} {us : List Vec} {f : List Int} {rs : List (List Int)} {W : Bool} {pk : List (Int × Int)} (O : Ok w mg mb ms s) (hA : Fit A 30 90) (hl : EntL w W (vw ms s.heap) le us) (hpos : ∀ u ∈ us, 0 < u.d) (hlen : us.length ≤ 900)
    (ho : SqI "list" (vw ms s.heap) lo f) (hf : f.length ≤ 900) (hr : rings f = some rs) (hrl : rs.length ≤ 900) (hri : ∀ r ∈ rs, r ≠ [] ∧ r.length ≤ 900 ∧ ∀ k ∈ r, 0 ≤ k ∧ k < us.length)
    (hx : Cm (vw ms s.heap) x pk) (hpk : ∀ cd ∈ pk, 0 ≤ cd.1 ∧ cd.1 ≤ 2)
    (k : ∀ r s', Go s s' → Ent w W (vw ms s'.heap) r (aboveV pk us rs) → Q (.ref r) s') : wpAny (MD w) A (call (.ref 111) [.ref le, .ref lo, .ref x]) Q E s := by
  obtain ⟨vs, l1, l2⟩ := id hl
  refine call_fn O hA.room rfl rfl rfl rfl (bd_above _ _ _ _) rfl rfl ?_
  intro L s1 hL G hns hc hpw
  have hB : Fit (A.deeper (callEnvC (fdOf w 111) L 111)) 20 60 := Fit.deeper (hA.le (d' := 21) (u' := 63))
  have L51 := O.top.ne51 hL
  obtain ⟨ce, hce⟩ : ∃ ce, (callEnvC (fdOf w 111) L 111).cells.lookup (Str.ofString "entries") = some ce := ⟨_, rfl⟩
  obtain ⟨cc, hcc⟩ : ∃ cc, (callEnvC (fdOf w 111) L 111).cells.lookup (Str.ofString "comp") = some cc := ⟨_, rfl⟩
  obtain ⟨e1, e2, e3⟩ := hc _ _ hce
  obtain ⟨d1, d2, d3⟩ := hc _ _ hcc
  have ce51 := O.top.ne51 e1
  have cc51 := O.top.ne51 d1
  have O1 : Ok w mg mb (L :: ms) s1 := O.fr G hL hns
  have le1 : Le (vw ms s.heap) (vw (L :: ms) s1.heap) := vw_more [L] G (by simpa using hL)
  have hupos : ∀ r ∈ rs, ∀ u ∈ sel us r, 0 < u.d := by
    intro r hr u hu
    obtain ⟨k, hk, rfl⟩ := List.mem_map.mp hu
    obtain ⟨a, b⟩ := (hri r hr).2.2 k hk
    have hlt : k.toNat < us.length := (by first | exact ind0 (by assumption) (by assumption) | exact ind1 (by assumption) | omega)
    rw [List.getD_eq_getElem?_getD, List.getElem?_eq_getElem hlt]
    exact hpos _ (List.getElem_mem hlt)
  refine wpAny_execs_cons ?_
  refine lcA (mg := mg) (mb := mb) (ms := L :: ms) (ds := rs) (p := fun _ => true) (R := fun r g y => ∃ a, y = .ref a ∧ Ent w W g a (tot (sel us r))) (T := "list_iterator")
    (fun d g g' y le ⟨a, e, x⟩ => ⟨a, e, x.mono le⟩) (by first | assumption | exact ind2 (by assumption) | exact ind1 (by assumption) | exact Nat.le_trans (by assumption) (by decide) | exact Nat.le_of_lt (by assumption) | exact Nat.lt_of_le_of_lt (Nat.le_add_right _ _) (by assumption) | omega) rfl rfl (by decide) rfl (by decide) (by intro x; rfl) ?_
  refine callG O1.top (f_rings w) (by kernel_rfl) ?_
  refine args_cons ?_
  refine nL hns rfl ?_
  refine args_nil ?_
  refine ⟨O1.top.k, ?_⟩
  refine rings_spec O1 hB (ho.mono le1) hf hr ?_
  intro rl s2 G2 hrl2 ⟨rvs, r1, r2⟩
  have O2 := O1.go G2
  have N2 := O1.fresh hrl2
  refine ⟨⟨fun r v => ∃ a, v = .ref a ∧ SqI "list" (vw (L :: ms) s2.heap) a r, _, O2, srcL hA.h O2 (Go.refl _) r1.list N2.1 r2, tgtN O2 rfl rfl, ?_⟩, ?_⟩
  · intro C D I r mc s3 hr3 hnc hM G3 hC hD hI O3
    obtain ⟨v, hv, a, rfl, avs, q1, q2⟩ := hM
    refine wpAny_tests_nil ?_
    refine ⟨rfl, Go.refl _, fun _ => ?_⟩
    have G13 := G2.trans G3
    have le3 : Le (vw (L :: ms) s1.heap) (vw (I :: D :: C :: L :: ms) s3.heap) := (vw_go G2).trans (vw_more [I, D, C] G3 (by first | exact nin1 (⟨hI, hD, hC⟩) | exact ninp (⟨hI, hD, hC⟩) | exact nin3 (⟨hI, hD, hC⟩) | exact zall1 (⟨hI, hD, hC⟩) | exact zall2 (⟨hI, hD, hC⟩) | exact zall3 (⟨hI, hD, hC⟩) | exact zall4 (⟨hI, hD, hC⟩) | (simp; exact ⟨hI, hD, hC⟩)))
    refine PyProof.Rows.Subscript_ ?_
    refine callG O3.top (f_along w) (by kernel_rfl) ?_
    refine args_cons ?_
    refine pickC (Rv := fun g v u => ∃ a, v = .ref a ∧ Ent w W g a u) (c := ce) (ks := r) Vec.z hA.h O3 (fun g g' v u le ⟨a, e, x⟩ => ⟨a, e, x.mono le⟩) rfl (by decide) rfl (by decide) (by intro x; rfl) hce (fun _ => rfl) rfl rfl (cell_at e3 fun o e => G13.keep _ o ce51 e) ce51
      (l1.mono (le1.trans le3)) (l2.imp fun v u ⟨a, e, x⟩ => ⟨a, e, x.mono (le1.trans le3)⟩) (hri r hr3).2.2 (by first | assumption | exact ind2 (by assumption) | exact ind1 (by assumption) | exact Nat.le_trans (by assumption) (by decide) | exact Nat.le_of_lt (by assumption) | exact Nat.lt_of_le_of_lt (Nat.le_add_right _ _) (by assumption) | omega) (by have := (hri r hr3).2.1; omega) ?_ ?_
    · refine nL hnc hv ?_
      exact ⟨a, avs, rfl, Go.refl _, (q1.mono (vw_go G3)).list, (vw_iff.mp q1.choose_spec.1).1, q2⟩
    intro D2 ys2 k2 s4 G4 hD2 hl2 ha2
    have O4 := O3.go G4
    have N4 := O3.fresh hD2
    refine args_nil ?_
    refine ⟨O4.top.k, ?_⟩
    refine along_spec (us := sel us r) (W := W) O4 hB ⟨ys2, Sq.ofL hl2 N4.1 N4.2, ha2⟩ (hupos r hr3) (by have := (hri r hr3).2.1; simpa [sel] using this) ?_
    intro r5 s5 G5 hr5 hE5
    obtain ⟨ys, a5, h51, h52, h53⟩ := entL_last hE5
    refine wpAny_UnaryOp ?_
    refine wpAny_Constant_int ?_
    refine neg_int ?_
    refine lastR (s := { s5 with toks := _ }) h51.list h52 ?_
    exact ⟨G4.trans G5, a5, rfl, h53⟩
  · intro D C ys kk s3 mC G3 hD hC hCD hnC hDl ha
    rw [filter_true] at ha
    have G13 := G2.trans G3
    have GG := G.trans G13
    have hns3 : s3.heap.Ns L _ := hns.at' fun o e => G13.keep _ o L51 e
    have hDL : D ≠ L := by obtain ⟨o, _, _, e, _⟩ := hns; exact Ne.symm (ne_of_get (G2.keep _ _ L51 e) hD)
    have hCL : C ≠ L := by obtain ⟨o, _, _, e, _⟩ := hns; exact Ne.symm (ne_of_get (G2.keep _ _ L51 e) hC)
    have ND := O.new (G.trans G2) hD
    have NC := O.new (G.trans G2) hC
    refine sL O GG hL hns3 ?_
    intro s4 G4 hns4 hs4
    refine ⟨⟨mC, hnC.at' fun o e => hs4.extBut _ o hCL e⟩, fun h' hs' => ?_⟩
    have G5 := G4.set (t := s4.toks) O.top NC.1 hs'
    have k35 : Kb [L, C] s3 { s4 with heap := h' } := (Kb.same hs4 (by simp [callEnvC, newEnv])).trans (Kb.same (s := s4) (s' := { s4 with heap := h' }) hs' (by first | exact zm0 | exact zm1 | exact zm2 | exact zm3 | exact zm4 | exact zm5 | exact zm6 | exact zm7 | exact zs0 | exact zs1 | exact zs2 | exact zs3 | exact zn0 | exact zn1 (by decide) | simp))
    have hns5 : ({ s4 with heap := h' } : Shared).heap.Ns L _ := hns4.at' fun o e => hs'.extBut _ o (Ne.symm hCL) e
    generalize ({ s4 with heap := h' } : Shared) = s5 at G5 k35 hns5
    have hD5 := k35 _ _ ND.2.1 (by first | exact nin1 (⟨hDL, Ne.symm hCD⟩) | exact ninp (⟨hDL, Ne.symm hCD⟩) | exact nin3 (⟨hDL, Ne.symm hCD⟩) | exact zall1 (⟨hDL, Ne.symm hCD⟩) | exact zall2 (⟨hDL, Ne.symm hCD⟩) | exact zall3 (⟨hDL, Ne.symm hCD⟩) | exact zall4 (⟨hDL, Ne.symm hCD⟩) | (simp; exact ⟨hDL, Ne.symm hCD⟩)) hDl
    have leE : Le (vw (C :: L :: ms) s3.heap) (vw (C :: L :: ms) s5.heap) := vw_kb k35 (by first | exact zm0 | exact zm1 | exact zm2 | exact zm3 | exact zm4 | exact zm5 | exact zm6 | exact zm7 | exact zs0 | exact zs1 | exact zs2 | exact zs3 | exact zn0 | exact zn1 (by decide) | simp)
    have leE2 : Le (vw (C :: L :: ms) s3.heap) (vw (L :: ms) s5.heap) := leE.trans (vw_less [C])
    have O5 : Ok w mg mb (L :: ms) s5 := O.fr G5 hL hns5
    have hSq : Sq "list" (vw (L :: ms) s5.heap) D ys := Sq.ofL hD5 ND.2.1 (by first | exact nin1 (⟨hDL, ND.2.2⟩) | exact ninp (⟨hDL, ND.2.2⟩) | exact nin3 (⟨hDL, ND.2.2⟩) | exact zall1 (⟨hDL, ND.2.2⟩) | exact zall2 (⟨hDL, ND.2.2⟩) | exact zall3 (⟨hDL, ND.2.2⟩) | exact zall4 (⟨hDL, ND.2.2⟩) | (simp; exact ⟨hDL, ND.2.2⟩))
    have hSa : All2 (fun y r => ∃ a, y = .ref a ∧ Ent w W (vw (L :: ms) s5.heap) a (tot (sel us r))) ys rs := ha.imp fun y d ⟨a, e, x⟩ => ⟨a, e, x.mono leE2⟩
    try dsimp only
    refine wpAny_execs_cons ?_
    refine wpAny_Return_some ?_
    refine PyProof.Rows.Subscript_ ?_
    refine callG O5.top (f_along w) (by kernel_rfl) ?_
    refine args_cons ?_
    refine lcV (mg := mg) (mb := mb) (ms := L :: ms) (ds := rs) (p := fun r => cmpV pk (tot (sel us r)) Vec.z == 1) (R := fun r g y => ∃ a, y = .ref a ∧ Ent w W g a (tot (sel us r))) (T := "list_iterator")
      (fun d g g' y le ⟨a, e, x⟩ => ⟨a, e, x.mono le⟩) (by first | assumption | exact ind2 (by assumption) | exact ind1 (by assumption) | exact Nat.le_trans (by assumption) (by decide) | exact Nat.le_of_lt (by assumption) | exact Nat.lt_of_le_of_lt (Nat.le_add_right _ _) (by assumption) | omega) rfl (by decide) rfl (by decide) (by intro x; rfl) ?_
    refine nL hns5 rfl ?_
    refine ⟨⟨fun r v => ∃ a, v = .ref a ∧ Ent w W (vw (L :: ms) s5.heap) a (tot (sel us r)), _, O5, srcL hA.h O5 (Go.refl _) hSq.list ND.2.1 hSa, tgtN O5 rfl rfl, ?_⟩, ?_⟩
    · intro C2 D2 I2 r mc s6 hr6 hnc hM G6 hC2 hD2 hI2 O6
      obtain ⟨v, hv, a, rfl, ea⟩ := hM
      have hne51 : C2 ≠ 51 := O5.top.ne51 hC2
      have le6 : Le (vw (L :: ms) s5.heap) (vw (I2 :: D2 :: C2 :: L :: ms) s6.heap) := vw_more [I2, D2, C2] G6 (by first | exact nin1 (⟨hI2, hD2, hC2⟩) | exact ninp (⟨hI2, hD2, hC2⟩) | exact nin3 (⟨hI2, hD2, hC2⟩) | exact zall1 (⟨hI2, hD2, hC2⟩) | exact zall2 (⟨hI2, hD2, hC2⟩) | exact zall3 (⟨hI2, hD2, hC2⟩) | exact zall4 (⟨hI2, hD2, hC2⟩) | (simp; exact ⟨hI2, hD2, hC2⟩))
      have leX : Le (vw ms s.heap) (vw (I2 :: D2 :: C2 :: L :: ms) s6.heap) := (vw_more [L] G5 (by simpa using hL)).trans le6
      have d36 : s6.heap.IsCell cc (some (.ref x)) := cell_at d3 fun o e => (G6.keep _ o cc51 (k35 _ o cc51 (by
        have h1 : cc ≠ C := by obtain ⟨o, e, _⟩ := d3; exact ne_of_get (G2.keep _ _ cc51 e) hC
        simp; exact ⟨d2, h1⟩) (G13.keep _ o cc51 e)))
      refine wpAny_tests_one ?_
      refine wpAny_isTrue_Compare1 ?_
      refine cmpCall (x := x) (W := W) (u := tot (sel us r)) (v := Vec.z) (pk := pk) O6 (hB.le) (fun Q' hQ' => nC hcc d36 hQ') (hx.mono leX) hpk ?_ (pl := _)
      refine nL hnc hv ?_
      refine zeroE (W := W) O6 ?_
      intro a7 s7 ha7 G7 k7 ea7
      refine ⟨a, a7, rfl, rfl, G7, (ea.mono le6).mono (vw_go G7), ea7, fun t s8 G8 => ?_⟩
      refine wpAny_Constant_int ?_
      refine eq_int ?_
      refine wpAny_truthy_bool ?_
      have G68 := G7.trans G8
      refine ⟨rfl, G68, fun _ => ?_⟩
      refine nL (hnc.at' fun o e => G68.keep _ o hne51 e) hv ?_
      exact ⟨Go.refl _, a, rfl, (ea.mono le6).mono (vw_go G68)⟩
    intro D2 ys2 k2 s6 G6 hD2 hl2 ha2
    have O6 := O5.go G6
    have N6 := O5.fresh hD2
    refine args_nil ?_
    refine ⟨O6.top.k, ?_⟩
    refine along_spec (us := (rs.filter fun r => cmpV pk (tot (sel us r)) Vec.z == 1).map fun r => tot (sel us r)) (W := W) O6 hB ⟨ys2, Sq.ofL hl2 N6.1 N6.2, All2.map ha2⟩ ?_ ?_ ?_
    · intro u hu
      obtain ⟨r, hr, rfl⟩ := List.mem_map.mp hu
      have hr' := (List.mem_filter.mp hr).1
      exact tot_pos (hupos r hr') (by simpa [sel] using (hri r hr').1)
    · rw [List.length_map]
      exact Nat.le_trans (List.length_filter_le _ _) hrl
    intro r7 s7 G7 hr7 hE7
    obtain ⟨ys, a7, h71, h72, h73⟩ := entL_last hE7
    refine wpAny_UnaryOp ?_
    refine wpAny_Constant_int ?_
    refine neg_int ?_
    refine lastR (s := { s7 with toks := _ }) h71.list h72 ?_
    refine k a7 _ ((G5.trans G6).trans G7) ?_
    have hEq : aboveV pk us rs = tot ((rs.filter fun r => cmpV pk (tot (sel us r)) Vec.z == 1).map fun r => tot (sel us r)) := by
      unfold aboveV; rw [List.filter_map]; rfl
    rw [hEq]
    exact h73.mono (vw_less [L])
end
end Mine
end TextR5
section TextE1
namespace Mine
open PySem PySem.W PySem.Calls PyProof.Rows PySem.Spec
theorem bd_together (w : World) (a : Value) : bindArgs (fdOf w 82) ⟨[a], []⟩ = pure [(Str.ofString "vectors", a)] := by kernel_rfl
def Vec.l (v : Vec) : List Int := [v.a, v.b, v.c, v.d]
/-- a list of vectors -/
def VecL (g : View) (l : Addr) (us : List Vec) : Prop := ∃ vs, Sq "list" g l vs ∧ All2 (fun v u => ∃ a, v = .ref a ∧ SqI "list" g a (Vec.l u)) vs us
theorem VecL.mono {g g' : View} {l : Addr} {us : List Vec} (x : VecL g l us) (k : Le g g') : VecL g' l us :=
  let ⟨vs, a, b⟩ := x; ⟨vs, a.mono k, b.imp fun _ _ ⟨a, e, q⟩ => ⟨a, e, q.mono k⟩⟩
theorem foldl_l (us : List Vec) : ∀ z : Vec, (us.foldl Vec.add z).l = [z.a + (us.map (·.a)).sum, z.b + (us.map (·.b)).sum, z.c + (us.map (·.c)).sum, z.d + (us.map (·.d)).sum] := by
  induction us with
  | nil => intro z; simp [Vec.l]
  | cons u r ih =>
    intro z
    rw [List.foldl_cons, ih]
    simp only [List.map_cons, List.sum_cons, Vec.add, Int.add_assoc]
theorem tot_l (us : List Vec) : (tot us).l = [(us.map (·.a)).sum, (us.map (·.b)).sum, (us.map (·.c)).sum, (us.map (·.d)).sum] := by
  unfold tot; rw [foldl_l]; simp [Vec.z]
/-- the column sums -/
theorem cols (us : List Vec) : (rangeL 0 1 4).map (fun i => (us.map fun u => u.l.getD i.toNat 0).sum) = (tot us).l := by
  rw [tot_l]; rfl
section
variable {w : World} {mg mb : Str → Option Value} {A : Around} {s : Shared} {ms : List Addr} {Q E : Value → Shared → Prop} {env : Env}
/-- a comprehension's frame of one cell -/
theorem newEnv1 {x : Str} {gl : Addr} {cl : List (Str × Addr)} {qual : Str} {Q : Env → Shared → Prop} {scope : Scope} (hcf : ∀ n, cellsFrom n scope.names cl = (x, n) :: cl) (hpc : ∀ h : Heap, pushCells h scope.names = h.push { cls := .type "cell", data := .cell none })
    (h : ∀ C c s', s.heap.get? C = none → s.heap.get? c = none → C ≠ c → s'.heap.Ns C (fun _ => none) → s'.heap.IsCell c none → Kp s s' → Q (newEnv scope C gl ((x, c) :: cl) qual none .none (some env) builtinsNs) s') :
    wpAny (MD w) A (newFunctionEnv scope gl cl [] qual none .none (some env)) Q E s := by
  simp only [newFunctionEnv, Option.isSome_some, if_true]
  refine wpAny_bind (wpAny_alloc ?_)
  refine wpAny_bind (wpAny_layCells _ (fun name kind cells => by cases hkc : kind == NameKind.cell <;> simp) _ _ _ _ ?_)
  rw [hcf, hpc]
  have hsz : (s.heap.push { cls := .type "dict", data := .dict #[] }).objs.size = s.heap.objs.size + 1 := Heap.size_push ..
  refine wpAny_bind (wpAny_pure (wpAny_pure ?_))
  refine h s.heap.objs.size _ _ (get_size _) ?_ ?_ ((Heap.Ns.new s.heap (.type "dict")).keeps fun b o e => Heap.get?_push_of_some _ e) ⟨_, Heap.get?_push_size _ rfl, rfl⟩ ⟨fun b o e => Heap.get?_push_of_some _ (Heap.get?_push_of_some _ e), rfl, rfl⟩
  · exact none_of_le (by rw [hsz]; exact Nat.le_succ _)
  · rw [hsz]; exact Nat.ne_of_lt (Nat.lt_succ_self _)
end
end Mine
end TextE1
section TextE2
namespace Mine
open PySem PySem.W PySem.Calls PyProof.Rows PySem.Spec
theorem allInts_of {vs : List Value} {ns : List Int} (h : IntsAre vs ns) : AllInts vs.toArray ∧ numsOf vs = ns := by
  induction h with
  | nil => exact ⟨fun v hv => by simp at hv, rfl⟩
  | cons n t _ ih =>
    refine ⟨fun v hv => ?_, by rw [numsOf, ih.2]⟩
    rcases List.mem_cons.mp (List.mem_toArray.mp hv) with rfl | hv'
    · exact ⟨n, t, rfl⟩
    · exact ih.1 v (by simpa using hv')
theorem all2_ints {α : Type} {f : α → Int} {vs : List Value} {xs : List α} (h : All2 (fun v x => ∃ t, v = .int (f x) t) vs xs) : IntsAre vs (xs.map f) := by
  induction h with
  | nil => exact .nil
  | cons r _ ih => obtain ⟨t, rfl⟩ := r; exact .cons _ t ih
section
variable {w : World} {mg mb : Str → Option Value} {A : Around} {s : Shared} {ms : List Addr} {Q E : Value → Shared → Prop} {env : Env}
theorem sumI {l : Addr} {vs : List Value} {ns : List Int} (hh : A.handled = none) (hl : s.heap.IsList l vs.toArray) (hi : IntsAre vs ns) (h : ∀ t s', Kp s s' → Q (.int ns.sum t) s') : wpAny (MD w) A (call (.builtin "sum") [.ref l]) Q E s := by
  obtain ⟨ha, hn⟩ := allInts_of hi
  obtain ⟨xs, he⟩ := ha.items
  rw [he] at hl
  refine sum_intListG hh hl fun h' tk t' hk => ?_
  have := h t' { s with heap := h', toks := tk } ⟨hk, rfl, rfl⟩
  have e2 : (numsOf (intItems xs).toList).sum = ns.sum := by rw [← he]; show (numsOf vs).sum = _; rw [hn]
  rw [nums_intItems] at e2
  rw [preSum_eq, List.take_of_length_le (by first | exact zm0 | exact zm1 | exact zm2 | exact zm3 | exact zm4 | exact zm5 | exact zm6 | exact zm7 | exact zs0 | exact zs1 | exact zs2 | exact zs3 | exact zn0 | exact zn1 (by decide) | simp), e2]
  exact this
set_option maxHeartbeats 2000000
theorem together_spec {l : Addr} {us : List Vec} (O : Ok w mg mb ms s) (hA : Fit A 20 60) (hl : VecL (vw ms s.heap) l us) (hlen : us.length ≤ 900)
    (k : ∀ r s', Go s s' → s.heap.get? r = none → SqI "list" (vw ms s'.heap) r (tot us).l → Q (.ref r) s') : wpAny (MD w) A (call (.ref 82) [.ref l]) Q E s := by
  obtain ⟨vs, l1, l2⟩ := id hl
  refine call_fn O hA.room rfl rfl rfl rfl (bd_together _ _) rfl rfl ?_
  intro L s1 hL G hns hc hpw
  obtain ⟨cN, cL, hcell⟩ := hc (Str.ofString "vectors") (L + 1) rfl
  have hB : Fit (A.deeper (callEnvC (fdOf w 82) L 82)) 10 20 := Fit.deeper (hA.le (d' := 11) (u' := 23))
  have L51 := O.top.ne51 hL
  have c51 := O.top.ne51 cN
  have O1 : Ok w mg mb (L :: ms) s1 := O.fr G hL hns
  have le1 : Le (vw ms s.heap) (vw (L :: ms) s1.heap) := vw_more [L] G (by simpa using hL)
  refine wpAny_execs_cons ?_
  refine wpAny_Return_some ?_
  show wpAny _ _ (eval (.ListComp _ [⟨_, _, [], 0⟩] _ _) _) _ _ _
  rw [eval_ListComp]
  refine wpAny_comprehension_free (use := none) rfl (by intro x; rfl) rfl rfl (by decide) ?_
  refine PyProof.Rows.Call_ ?_
  refine nB O1.top (g_range w) ?_
  refine PyProof.Rows.callWith_type1 ?_
  refine args_cons ?_
  refine wpAny_Constant_int ?_
  refine args_nil ?_
  refine rng1 ?_
  intro rr t1 t2 t3 s2 hrr hr2 k2
  obtain ⟨z1, z2⟩ := rsz 4 (by first | assumption | exact ind2 (by assumption) | exact ind1 (by assumption) | exact Nat.le_trans (by assumption) (by decide) | exact Nat.le_of_lt (by assumption) | exact Nat.lt_of_le_of_lt (Nat.le_add_right _ _) (by assumption) | omega)
  have O2 : Ok w mg mb (L :: ms) s2 := O1.go (Kp.go (s := { s1 with toks := _ }) k2)
  refine wpAny_noRaise ?_
  refine wpAny_mono (srcR hA.h O2 (Go.refl _) hr2 z2 z1) (fun it s3 h3 => ?_) fun _ _ e => e
  obtain ⟨G3, I, fp, P, St, rfl, nI, W, hP, hfp, hIo, hst⟩ := h3
  refine mkL (small_list (Nat.le_of_ble_eq_true rfl)) fun D s4 hD hDo k4 => ?_
  refine newEnv1 (fun n => rfl) (fun h => rfl) ?_
  intro C c s5 hC hcn hCc hnC hcc k5
  have G4 := G3.trans k4.go
  have G5 := G4.trans k5.go
  have NI := O2.fresh nI
  have ND := O2.new G3 hD
  have NC := O2.new G4 hC
  have Nc := O2.new G4 hcn
  have lt4 : ∀ b, (∃ o, s3.heap.get? b = some o) → b ≠ D ∧ b ≠ C ∧ b ≠ c := fun b hb => by
    obtain ⟨o, e⟩ := hb
    exact ⟨ne_of_get e hD, ne_of_get (k4.1 _ _ e) hC, ne_of_get (k4.1 _ _ e) hcn⟩
  have hDC : D ≠ C := ne_of_get hDo hC
  have hDc : D ≠ c := ne_of_get hDo hcn
  have hDf : D ∉ fp := fun h => (lt4 D (hfp D h).2).1 rfl
  have hcf : ∀ x ∈ [C, c], x ∉ fp := fun x hx hf => by
    simp only [List.mem_cons, List.not_mem_nil, or_false] at hx
    rcases hx with rfl | rfl
    · exact (lt4 _ (hfp _ hf).2).2.1 rfl
    · exact (lt4 _ (hfp _ hf).2).2.2 rfl
  have hst5 : St 0 s5.heap := W.frame _ _ _ hst fun b hb o e => k5.1 b o (k4.1 b o e)
  refine (fun lp => codeAny_compStart_list lp (W.self 0 _ _ _ hst5 lp)) ?_
  refine lcLoop (ds := rangeL 0 1 4) (K := fun d v => ∃ t, v = .int d t) (p := fun _ => true) (R := fun d g y => ∃ t, y = .int ((us.map fun u => u.l.getD d.toNat 0).sum) t) (M := fun d s => ∃ t, s.heap.IsCell c (some (.int d t)))
    (Fr := fun s => (∃ m, s.heap.Ns C m) ∧ ∃ v, s.heap.IsCell c v) (fp := fp) (P := P) (St := St) (cs := [C, c]) O2 (fun _ _ _ _ _ h => h) W hP (fun b hb => (hfp b hb).1) (fun i h st => let ⟨o, e, _⟩ := hIo i h st; ⟨o, e⟩) (by decide) nI ND.1
    (fun x hx => ?_) hDf hcf (by first | exact nin1 (⟨hDC, hDc⟩) | exact ninp (⟨hDC, hDc⟩) | exact nin3 (⟨hDC, hDc⟩) | exact zall1 (⟨hDC, hDc⟩) | exact zall2 (⟨hDC, hDc⟩) | exact zall3 (⟨hDC, hDc⟩) | exact zall4 (⟨hDC, hDc⟩) | (simp; exact ⟨hDC, hDc⟩)) ?_ ?_ ?_ ?_ ?_ (rangeL 0 1 4).length 0 s5 [] 0 rfl (Nat.zero_le _) (Nat.le_refl _) G5 ⟨⟨_, hnC⟩, _, hcc⟩ hst5 (k5.1 _ _ hDo) .nil
  · simp only [List.mem_cons, List.not_mem_nil, or_false] at hx
    rcases hx with rfl | rfl
    · exact NC.1
    · exact Nc.1
  · intro a b ⟨⟨m, h1⟩, v, h2⟩ kk
    exact ⟨⟨m, h1.at' fun o e => kk C (by first | exact zm0 | exact zm1 | exact zm2 | exact zm3 | exact zm4 | exact zm5 | exact zm6 | exact zm7 | exact zs0 | exact zs1 | exact zs2 | exact zs3 | exact zn0 | exact zn1 (by decide) | simp) o e⟩, v, cell_at h2 fun o e => kk c (by first | exact zm0 | exact zm1 | exact zm2 | exact zm3 | exact zm4 | exact zm5 | exact zm6 | exact zm7 | exact zs0 | exact zs1 | exact zs2 | exact zs3 | exact zn0 | exact zn1 (by decide) | simp) o e⟩
  · intro a ⟨⟨m, h1⟩, v, h2⟩ x hx
    simp only [List.mem_cons, List.not_mem_nil, or_false] at hx
    rcases hx with rfl | rfl
    · obtain ⟨o, _, _, e, _⟩ := h1; exact ⟨o, e⟩
    · obtain ⟨o, e, _⟩ := h2; exact ⟨o, e⟩
  · intro i d v s6 hd ⟨t, hv⟩ ⟨⟨m, h1⟩, v', h2⟩ G6 st6
    subst hv
    refine wpAny_pure ?_
    refine wpAny_assign_Name ?_
    refine sC (c := c) O2 G6 rfl Nc.1 h2 ?_
    intro s7 G7 hc7 hs7
    exact ⟨⟨⟨m, h1.at' fun o e => hs7.extBut _ o hCc e⟩, _, hc7⟩, ⟨t, hc7⟩, G7, Kb.same hs7 (by first | exact zm0 | exact zm1 | exact zm2 | exact zm3 | exact zm4 | exact zm5 | exact zm6 | exact zm7 | exact zs0 | exact zs1 | exact zs2 | exact zs3 | exact zn0 | exact zn1 (by decide) | simp)⟩
  · intro d s6 hd ⟨t, hcd⟩ G6 O6
    have hd4 : 0 ≤ d ∧ d < 4 := by
      have : d ∈ [0, 1, 2, 3] := by simpa [rangeL, List.range, List.range.loop] using hd
      simp at this; omega
    refine wpAny_tests_nil ?_
    refine ⟨rfl, Go.refl _, fun _ => ?_⟩
    refine PyProof.Rows.Call_ ?_
    refine nB O6.top (g_sum w) ?_
    refine PyProof.Rows.callWith_builtin1 ?_
    refine args_cons ?_
    have le6 : Le (vw (L :: ms) s1.heap) (vw (I :: D :: C :: c :: L :: ms) s6.heap) := (vw_go (Kp.go (s := { s1 with toks := _ }) k2)).trans (vw_more [I, D, C, c] G6 (by first | exact nin1 (⟨nI, ND.1, NC.1, Nc.1⟩) | exact ninp (⟨nI, ND.1, NC.1, Nc.1⟩) | exact nin3 (⟨nI, ND.1, NC.1, Nc.1⟩) | exact zall1 (⟨nI, ND.1, NC.1, Nc.1⟩) | exact zall2 (⟨nI, ND.1, NC.1, Nc.1⟩) | exact zall3 (⟨nI, ND.1, NC.1, Nc.1⟩) | exact zall4 (⟨nI, ND.1, NC.1, Nc.1⟩) | (simp; exact ⟨nI, ND.1, NC.1, Nc.1⟩)))
    have G16 : Go s1 s6 := Go.trans (s' := s2) (Kp.go (s := { s1 with toks := _ }) k2) G6
    refine lcV (mg := mg) (mb := mb) (ms := I :: D :: C :: c :: L :: ms) (ds := us) (p := fun _ => true) (R := fun u g y => ∃ t, y = .int (u.l.getD d.toNat 0) t) (T := "list_iterator")
      (fun _ _ _ _ _ h => h) (by first | assumption | exact ind2 (by assumption) | exact ind1 (by assumption) | exact Nat.le_trans (by assumption) (by decide) | exact Nat.le_of_lt (by assumption) | exact Nat.lt_of_le_of_lt (Nat.le_add_right _ _) (by assumption) | omega) rfl (by decide) rfl (by decide) (by intro x; rfl) ?_
    refine nC (c := L + 1) rfl (cell_at hcell fun o e => G16.keep _ o c51 e) ?_
    have l16 := l1.mono (le1.trans le6)
    refine ⟨⟨fun u v => ∃ a, v = .ref a ∧ SqI "list" (vw (I :: D :: C :: c :: L :: ms) s6.heap) a (Vec.l u), _, O6, srcL hA.h O6 (Go.refl _) l16.list (vw_iff.mp l16.choose_spec.1).1 (l2.imp fun v u ⟨a, e, x⟩ => ⟨a, e, x.mono (le1.trans le6)⟩), tgtN O6 rfl rfl, ?_⟩, ?_⟩
    · intro C2 D2 I2 u mc s7 hu hnc hM G7 hC2 hD2 hI2 O7
      obtain ⟨v, hv, a, rfl, avs, q1, q2⟩ := hM
      refine wpAny_tests_nil ?_
      refine ⟨rfl, Go.refl _, fun _ => ?_⟩
      refine PyProof.Rows.Subscript_ ?_
      refine nL hnc hv ?_
      refine nC (c := c) rfl (cell_at hcd fun o e => G7.keep _ o Nc.2.1 e) ?_
      obtain ⟨tt, htt⟩ := q2.get d.toNat (u.l.getD d.toNat 0) (by
        have h4 : d.toNat < u.l.length := by show d.toNat < 4; omega
        rw [List.getD_eq_getElem?_getD, List.getElem?_eq_getElem h4]; rfl)
      refine item_listL (q1.mono (vw_go G7)).list hd4.1 (by first | assumption | exact ind2 (by assumption) | exact ind1 (by assumption) | exact Nat.le_trans (by assumption) (by decide) | exact Nat.le_of_lt (by assumption) | exact Nat.lt_of_le_of_lt (Nat.le_add_right _ _) (by assumption) | omega) htt ?_
      exact ⟨Go.refl _, tt, rfl⟩
    intro D2 ys2 k2' s7 G7 hD2 hl2 ha2
    rw [filter_true] at ha2
    refine args_nil ?_
    refine sumI hA.h ⟨_, hl2, rfl, _, rfl⟩ (all2_ints ha2) ?_
    intro t8 s8 k8
    exact ⟨G7.trans k8.go, t8, rfl⟩
  · intro ys kk s' G' ⟨⟨m', hm⟩, _⟩ hD' ha'
    rw [filter_true] at ha'
    refine ⟨m', hm, fun h' hs' => ?_⟩
    have G12 := Go.trans (s' := s2) (G.trans (Kp.go (s := { s1 with toks := _ }) k2)) G'
    have nC0 := (O.new (G.trans (Kp.go (s := { s1 with toks := _ }) k2)) NC.1).1
    have nD0 := O.new (G.trans (Kp.go (s := { s1 with toks := _ }) k2)) ND.1
    refine k D _ (G12.set (t := s'.toks) O.top nC0 hs') nD0.1 ⟨ys, Sq.ofL (hs'.extBut _ _ hDC hD') nD0.2.1 nD0.2.2, ?_⟩
    rw [← cols us]
    exact all2_ints ha'
end
end Mine
end TextE2
section TextS1
namespace Mine
open PySem PySem.W PySem.Calls PyProof.Rows PySem.Spec
section
variable {w : World} {mg mb : Str → Option Value} {A : Around} {s : Shared} {ms : List Addr} {Q : Value → Shared → Prop} {E : Value → Shared → Prop} {env : Env}
theorem subSlice {value : Expr} {lower upper : Option Expr} {p pos : Pos} {T id : String} (hl : typeLookup (.type T) "__getitem__" = pure (some (.builtin id)))
    (h : wpAny (MD w) A (eval value env) (fun o s₁ => wpAny (MD w) A (eval (.Slice lower upper none p) env) (fun i s₂ => s₂.TypeIs o T ∧ wpAny (MD w) A (getItem o i) Q E s₂) E s₁) E s) :
    wpAny (MD w) A (eval (.Subscript value (.Slice lower upper none p) pos) env) Q E s := by
  rw [eval_Subscript]
  refine wpAny_bind (wpAny_mono h (fun o s₁ h₁ => wpAny_bind (wpAny_holding (wpAny_mono h₁ (fun i s₂ h₂ => wpAny_bind (wpAny_standAt ?_)) fun _ _ x => x)))
    fun _ _ x => x)
  obtain ⟨hT, hg⟩ := h₂
  first
    | (refine wpAny_bind ?_; rw [getitemInPython_of_ne hT.not_modules]; refine wpAny_bind (wpAny_specialOf hT hl ?_))
    | refine wpAny_bind (wpAny_specialOf hT hl ?_)
  have fin : wpAny (MD w) A (operate [i, o] (getItem o i)) (fun r s₃ => wpAny (MD w) A (letTemporaryGo value o r >>= fun _ => pure r) Q E s₃) E s₂ :=
    wpAny_operating (wpAny_mono hg (fun r s₃ h₃ => wpAny_bind (wpAny_letTemporaryGo (wpAny_pure h₃))) fun _ _ x => x)
  first
    | exact wpAny_pure (wpAny_bind fin)
    | exact wpAny_bind (wpAny_pure (wpAny_bind fin))
    | exact wpAny_bind fin
theorem subSliceS {value : Expr} {lower upper : Option Expr} {st : Expr} {p pos : Pos} {T id : String} (hl : typeLookup (.type T) "__getitem__" = pure (some (.builtin id)))
    (h : wpAny (MD w) A (eval value env) (fun o s₁ => wpAny (MD w) A (eval (.Slice lower upper (some st) p) env) (fun i s₂ => s₂.TypeIs o T ∧ wpAny (MD w) A (getItem o i) Q E s₂) E s₁) E s) :
    wpAny (MD w) A (eval (.Subscript value (.Slice lower upper (some st) p) pos) env) Q E s := by
  rw [eval_Subscript]
  refine wpAny_bind (wpAny_mono h (fun o s₁ h₁ => wpAny_bind (wpAny_holding (wpAny_mono h₁ (fun i s₂ h₂ => wpAny_bind (wpAny_standAt ?_)) fun _ _ x => x)))
    fun _ _ x => x)
  obtain ⟨hT, hg⟩ := h₂
  first
    | (refine wpAny_bind ?_; rw [getitemInPython_of_ne hT.not_modules]; refine wpAny_bind (wpAny_specialOf hT hl ?_))
    | refine wpAny_bind (wpAny_specialOf hT hl ?_)
  have fin : wpAny (MD w) A (operate [o, i] (getItem o i)) (fun r s₃ => wpAny (MD w) A (letTemporaryGo value o r >>= fun _ => pure r) Q E s₃) E s₂ :=
    wpAny_operating (wpAny_mono hg (fun r s₃ h₃ => wpAny_bind (wpAny_letTemporaryGo (wpAny_pure h₃))) fun _ _ x => x)
  first
    | exact wpAny_pure (wpAny_bind fin)
    | exact wpAny_bind (wpAny_pure (wpAny_bind fin))
    | exact wpAny_bind fin
/-- a new slice object, then the new list -/
theorem sliceL {l : Addr} {items : List Value} {vl vu vs : Value} {lo hi st : Option Int} (hl : s.heap.IsList l items.toArray) (hlen : items.length ≤ 1000) (pl : IsPart vl lo) (pu : IsPart vu hi) (ps : IsPart vs st) (h0 : st ≠ some 0)
    (h : ∀ r s', s.heap.get? r = none → s'.heap.get? r = some (lstO (slicePick items.toArray lo hi st).toList 0) → Kp s s' → Q (.ref r) s') :
    ∀ s1 : Shared, s1 = { s with heap := s.heap.push { cls := .type "slice", data := .fields #[vl, vu, vs] } } → s1.TypeIs (.ref l) "list" ∧ wpAny (MD w) A (getItem (.ref l) (.ref s.heap.objs.size)) Q E s1 := by
  rintro s1 rfl
  refine ⟨(hl.push _).typeIs, ?_⟩
  refine wpAny_getItem_list_slice (hl.push _) (Heap.IsSliceOf.new ..) pl pu ps h0 ?_ (by rw [List.size_toArray]; exact Nat.le_trans hlen (by rw [sizeLine_eq]; decide))
  refine h _ _ ?_ (Heap.get?_push_size _ rfl) ⟨fun b o e => Heap.get?_push_of_some _ (Heap.get?_push_of_some _ e), rfl, rfl⟩
  refine none_of_le ?_
  show s.heap.objs.size ≤ (s.heap.push _).objs.size
  rw [Heap.size_push]; exact Nat.le_succ _
end
end Mine
end TextS1
section TextS2
namespace Mine
open PySem PySem.W PySem.Calls PyProof.Rows PySem.Spec
theorem compTurn2a (elt t0 i0 t1 i1 : Expr) (scope : Scope) (pos : Pos) (it acc : Value) (env : Env) :
    compTurn (.ListComp elt [⟨t0, i0, [], 0⟩, ⟨t1, i1, [], 0⟩] scope pos) 0 it acc env = (do
      standAt i0.pos
      match ← pyNext it with
      | none => pure (.done .next)
      | some v =>
        letOwnedTupleGo t0 it v
        assign t0 env v
        let x ← eval i1 env
        standAt i1.pos
        let x ← foldedSetIterable i1 env x
        let _ ← runOwn (.compStart (.ListComp elt [⟨t0, i0, [], 0⟩, ⟨t1, i1, [], 0⟩] scope pos) 1 (← holding [x] (pyIter x)) acc env) env
        again (.compLoop (.ListComp elt [⟨t0, i0, [], 0⟩, ⟨t1, i1, [], 0⟩] scope pos) 0 it acc env)) := by rfl
theorem compTurn2b (elt t0 i0 t1 i1 : Expr) (scope : Scope) (pos : Pos) (it acc : Value) (env : Env) :
    compTurn (.ListComp elt [⟨t0, i0, [], 0⟩, ⟨t1, i1, [], 0⟩] scope pos) 1 it acc env = (do
      standAt i1.pos
      match ← pyNext it with
      | none => pure (.done .next)
      | some v =>
        letOwnedTupleGo t1 it v
        assign t1 env v
        (do let _ ← call (.builtin "list.append") [acc, ← eval elt env])
        again (.compLoop (.ListComp elt [⟨t0, i0, [], 0⟩, ⟨t1, i1, [], 0⟩] scope pos) 1 it acc env)) := by rfl
section
variable {w : World} {A : Around} {s : Shared} {R : Result → Shared → Prop}
theorem comp2a {elt t0 i0 t1 i1 : Expr} {scope : Scope} {pos : Pos} {it acc : Value} {env : Env} (hs : ∀ x, foldedSetIterable i1 env x = pure x)
    (h : wpAny (MD w) A (pyNext it) (fun r s₁ => match r with
      | none => R (.ok .next) s₁
      | some v => wpAny (MD w) A (letOwnedTupleGo t0 it v) (fun _ s₁' => wpAny (MD w) A (assign t0 env v) (fun _ s₂ =>
          wpAny (MD w) A (eval i1 env) (fun x s₃ => wpAny (MD w) A (pyIter x) (fun it' s₄ =>
            codeAny (MD w) A (.compStart (.ListComp elt [⟨t0, i0, [], 0⟩, ⟨t1, i1, [], 0⟩] scope pos) 1 it' acc env) (fun r s₅ => match r with
              | .ok _ => codeAny (MD w) A (.compLoop (.ListComp elt [⟨t0, i0, [], 0⟩, ⟨t1, i1, [], 0⟩] scope pos) 0 it acc env) R s₅
              | .error _ => False) s₄) NE s₃) NE s₂) NE s₁') NE s₁) NE s) :
    codeAny (MD w) A (.compLoop (.ListComp elt [⟨t0, i0, [], 0⟩, ⟨t1, i1, [], 0⟩] scope pos) 0 it acc env) R s := by
  refine codeAny_of_tree ?_
  show wpAny _ A ((compTurn (.ListComp elt [⟨t0, i0, [], 0⟩, ⟨t1, i1, [], 0⟩] scope pos) 0 it acc env).onRaise (fun x => do noteFrame x env; theTreesLotGoes x)) _ _ s
  refine wpAny_noted (wpAny_noRaise ?_)
  rw [compTurn2a]
  refine wpAny_bind (wpAny_standAt (wpAny_bind (wpAny_mono h (fun r s₁ h₁ => ?_) fun _ _ h' => h')))
  cases r with
  | none => exact wpAny_pure h₁
  | some v =>
    refine wpAny_bind (wpAny_mono h₁ (fun _ s₁' h₁' => ?_) fun _ _ h' => h')
    refine wpAny_bind (wpAny_mono h₁' (fun _ s₂ h₂ => ?_) fun _ _ h' => h')
    refine wpAny_bind (wpAny_mono h₂ (fun x s₃ h₃ => ?_) fun _ _ h' => h')
    refine wpAny_bind (wpAny_standAt (wpAny_bind (wpAny_of_eq (hs x) ?_)))
    refine wpAny_bind (wpAny_holding (wpAny_mono h₃ (fun it' s₄ h₄ => ?_) fun _ _ h' => h'))
    refine wpAny_bind (wpAny_runOwn (codeAny_mono h₄ fun r s₅ h₅ => ?_))
    cases r with
    | ok f => exact wpAny_pure ⟨rfl, h₅⟩
    | error e => exact h₅.elim
theorem comp2b {elt t0 i0 t1 i1 : Expr} {scope : Scope} {pos : Pos} {it acc : Value} {env : Env}
    (h : wpAny (MD w) A (pyNext it) (fun r s₁ => match r with
      | none => R (.ok .next) s₁
      | some v => wpAny (MD w) A (letOwnedTupleGo t1 it v) (fun _ s₁' => wpAny (MD w) A (assign t1 env v) (fun _ s₂ =>
          wpAny (MD w) A (eval elt env) (fun x s₄ => wpAny (MD w) A (call (.builtin "list.append") [acc, x]) (fun _ s₅ =>
            codeAny (MD w) A (.compLoop (.ListComp elt [⟨t0, i0, [], 0⟩, ⟨t1, i1, [], 0⟩] scope pos) 1 it acc env) R s₅) NE s₄) NE s₂) NE s₁') NE s₁) NE s) :
    codeAny (MD w) A (.compLoop (.ListComp elt [⟨t0, i0, [], 0⟩, ⟨t1, i1, [], 0⟩] scope pos) 1 it acc env) R s := by
  refine codeAny_of_tree ?_
  show wpAny _ A ((compTurn (.ListComp elt [⟨t0, i0, [], 0⟩, ⟨t1, i1, [], 0⟩] scope pos) 1 it acc env).onRaise (fun x => do noteFrame x env; theTreesLotGoes x)) _ _ s
  refine wpAny_noted (wpAny_noRaise ?_)
  rw [compTurn2b]
  refine wpAny_bind (wpAny_standAt (wpAny_bind (wpAny_mono h (fun r s₁ h₁ => ?_) fun _ _ h' => h')))
  cases r with
  | none => exact wpAny_pure h₁
  | some v =>
    refine wpAny_bind (wpAny_mono h₁ (fun _ s₁' h₁' => ?_) fun _ _ h' => h')
    refine wpAny_bind (wpAny_mono h₁' (fun _ s₂ h₂ => ?_) fun _ _ h' => h')
    exact wpAny_bind (wpAny_bind (wpAny_mono h₂ (fun x s₄ h₄ => wpAny_bind (wpAny_mono h₄ (fun _ s₅ h₅ => wpAny_pure (wpAny_pure ⟨rfl, h₅⟩)) fun _ _ h' => h')) fun _ _ h' => h'))
theorem start2 {elt : Expr} {g0 : Comprehension} {t1 i1 : Expr} {scope : Scope} {pos : Pos} {it acc : Value} {env : Env}
    (h0 : codeAny (MD w) A (.compLoop (.ListComp elt [g0, ⟨t1, i1, [], 0⟩] scope pos) 1 it acc env) R s)
    (h : wpAny (MD w) A (pyIter it) (fun it' s' => codeAny (MD w) A (.compLoop (.ListComp elt [g0, ⟨t1, i1, [], 0⟩] scope pos) 1 it' acc env) R s') NE s) :
    codeAny (MD w) A (.compStart (.ListComp elt [g0, ⟨t1, i1, [], 0⟩] scope pos) 1 it acc env) R s := by
  refine codeAny_of_tree ?_
  show wpAny _ _ ((compStart (.ListComp elt [g0, ⟨t1, i1, [], 0⟩] scope pos) 1 it acc env).onRaise (fun x => do noteFrame x env; standAt theWindowsPlace)) _ _ s
  refine wpAny_notedAt (wpAny_noRaise ?_)
  unfold compStart
  show wpAny _ _ (ask >>= _) _ _ s
  refine wpAny_bind (wpAny_askSetting (wpAny_ite ?_))
  split
  · first
      | exact wpAny_bind (wpAny_pure (wpAny_pure (And.intro rfl h0)))
      | exact wpAny_pure (And.intro rfl h0)
  · first
      | exact wpAny_bind (wpAny_rule (wpAny_bind (wpAny_standAt (wpAny_bind (wpAny_mono h (fun it' s' h' => wpAny_pure (And.intro rfl h')) fun _ _ x => x)))))
      | (refine wpAny_bind (wpAny_rule ?_); show wpAny _ _ (standAt i1.pos >>= _) _ _ s; exact wpAny_bind (wpAny_standAt (wpAny_bind (wpAny_mono h (fun it' s' h' => wpAny_pure (And.intro rfl h')) fun _ _ x => x))))
end
end Mine
end TextS2
section TextS3
namespace Mine
open PySem PySem.W PySem.Calls PyProof.Rows PySem.Spec
def insAt (o : List Int) (k : Int) (i : Int) : List Int := o.take i.toNat ++ [k] ++ o.drop i.toNat
def ordStep (os : List (List Int)) (k : Nat) : List (List Int) := os.flatMap fun o => (rangeL 0 1 (k + 1)).map (insAt o k)
def orders (n : Nat) : List (List Int) := (List.range n).foldl ordStep [[]]
/-- the comprehension of _law_orders -/
noncomputable def odComp (w : World) : Expr := match (fdOf w 87).body with
  | .stmts [_, .For _ _ [.Assign _ e _] _ _, _] => e
  | _ => .Constant .none 0 ⟨0, 0, 0, 0⟩
noncomputable def odScope (w : World) : Scope := match odComp w with
  | .ListComp _ _ sc _ => sc
  | _ => (fdOf w 87).scope
noncomputable abbrev odEnv (w : World) (L C : Addr) : Env := compEnvC (odScope w) [(Str.ofString "k", L + 1)] C (callEnvC (fdOf w 87) L 87)
section
variable {w : World} {mg mb : Str → Option Value} {A : Around} {s s₀ : Shared} {ms : List Addr} {R : Result → Shared → Prop}
theorem intsTake {vs : List Value} {xs : List Int} (h : IntsAre vs xs) : ∀ n, IntsAre (vs.take n) (xs.take n) := by
  induction h with
  | nil => intro n; simp; exact .nil
  | cons a t _ ih => intro n; cases n with
    | zero => exact .nil
    | succ n => exact .cons a t (ih n)
theorem intsDrop {vs : List Value} {xs : List Int} (h : IntsAre vs xs) : ∀ n, IntsAre (vs.drop n) (xs.drop n) := by
  induction h with
  | nil => intro n; simp; exact .nil
  | cons a t h ih => intro n; cases n with
    | zero => exact .cons a t h
    | succ n => exact ih n
theorem addL {l b : Addr} {xs ys : List Value} {n n2 : Nat} {Q : Value → Shared → Prop} {E : Value → Shared → Prop} (hl : s.heap.get? l = some (lstO xs n)) (hb : s.heap.get? b = some (lstO ys n2)) (hlen : xs.length + ys.length ≤ 5000)
    (h : ∀ r s', s.heap.get? r = none → s'.heap.get? r = some (lstO (xs ++ ys) 0) → Kp s s' → Q (.ref r) s') : wpAny (MD w) A (binaryOp .Add (.ref l) (.ref b)) Q E s := by
  refine P.add_list hl hb (h _ _ (get_size _) ?_ ⟨fun b o e => Heap.get?_push_of_some _ e, rfl, rfl⟩) ?_
  · rw [Heap.get?_push_size _ rfl]; simp
  · rw [List.size_toArray, List.size_toArray]; exact Nat.le_trans hlen (by rw [sizeLine_eq]; decide)
theorem live_kb {xs ys : List Addr} {s s' : Shared} (k : Kb ys s s') (hx : ∀ h ∈ xs, h ≠ 51 ∧ ∃ o, s.heap.get? h = some o) (hy : ∀ y ∈ ys, ∃ o, s'.heap.get? y = some o) : ∀ h ∈ xs, h ≠ 51 ∧ ∃ o, s'.heap.get? h = some o := fun h hh => by
  obtain ⟨n, o, e⟩ := hx h hh
  by_cases hm : h ∈ ys
  · exact ⟨n, hy h hm⟩
  · exact ⟨n, o, k h o n hm e⟩
theorem notin_live {xs : List Addr} {s : Shared} {r : Addr} (hx : ∀ h ∈ xs, h ≠ 51 ∧ ∃ o, s.heap.get? h = some o) (hr : s.heap.get? r = none) : r ∉ xs := fun h => by
  obtain ⟨_, o, e⟩ := hx r h; rw [hr] at e; cases e
set_option maxHeartbeats 2000000
theorem ordIn {L C D I1 a : Addr} {H : List Addr} {o : List Int} {k : Nat} {t : Tok} (hh : A.handled = none) (O : Ok w mg mb ms s₀) (hC : s₀.heap.get? C = none) (hD : s₀.heap.get? D = none) (hI : s₀.heap.get? I1 = none) (hCH : C ∈ H) (hDH : D ∈ H)
    (hDC : D ≠ C) (hIC : I1 ≠ C) (hID : I1 ≠ D) (hcC : L + 1 ≠ C) (hcD : L + 1 ≠ D) (hcI : L + 1 ≠ I1) (c51 : L + 1 ≠ 51) (hol : o.length ≤ 900) :
    ∀ (n : Nat) (x : Int) (s : Shared) (ys : List Value) (kk : Nat) (cur : List (List Int)) (m : Str → Option Value), Go s₀ s → (∀ h ∈ I1 :: H, h ≠ 51 ∧ ∃ ob, s.heap.get? h = some ob) → s.heap.Ns C m → m "order" = some (.ref a) → SqI "list" (vw (I1 :: H) s.heap) a o → IsRangeIter s.heap I1 x n 1 → s.heap.IsCell (L + 1) (some (.int k t)) →
      s.heap.get? D = some (lstO ys kk) → All2 (fun v xs => ∃ a, v = .ref a ∧ SqI "list" (vw (I1 :: H) s.heap) a xs) ys cur → ys.length + n ≤ 900 → 0 ≤ x → x + n ≤ o.length + 1 →
      (∀ s' ys' kk' m', Go s₀ s' → Kb [I1, C, D] s s' → s'.heap.Ns C m' → s'.heap.get? D = some (lstO ys' kk') → All2 (fun v xs => ∃ a, v = .ref a ∧ SqI "list" (vw (I1 :: H) s'.heap) a xs) ys' (cur ++ (rangeL x 1 n).map (insAt o k)) → R (.ok .next) s') →
      codeAny (MD w) A (.compLoop (odComp w) 1 (.ref I1) (.ref D) (odEnv w L C)) R s := by
  have C51 := O.top.ne51 hC
  have D51 := O.top.ne51 hD
  have I51 := O.top.ne51 hI
  intro n
  induction n with
  | zero =>
    intro x s ys kk cur m G hH hns hm1 ha hit hcell hDy hya hlen h0 h1 kf
    refine comp2b ?_
    refine nextR0 hh hit (by first | assumption | exact ind2 (by assumption) | exact ind1 (by assumption) | exact Nat.le_trans (by assumption) (by decide) | exact Nat.le_of_lt (by assumption) | exact Nat.lt_of_le_of_lt (Nat.le_add_right _ _) (by assumption) | omega) ?_
    intro s6 k6
    refine kf s6 ys kk m (Go.ke G O.top hI k6) (Kb.ke k6 (by first | exact zm0 | exact zm1 | exact zm2 | exact zm3 | exact zm4 | exact zm5 | exact zm6 | exact zm7 | exact zs0 | exact zs1 | exact zs2 | exact zs3 | exact zn0 | exact zn1 (by decide) | simp)) (ns_ke hns k6 (Ne.symm hIC)) (k6.1 _ _ (Ne.symm hID) hDy) ?_
    have le : Le (vw (I1 :: H) s.heap) (vw (I1 :: H) s6.heap) := vw_kb (Kb.ke k6 (xs := [I1]) (by first | exact zm0 | exact zm1 | exact zm2 | exact zm3 | exact zm4 | exact zm5 | exact zm6 | exact zm7 | exact zs0 | exact zs1 | exact zs2 | exact zs3 | exact zn0 | exact zn1 (by decide) | simp)) (by first | exact zm0 | exact zm1 | exact zm2 | exact zm3 | exact zm4 | exact zm5 | exact zm6 | exact zm7 | exact zs0 | exact zs1 | exact zs2 | exact zs3 | exact zn0 | exact zn1 (by decide) | simp)
    simp only [rangeL, List.range_zero, List.map_nil, List.append_nil]
    exact hya.imp fun v u ⟨a, e, x⟩ => ⟨a, e, x.mono le⟩
  | succ n ih =>
    intro x s ys kk cur m G hH hns hm1 ha hit hcell hDy hya hlen h0 h1 kf
    refine comp2b ?_
    refine nextR hit (by push_cast; omega) ?_
    intro tx s6 hit6 k6
    try dsimp only
    have hns6 := ns_ke hns k6.ke (Ne.symm hIC)
    have G6 := Go.ke G O.top hI k6.ke
    refine wpAny_pure ?_
    refine wpAny_assign_Name ?_
    refine sL (env := odEnv w L C) O G6 hC hns6 ?_
    intro s7 G7 hns7 hs7
    have kb7 : Kb [I1, C] s s7 := (Kb.ke k6.ke (by first | exact zm0 | exact zm1 | exact zm2 | exact zm3 | exact zm4 | exact zm5 | exact zm6 | exact zm7 | exact zs0 | exact zs1 | exact zs2 | exact zs3 | exact zn0 | exact zn1 (by decide) | simp)).trans (Kb.same (a := C) hs7 (by first | exact zm0 | exact zm1 | exact zm2 | exact zm3 | exact zm4 | exact zm5 | exact zm6 | exact zm7 | exact zs0 | exact zs1 | exact zs2 | exact zs3 | exact zn0 | exact zn1 (by decide) | simp))
    have hD7 := kb7 _ _ D51 (by first | exact nin1 (⟨Ne.symm hID, hDC⟩) | exact ninp (⟨Ne.symm hID, hDC⟩) | exact nin3 (⟨Ne.symm hID, hDC⟩) | exact zall1 (⟨Ne.symm hID, hDC⟩) | exact zall2 (⟨Ne.symm hID, hDC⟩) | exact zall3 (⟨Ne.symm hID, hDC⟩) | exact zall4 (⟨Ne.symm hID, hDC⟩) | (simp; exact ⟨Ne.symm hID, hDC⟩)) hDy
    have hit7 := hs7.extBut _ _ hIC hit6
    have hc7 := cell_at (h' := s7.heap) hcell fun o e => kb7 _ o c51 (by first | exact nin1 (⟨hcI, hcC⟩) | exact ninp (⟨hcI, hcC⟩) | exact nin3 (⟨hcI, hcC⟩) | exact zall1 (⟨hcI, hcC⟩) | exact zall2 (⟨hcI, hcC⟩) | exact zall3 (⟨hcI, hcC⟩) | exact zall4 (⟨hcI, hcC⟩) | (simp; exact ⟨hcI, hcC⟩)) e
    have le7 : Le (vw (I1 :: H) s.heap) (vw (I1 :: H) s7.heap) := vw_kb kb7 (by first | exact nin1 (.inr hCH) | exact ninp (.inr hCH) | exact nin3 (.inr hCH) | exact zall1 (.inr hCH) | exact zall2 (.inr hCH) | exact zall3 (.inr hCH) | exact zall4 (.inr hCH) | (simp; exact .inr hCH))
    have hH7 : ∀ h ∈ I1 :: H, h ≠ 51 ∧ ∃ ob, s7.heap.get? h = some ob := live_kb kb7 hH (by
      intro y hy
      simp only [List.mem_cons, List.not_mem_nil, or_false] at hy
      rcases hy with rfl | rfl
      · exact ⟨_, hit7⟩
      · obtain ⟨o, _, _, e, _⟩ := hns7; exact ⟨o, e⟩)
    obtain ⟨vs, a1, a2⟩ := ha.mono le7
    have hvl : vs.length ≤ 900 := by rw [a2.length]; exact hol
    have hxn : ((x.toNat : Nat) : Int) = x := (by first | exact ind0 (by assumption) (by assumption) | exact ind1 (by assumption) | omega)
    refine wpAny_BinOp ?_
    refine wpAny_BinOp ?_
    refine subSlice slot_list_getitem.lookup ?_
    refine nL hns7 hm1 ?_
    refine wpAny_Slice ?_
    refine wpAny_evalPart_none ?_
    refine wpAny_evalPart_some ?_
    refine nL hns7 rfl ?_
    refine wpAny_evalPart_none ?_
    refine sliceL a1.list (by first | assumption | exact ind2 (by assumption) | exact ind1 (by assumption) | exact Nat.le_trans (by assumption) (by decide) | exact Nat.le_of_lt (by assumption) | exact Nat.lt_of_le_of_lt (Nat.le_add_right _ _) (by assumption) | omega) .none (.int x tx) .none (by first | exact zm0 | exact zm1 | exact zm2 | exact zm3 | exact zm4 | exact zm5 | exact zm6 | exact zm7 | exact zs0 | exact zs1 | exact zs2 | exact zs3 | exact zn0 | exact zn1 (by decide) | simp) ?_ _ rfl
    intro r1 s8 hr1 hl1 k8
    rw [← hxn, slicePick_upto'] at hl1
    refine PyProof.Rows.List_ ?_
    refine args_cons ?_
    refine nC (c := L + 1) rfl (cell_at hc7 fun o e => k8.1 _ o e) ?_
    refine args_nil ?_
    refine mkL (small_list (Nat.le_of_ble_eq_true rfl)) fun r2 s9 hr2 hl2 k9 => ?_
    refine addL (k9.1 _ _ hl1) hl2 (by simp; omega) ?_
    intro r3 s10 hr3 hl3 k10
    have k710 : Kp s7 s10 := ⟨fun b o e => k10.1 b o (k9.1 b o (k8.1 b o e)), k10.2.1.trans (k9.2.1.trans k8.2.1), k10.2.2.trans (k9.2.2.trans k8.2.2)⟩
    have hns10 := hns7.keeps k710.1
    refine subSlice slot_list_getitem.lookup ?_
    refine nL hns10 hm1 ?_
    refine wpAny_Slice ?_
    refine wpAny_evalPart_some ?_
    refine nL hns10 rfl ?_
    refine wpAny_evalPart_none ?_
    refine wpAny_evalPart_none ?_
    refine sliceL (a1.mono (vw_go k710.go)).list (by first | assumption | exact ind2 (by assumption) | exact ind1 (by assumption) | exact Nat.le_trans (by assumption) (by decide) | exact Nat.le_of_lt (by assumption) | exact Nat.lt_of_le_of_lt (Nat.le_add_right _ _) (by assumption) | omega) (.int x tx) .none .none (by first | exact zm0 | exact zm1 | exact zm2 | exact zm3 | exact zm4 | exact zm5 | exact zm6 | exact zm7 | exact zs0 | exact zs1 | exact zs2 | exact zs3 | exact zn0 | exact zn1 (by decide) | simp) ?_ _ rfl
    intro r4 s11 hr4 hl4 k11
    rw [← hxn, slicePick_from'] at hl4
    refine addL (k11.1 _ _ hl3) hl4 (by simp; omega) ?_
    intro r5 s12 hr5 hl5 k12
    have k712 : Kp s7 s12 := ⟨fun b o e => k12.1 b o (k11.1 b o (k710.1 b o e)), k12.2.1.trans (k11.2.1.trans k710.2.1), k12.2.2.trans (k11.2.2.trans k710.2.2)⟩
    have hr57 : s7.heap.get? r5 = none := by
      cases e : s7.heap.get? r5 with
      | none => rfl
      | some ob => have := k11.1 _ _ (k710.1 _ _ e); rw [hr5] at this; cases this
    have hD12 := k712.1 _ _ hD7
    refine append_at (hsz := by rw [List.size_toArray]; exact Nat.le_trans (show _ ≤ 1000 by omega) (by rw [sizeLine_eq]; decide)) hD12 fun h13 hs13 hD13 => ?_
    have c13 : Ch D s12 { s12 with heap := h13 } := ⟨hs13, rfl, rfl⟩
    have hD13' : ({ s12 with heap := h13 } : Shared).heap.get? D = some (lstO (ys ++ [.ref r5]) (kk + 1)) := by rw [hD13, List.push_toArray]
    generalize ({ s12 with heap := h13 } : Shared) = s13 at c13 hD13'
    have G13 := Go.ke (G7.trans k712.go) O.top hD c13.ke
    have kb13 : Kb [I1, C, D] s s13 := ((kb7.sub (by first | exact zm0 | exact zm1 | exact zm2 | exact zm3 | exact zm4 | exact zm5 | exact zm6 | exact zm7 | exact zs0 | exact zs1 | exact zs2 | exact zs3 | exact zn0 | exact zn1 (by decide) | simp)).trans (Kb.of k712)).trans (Kb.ke c13.ke (by first | exact zm0 | exact zm1 | exact zm2 | exact zm3 | exact zm4 | exact zm5 | exact zm6 | exact zm7 | exact zs0 | exact zs1 | exact zs2 | exact zs3 | exact zn0 | exact zn1 (by decide) | simp))
    have hns13 := ns_ke (hns7.keeps k712.1) c13.ke (Ne.symm hDC)
    have hit13 := c13.ke.1 _ _ hID (k712.1 _ _ hit7)
    have hc13 := cell_at (h' := s13.heap) hc7 fun o e => c13.ke.1 _ o hcD (k712.1 _ o e)
    have le13 : Le (vw (I1 :: H) s7.heap) (vw (I1 :: H) s13.heap) := (vw_go k712.go).trans (vw_kb (Kb.ke c13.ke (xs := [D]) (by first | exact zm0 | exact zm1 | exact zm2 | exact zm3 | exact zm4 | exact zm5 | exact zm6 | exact zm7 | exact zs0 | exact zs1 | exact zs2 | exact zs3 | exact zn0 | exact zn1 (by decide) | simp)) (by first | exact nin1 (.inr hDH) | exact ninp (.inr hDH) | exact nin3 (.inr hDH) | exact zall1 (.inr hDH) | exact zall2 (.inr hDH) | exact zall3 (.inr hDH) | exact zall4 (.inr hDH) | (simp; exact .inr hDH)))
    have hr5D : r5 ≠ D := Ne.symm (ne_of_get hD7 hr57)
    refine ih (x + 1) s13 (ys ++ [.ref r5]) (kk + 1) (cur ++ [insAt o k x]) _ G13 ?_ hns13 hm1 ⟨vs, a1.mono le13, a2⟩ ?_ hc13 hD13' ?_ (by rw [List.length_append, List.length_singleton]; omega) (by first | assumption | exact ind2 (by assumption) | exact ind1 (by assumption) | exact Nat.le_trans (by assumption) (by decide) | exact Nat.le_of_lt (by assumption) | exact Nat.lt_of_le_of_lt (Nat.le_add_right _ _) (by assumption) | omega) (by push_cast at h1; omega) ?_
    · refine live_kb kb13 hH (fun y hy => ?_)
      simp only [List.mem_cons, List.not_mem_nil, or_false] at hy
      rcases hy with rfl | rfl | rfl
      · exact ⟨_, hit13⟩
      · obtain ⟨o, _, _, e, _⟩ := hns13; exact ⟨o, e⟩
      · exact ⟨_, hD13'⟩
    · rw [show (((n + 1 : Nat) : Int) - 1) = (n : Int) by push_cast; omega] at hit13
      exact hit13
    · refine (hya.imp fun v u ⟨a, e, x⟩ => ⟨a, e, x.mono (le7.trans le13)⟩).snoc ⟨r5, rfl, _, Sq.ofL (c13.ke.1 _ _ hr5D hl5) ((O.new G7 hr57).2.1) (notin_live hH7 hr57), ?_⟩
      exact ((intsTake a2 _).append (.cons _ _ .nil)).append (intsDrop a2 _)
    · intro s' ys' kk' m' G' kb' hns' hD' ha'
      refine kf s' ys' kk' m' G' (kb13.trans kb') hns' hD' ?_
      rw [rangeL_cons, List.map_cons]
      rw [List.append_assoc] at ha'
      exact ha'
end
end Mine
end TextS3
section TextS4
namespace Mine
open PySem PySem.W PySem.Calls PyProof.Rows PySem.Spec
theorem flat_take_succ {os : List (List Int)} {i : Nat} {o : List Int} {f : List Int → List (List Int)} (h : os[i]? = some o) : (os.take (i + 1)).flatMap f = (os.take i).flatMap f ++ f o := by
  rw [List.take_add_one, h, Option.toList_some, List.flatMap_append]; simp
theorem bd_orders (w : World) (a : Value) : bindArgs (fdOf w 87) ⟨[a], []⟩ = pure [(Str.ofString "n", a)] := by kernel_rfl
section
variable {w : World} {mg mb : Str → Option Value} {A : Around} {s s₀ : Shared} {ms : List Addr} {R : Result → Shared → Prop} {Q E : Value → Shared → Prop}
set_option maxHeartbeats 2000000
theorem ordOut {L C D I0 lo : Addr} {os : List (List Int)} {vs0 : List Value} {k : Nat} {t : Tok} (hh : A.handled = none) (O : Ok w mg mb ms s₀) (hC : s₀.heap.get? C = none) (hD : s₀.heap.get? D = none) (hI : s₀.heap.get? I0 = none)
    (hDC : D ≠ C) (hIC : I0 ≠ C) (hID : I0 ≠ D) (hcell : s₀.heap.IsCell (L + 1) (some (.int k t))) (c51 : L + 1 ≠ 51) (hlo : Sq "list" (vw ms s₀.heap) lo vs0) (hla : All2 (fun v xs => ∃ a, v = .ref a ∧ SqI "list" (vw ms s₀.heap) a xs) vs0 os)
    (hol : ∀ o ∈ os, o.length = k) (hb : os.length * (k + 1) ≤ 900) (hk : k ≤ 900) :
    ∀ (n i : Nat) (s : Shared) (ys : List Value) (kk : Nat) (m : Str → Option Value), os.length - i = n → i ≤ os.length → Go s₀ s → s.heap.Ns C m → s.heap.IsListIter I0 lo i → s.heap.get? D = some (lstO ys kk) →
      All2 (fun v xs => ∃ a, v = .ref a ∧ SqI "list" (vw (I0 :: D :: C :: ms) s.heap) a xs) ys ((os.take i).flatMap fun o => (rangeL 0 1 (k + 1)).map (insAt o k)) → ys.length = i * (k + 1) →
      (∀ s' ys' kk' m', Go s₀ s' → s'.heap.Ns C m' → s'.heap.get? D = some (lstO ys' kk') → All2 (fun v xs => ∃ a, v = .ref a ∧ SqI "list" (vw (I0 :: D :: C :: ms) s'.heap) a xs) ys' (ordStep os k) → R (.ok .next) s') →
      codeAny (MD w) A (.compLoop (odComp w) 0 (.ref I0) (.ref D) (odEnv w L C)) R s := by
  have C51 := O.top.ne51 hC
  have D51 := O.top.ne51 hD
  have I51 := O.top.ne51 hI
  intro n
  induction n with
  | zero =>
    intro i s ys kk m hn hi G hns hit hDy hya hyl kf
    have hie : i = os.length := (by first | exact ind0 (by assumption) (by assumption) | exact ind1 (by assumption) | omega)
    refine comp2a (by intro x; rfl) ?_
    refine nextL0 hh hit (hlo.mono (vw_go G)).list (by rw [hie, ← hla.length]; simp) ?_
    intro s6 k6
    refine kf s6 ys kk m (Go.ke G O.top hI k6) (ns_ke hns k6 (Ne.symm hIC)) (k6.1 _ _ (Ne.symm hID) hDy) ?_
    have le : Le (vw (I0 :: D :: C :: ms) s.heap) (vw (I0 :: D :: C :: ms) s6.heap) := vw_kb (Kb.ke k6 (xs := [I0]) (by first | exact zm0 | exact zm1 | exact zm2 | exact zm3 | exact zm4 | exact zm5 | exact zm6 | exact zm7 | exact zs0 | exact zs1 | exact zs2 | exact zs3 | exact zn0 | exact zn1 (by decide) | simp)) (by first | exact zm0 | exact zm1 | exact zm2 | exact zm3 | exact zm4 | exact zm5 | exact zm6 | exact zm7 | exact zs0 | exact zs1 | exact zs2 | exact zs3 | exact zn0 | exact zn1 (by decide) | simp)
    rw [hie, List.take_length] at hya
    exact hya.imp fun v u ⟨a, e, x⟩ => ⟨a, e, x.mono le⟩
  | succ n ih =>
    intro i s ys kk m hn hi G hns hit hDy hya hyl kf
    have hlt : i < os.length := (by first | exact ind0 (by assumption) (by assumption) | exact ind1 (by assumption) | omega)
    obtain ⟨o, ho⟩ : ∃ o, os[i]? = some o := ⟨os[i], by simp [hlt]⟩
    obtain ⟨_, hvi, a, rfl, ea⟩ := hla.get ho
    have hok := hol o (List.mem_of_getElem? ho)
    refine comp2a (by intro x; rfl) ?_
    refine nextL hit (hlo.mono (vw_go G)).list hvi ?_
    intro s6 hit6 k6
    try dsimp only
    have hns6 := ns_ke hns k6.ke (Ne.symm hIC)
    have G6 := Go.ke G O.top hI k6.ke
    refine wpAny_pure ?_
    refine wpAny_assign_Name ?_
    refine sL (env := odEnv w L C) O G6 hC hns6 ?_
    intro s7 G7 hns7 hs7
    have kb7 : Kb [I0, C] s s7 := (Kb.ke k6.ke (by first | exact zm0 | exact zm1 | exact zm2 | exact zm3 | exact zm4 | exact zm5 | exact zm6 | exact zm7 | exact zs0 | exact zs1 | exact zs2 | exact zs3 | exact zn0 | exact zn1 (by decide) | simp)).trans (Kb.same (a := C) hs7 (by first | exact zm0 | exact zm1 | exact zm2 | exact zm3 | exact zm4 | exact zm5 | exact zm6 | exact zm7 | exact zs0 | exact zs1 | exact zs2 | exact zs3 | exact zn0 | exact zn1 (by decide) | simp))
    have hD7 := kb7 _ _ D51 (by first | exact nin1 (⟨Ne.symm hID, hDC⟩) | exact ninp (⟨Ne.symm hID, hDC⟩) | exact nin3 (⟨Ne.symm hID, hDC⟩) | exact zall1 (⟨Ne.symm hID, hDC⟩) | exact zall2 (⟨Ne.symm hID, hDC⟩) | exact zall3 (⟨Ne.symm hID, hDC⟩) | exact zall4 (⟨Ne.symm hID, hDC⟩) | (simp; exact ⟨Ne.symm hID, hDC⟩)) hDy
    have hit7 := hit6.extBut hs7.extBut hIC
    have hc7 := cell_at (h' := s7.heap) hcell fun o e => G7.keep _ o c51 e
    have le7 : Le (vw (I0 :: D :: C :: ms) s.heap) (vw (I0 :: D :: C :: ms) s7.heap) := vw_kb kb7 (by first | exact zm0 | exact zm1 | exact zm2 | exact zm3 | exact zm4 | exact zm5 | exact zm6 | exact zm7 | exact zs0 | exact zs1 | exact zs2 | exact zs3 | exact zn0 | exact zn1 (by decide) | simp)
    refine PyProof.Rows.Call_ ?_
    refine nB (O.top.go G7) (g_range w) ?_
    refine PyProof.Rows.callWith_type1 ?_
    refine args_cons ?_
    refine wpAny_BinOp ?_
    refine nC (c := L + 1) rfl hc7 ?_
    refine wpAny_Constant_int ?_
    refine add_int ?_
    refine args_nil ?_
    refine rng1 ?_
    intro rr t1 t2 t3 s8 hrr hr8 k8
    obtain ⟨z1, z2⟩ := rsz (k + 1) (by first | assumption | exact ind2 (by assumption) | exact ind1 (by assumption) | exact Nat.le_of_lt (by assumption) | exact Nat.lt_of_le_of_lt (Nat.le_add_right _ _) (by assumption) | omega)
    rw [show ((k : Int) + 1) = ((k + 1 : Nat) : Int) by push_cast; rfl] at hr8
    refine iterR hr8 z2 z1 ?_
    intro I1 s9 hI1 hit9 k9
    have G8 : Go s₀ s8 := Go.trans (s' := { s7 with toks := _ }) G7 k8.go
    have k79 : Kp s7 s9 := ⟨fun b o e => k9.1 b o (k8.1 b o e), k9.2.1.trans k8.2.1, k9.2.2.trans k8.2.2⟩
    have G9 := G7.trans k79.go
    have NI1 := O.new G8 hI1
    have hns9 := hns7.keeps k79.1
    have hD9 := k79.1 _ _ hD7
    have hit09 : s9.heap.IsListIter I0 lo (i + 1) := hit7.at fun o e => k79.1 _ o e
    have hc9 := cell_at (h' := s9.heap) hc7 fun o e => k79.1 _ o e
    have h17 : s7.heap.get? I1 = none := by
      cases e : s7.heap.get? I1 with
      | none => rfl
      | some ob => have := k8.1 _ _ e; rw [hI1] at this; cases this
    have nIC : I1 ≠ C := by obtain ⟨o, _, _, e, _⟩ := hns7; exact Ne.symm (ne_of_get e h17)
    have nID : I1 ≠ D := Ne.symm (ne_of_get hD7 h17)
    have nII : I0 ≠ I1 := by obtain ⟨o, e, _⟩ := hit7; exact ne_of_get e h17
    have live9 : ∀ h ∈ I1 :: I0 :: D :: C :: ms, h ≠ 51 ∧ ∃ ob, s9.heap.get? h = some ob := by
      intro h hh'
      rcases List.mem_cons.mp hh' with rfl | hh'
      · exact ⟨NI1.2.1, _, hit9⟩
      rcases List.mem_cons.mp hh' with rfl | hh'
      · obtain ⟨o, e, _⟩ := hit09; exact ⟨I51, o, e⟩
      rcases List.mem_cons.mp hh' with rfl | hh'
      · exact ⟨D51, _, hD9⟩
      rcases List.mem_cons.mp hh' with rfl | hh'
      · obtain ⟨o, _, _, e, _⟩ := hns9; exact ⟨C51, o, e⟩
      · exact (O.go G9).2.2 h hh'
    have cC : L + 1 ≠ C := by obtain ⟨o, e, _⟩ := hcell; exact ne_of_get e hC
    have cD : L + 1 ≠ D := by obtain ⟨o, e, _⟩ := hcell; exact ne_of_get e hD
    have cI : L + 1 ≠ I1 := by obtain ⟨o, e, _⟩ := hcell; exact ne_of_get e NI1.1
    have le9 : Le (vw (I0 :: D :: C :: ms) s.heap) (vw (I1 :: I0 :: D :: C :: ms) s9.heap) := le7.trans (vw_more [I1] k79.go (by simpa using h17))
    have lo9 : Le (vw ms s₀.heap) (vw (I1 :: I0 :: D :: C :: ms) s9.heap) := vw_more [I1, I0, D, C] G9 (by first | exact nin1 (⟨NI1.1, hI, hD, hC⟩) | exact ninp (⟨NI1.1, hI, hD, hC⟩) | exact nin3 (⟨NI1.1, hI, hD, hC⟩) | exact zall1 (⟨NI1.1, hI, hD, hC⟩) | exact zall2 (⟨NI1.1, hI, hD, hC⟩) | exact zall3 (⟨NI1.1, hI, hD, hC⟩) | exact zall4 (⟨NI1.1, hI, hD, hC⟩) | (simp; exact ⟨NI1.1, hI, hD, hC⟩))
    have hbb : (i + 1) * (k + 1) ≤ 900 := Nat.le_trans (Nat.mul_le_mul_right _ hlt) hb
    refine (fun lp => start2 lp (wpAny_pyIter_rangeiter hit9 lp)) ?_
    refine ordIn (H := I0 :: D :: C :: ms) (a := a) (o := o) (t := t) hh O hC hD NI1.1 (by first | exact zm0 | exact zm1 | exact zm2 | exact zm3 | exact zm4 | exact zm5 | exact zm6 | exact zm7 | exact zs0 | exact zs1 | exact zs2 | exact zs3 | exact zn0 | exact zn1 (by decide) | simp) (by first | exact zm0 | exact zm1 | exact zm2 | exact zm3 | exact zm4 | exact zm5 | exact zm6 | exact zm7 | exact zs0 | exact zs1 | exact zs2 | exact zs3 | exact zn0 | exact zn1 (by decide) | simp) hDC nIC nID cC cD cI c51 (by omega) (k + 1) 0 s9 ys kk _ _ G9 live9 hns9 rfl (ea.mono lo9) hit9 hc9 hD9 (hya.imp fun v u ⟨a, e, x⟩ => ⟨a, e, x.mono le9⟩)
      (by rw [hyl]; rw [Nat.succ_mul] at hbb; exact hbb) (by decide) (by push_cast; omega) ?_
    intro s10 ys' kk' m' G10 kb10 hns10 hD10 ha10
    try dsimp only
    rw [← flat_take_succ ho] at ha10
    have hy' := ha10.length
    refine ih (i + 1) s10 ys' kk' m' (by omega) hlt G10 hns10 (hit09.at fun o e => kb10 _ o I51 (by first | exact nin1 (⟨nII, hIC, hID⟩) | exact ninp (⟨nII, hIC, hID⟩) | exact nin3 (⟨nII, hIC, hID⟩) | exact zall1 (⟨nII, hIC, hID⟩) | exact zall2 (⟨nII, hIC, hID⟩) | exact zall3 (⟨nII, hIC, hID⟩) | exact zall4 (⟨nII, hIC, hID⟩) | (simp; exact ⟨nII, hIC, hID⟩)) e) hD10 (ha10.imp fun v u ⟨a, e, x⟩ => ⟨a, e, x.mono (vw_less [I1])⟩) ?_ kf
    rw [hy', flat_take_succ ho, List.length_append, ← hya.length, hyl, List.length_map, Nat.succ_mul]
    simp [rangeL]
end
end Mine
end TextS4
section TextS5
namespace Mine
open PySem PySem.W PySem.Calls PyProof.Rows PySem.Spec
theorem orders_succ (n : Nat) : orders (n + 1) = ordStep (orders n) n := by
  unfold orders; rw [List.range_succ, List.foldl_append]; rfl
theorem orders_ok : ∀ j, j < 4 → (orders j).length * (j + 1) ≤ 900 ∧ ∀ o ∈ orders j, o.length = j := by decide
section
variable {w : World} {mg mb : Str → Option Value} {A : Around} {s s₀ : Shared} {ms : List Addr} {Q E : Value → Shared → Prop} {env : Env}
theorem newEnv0 {gl : Addr} {cl : List (Str × Addr)} {qual : Str} {Q : Env → Shared → Prop} {scope : Scope} (hc : ∀ x ∈ scope.names, x.2 ≠ .cell) (hk : scope.kind = .function)
    (h : ∀ C s', s.heap.get? C = none → s'.heap.Ns C (fun _ => none) → Kp s s' → Q (newEnv scope C gl cl qual none .none (some env) builtinsNs) s') :
    wpAny (MD w) A (newFunctionEnv scope gl cl [] qual none .none (some env)) Q E s := by
  refine wpAny_newFunctionEnv hc (by intro y hy; simp at hy) (fun h₁ hns₁ hsb₁ => ?_) hk
  refine h _ _ (get_size _) hns₁ ⟨fun b o e => hsb₁.extBut b o (Nat.ne_of_lt (Heap.lt_size e)) (Heap.get?_push_of_some _ e), rfl, rfl⟩
theorem asgComp {elt t0 i0 t1 i1 : Expr} {scope : Scope} {cl : List (Str × Addr)} {pos spos py : Pos} {y : Str} {Q : Flow → Shared → Prop}
    (hsw : swapsWith (.ListComp elt [⟨t0, i0, [], 0⟩, ⟨t1, i1, [], 0⟩] scope pos) (some (.Name y py)) spos.line env = pure true)
    (hclos : closureFor scope env = pure cl) (hkind : scope.kind = .function) (hnames : ∀ x ∈ scope.names, x.2 = .local → scope.names.lookup x.1 = some .local) (hs : ∀ x, foldedSetIterable i0 env x = pure x)
    (h : wpAny (MD w) A (eval i0 env) (fun x s₁ => wpAny (MD w) A (pyIter x) (fun it s₂ => wpAny (MD w) A (newList []) (fun acc s₃ => wpAny (MD w) A (newFunctionEnv scope env.globals cl [] env.qual none .none (some env)) (fun cenv s₄ =>
      codeAny (MD w) A (.compStart (.ListComp elt [⟨t0, i0, [], 0⟩, ⟨t1, i1, [], 0⟩] scope pos) 0 it acc { cenv with scope := relabel scope env }) (fun r s' => match r with
        | .ok _ => wpAny (MD w) A (storeName env y acc) (fun _ s'' => ∃ m, s''.heap.Ns cenv.locals m ∧ ∀ h', Heap.SameBut cenv.locals s''.heap h' → Q .next { s'' with heap := h' }) E s'
        | .error _ => False) s₄) E s₃) E s₂) E s₁) E s) :
    wpAny (MD w) A (exec (.Assign [.Name y py] (.ListComp elt [⟨t0, i0, [], 0⟩, ⟨t1, i1, [], 0⟩] scope pos) spos) env) Q E s := by
  rw [exec_Assign_Name_used _ _ _ _ hsw]
  refine wpAny_bind (wpAny_standAt (wpAny_bind ?_))
  show wpAny _ A (do let _ ← comprehension (.ListComp elt [⟨t0, i0, [], 0⟩, ⟨t1, i1, [], 0⟩] scope pos) scope env _ (newList []) false (eval i0 env) (some (assign (.Name y py) env))) _ _ s
  refine wpAny_bind (wpAny_mono (wpAny_comprehension_free (use := some (assign (.Name y py) env)) (Q := fun _ s' => Q .next s') rfl hs hclos hkind hnames ?_) (fun _ s' hq => wpAny_pure (wpAny_pure hq)) fun _ _ e => e)
  refine wpAny_mono h (fun xv s₁ h₁ => wpAny_mono h₁ (fun it s₂ h₂ => wpAny_mono h₂ (fun acc s₃ h₃ => wpAny_mono h₃ (fun cenv s₄ h₄ => codeAny_mono h₄ fun r s' hr => ?_) fun _ _ e => e) fun _ _ e => e) fun _ _ e => e) fun _ _ e => e
  cases r with
  | ok f => exact wpAny_assign_Name hr
  | error e => exact hr.elim
set_option maxHeartbeats 2000000
theorem orders_spec {n : Nat} {t : Tok} (O : Ok w mg mb ms s) (hA : Fit A 20 60) (hn4 : n ≤ 4)
    (k : ∀ r s', Go s s' → s.heap.get? r = none → IntLL (vw ms s'.heap) r (orders n) → Q (.ref r) s') : wpAny (MD w) A (call (.ref 87) [.int n t]) Q E s := by
  refine call_fn O hA.room rfl rfl rfl rfl (bd_orders _ _) rfl rfl ?_
  intro L s1 hL G hns hc hpw
  obtain ⟨cN, cL, hcell⟩ := hc (Str.ofString "k") (L + 1) rfl
  have L51 := O.top.ne51 hL
  have c51 := O.top.ne51 cN
  refine wpAny_execs_cons ?_
  refine wpAny_Assign_Name ?_
  refine PyProof.Rows.List_ ?_
  refine args_cons ?_
  refine PyProof.Rows.List_ ?_
  refine args_nil ?_
  refine mkL (small_list (Nat.le_of_ble_eq_true rfl)) fun a0 s2 ha0 hao0 k2 => ?_
  refine args_nil ?_
  refine mkL (small_list (Nat.le_of_ble_eq_true rfl)) fun lo s3 hlo hlo3 k3 => ?_
  have k13 : Kp s1 s3 := ⟨fun b o e => k3.1 b o (k2.1 b o e), k3.2.1.trans k2.2.1, k3.2.2.trans k2.2.2⟩
  have G3 := G.trans k13.go
  have N0 := O.new G ha0
  have NL := O.new (G.trans k2.go) hlo
  have h0L : a0 ≠ L := by obtain ⟨o, _, _, e, _⟩ := hns; exact Ne.symm (ne_of_get e ha0)
  have hlL : lo ≠ L := by obtain ⟨o, _, _, e, _⟩ := hns; exact Ne.symm (ne_of_get (k2.1 _ _ e) hlo)
  refine sL O G3 hL (hns.keeps k13.1) ?_
  intro s4 G4 hns4 hs4
  have hcell4 := cell_at (h' := s4.heap) hcell fun o e => hs4.extBut _ o cL (k13.1 _ o e)
  have h1c : a0 ≠ L + 1 := by obtain ⟨o, e, _⟩ := hcell; exact Ne.symm (ne_of_get e ha0)
  have h2c : lo ≠ L + 1 := by obtain ⟨o, e, _⟩ := hcell; exact Ne.symm (ne_of_get (k2.1 _ _ e) hlo)
  have hLL : IntLL (vw (L :: (L + 1) :: ms) s4.heap) lo (orders 0) := ⟨[.ref a0], Sq.ofL (hs4.extBut _ _ hlL hlo3) NL.2.1 (by first | exact nin1 (⟨hlL, h2c, NL.2.2⟩) | exact ninp (⟨hlL, h2c, NL.2.2⟩) | exact nin3 (⟨hlL, h2c, NL.2.2⟩) | exact zall1 (⟨hlL, h2c, NL.2.2⟩) | exact zall2 (⟨hlL, h2c, NL.2.2⟩) | exact zall3 (⟨hlL, h2c, NL.2.2⟩) | exact zall4 (⟨hlL, h2c, NL.2.2⟩) | (simp; exact ⟨hlL, h2c, NL.2.2⟩)), .cons ⟨a0, rfl, [], Sq.ofL (hs4.extBut _ _ h0L (k3.1 _ _ hao0)) N0.2.1 (by first | exact nin1 (⟨h0L, h1c, N0.2.2⟩) | exact ninp (⟨h0L, h1c, N0.2.2⟩) | exact nin3 (⟨h0L, h1c, N0.2.2⟩) | exact zall1 (⟨h0L, h1c, N0.2.2⟩) | exact zall2 (⟨h0L, h1c, N0.2.2⟩) | exact zall3 (⟨h0L, h1c, N0.2.2⟩) | exact zall4 (⟨h0L, h1c, N0.2.2⟩) | (simp; exact ⟨h0L, h1c, N0.2.2⟩)), .nil⟩ .nil⟩
  try dsimp only
  refine wpAny_execs_cons ?_
  refine wpAny_For ?_
  refine PyProof.Rows.Call_ ?_
  refine nB (O.top.go G4) (g_range w) ?_
  refine PyProof.Rows.callWith_type1 ?_
  refine args_cons ?_
  refine nL hns4 rfl ?_
  refine args_nil ?_
  refine rng1 ?_
  intro rr t1 t2 t3 s5 hrr hr5 k5
  obtain ⟨z1, z2⟩ := rsz n (by first | assumption | exact ind2 (by assumption) | exact ind1 (by assumption) | exact Nat.le_trans (by assumption) (by decide) | exact Nat.le_of_lt (by assumption) | exact Nat.lt_of_le_of_lt (Nat.le_add_right _ _) (by assumption) | omega)
  refine iterR hr5 z2 z1 ?_
  intro I s6 hI hit6 k6
  have G5 := G4.trans k5.go
  have NI := O.new G5 hI
  have k46 : Kp s4 s6 := ⟨fun b o e => k6.1 b o (k5.1 b o e), k6.2.1.trans k5.2.1, k6.2.2.trans k5.2.2⟩
  have hI4 : s4.heap.get? I = none := by
    cases e : s4.heap.get? I with
    | none => rfl
    | some ob => have := k5.1 _ _ e; rw [hI] at this; cases this
  have hIL : I ≠ L := by obtain ⟨o, _, _, e, _⟩ := hns4; exact Ne.symm (ne_of_get e hI4)
  have hIc : I ≠ L + 1 := by obtain ⟨o, e, _⟩ := hcell4; exact Ne.symm (ne_of_get e hI4)
  refine absR fun R' hR' => ?_
  obtain ⟨j, m, lo', ov, hj, G, hns, m1, hit, hce, hya, hnew⟩ : ∃ (j : Nat) (m : Str → Option Value) (lo' : Addr) (ov : Option Value), j ≤ n ∧ Go s s6 ∧ s6.heap.Ns L m ∧ m "orders" = some (.ref lo') ∧ IsRangeIter s6.heap I (j : Int) ((n - j : Nat) : Int) 1 ∧ s6.heap.IsCell (L + 1) ov ∧
      IntLL (vw (I :: L :: (L + 1) :: ms) s6.heap) lo' (orders j) ∧ s.heap.get? lo' = none :=
    ⟨0, _, lo, _, Nat.zero_le _, G4.trans k46.go, hns4.keeps k46.1, rfl, hit6, cell_at hcell4 fun o e => k46.1 _ o e, hLL.mono (vw_more [I] k46.go (by simpa using hI4)), NL.1⟩
  clear hit6 hLL hI4 k46 hI k6 G5 k5 hr5 hrr hns4 hcell4 G4 hs4 hlo3 k13 G3 k3 k2 hao0 ha0 hlo z1 z2 hcell hc
  rename_i hnsX GX
  clear GX hnsX
  induction hn : n - j generalizing j s6 m lo' ov with
  | zero =>
    have hje : j = n := (by first | exact ind0 (by assumption) (by assumption) | exact ind1 (by assumption) | omega)
    refine for1 ?_
    refine nextR0 hA.h hit (by rw [hn]; decide) ?_
    intro s7 k7
    try dsimp only
    refine wpAny_execs_nil ?_
    refine hR' _ _ ?_
    try dsimp only
    refine wpAny_execs_cons ?_
    refine wpAny_Return_some ?_
    refine nL (ns_ke hns k7 (Ne.symm hIL)) m1 ?_
    have le : Le (vw (I :: L :: (L + 1) :: ms) s6.heap) (vw ms s7.heap) := (vw_kb (Kb.ke k7 (xs := [I]) (by first | exact zm0 | exact zm1 | exact zm2 | exact zm3 | exact zm4 | exact zm5 | exact zm6 | exact zm7 | exact zs0 | exact zs1 | exact zs2 | exact zs3 | exact zn0 | exact zn1 (by decide) | simp)) (by first | exact zm0 | exact zm1 | exact zm2 | exact zm3 | exact zm4 | exact zm5 | exact zm6 | exact zm7 | exact zs0 | exact zs1 | exact zs2 | exact zs3 | exact zn0 | exact zn1 (by decide) | simp)).trans (vw_less [I, L, L + 1])
    rw [hje] at hya
    exact k lo' s7 (Go.ke G O.top NI.1 k7) hnew (hya.mono le)
  | succ q ih =>
    obtain ⟨b1, b2⟩ := orders_ok j (by first | assumption | exact ind2 (by assumption) | exact ind1 (by assumption) | exact Nat.le_trans (by assumption) (by decide) | exact Nat.le_of_lt (by assumption) | exact Nat.lt_of_le_of_lt (Nat.le_add_right _ _) (by assumption) | omega)
    refine for1 ?_
    refine nextR hit (by rw [hn]; push_cast; omega) ?_
    intro tx s7 hit7 k7
    try dsimp only
    have hns7 := ns_ke hns k7.ke (Ne.symm hIL)
    have G7 := Go.ke G O.top NI.1 k7.ke
    have hc7 := cell_at (h' := s7.heap) hce fun o e => k7.ke.1 _ o (Ne.symm hIc) e
    refine wpAny_pure ?_
    refine wpAny_assign_Name ?_
    refine sC (c := L + 1) O G7 rfl cN hc7 ?_
    intro s8 G8 hc8 hs8
    have hns8 : s8.heap.Ns L m := hns7.at' fun o e => hs8.extBut _ o (Ne.symm cL) e
    have hit8 := hs8.extBut _ _ hIc hit7
    have le8 : Le (vw (I :: L :: (L + 1) :: ms) s6.heap) (vw (I :: L :: (L + 1) :: ms) s8.heap) := (vw_kb (Kb.ke k7.ke (xs := [I]) (by first | exact zm0 | exact zm1 | exact zm2 | exact zm3 | exact zm4 | exact zm5 | exact zm6 | exact zm7 | exact zs0 | exact zs1 | exact zs2 | exact zs3 | exact zn0 | exact zn1 (by decide) | simp)) (by first | exact zm0 | exact zm1 | exact zm2 | exact zm3 | exact zm4 | exact zm5 | exact zm6 | exact zm7 | exact zs0 | exact zs1 | exact zs2 | exact zs3 | exact zn0 | exact zn1 (by decide) | simp)).trans (vw_same hs8 (show L + 1 ∈ _ by simp))
    have O8 : Ok w mg mb (I :: L :: (L + 1) :: ms) s8 := O.more (xs := [I, L, L + 1]) G8 (by
      intro x hx
      simp only [List.mem_cons, List.not_mem_nil, or_false] at hx
      rcases hx with rfl | rfl | rfl
      · exact ⟨NI.1, _, hit8⟩
      · obtain ⟨o, _, _, e, _⟩ := hns8; exact ⟨hL, o, e⟩
      · obtain ⟨o, e, _⟩ := hc8; exact ⟨cN, o, e⟩)
    obtain ⟨vs8, y1, y2⟩ := hya.mono le8
    refine wpAny_execs_cons ?_
    refine asgComp rfl rfl rfl (by decide) (by intro x; rfl) ?_
    refine nL hns8 m1 ?_
    refine iterL y1.list ?_
    intro I0 s9 hI0 hit9 k9
    have G89 : Go s8 s9 := k9.go
    refine mkL (small_list (Nat.le_of_ble_eq_true rfl)) fun D s10 hD hDo k10 => ?_
    refine newEnv0 (by decide) rfl ?_
    intro C s11 hC hnC k11
    have G810 := G89.trans k10.go
    have G811 := G810.trans k11.go
    have n0 := (O8.fresh hI0)
    have nD := O8.new G89 hD
    have nC := O8.new G810 hC
    have hit11 : s11.heap.IsListIter I0 lo' 0 := (hit9.at fun o e => k10.1 _ o e).at fun o e => k11.1 _ o e
    have hDC : D ≠ C := ne_of_get hDo hC
    have hIC0 : I0 ≠ C := by obtain ⟨o, e, _⟩ := hit9; exact ne_of_get (k10.1 _ _ e) hC
    have hID0 : I0 ≠ D := by obtain ⟨o, e, _⟩ := hit9; exact ne_of_get e hD
    refine (fun lp => codeAny_compStart_list lp (wpAny_pyIter_listiter hit11 lp)) ?_
    refine ordOut (os := orders j) (k := j) (t := tx) (lo := lo') (vs0 := vs8) (show (A.deeper (callEnvC (fdOf w 87) L 87)).handled = none from hA.h) O8 nC.1 nD.1 hI0 hDC hIC0 hID0 hc8 c51 y1 y2 b2 b1 (by first | assumption | exact ind2 (by assumption) | exact ind1 (by assumption) | exact Nat.le_trans (by assumption) (by decide) | exact Nat.le_of_lt (by assumption) | exact Nat.lt_of_le_of_lt (Nat.le_add_right _ _) (by assumption) | omega) (orders j).length 0 s11 [] 0 _ rfl (Nat.zero_le _) G811 hnC hit11 (k11.1 _ _ hDo) .nil (by first | exact zm0 | exact zm1 | exact zm2 | exact zm3 | exact zm4 | exact zm5 | exact zm6 | exact zm7 | exact zs0 | exact zs1 | exact zs2 | exact zs3 | exact zn0 | exact zn1 (by decide) | simp) ?_
    intro s12 ys' kk' m' G12 hnC12 hD12 ha12
    have G12' := G8.trans G12
    have hns12 : s12.heap.Ns L m := hns8.at' fun o e => G12.keep _ o L51 e
    have NC0 := O.new G8 nC.1
    have ND0 := O.new G8 nD.1
    have hCL : C ≠ L := by obtain ⟨o, _, _, e, _⟩ := hns8; exact Ne.symm (ne_of_get e nC.1)
    have hDL : D ≠ L := by obtain ⟨o, _, _, e, _⟩ := hns8; exact Ne.symm (ne_of_get e nD.1)
    try dsimp only
    refine sL O G12' hL hns12 ?_
    intro s13 G13 hns13 hs13
    refine ⟨m', hnC12.at' fun o e => hs13.extBut _ o hCL e, fun h' hs' => ?_⟩
    have G14 := G13.set (t := s13.toks) O.top NC0.1 hs'
    have kb14 : Kb [L, C] s12 { s13 with heap := h' } := (Kb.same (a := L) hs13 (by first | exact zm0 | exact zm1 | exact zm2 | exact zm3 | exact zm4 | exact zm5 | exact zm6 | exact zm7 | exact zs0 | exact zs1 | exact zs2 | exact zs3 | exact zn0 | exact zn1 (by decide) | simp)).trans (Kb.same (s := s13) (s' := { s13 with heap := h' }) hs' (List.mem_cons_of_mem _ (List.mem_singleton.mpr rfl)))
    have hns14 : ({ s13 with heap := h' } : Shared).heap.Ns L _ := hns13.at' fun o e => hs'.extBut _ o (Ne.symm hCL) e
    generalize ({ s13 with heap := h' } : Shared) = s14 at G14 kb14 hns14
    have hit14 := kb14 _ _ NI.2.1 (by first | exact nin1 (⟨hIL, ne_of_get hit8 nC.1⟩) | exact ninp (⟨hIL, ne_of_get hit8 nC.1⟩) | exact nin3 (⟨hIL, ne_of_get hit8 nC.1⟩) | exact zall1 (⟨hIL, ne_of_get hit8 nC.1⟩) | exact zall2 (⟨hIL, ne_of_get hit8 nC.1⟩) | exact zall3 (⟨hIL, ne_of_get hit8 nC.1⟩) | exact zall4 (⟨hIL, ne_of_get hit8 nC.1⟩) | (simp; exact ⟨hIL, ne_of_get hit8 nC.1⟩)) (G12.keep _ _ NI.2.1 hit8)
    have hc14 := cell_at (h' := s14.heap) hc8 fun o e => kb14 _ _ c51 (by first | exact nin1 (ne_of_get e nC.1) | exact ninp (ne_of_get e nC.1) | exact nin3 (ne_of_get e nC.1) | exact zall1 (ne_of_get e nC.1) | exact zall2 (ne_of_get e nC.1) | exact zall3 (ne_of_get e nC.1) | exact zall4 (ne_of_get e nC.1) | (simp; exact ne_of_get e nC.1)) (G12.keep _ _ c51 e)
    have hD14 := kb14 _ _ ND0.2.1 (by first | exact nin1 (⟨hDL, hDC⟩) | exact ninp (⟨hDL, hDC⟩) | exact nin3 (⟨hDL, hDC⟩) | exact zall1 (⟨hDL, hDC⟩) | exact zall2 (⟨hDL, hDC⟩) | exact zall3 (⟨hDL, hDC⟩) | exact zall4 (⟨hDL, hDC⟩) | (simp; exact ⟨hDL, hDC⟩)) hD12
    have le14 : Le (vw (I0 :: D :: C :: I :: L :: (L + 1) :: ms) s12.heap) (vw (I :: L :: (L + 1) :: ms) s14.heap) := (vw_kb kb14 (by first | exact zm0 | exact zm1 | exact zm2 | exact zm3 | exact zm4 | exact zm5 | exact zm6 | exact zm7 | exact zs0 | exact zs1 | exact zs2 | exact zs3 | exact zn0 | exact zn1 (by decide) | simp)).trans (vw_less [I0, D, C])
    refine wpAny_execs_nil ?_
    try dsimp only
    refine ih s14 (j + 1) _ D _ (by first | assumption | exact ind2 (by assumption) | exact ind1 (by assumption) | exact Nat.le_trans (by assumption) (by decide) | exact Nat.le_of_lt (by assumption) | exact Nat.lt_of_le_of_lt (Nat.le_add_right _ _) (by assumption) | omega) G14 hns14 rfl ?_ hc14 ⟨ys', Sq.ofL hD14 nD.2.1 nD.2.2, ?_⟩ ND0.1 (by first | assumption | exact ind2 (by assumption) | exact ind1 (by assumption) | exact Nat.le_trans (by assumption) (by decide) | exact Nat.le_of_lt (by assumption) | exact Nat.lt_of_le_of_lt (Nat.le_add_right _ _) (by assumption) | omega)
    · rw [show (((n - j : Nat) : Int) - 1) = ((n - (j + 1) : Nat) : Int) by omega] at hit14
      exact hit14
    · rw [orders_succ]
      exact ha12.imp fun v u ⟨a, e, x⟩ => ⟨a, e, x.mono le14⟩
end
end Mine
end TextS5
section TextV1
namespace Mine
open PySem PySem.W PySem.Calls PyProof.Rows PySem.Spec
theorem bd_sign (w : World) (a b c : Value) : bindArgs (fdOf w 116) ⟨[a, b, c], []⟩ = pure [(Str.ofString "one", a), (Str.ofString "other", b), (Str.ofString "picks", c)] := by kernel_rfl
theorem noPy_abs (x : Int) : Builtin.divisionGoesByPylong x (if x < 0 then -x else x) = false := by
  have h : (if x < 0 then -x else x).natAbs = x.natAbs := by split <;> simp
  unfold Builtin.divisionGoesByPylong
  simp only [h, Bool.and_eq_false_iff, decide_eq_false_iff_not]
  right
  have h2 : ((if x < 0 then -x else x) == 0) = (x == 0) := by
    by_cases hx : x < 0
    · rw [if_pos hx]; exact Bool.eq_iff_iff.mpr (by simp only [beq_iff_eq]; omega)
    · rw [if_neg hx]
  rw [h2]
  omega
theorem fdiv_abs {x : Int} (h : x ≠ 0) : x.fdiv (if x < 0 then -x else x) = if x < 0 then -1 else 1 := by
  by_cases hx : x < 0
  · rw [if_pos hx, if_pos hx]
    have : x = (-1) * (-x) := (by first | exact ind0 (by assumption) (by assumption) | exact ind1 (by assumption) | omega)
    conv => lhs; rw [this]
    rw [show (-(-1 * -x)) = -x by omega]
    exact Int.mul_fdiv_cancel _ (by first | assumption | exact ind2 (by assumption) | exact ind1 (by assumption) | exact Nat.le_trans (by assumption) (by decide) | exact Nat.le_of_lt (by assumption) | exact Nat.lt_of_le_of_lt (Nat.le_add_right _ _) (by assumption) | omega)
  · rw [if_neg hx, if_neg hx]
    exact Int.fdiv_self h
def partsV (pk : List (Int × Int)) (u v : Vec) : List Int := (pk.filter fun cd => u.at cd.1 != v.at cd.1).map fun cd => cd.2 * (u.at cd.1 - v.at cd.1)
/-- the sign of the first part -/
theorem parts_sign (pk : List (Int × Int)) (u v : Vec) (hd : ∀ cd ∈ pk, cd.2 = 1 ∨ cd.2 = -1) :
    (partsV pk u v = [] ∧ cmpV pk u v = 0) ∨ ∃ x r, partsV pk u v = x :: r ∧ x ≠ 0 ∧ cmpV pk u v = if x < 0 then -1 else 1 := by
  induction pk with
  | nil => exact .inl ⟨rfl, rfl⟩
  | cons cd pk ih =>
    obtain ⟨c, d⟩ := cd
    have hd' := hd (c, d) List.mem_cons_self
    simp only at hd'
    have ih := ih fun x hx => hd x (List.mem_cons_of_mem _ hx)
    unfold partsV at ih ⊢
    rw [List.filter_cons, cmpV]
    by_cases hne : u.at c = v.at c
    · simp only [hne, bne_self_eq_false, Bool.false_eq_true, if_false]
      rw [if_neg (by first | assumption | exact ind2 (by assumption) | exact ind1 (by assumption) | exact Nat.le_trans (by assumption) (by decide) | exact Nat.le_of_lt (by assumption) | exact Nat.lt_of_le_of_lt (Nat.le_add_right _ _) (by assumption) | omega), if_neg (by first | assumption | exact ind2 (by assumption) | exact ind1 (by assumption) | exact Nat.le_trans (by assumption) (by decide) | exact Nat.le_of_lt (by assumption) | exact Nat.lt_of_le_of_lt (Nat.le_add_right _ _) (by assumption) | omega)]
      exact ih
    · have : (u.at c != v.at c) = true := by simpa using hne
      simp only [this, if_true, List.map_cons]
      refine .inr ⟨_, _, rfl, ?_, ?_⟩
      · rcases hd' with h | h <;> rw [h] <;> omega
      · rcases hd' with h | h <;> rw [h] <;> by_cases hlt : u.at c < v.at c
        · rw [if_pos hlt, if_pos (by first | assumption | exact ind2 (by assumption) | exact ind1 (by assumption) | exact Nat.le_trans (by assumption) (by decide) | exact Nat.le_of_lt (by assumption) | exact Nat.lt_of_le_of_lt (Nat.le_add_right _ _) (by assumption) | omega)]
        · rw [if_neg hlt, if_pos (by first | assumption | exact ind2 (by assumption) | exact ind1 (by assumption) | exact Nat.le_trans (by assumption) (by decide) | exact Nat.le_of_lt (by assumption) | exact Nat.lt_of_le_of_lt (Nat.le_add_right _ _) (by assumption) | omega), if_neg (by first | assumption | exact ind2 (by assumption) | exact ind1 (by assumption) | exact Nat.le_trans (by assumption) (by decide) | exact Nat.le_of_lt (by assumption) | exact Nat.lt_of_le_of_lt (Nat.le_add_right _ _) (by assumption) | omega)]
        · rw [if_pos hlt, if_neg (by first | assumption | exact ind2 (by assumption) | exact ind1 (by assumption) | exact Nat.le_trans (by assumption) (by decide) | exact Nat.le_of_lt (by assumption) | exact Nat.lt_of_le_of_lt (Nat.le_add_right _ _) (by assumption) | omega)]; omega
        · rw [if_neg hlt, if_pos (by first | assumption | exact ind2 (by assumption) | exact ind1 (by assumption) | exact Nat.le_trans (by assumption) (by decide) | exact Nat.le_of_lt (by assumption) | exact Nat.lt_of_le_of_lt (Nat.le_add_right _ _) (by assumption) | omega), if_pos (by first | assumption | exact ind2 (by assumption) | exact ind1 (by assumption) | exact Nat.le_trans (by assumption) (by decide) | exact Nat.le_of_lt (by assumption) | exact Nat.lt_of_le_of_lt (Nat.le_add_right _ _) (by assumption) | omega)]
section
variable {w : World} {mg mb : Str → Option Value} {A : Around} {s : Shared} {ms : List Addr} {Q E : Value → Shared → Prop} {env : Env}
theorem letOwnL {elts : List Expr} {x1} {pos : Pos} {I T : Addr} {o : Obj} {Q : Unit → Shared → Prop} (ho : s.heap.get? I = some o) (hc : o.cls = .type "list_iterator") (hQ : Q () s) :
    wpAny (MD w) A (letOwnedTupleGo (.Tuple elts x1 pos) (.ref I) (.ref T)) Q E s := by
  unfold letOwnedTupleGo
  refine wpAny_bind (wpAny_load ho ?_)
  rw [hc]
  cases o.data with
  | fields vs =>
    show wpAny _ A (if (["enumerate", "zip", "dict_itemiterator", "dict_reverseitemiterator", "odict_iterator", "itertools.zip_longest", "itertools.pairwise"].contains "list_iterator" && vs[0]? == some (rawInt T)) = true then _ else _) Q E s
    rw [if_neg (by
      intro h
      rw [show (["enumerate", "zip", "dict_itemiterator", "dict_reverseitemiterator", "odict_iterator", "itertools.zip_longest", "itertools.pairwise"].contains "list_iterator") = false from by decide, Bool.false_and] at h
      cases h)]
    exact wpAny_pure hQ
  | _ => exact wpAny_pure hQ
set_option maxHeartbeats 2000000
theorem sign_spec {p q l : Addr} {u v : Vec} {W : Bool} {pk : List (Int × Int)} (O : Ok w mg mb ms s) (hA : Fit A 20 60) (hp : Ent w W (vw ms s.heap) p u) (hq : Ent w W (vw ms s.heap) q v) (hl : Pk (vw ms s.heap) l pk) (hlen : pk.length ≤ 900)
    (hpk : ∀ cd ∈ pk, 0 ≤ cd.1 ∧ cd.1 ≤ 2) (hd : ∀ cd ∈ pk, cd.2 = 1 ∨ cd.2 = -1)
    (k : ∀ t s', Go s s' → Q (.int (cmpV pk u v) t) s') : wpAny (MD w) A (call (.ref 116) [.ref p, .ref q, .ref l]) Q E s := by
  obtain ⟨vs, l1, l2⟩ := id hl
  refine call_fn O hA.room rfl rfl rfl rfl (bd_sign _ _ _ _) rfl rfl ?_
  intro L s1 hL G hns hc hpw
  have L51 := O.top.ne51 hL
  obtain ⟨ce, hce⟩ : ∃ ce, (callEnvC (fdOf w 116) L 116).cells.lookup (Str.ofString "one") = some ce := ⟨_, rfl⟩
  obtain ⟨cc, hcc⟩ : ∃ cc, (callEnvC (fdOf w 116) L 116).cells.lookup (Str.ofString "other") = some cc := ⟨_, rfl⟩
  obtain ⟨e1, e2, e3⟩ := hc _ _ hce
  obtain ⟨d1, d2, d3⟩ := hc _ _ hcc
  have ce51 := O.top.ne51 e1
  have cc51 := O.top.ne51 d1
  have O1 : Ok w mg mb (L :: ms) s1 := O.fr G hL hns
  have le1 : Le (vw ms s.heap) (vw (L :: ms) s1.heap) := vw_more [L] G (by simpa using hL)
  refine wpAny_execs_cons ?_
  refine lcA (mg := mg) (mb := mb) (ms := L :: ms) (ds := pk) (p := fun cd => u.at cd.1 != v.at cd.1) (R := fun cd g y => ∃ t, y = .int (cd.2 * (u.at cd.1 - v.at cd.1)) t) (T := "list_iterator")
    (fun _ _ _ _ _ h => h) (by first | assumption | exact ind2 (by assumption) | exact ind1 (by assumption) | exact Nat.le_trans (by assumption) (by decide) | exact Nat.le_of_lt (by assumption) | exact Nat.lt_of_le_of_lt (Nat.le_add_right _ _) (by assumption) | omega) rfl rfl (by decide) rfl (by decide) (by intro x; rfl) ?_
  refine nL hns rfl ?_
  refine ⟨⟨fun cd v => ∃ a, v = .ref a ∧ SqI "tuple" (vw (L :: ms) s1.heap) a [cd.1, cd.2], fun cd m => ∃ t1 t2, m (Str.ofString "c") = some (.int cd.1 t1) ∧ m (Str.ofString "way") = some (.int cd.2 t2), O1,
    srcL hA.h O1 (Go.refl _) (l1.mono le1).list (vw_iff.mp l1.choose_spec.1).1 (l2.imp fun v u ⟨a, e, x⟩ => ⟨a, e, x.mono le1⟩), ?_, ?_⟩, ?_⟩
  · intro C I i d v' m s3 hd hK hC hn G3 hI
    obtain ⟨a, rfl, avs, q1, q2⟩ := hK
    obtain ⟨o, ho, hoc⟩ := hI
    refine letOwnL ho hoc ?_
    refine unpackT (hA.h : (A.deeper (callEnvC (fdOf w 116) L 116)).handled = none) (q1.mono (vw_go G3)).tup (by rw [q2.length]; rfl) rfl ?_
    intro s4 k4
    obtain ⟨t1, t2, rfl⟩ : ∃ t1 t2, avs = [.int d.1 t1, .int d.2 t2] := by
      cases q2 with
      | cons _ ta h1 => cases h1 with
        | cons _ tb h2 => cases h2; exact ⟨_, _, rfl⟩
    have G4 := G3.trans k4.go
    refine asg ?_
    refine sL (env := compEnvC _ _ C _) O1 G4 hC (hn.keeps k4.1) ?_
    intro s5 G5 hn5 hs5
    refine asg ?_
    refine sL (env := compEnvC _ _ C _) O1 G5 hC hn5 ?_
    intro s6 G6 hn6 hs6
    refine asg0 ?_
    exact ⟨⟨_, hn6, t1, t2, rfl, rfl⟩, G6, ((Kb.of k4).trans (Kb.same (a := C) hs5 (by first | exact zm0 | exact zm1 | exact zm2 | exact zm3 | exact zm4 | exact zm5 | exact zm6 | exact zm7 | exact zs0 | exact zs1 | exact zs2 | exact zs3 | exact zn0 | exact zn1 (by decide) | simp))).trans (Kb.same (a := C) hs6 (by first | exact zm0 | exact zm1 | exact zm2 | exact zm3 | exact zm4 | exact zm5 | exact zm6 | exact zm7 | exact zs0 | exact zs1 | exact zs2 | exact zs3 | exact zn0 | exact zn1 (by decide) | simp))⟩
  · intro C D I cd m s3 hcd hn hM G3 hC hD hI O3
    obtain ⟨t1, t2, hm1, hm2⟩ := hM
    obtain ⟨hb0, hb2⟩ := hpk cd hcd
    have le3 : Le (vw ms s.heap) (vw (I :: D :: C :: L :: ms) s3.heap) := le1.trans (vw_more [I, D, C] G3 (by first | exact nin1 (⟨hI, hD, hC⟩) | exact ninp (⟨hI, hD, hC⟩) | exact nin3 (⟨hI, hD, hC⟩) | exact zall1 (⟨hI, hD, hC⟩) | exact zall2 (⟨hI, hD, hC⟩) | exact zall3 (⟨hI, hD, hC⟩) | exact zall4 (⟨hI, hD, hC⟩) | (simp; exact ⟨hI, hD, hC⟩)))
    have ce3 := cell_at (h' := s3.heap) e3 fun o e => G3.keep _ o ce51 e
    have cc3 := cell_at (h' := s3.heap) d3 fun o e => G3.keep _ o cc51 e
    obtain ⟨lp, jp, tp, ip1, ip2, ip3⟩ := entry_item (hp.mono le3) hb0 hb2
    obtain ⟨lq, jq, tq, iq1, iq2, iq3⟩ := entry_item (hq.mono le3) hb0 hb2
    refine wpAny_tests_one ?_
    refine wpAny_isTrue_Compare1 ?_
    refine PyProof.Rows.Subscript_ ?_
    refine nC (c := ce) hce ce3 ?_
    refine nL hn hm1 ?_
    refine item_tupleT ip1 (by first | assumption | exact ind2 (by assumption) | exact ind1 (by assumption) | exact Nat.le_trans (by assumption) (by decide) | exact Nat.le_of_lt (by assumption) | exact Nat.lt_of_le_of_lt (Nat.le_add_right _ _) (by assumption) | omega) (by first | assumption | exact ind2 (by assumption) | exact ind1 (by assumption) | exact Nat.le_trans (by assumption) (by decide) | exact Nat.le_of_lt (by assumption) | exact Nat.lt_of_le_of_lt (Nat.le_add_right _ _) (by assumption) | omega) ip2 ip3 ?_
    refine PyProof.Rows.Subscript_ ?_
    refine nC (c := cc) hcc cc3 ?_
    refine nL hn hm1 ?_
    refine item_tupleT iq1 (by first | assumption | exact ind2 (by assumption) | exact ind1 (by assumption) | exact Nat.le_trans (by assumption) (by decide) | exact Nat.le_of_lt (by assumption) | exact Nat.lt_of_le_of_lt (Nat.le_add_right _ _) (by assumption) | omega) (by first | assumption | exact ind2 (by assumption) | exact ind1 (by assumption) | exact Nat.le_trans (by assumption) (by decide) | exact Nat.le_of_lt (by assumption) | exact Nat.lt_of_le_of_lt (Nat.le_add_right _ _) (by assumption) | omega) iq2 iq3 ?_
    refine ne_int ?_
    refine wpAny_truthy_bool ?_
    refine ⟨rfl, Go.refl _, fun _ => ?_⟩
    refine wpAny_BinOp ?_
    refine nL hn hm2 ?_
    refine wpAny_BinOp ?_
    refine PyProof.Rows.Subscript_ ?_
    refine nC (c := ce) hce ce3 ?_
    refine nL hn hm1 ?_
    refine item_tupleT ip1 (by first | assumption | exact ind2 (by assumption) | exact ind1 (by assumption) | exact Nat.le_trans (by assumption) (by decide) | exact Nat.le_of_lt (by assumption) | exact Nat.lt_of_le_of_lt (Nat.le_add_right _ _) (by assumption) | omega) (by first | assumption | exact ind2 (by assumption) | exact ind1 (by assumption) | exact Nat.le_trans (by assumption) (by decide) | exact Nat.le_of_lt (by assumption) | exact Nat.lt_of_le_of_lt (Nat.le_add_right _ _) (by assumption) | omega) ip2 ip3 ?_
    refine PyProof.Rows.Subscript_ ?_
    refine nC (c := cc) hcc cc3 ?_
    refine nL hn hm1 ?_
    refine item_tupleT iq1 (by first | assumption | exact ind2 (by assumption) | exact ind1 (by assumption) | exact Nat.le_trans (by assumption) (by decide) | exact Nat.le_of_lt (by assumption) | exact Nat.lt_of_le_of_lt (Nat.le_add_right _ _) (by assumption) | omega) (by first | assumption | exact ind2 (by assumption) | exact ind1 (by assumption) | exact Nat.le_trans (by assumption) (by decide) | exact Nat.le_of_lt (by assumption) | exact Nat.lt_of_le_of_lt (Nat.le_add_right _ _) (by assumption) | omega) iq2 iq3 ?_
    refine sub_int ?_
    refine mul_int ?_ (IntMulOk.of_left (by rcases hd cd hcd with h | h <;> rw [h] <;> decide +kernel))
    exact ⟨Go.refl _, _, rfl⟩
  · intro D C ys kk s3 mC G3 hD hC hCD hnC hDl ha
    have GG := G.trans G3
    have hns3 : s3.heap.Ns L _ := hns.at' fun o e => G3.keep _ o L51 e
    have hDL : D ≠ L := by obtain ⟨o, _, _, e, _⟩ := hns; exact Ne.symm (ne_of_get e hD)
    have hCL : C ≠ L := by obtain ⟨o, _, _, e, _⟩ := hns; exact Ne.symm (ne_of_get e hC)
    have NC := O.new G hC
    refine sL O GG hL hns3 ?_
    intro s4 G4 hns4 hs4
    refine ⟨⟨mC, hnC.at' fun o e => hs4.extBut _ o hCL e⟩, fun h' hs' => ?_⟩
    have G5 := G4.set (t := s4.toks) O.top NC.1 hs'
    have hns5 : ({ s4 with heap := h' } : Shared).heap.Ns L _ := hns4.at' fun o e => hs'.extBut _ o (Ne.symm hCL) e
    have hD5 : ({ s4 with heap := h' } : Shared).heap.get? D = some (lstO ys kk) := hs'.extBut _ _ (Ne.symm hCD) (hs4.extBut _ _ hDL hDl)
    generalize ({ s4 with heap := h' } : Shared) = s5 at G5 hns5 hD5
    have hI : IntsAre ys (partsV pk u v) := all2_ints ha
    have hB : (A.deeper (callEnvC (fdOf w 116) L 116)).units < cLine := (Fit.deeper (hA.le (d' := 11) (u' := 23)) (env := callEnvC (fdOf w 116) L 116)).units
    try dsimp only
    refine wpAny_execs_cons ?_
    refine wpAny_Return_some ?_
    refine wpAny_IfExp ?_
    refine wpAny_isTrue_Compare1 ?_
    refine nL hns5 rfl ?_
    refine PyProof.Rows.List_ ?_
    refine args_nil ?_
    refine mkL (small_list (Nat.le_of_ble_eq_true rfl)) fun Z s6 hZ hZo k6 => ?_
    have G6 := G5.trans k6.go
    have hD6 := k6.1 _ _ hD5
    rcases parts_sign pk u v hd with ⟨h0, h1⟩ | ⟨x, r, h0, hx, h1⟩
    · rw [h0] at hI
      have hz : ys.length = 0 := hI.length
      refine SeqAt.eq_listAt (items := ys.toArray) (items2 := #[]) (e := fun _ => true) ⟨_, hD6, rfl, _, rfl⟩ ⟨_, hZo, rfl, _, rfl⟩ (by simpa using hz) hB (fun j h1 h2 => absurd h2 (by first | exact zm0 | exact zm1 | exact zm2 | exact zm3 | exact zm4 | exact zm5 | exact zm6 | exact zm7 | exact zs0 | exact zs1 | exact zs2 | exact zs3 | exact zn0 | exact zn1 (by decide) | simp)) ?_
      refine wpAny_truthy_bool ?_
      rw [if_pos (by first | exact zm0 | exact zm1 | exact zm2 | exact zm3 | exact zm4 | exact zm5 | exact zm6 | exact zm7 | exact zs0 | exact zs1 | exact zs2 | exact zs3 | exact zn0 | exact zn1 (by decide) | simp)]
      refine wpAny_Constant_int ?_
      rw [h1] at k
      exact k _ _ G6
    · rw [h0] at hI
      obtain ⟨tx, hx0⟩ := hI.get 0 x rfl
      have hne : ¬ ys.length = 0 := by rw [hI.length]; simp
      have hns6 := hns5.keeps k6.1
      refine SeqAt.eq_list_lengthsAt (items := ys.toArray) (items2 := #[]) ⟨_, hD6, rfl, _, rfl⟩ ⟨_, hZo, rfl, _, rfl⟩ (by simpa using hne) hB ?_
      refine wpAny_truthy_bool ?_
      rw [if_neg Bool.false_ne_true]
      refine wpAny_BinOp ?_
      refine PyProof.Rows.Subscript_ ?_
      refine nL hns6 rfl ?_
      refine wpAny_Constant_int ?_
      refine item_listL (l := ys) ⟨_, hD6, rfl, _, rfl⟩ (by decide) (by decide) hx0 ?_
      refine PyProof.Rows.Call_ ?_
      refine nB (O.top.go G6) (g_abs w) ?_
      refine PyProof.Rows.callWith_builtin1 ?_
      refine args_cons ?_
      refine PyProof.Rows.Subscript_ ?_
      refine nL hns6 rfl ?_
      refine wpAny_Constant_int ?_
      refine item_listL (l := ys) ⟨_, hD6, rfl, _, rfl⟩ (by decide) (by decide) hx0 ?_
      refine args_nil ?_
      refine call_abs_int ?_
      intro t7 tk7
      refine PyProof.Rows.floordiv_int (by split <;> omega) ?_ (.inl (noPy_abs x))
      rw [fdiv_abs hx, ← h1]
      exact k _ _ G6
end
end Mine
end TextV1
section TextQ1
namespace Mine
open PySem PySem.W PySem.Calls PyProof.Rows PySem.Spec
open AutoSeq1 (wpAny_loadPart')
open MeetsSeq MeetsSeq2 MeetsSeq3 SeqRoads2
/-- equality told in this world -/
def EqW (w : World) (A : Around) (s : Shared) (y x : Value) (b : Bool) : Prop := ∀ (E : Value → Shared → Prop) (Q : Bool → Shared → Prop), Q b s → wpAny (MD w) A (eqBool y x) Q E s
theorem EqW.of {w : World} {A : Around} {s : Shared} {y x : Value} {b : Bool} (h : SeqAt.EqAt A s y x b) : EqW w A s y x b := fun E Q hq => h PG w E Q hq
abbrev lO (items : Array Value) (n : Nat) (dd : Option Addr := none) (sl : Array (Option Value) := #[]) : Obj := { cls := .type "list", dict := dd, data := .seq items n, slots := sl }
abbrev tO (items : Array Value) (n : Nat) (dd : Option Addr := none) (sl : Array (Option Value) := #[]) : Obj := { cls := .type "tuple", dict := dd, data := .seq items n, slots := sl }
section
variable {w : World}
theorem eqLoopW (l b : Addr) (items items2 : Array Value) (n n2 : Nat) (dd dd2 : Option Addr) (sl sl2 : Array (Option Value)) (hsz : items.size = items2.size) (e : Nat → Bool) (k : Nat) :
    ∀ i : Nat, items.size - i = k → MeetsIn PG w (Builtin.«list.__eq__.loop» ⟨[.ref l, .ref b, rawInt i, rawInt 2], []⟩)
      (fun A R s => s.heap.get? l = some (lO items n dd sl) ∧ s.heap.get? b = some (lO items2 n2 dd2 sl2) ∧ (∀ j (h1 : j < items.size) (h2 : j < items2.size), EqW w A.in1 s items[j] items2[j] (e j)) ∧
        R (.ok (.ret (.bool (((List.range items.size).drop i).all e)))) s) := by
  induction k with
  | zero =>
    intro i hk A R s h
    obtain ⟨hp, g, d, tk, os⟩ := s; obtain ⟨hl, hb, he, h⟩ := h
    wp_walk using wpAny_loadPart' hl, wpAny_loadPart' hb
    have hi1 : items[((i : Nat) : Int).toNat]? = none := by simp; omega
    have hi2 : items2[((i : Nat) : Int).toNat]? = none := by simp; omega
    have hd : (List.range items.size).drop i = [] := by simp; omega
    rw [hd] at h
    rw [hi1, hi2]
    wp_walk using wpAny_loadPart' hl, wpAny_loadPart' hb
    show R (.ok (.ret (.bool (items.size == items2.size)))) _
    rw [hsz]
    simpa using h
  | succ k ih =>
    intro i hk A R s h
    obtain ⟨hp, g, d, tk, os⟩ := s; obtain ⟨hl, hb, he, h⟩ := h
    wp_walk using wpAny_loadPart' hl, wpAny_loadPart' hb
    have hlt : i < items.size := (by first | exact ind0 (by assumption) (by assumption) | exact ind1 (by assumption) | omega)
    have hlt2 : i < items2.size := (by first | exact ind0 (by assumption) (by assumption) | exact ind1 (by assumption) | omega)
    have hi1 : items[((i : Nat) : Int).toNat]? = some items[i] := by simp [hlt]
    have hi2 : items2[((i : Nat) : Int).toNat]? = some items2[i] := by simp [hlt2]
    have hd : (List.range items.size).drop i = i :: (List.range items.size).drop (i + 1) := by simp [List.drop_eq_getElem_cons, hlt]
    have hc : ((i : Int) + 1) = ((i + 1 : Nat) : Int) := by push_cast; rfl
    rw [hd, List.all_cons] at h
    rw [hi1, hi2]
    refine wpAny_bind (he i hlt hlt2 _ _ ?_)
    cases hb' : e i with
    | true =>
      rw [hb'] at h
      wp_walk
      rw [hc]
      exact ⟨plainId_quiet plain_eq_loop _, codeAny_builtin entry_eq_loop (by
        rw [Around.under_plainId plain_eq_loop _]
        exact ih (i + 1) (by first | assumption | exact ind2 (by assumption) | exact ind1 (by assumption) | exact Nat.le_trans (by assumption) (by decide) | exact Nat.le_of_lt (by assumption) | exact Nat.lt_of_le_of_lt (Nat.le_add_right _ _) (by assumption) | omega) A R _ ⟨hl, hb, he, by simpa using h⟩)⟩
    | false =>
      rw [hb'] at h
      wp_walk using wpAny_loadPart' hl, wpAny_loadPart' hb
      rw [hi1, hi2]
      wp_walk
      simpa using h
theorem eqListW (l b : Addr) (items items2 : Array Value) (n n2 : Nat) (dd dd2 : Option Addr) (sl sl2 : Array (Option Value)) (hsz : items.size = items2.size) (e : Nat → Bool) :
    MeetsIn PG w (Builtin.«list.__eq__» ⟨[.ref l, .ref b], []⟩)
      (fun A R s => s.heap.get? l = some (lO items n dd sl) ∧ s.heap.get? b = some (lO items2 n2 dd2 sl2) ∧ (∀ j (h1 : j < items.size) (h2 : j < items2.size), EqW w A.in1 s items[j] items2[j] (e j)) ∧
        R (.ok (.ret (.bool ((List.range items.size).all e)))) s) := by
  intro A R s h
  obtain ⟨hp, g, d, tk, os⟩ := s; obtain ⟨hl, hb, he, h⟩ := h
  have f3 := AutoSeq1.sub_list_list
  have hne : ¬ (items.size != items2.size) = true := by simp [hsz]
  wp_walk using wpAny_loadPart' hl, wpAny_loadPart' hb
  exact ⟨plainId_quiet plain_eq_loop _, codeAny_builtin entry_eq_loop (by
    rw [Around.under_plainId plain_eq_loop _]
    exact eqLoopW l b items items2 n n2 dd dd2 sl sl2 hsz e _ 0 rfl A R _ ⟨hl, hb, he, by simpa using h⟩)⟩
theorem neLoopW (l b : Addr) (items items2 : Array Value) (n n2 : Nat) (dd dd2 : Option Addr) (sl sl2 : Array (Option Value)) (hsz : items.size = items2.size) (e : Nat → Bool) (k : Nat) :
    ∀ i : Nat, items.size - i = k → MeetsIn PG w (Builtin.«list.__eq__.loop» ⟨[.ref l, .ref b, rawInt i, rawInt 3], []⟩)
      (fun A R s => s.heap.get? l = some (lO items n dd sl) ∧ s.heap.get? b = some (lO items2 n2 dd2 sl2) ∧ (∀ j (h1 : j < items.size) (h2 : j < items2.size), EqW w A.in1 s items[j] items2[j] (e j)) ∧
        R (.ok (.ret (.bool (!((List.range items.size).drop i).all e)))) s) := by
  induction k with
  | zero =>
    intro i hk A R s h
    obtain ⟨hp, g, d, tk, os⟩ := s; obtain ⟨hl, hb, he, h⟩ := h
    wp_walk using wpAny_loadPart' hl, wpAny_loadPart' hb
    have hi1 : items[((i : Nat) : Int).toNat]? = none := by simp; omega
    have hi2 : items2[((i : Nat) : Int).toNat]? = none := by simp; omega
    have hd : (List.range items.size).drop i = [] := by simp; omega
    rw [hd] at h
    rw [hi1, hi2]
    wp_walk using wpAny_loadPart' hl, wpAny_loadPart' hb
    show R (.ok (.ret (.bool (items.size != items2.size)))) _
    rw [hsz]
    simpa using h
  | succ k ih =>
    intro i hk A R s h
    obtain ⟨hp, g, d, tk, os⟩ := s; obtain ⟨hl, hb, he, h⟩ := h
    wp_walk using wpAny_loadPart' hl, wpAny_loadPart' hb
    have hlt : i < items.size := (by first | exact ind0 (by assumption) (by assumption) | exact ind1 (by assumption) | omega)
    have hlt2 : i < items2.size := (by first | exact ind0 (by assumption) (by assumption) | exact ind1 (by assumption) | omega)
    have hi1 : items[((i : Nat) : Int).toNat]? = some items[i] := by simp [hlt]
    have hi2 : items2[((i : Nat) : Int).toNat]? = some items2[i] := by simp [hlt2]
    have hd : (List.range items.size).drop i = i :: (List.range items.size).drop (i + 1) := by simp [List.drop_eq_getElem_cons, hlt]
    have hc : ((i : Int) + 1) = ((i + 1 : Nat) : Int) := by push_cast; rfl
    rw [hd, List.all_cons] at h
    rw [hi1, hi2]
    refine wpAny_bind (he i hlt hlt2 _ _ ?_)
    cases hb' : e i with
    | true =>
      rw [hb'] at h
      wp_walk
      rw [hc]
      exact ⟨plainId_quiet plain_eq_loop _, codeAny_builtin entry_eq_loop (by
        rw [Around.under_plainId plain_eq_loop _]
        exact ih (i + 1) (by first | assumption | exact ind2 (by assumption) | exact ind1 (by assumption) | exact Nat.le_trans (by assumption) (by decide) | exact Nat.le_of_lt (by assumption) | exact Nat.lt_of_le_of_lt (Nat.le_add_right _ _) (by assumption) | omega) A R _ ⟨hl, hb, he, by simpa using h⟩)⟩
    | false =>
      rw [hb'] at h
      wp_walk using wpAny_loadPart' hl, wpAny_loadPart' hb
      rw [hi1, hi2]
      wp_walk
      simpa using h
theorem neListW (l b : Addr) (items items2 : Array Value) (n n2 : Nat) (dd dd2 : Option Addr) (sl sl2 : Array (Option Value)) (hsz : items.size = items2.size) (e : Nat → Bool) :
    MeetsIn PG w (Builtin.«list.__ne__» ⟨[.ref l, .ref b], []⟩)
      (fun A R s => s.heap.get? l = some (lO items n dd sl) ∧ s.heap.get? b = some (lO items2 n2 dd2 sl2) ∧ (∀ j (h1 : j < items.size) (h2 : j < items2.size), EqW w A.in1 s items[j] items2[j] (e j)) ∧
        R (.ok (.ret (.bool (!(List.range items.size).all e)))) s) := by
  intro A R s h
  obtain ⟨hp, g, d, tk, os⟩ := s; obtain ⟨hl, hb, he, h⟩ := h
  have f3 := AutoSeq1.sub_list_list
  have hne : ¬ (items.size != items2.size) = true := by simp [hsz]
  wp_walk using wpAny_loadPart' hl, wpAny_loadPart' hb
  exact ⟨plainId_quiet plain_eq_loop _, codeAny_builtin entry_eq_loop (by
    rw [Around.under_plainId plain_eq_loop _]
    exact neLoopW l b items items2 n n2 dd dd2 sl sl2 hsz e _ 0 rfl A R _ ⟨hl, hb, he, by simpa using h⟩)⟩
end
end Mine
end TextQ1
section TextQ2
namespace Mine
open PySem PySem.W PySem.Calls PyProof.Rows PySem.Spec
open AutoSeq1 (wpAny_loadPart')
open MeetsSeq MeetsSeq2 MeetsSeq3 SeqRoads2
section
variable {w : World}
theorem eqTupW (l b : Addr) (items items2 : Array Value) (n n2 : Nat) (dd dd2 : Option Addr) (sl sl2 : Array (Option Value)) (e : Nat → Bool) :
    MeetsIn PG w (Builtin.«tuple.__eq__» ⟨[.ref l, .ref b], []⟩)
      (fun A R s => s.heap.get? l = some (tO items n dd sl) ∧ s.heap.get? b = some (tO items2 n2 dd2 sl2) ∧ (∀ j (h1 : j < items.size) (h2 : j < items2.size), EqW w A.in1 s items[j] items2[j] (e j)) ∧
        R (.ok (.ret (.bool ((List.range (min items.size items2.size)).all e && items.size == items2.size)))) s) :=
  .of_wp fun A R s h => by
    obtain ⟨hp, g, d, tk, os⟩ := s; obtain ⟨hl, hb, he, h⟩ := h
    have f2 := AutoSeq1.sub_tuple_tuple
    have hZ : (items.toList.zip items2.toList).length = min items.size items2.size := by simp
    wp_walk using wpAny_loadPart' hl, wpAny_loadPart' hb, wpAny_forIn_list _ (fun rest b s' => b.1 = none ∧ s' = ⟨hp, g, d, tk, os⟩ ∧ ∃ i, rest = (items.toList.zip items2.toList).drop i ∧
      R (.ok (.ret (.bool (((List.range (min items.size items2.size)).drop i).all e && items.size == items2.size)))) ⟨hp, g, d, tk, os⟩) _
    case turn =>
      rintro ⟨y, x⟩ rest b s' ⟨hb', rfl, i, hz, hR⟩
      have hlt : i < (items.toList.zip items2.toList).length := by
        rcases Nat.lt_or_ge i (items.toList.zip items2.toList).length with h' | h'
        · exact h'
        · rw [List.drop_of_length_le h'] at hz; cases hz
      have hm : i < min items.size items2.size := hZ ▸ hlt
      have h1 : i < items.size := Nat.lt_of_lt_of_le hm (Nat.min_le_left _ _)
      have h2 : i < items2.size := Nat.lt_of_lt_of_le hm (Nat.min_le_right _ _)
      rw [List.drop_eq_getElem_cons hlt] at hz
      injection hz with hyx hrest
      have hy : y = items[i] := by have := congrArg Prod.fst hyx; simpa using this
      have hx : x = items2[i] := by have := congrArg Prod.snd hyx; simpa using this
      subst hy hx
      have hd : (List.range (min items.size items2.size)).drop i = i :: (List.range (min items.size items2.size)).drop (i + 1) := by simp [List.drop_eq_getElem_cons, hm]
      rw [hd, List.all_cons] at hR
      refine wpAny_bind (he i h1 h2 _ _ ?_)
      cases hy : e i with
      | true =>
        rw [hy] at hR
        wp_walk
        exact ⟨rfl, rfl, i + 1, hrest, by simpa using hR⟩
      | false =>
        rw [hy] at hR
        wp_walk
        exact ⟨_, rfl, by simpa using hR⟩
    case fin =>
      rintro ⟨b1, b2⟩ s' ⟨hb', rfl, i, hz, hR⟩
      simp only at hb'
      subst hb'
      have hge : min items.size items2.size ≤ i := by
        rcases Nat.lt_or_ge i (items.toList.zip items2.toList).length with h' | h'
        · rw [List.drop_eq_getElem_cons h'] at hz; cases hz
        · exact hZ ▸ h'
      rw [List.drop_of_length_le (by simpa using hge)] at hR
      wp_walk
      exact ⟨_, rfl, by simpa [Builtin.Tuple.tupleCompareSizes] using hR⟩
    case h =>
      exact ⟨rfl, rfl, 0, rfl, by simpa using h⟩
theorem neTupW (l b : Addr) (items items2 : Array Value) (n n2 : Nat) (dd dd2 : Option Addr) (sl sl2 : Array (Option Value)) (e : Nat → Bool) :
    MeetsIn PG w (Builtin.«tuple.__ne__» ⟨[.ref l, .ref b], []⟩)
      (fun A R s => s.heap.get? l = some (tO items n dd sl) ∧ s.heap.get? b = some (tO items2 n2 dd2 sl2) ∧ (∀ j (h1 : j < items.size) (h2 : j < items2.size), EqW w A.in1 s items[j] items2[j] (e j)) ∧
        R (.ok (.ret (.bool (!((List.range (min items.size items2.size)).all e && items.size == items2.size))))) s) :=
  .of_wp fun A R s h => by
    obtain ⟨hp, g, d, tk, os⟩ := s; obtain ⟨hl, hb, he, h⟩ := h
    have f2 := AutoSeq1.sub_tuple_tuple
    have hZ : (items.toList.zip items2.toList).length = min items.size items2.size := by simp
    wp_walk using wpAny_loadPart' hl, wpAny_loadPart' hb, wpAny_forIn_list _ (fun rest b s' => b.1 = none ∧ s' = ⟨hp, g, d, tk, os⟩ ∧ ∃ i, rest = (items.toList.zip items2.toList).drop i ∧
      R (.ok (.ret (.bool (!(((List.range (min items.size items2.size)).drop i).all e && items.size == items2.size))))) ⟨hp, g, d, tk, os⟩) _
    case turn =>
      rintro ⟨y, x⟩ rest b s' ⟨hb', rfl, i, hz, hR⟩
      have hlt : i < (items.toList.zip items2.toList).length := by
        rcases Nat.lt_or_ge i (items.toList.zip items2.toList).length with h' | h'
        · exact h'
        · rw [List.drop_of_length_le h'] at hz; cases hz
      have hm : i < min items.size items2.size := hZ ▸ hlt
      have h1 : i < items.size := Nat.lt_of_lt_of_le hm (Nat.min_le_left _ _)
      have h2 : i < items2.size := Nat.lt_of_lt_of_le hm (Nat.min_le_right _ _)
      rw [List.drop_eq_getElem_cons hlt] at hz
      injection hz with hyx hrest
      have hy : y = items[i] := by have := congrArg Prod.fst hyx; simpa using this
      have hx : x = items2[i] := by have := congrArg Prod.snd hyx; simpa using this
      subst hy hx
      have hd : (List.range (min items.size items2.size)).drop i = i :: (List.range (min items.size items2.size)).drop (i + 1) := by simp [List.drop_eq_getElem_cons, hm]
      rw [hd, List.all_cons] at hR
      refine wpAny_bind (he i h1 h2 _ _ ?_)
      cases hy : e i with
      | true =>
        rw [hy] at hR
        wp_walk
        exact ⟨rfl, rfl, i + 1, hrest, by simpa using hR⟩
      | false =>
        rw [hy] at hR
        wp_walk
        exact ⟨_, rfl, by simpa using hR⟩
    case fin =>
      rintro ⟨b1, b2⟩ s' ⟨hb', rfl, i, hz, hR⟩
      simp only at hb'
      subst hb'
      have hge : min items.size items2.size ≤ i := by
        rcases Nat.lt_or_ge i (items.toList.zip items2.toList).length with h' | h'
        · rw [List.drop_eq_getElem_cons h'] at hz; cases hz
        · exact hZ ▸ h'
      rw [List.drop_of_length_le (by simpa using hge)] at hR
      wp_walk
      exact ⟨_, rfl, by simpa [Builtin.Tuple.tupleCompareSizes, bne] using hR⟩
    case h =>
      exact ⟨rfl, rfl, 0, rfl, by simpa using h⟩
theorem countLoopW (l : Addr) (items : Array Value) (n : Nat) (dd : Option Addr) (sl : Array (Option Value)) (x : Value) (e : Nat → Bool) (k : Nat) :
    ∀ (i : Nat) (found : Int), items.size - i = k → MeetsIn PG w (Builtin.«list.count.loop» ⟨[.ref l, x, rawInt i, rawInt found], []⟩)
      (fun A R s => s.heap.get? l = some (lO items n dd sl) ∧ (∀ j (h1 : j < items.size), EqW w A.in1 s items[j] x (e j)) ∧
        R (.ok (.ret (.int (found + (((List.range items.size).drop i).countP e : Nat)) s.toks))) { s with toks := s.toks + 1 }) := by
  induction k with
  | zero =>
    intro i found hk A R s h
    obtain ⟨hp, g, d, tk, os⟩ := s; obtain ⟨hl, he, h⟩ := h
    wp_walk using wpAny_loadPart' hl
    have hi : items[((i : Nat) : Int).toNat]? = none := by simp; omega
    have hd : (List.range items.size).drop i = [] := by simp; omega
    rw [hd] at h
    rw [hi]
    wp_walk
    simpa using h
  | succ k ih =>
    intro i found hk A R s h
    obtain ⟨hp, g, d, tk, os⟩ := s; obtain ⟨hl, he, h⟩ := h
    wp_walk using wpAny_loadPart' hl
    have hlt : i < items.size := (by first | exact ind0 (by assumption) (by assumption) | exact ind1 (by assumption) | omega)
    have hi : items[((i : Nat) : Int).toNat]? = some items[i] := by simp [hlt]
    have hd : (List.range items.size).drop i = i :: (List.range items.size).drop (i + 1) := by simp [List.drop_eq_getElem_cons, hlt]
    have hc : ((i : Int) + 1) = ((i + 1 : Nat) : Int) := by push_cast; rfl
    rw [hd, List.countP_cons] at h
    rw [hi]
    refine wpAny_bind (he i hlt _ _ ?_)
    wp_walk
    rw [hc]
    refine ⟨plainId_quiet plain_count_loop _, codeAny_builtin entry_count_loop (by
      rw [Around.under_plainId plain_count_loop _]
      refine ih (i + 1) _ (by first | assumption | exact ind2 (by assumption) | exact ind1 (by assumption) | exact Nat.le_trans (by assumption) (by decide) | exact Nat.le_of_lt (by assumption) | exact Nat.lt_of_le_of_lt (Nat.le_add_right _ _) (by assumption) | omega) A R _ ⟨hl, he, ?_⟩
      cases hb : e i with
      | false =>
        simp only [hb, Bool.false_eq_true, if_false, Nat.add_zero] at h ⊢
        exact h
      | true =>
        simp only [hb, if_true] at h ⊢
        have e1 : found + 1 + ((List.countP e (List.drop (i + 1) (List.range items.size)) : Nat) : Int) = found + ((List.countP e (List.drop (i + 1) (List.range items.size)) + 1 : Nat) : Int) := by push_cast; omega
        rw [e1]
        exact h)⟩
theorem countW (l : Addr) (items : Array Value) (n : Nat) (dd : Option Addr) (sl : Array (Option Value)) (x : Value) (e : Nat → Bool) :
    MeetsIn PG w (Builtin.«list.count» ⟨[.ref l, x], []⟩)
      (fun A R s => s.heap.get? l = some (lO items n dd sl) ∧ (∀ j (h1 : j < items.size), EqW w A.in1 s items[j] x (e j)) ∧ R (.ok (.ret (.int ((List.range items.size).countP e : Nat) s.toks))) { s with toks := s.toks + 1 }) := by
  intro A R s h
  obtain ⟨hp, g, d, tk, os⟩ := s; obtain ⟨hl, he, h⟩ := h
  wp_walk using wpAny_loadPart' hl
  exact ⟨plainId_quiet plain_count_loop _, codeAny_builtin entry_count_loop (by
    rw [Around.under_plainId plain_count_loop _]
    exact countLoopW l items n dd sl x e _ 0 0 rfl A R _ ⟨hl, he, by simpa using h⟩)⟩
end
end Mine
end TextQ2
section TextQ3
namespace Mine
open PySem PySem.W PySem.Calls PyProof.Rows PySem.Spec
open AutoSeq1 (wpAny_loadPart')
open MeetsSeq MeetsSeq2 MeetsSeq3 SeqRoads2
section
variable {w : World}
theorem removeLoopW (l : Addr) (items : Array Value) (n : Nat) (x : Value) (e : Nat → Bool) (j : Nat) (hj : j < items.size) (hit : e j = true) (k : Nat) (hs1 : items.size ≤ sizeLine) :
    ∀ i : Nat, j - i = k → i ≤ j → (∀ m, m < items.size → i ≤ m → m < j → e m = false) → MeetsIn PG w (Builtin.«list.remove.loop» ⟨[.ref l, x, rawInt i], []⟩)
      (fun A R s => s.heap.get? l = some (lO items n) ∧ (∀ j (h1 : j < items.size), EqW w A.in1 s items[j] x (e j)) ∧ R (.ok (.ret .none)) { s with heap := s.heap.update l (Obj.mapSeq fun xs => xs.eraseIdxIfInBounds j) }) := by
  induction k with
  | zero =>
    intro i hk hij hno A R s h
    obtain ⟨hp, g, d, tk, os⟩ := s; obtain ⟨hl, he, h⟩ := h
    have hij' : i = j := (by first | exact ind0 (by assumption) (by assumption) | exact ind1 (by assumption) | omega)
    subst hij'
    wp_walk using wpAny_loadPart' hl
    have hi : items[((i : Nat) : Int).toNat]? = some items[i] := by simp [hj]
    rw [hi]
    refine wpAny_bind (he i hj _ _ ?_)
    rw [hit]
    have hz' : (items.eraseIdxIfInBounds i).size ≤ sizeLine + 1 := Nat.le_trans (size_erased items _) (Nat.le_succ_of_le hs1)
    wp_walk using (wpAny_updateSeq hl rfl (hz := hs1) (_hz' := hz')), wpAny_loadPart' hl
    simpa using h
  | succ k ih =>
    intro i hk hij hno A R s h
    obtain ⟨hp, g, d, tk, os⟩ := s; obtain ⟨hl, he, h⟩ := h
    have hlt : i < items.size := (by first | exact ind0 (by assumption) (by assumption) | exact ind1 (by assumption) | omega)
    wp_walk using wpAny_loadPart' hl
    have hi : items[((i : Nat) : Int).toNat]? = some items[i] := by simp [hlt]
    have hc : ((i : Int) + 1) = ((i + 1 : Nat) : Int) := by push_cast; rfl
    rw [hi]
    refine wpAny_bind (he i hlt _ _ ?_)
    rw [hno i hlt (Nat.le_refl _) (by first | assumption | exact ind2 (by assumption) | exact ind1 (by assumption) | exact Nat.le_trans (by assumption) (by decide) | exact Nat.le_of_lt (by assumption) | exact Nat.lt_of_le_of_lt (Nat.le_add_right _ _) (by assumption) | omega)]
    wp_walk
    rw [hc]
    exact ⟨plainId_quiet plain_remove_loop _, codeAny_builtin entry_remove_loop (by
      rw [Around.under_plainId plain_remove_loop _]
      exact ih (i + 1) (by first | assumption | exact ind2 (by assumption) | exact ind1 (by assumption) | exact Nat.le_trans (by assumption) (by decide) | exact Nat.le_of_lt (by assumption) | exact Nat.lt_of_le_of_lt (Nat.le_add_right _ _) (by assumption) | omega) (by first | assumption | exact ind2 (by assumption) | exact ind1 (by assumption) | exact Nat.le_trans (by assumption) (by decide) | exact Nat.le_of_lt (by assumption) | exact Nat.lt_of_le_of_lt (Nat.le_add_right _ _) (by assumption) | omega) (fun m hm h1 h2 => hno m hm (by first | assumption | exact ind2 (by assumption) | exact ind1 (by assumption) | exact Nat.le_trans (by assumption) (by decide) | exact Nat.le_of_lt (by assumption) | exact Nat.lt_of_le_of_lt (Nat.le_add_right _ _) (by assumption) | omega) h2) A R _ ⟨hl, he, h⟩)⟩
theorem removeW (l : Addr) (items : Array Value) (n : Nat) (x : Value) (e : Nat → Bool) (j : Nat) (hj : j < items.size) (hit : e j = true) (hno : ∀ m, m < j → e m = false) (hs1 : items.size ≤ sizeLine) :
    MeetsIn PG w (Builtin.«list.remove» ⟨[.ref l, x], []⟩)
      (fun A R s => s.heap.get? l = some (lO items n) ∧ (∀ j (h1 : j < items.size), EqW w A.in1 s items[j] x (e j)) ∧ R (.ok (.ret .none)) { s with heap := s.heap.update l (Obj.mapSeq fun xs => xs.eraseIdxIfInBounds j) }) := by
  intro A R s h
  obtain ⟨hp, g, d, tk, os⟩ := s; obtain ⟨hl, he, h⟩ := h
  wp_walk using wpAny_loadPart' hl
  exact ⟨plainId_quiet plain_remove_loop _, codeAny_builtin entry_remove_loop (by
    rw [Around.under_plainId plain_remove_loop _]
    exact removeLoopW l items n x e j hj hit _ hs1 0 rfl (Nat.zero_le _) (fun m hm _ h2 => hno m h2) A R _ ⟨hl, he, h⟩)⟩
theorem removeLoop0W (l : Addr) (items : Array Value) (n : Nat) (x : Value) (e : Nat → Bool) (hno : ∀ m, m < items.size → e m = false) (k : Nat) :
    ∀ i : Nat, items.size - i = k → MeetsIn PG w (Builtin.«list.remove.loop» ⟨[.ref l, x, rawInt i], []⟩)
      (fun A R s => s.heap.get? l = some (lO items n) ∧ (∀ j (h1 : j < items.size), EqW w A.in1 s items[j] x (e j)) ∧ raisesNew "ValueError" A R s) := by
  induction k with
  | zero =>
    intro i hk A R s h
    obtain ⟨hp, g, d, tk, os⟩ := s; obtain ⟨hl, he, h⟩ := h
    wp_walk using wpAny_loadPart' hl
    have hi : items[((i : Nat) : Int).toNat]? = none := by simp; omega
    rw [hi]
    wp_walk
    exact_raiseError plainExc_ValueError h.1 h.2
  | succ k ih =>
    intro i hk A R s h
    obtain ⟨hp, g, d, tk, os⟩ := s; obtain ⟨hl, he, h⟩ := h
    have hlt : i < items.size := (by first | exact ind0 (by assumption) (by assumption) | exact ind1 (by assumption) | omega)
    wp_walk using wpAny_loadPart' hl
    have hi : items[((i : Nat) : Int).toNat]? = some items[i] := by simp [hlt]
    have hc : ((i : Int) + 1) = ((i + 1 : Nat) : Int) := by push_cast; rfl
    rw [hi]
    refine wpAny_bind (he i hlt _ _ ?_)
    rw [hno i hlt]
    wp_walk
    rw [hc]
    exact ⟨plainId_quiet plain_remove_loop _, codeAny_builtin entry_remove_loop (by
      rw [Around.under_plainId plain_remove_loop _]
      exact ih (i + 1) (by first | assumption | exact ind2 (by assumption) | exact ind1 (by assumption) | exact Nat.le_trans (by assumption) (by decide) | exact Nat.le_of_lt (by assumption) | exact Nat.lt_of_le_of_lt (Nat.le_add_right _ _) (by assumption) | omega) A R _ ⟨hl, he, h⟩)⟩
theorem remove0W (l : Addr) (items : Array Value) (n : Nat) (x : Value) (e : Nat → Bool) (hno : ∀ m, m < items.size → e m = false) :
    MeetsIn PG w (Builtin.«list.remove» ⟨[.ref l, x], []⟩)
      (fun A R s => s.heap.get? l = some (lO items n) ∧ (∀ j (h1 : j < items.size), EqW w A.in1 s items[j] x (e j)) ∧ raisesNew "ValueError" A R s) := by
  intro A R s h
  obtain ⟨hp, g, d, tk, os⟩ := s; obtain ⟨hl, he, h⟩ := h
  wp_walk using wpAny_loadPart' hl
  exact ⟨plainId_quiet plain_remove_loop _, codeAny_builtin entry_remove_loop (by
    rw [Around.under_plainId plain_remove_loop _]
    exact removeLoop0W l items n x e hno _ 0 rfl A R _ ⟨hl, he, h⟩)⟩
end
end Mine
end TextQ3
section TextQ4
namespace Mine
open PySem PySem.W PySem.Calls PyProof.Rows PySem.Spec
section
variable {w : World} {A : Around} {s : Shared} {ms : List Addr}
theorem EqW.same (v : Value) : EqW w A s v v true := EqW.of (SeqAt.EqAt.same v)
def RcW (w : World) (A : Around) (s : Shared) (y x : Value) (b : Bool) : Prop := ∀ (E : Value → Shared → Prop) (Q : Value → Shared → Prop), Q (.bool b) s → wpAny (MD w) A (richCompare .Eq y x) Q E s
def RnW (w : World) (A : Around) (s : Shared) (y x : Value) (b : Bool) : Prop := ∀ (E : Value → Shared → Prop) (Q : Value → Shared → Prop), Q (.bool b) s → wpAny (MD w) A (richCompare .NotEq y x) Q E s
theorem EqW.refs {l b : Addr} {k : Bool} (hne : l ≠ b) (h : RcW w A s (.ref l) (.ref b) k) : EqW w A s (.ref l) (.ref b) k := fun E Q hq => by
  unfold eqBool
  refine wpAny_holding ?_
  refine wpAny_ite_split (fun hab => absurd (by have := eq_of_beq hab; injection this) hne) (fun _ => ?_)
  exact wpAny_bind (h E _ (wpAny_truthy_bool hq))
theorem isT_obj {h : Heap} {p : Addr} {T : String} {items : Array Value} (x : ∃ o, h.get? p = some o ∧ o.cls = .type T ∧ ∃ n, o.data = .seq items n) : ∃ dd sl n, h.get? p = some { cls := .type T, dict := dd, data := .seq items n, slots := sl } := by
  obtain ⟨⟨cls, dd, data, sl⟩, e, c, n, d⟩ := x
  simp only at c d
  subst c d
  exact ⟨dd, sl, n, e⟩
theorem RcW.tup {l b : Addr} {items items2 : Array Value} {e : Nat → Bool} (hl : s.heap.IsTuple l items) (hb : s.heap.IsTuple b items2) (hu : A.units < cLine)
    (he : ∀ j (h1 : j < items.size) (h2 : j < items2.size), EqW w A.in1 s items[j] items2[j] (e j)) : RcW w A s (.ref l) (.ref b) ((List.range (min items.size items2.size)).all e && items.size == items2.size) := fun E Q h => by
  obtain ⟨dd, sl, n, ho⟩ := isT_obj hl
  obtain ⟨dd2, sl2, n2, ho2⟩ := isT_obj hb
  exact wpAny_richCompare_same_room (op := .Eq) ⟨_, ho, rfl⟩ ⟨_, ho2, rfl⟩ F.slot_tuple_eq (call_meetsIn F.slot_tuple_eq ⟨_, ho, rfl⟩ F.entry_tuple_eq (F.args_tuple_eq_2 _ _) (eqTupW l b items items2 n n2 dd dd2 sl sl2 e)
    ⟨ho, ho2, he, show Value.bool ((List.range (min items.size items2.size)).all e && items.size == items2.size) ≠ Value.notImplemented ∧ Q (.bool ((List.range (min items.size items2.size)).all e && items.size == items2.size)) s from ⟨(fun x => nomatch x), h⟩⟩) hu
theorem RnW.tup {l b : Addr} {items items2 : Array Value} {e : Nat → Bool} (hl : s.heap.IsTuple l items) (hb : s.heap.IsTuple b items2) (hu : A.units < cLine)
    (he : ∀ j (h1 : j < items.size) (h2 : j < items2.size), EqW w A.in1 s items[j] items2[j] (e j)) : RnW w A s (.ref l) (.ref b) (!((List.range (min items.size items2.size)).all e && items.size == items2.size)) := fun E Q h => by
  obtain ⟨dd, sl, n, ho⟩ := isT_obj hl
  obtain ⟨dd2, sl2, n2, ho2⟩ := isT_obj hb
  exact wpAny_richCompare_same_room (op := .NotEq) ⟨_, ho, rfl⟩ ⟨_, ho2, rfl⟩ F.slot_tuple_ne (call_meetsIn F.slot_tuple_ne ⟨_, ho, rfl⟩ F.entry_tuple_ne (F.args_tuple_ne_2 _ _) (neTupW l b items items2 n n2 dd dd2 sl sl2 e)
    ⟨ho, ho2, he, show Value.bool (!((List.range (min items.size items2.size)).all e && items.size == items2.size)) ≠ Value.notImplemented ∧ Q (.bool (!((List.range (min items.size items2.size)).all e && items.size == items2.size))) s from ⟨(fun x => nomatch x), h⟩⟩) hu
theorem RcW.lst {l b : Addr} {items items2 : Array Value} {e : Nat → Bool} (hl : s.heap.IsList l items) (hb : s.heap.IsList b items2) (hu : A.units < cLine)
    (he : ∀ j (h1 : j < items.size) (h2 : j < items2.size), EqW w A.in1 s items[j] items2[j] (e j)) : RcW w A s (.ref l) (.ref b) (items.size == items2.size && (List.range items.size).all e) := fun E Q h => by
  by_cases hsz : items.size = items2.size
  · obtain ⟨dd, sl, n, ho⟩ := isT_obj hl
    obtain ⟨dd2, sl2, n2, ho2⟩ := isT_obj hb
    rw [hsz, beq_self_eq_true, Bool.true_and, ← hsz] at h
    exact wpAny_richCompare_same_room (op := .Eq) ⟨_, ho, rfl⟩ ⟨_, ho2, rfl⟩ F.slot_list_eq (call_meetsIn F.slot_list_eq ⟨_, ho, rfl⟩ F.entry_list_eq (F.args_list_eq_2 _ _) (eqListW l b items items2 n n2 dd dd2 sl sl2 hsz e)
      ⟨ho, ho2, he, show Value.bool ((List.range items.size).all e) ≠ Value.notImplemented ∧ Q (.bool ((List.range items.size).all e)) s from ⟨(fun x => nomatch x), h⟩⟩) hu
  · rw [beq_eq_false_iff_ne.mpr hsz, Bool.false_and] at h
    exact SeqAt.RcAt.lists_lengths hl hb (by simpa using hsz) hu PG w E Q h
theorem RnW.lst {l b : Addr} {items items2 : Array Value} {e : Nat → Bool} (hl : s.heap.IsList l items) (hb : s.heap.IsList b items2) (hu : A.units < cLine)
    (he : ∀ j (h1 : j < items.size) (h2 : j < items2.size), EqW w A.in1 s items[j] items2[j] (e j)) : RnW w A s (.ref l) (.ref b) (!(items.size == items2.size && (List.range items.size).all e)) := fun E Q h => by
  by_cases hsz : items.size = items2.size
  · obtain ⟨dd, sl, n, ho⟩ := isT_obj hl
    obtain ⟨dd2, sl2, n2, ho2⟩ := isT_obj hb
    rw [hsz, beq_self_eq_true, Bool.true_and, ← hsz] at h
    exact wpAny_richCompare_same_room (op := .NotEq) ⟨_, ho, rfl⟩ ⟨_, ho2, rfl⟩ F.slot_list_ne (call_meetsIn F.slot_list_ne ⟨_, ho, rfl⟩ F.entry_list_ne (F.args_list_ne_2 _ _) (neListW l b items items2 n n2 dd dd2 sl sl2 hsz e)
      ⟨ho, ho2, he, show Value.bool (!(List.range items.size).all e) ≠ Value.notImplemented ∧ Q (.bool (!(List.range items.size).all e)) s from ⟨(fun x => nomatch x), h⟩⟩) hu
  · rw [beq_eq_false_iff_ne.mpr hsz, Bool.false_and] at h
    exact SeqAt.RcNeAt.lists_lengths hl hb (by simpa using hsz) hu PG w E Q h
theorem cvEq {W : Bool} {v y : Value} {xs ys : List Int} (h1 : CV W (vw ms s.heap) v xs) (h2 : CV W (vw ms s.heap) y ys) (hu : A.units + 2 < cLine) : ∃ b, SeqAt.EqAt A s v y b ∧ (xs = ys → b = true) := by
  cases W with
  | false =>
    obtain ⟨i, t, rfl, rfl⟩ := h1
    obtain ⟨j, u, rfl, rfl⟩ := h2
    exact ⟨i == j, (MeetsSeq.EqGives.int i j t u).at A s, fun h => by injection h with h; simp [h]⟩
  | true =>
    obtain ⟨p, rfl, us, q1, i1⟩ := h1
    obtain ⟨q, rfl, vs, q2, i2⟩ := h2
    by_cases hpq : p = q
    · subst hpq
      exact ⟨true, SeqAt.EqAt.same _, fun _ => rfl⟩
    · refine ⟨_, SeqAt.EqAt.of_refs hpq (SeqAt.RcAt.tuples (e := fun j => xs[j]? == ys[j]?) q1.tup q2.tup (by first | assumption | exact ind2 (by assumption) | exact ind1 (by assumption) | exact Nat.le_trans (by assumption) (by decide) | exact Nat.le_of_lt (by assumption) | exact Nat.lt_of_le_of_lt (Nat.le_add_right _ _) (by assumption) | omega) ?_), ?_⟩
      · intro j h1 h2
        have hj1 : j < xs.length := by rw [← i1.length]; simpa using h1
        have hj2 : j < ys.length := by rw [← i2.length]; simpa using h2
        obtain ⟨t1, e1⟩ := i1.get j xs[j] (List.getElem?_eq_getElem hj1)
        obtain ⟨t2, e2⟩ := i2.get j ys[j] (List.getElem?_eq_getElem hj2)
        have e1' : us.toArray[j] = .int xs[j] t1 := by
          have := (List.getElem?_eq_some_iff.mp e1).2; simpa using this
        have e2' : vs.toArray[j] = .int ys[j] t2 := by
          have := (List.getElem?_eq_some_iff.mp e2).2; simpa using this
        rw [e1', e2', List.getElem?_eq_getElem hj1, List.getElem?_eq_getElem hj2]
        have : (some xs[j] == some ys[j]) = (xs[j] == ys[j]) := rfl
        rw [this]
        exact (MeetsSeq.EqGives.int _ _ _ _).at _ s
      · intro h
        subst h
        simp [i1.length, i2.length]
theorem clEq {W : Bool} {q1 q2 : Addr} {u v : Vec} (h1 : Cl w W (vw ms s.heap) q1 u) (h2 : Cl w W (vw ms s.heap) q2 v) (hu : A.units + 5 < cLine) : ∃ b, EqW w A s (.ref q1) (.ref q2) b ∧ (u = v → b = true) := by
  by_cases hq : q1 = q2
  · subst hq; exact ⟨true, EqW.same _, fun _ => rfl⟩
  · have hin : A.in1.units + 2 < cLine := by show A.units + 1 + 2 < cLine; omega
    rcases h1 with ⟨rfl, d1⟩ | ⟨hd1, F1, G1, d1, f1, g1⟩
    · rcases h2 with ⟨rfl, d2⟩ | ⟨hd2, F2, G2, d2, f2, g2⟩
      · exact ⟨true, EqW.refs hq fun E Q h => keq_eq (knd := sK w) (r := true) d1.1 d2.1 d1.dict d2.dict (by first | assumption | exact ind2 (by assumption) | exact ind1 (by assumption) | exact Nat.le_trans (by assumption) (by decide) | exact Nat.le_of_lt (by assumption) | exact Nat.lt_of_le_of_lt (Nat.le_add_right _ _) (by assumption) | omega) (fun _ => .nil) h, fun _ => rfl⟩
      · exact ⟨false, EqW.refs hq fun E Q h => keq_eq (knd := sK w) (r := true) d1.1 d2.1 d1.dict d2.dict (by first | assumption | exact ind2 (by assumption) | exact ind1 (by assumption) | exact Nat.le_trans (by assumption) (by decide) | exact Nat.le_of_lt (by assumption) | exact Nat.lt_of_le_of_lt (Nat.le_add_right _ _) (by assumption) | omega) (fun _ => .nil) h, fun h => by subst h; exact absurd hd2 (by decide)⟩
    · rcases h2 with ⟨rfl, d2⟩ | ⟨hd2, F2, G2, d2, f2, g2⟩
      · exact ⟨false, EqW.refs hq fun E Q h => keq_eq (knd := sK w) (r := false) d1.1 d2.1 d1.dict d2.dict (by first | assumption | exact ind2 (by assumption) | exact ind1 (by assumption) | exact Nat.le_trans (by assumption) (by decide) | exact Nat.le_of_lt (by assumption) | exact Nat.lt_of_le_of_lt (Nat.le_add_right _ _) (by assumption) | omega) (fun e => by cases e) h, fun h => by subst h; exact absurd hd1 (by decide)⟩
      · obtain ⟨b1, k1, i1⟩ := cvEq (A := A.in1) f1 f2 hin
        obtain ⟨b2, k2, i2⟩ := cvEq (A := A.in1) g1 g2 hin
        refine ⟨b1 && (b2 && true), EqW.refs hq fun E Q h => keq_eq (knd := sK w) (r := b1 && (b2 && true)) d1.1 d2.1 d1.dict d2.dict (by first | assumption | exact ind2 (by assumption) | exact ind1 (by assumption) | exact Nat.le_trans (by assumption) (by decide) | exact Nat.le_of_lt (by assumption) | exact Nat.lt_of_le_of_lt (Nat.le_add_right _ _) (by assumption) | omega) (fun _ => .hit rfl k1 (.hit rfl k2 .nil)) ?_, ?_⟩
        · simpa using h
        · intro h; subst h; rw [i1 rfl, i2 rfl]; rfl
theorem entElems {W : Bool} {p q : Addr} {u v : Vec} (h1 : Ent w W (vw ms s.heap) p u) (h2 : Ent w W (vw ms s.heap) q v) (hu : A.units + 6 < cLine) :
    ∃ xs ys e, s.heap.IsTuple p xs ∧ s.heap.IsTuple q ys ∧ (∀ j (h1 : j < xs.size) (h2 : j < ys.size), EqW w A.in1 s xs[j] ys[j] (e j)) ∧ ((List.range (min xs.size ys.size)).all e && xs.size == ys.size) = veq u v := by
  obtain ⟨c1, ta, tb, tc, td, a1, a2⟩ := h1
  obtain ⟨c2, ua, ub, uc, ud, b1, b2⟩ := h2
  obtain ⟨b, kb, hb⟩ := clEq (A := A.in1) a2 b2 (by show A.units + 1 + 5 < cLine; omega)
  refine ⟨_, _, fun j => match j with | 0 => u.a == v.a | 1 => u.b == v.b | 2 => u.c == v.c | 3 => u.d == v.d | _ => b, a1.tup, b1.tup, ?_, ?_⟩
  · intro j h1 h2
    have h5 : j < 5 := by simpa using h1
    match j, h5 with
    | 0, _ => exact EqW.of ((MeetsSeq.EqGives.int _ _ _ _).at _ s)
    | 1, _ => exact EqW.of ((MeetsSeq.EqGives.int _ _ _ _).at _ s)
    | 2, _ => exact EqW.of ((MeetsSeq.EqGives.int _ _ _ _).at _ s)
    | 3, _ => exact EqW.of ((MeetsSeq.EqGives.int _ _ _ _).at _ s)
    | 4, _ => exact kb
  · show ((List.range 5).all _ && (5 == 5)) = _
    have hr : List.range 5 = [0, 1, 2, 3, 4] := rfl
    rw [hr]
    simp only [List.all_cons, List.all_nil, Bool.and_true]
    cases hv : veq u v with
    | true =>
      rw [hb (veq_iff.mp hv)]
      unfold veq at hv
      simp only [Bool.and_eq_true] at hv ⊢
      obtain ⟨⟨⟨x1, x2⟩, x3⟩, x4⟩ := hv
      simp [x1, x2, x3, x4]
    | false =>
      unfold veq at hv
      cases h1 : u.a == v.a <;> cases h2 : u.b == v.b <;> cases h3 : u.c == v.c <;> cases h4 : u.d == v.d <;> simp_all
/-- two entries are equal as their columns are -/
theorem entEq {W : Bool} {p q : Addr} {u v : Vec} (h1 : Ent w W (vw ms s.heap) p u) (h2 : Ent w W (vw ms s.heap) q v) (hu : A.units + 6 < cLine) : EqW w A s (.ref p) (.ref q) (veq u v) := by
  by_cases hpq : p = q
  · subst hpq
    have := h1.inj h2
    subst this
    rw [veq_iff.mpr rfl]
    exact EqW.same _
  · obtain ⟨xs, ys, e, t1, t2, he, hr⟩ := entElems (A := A) h1 h2 hu
    rw [← hr]
    exact EqW.refs hpq (RcW.tup t1 t2 (by first | assumption | exact ind2 (by assumption) | exact ind1 (by assumption) | exact Nat.le_trans (by assumption) (by decide) | exact Nat.le_of_lt (by assumption) | exact Nat.lt_of_le_of_lt (Nat.le_add_right _ _) (by assumption) | omega) he)
theorem entNe {W : Bool} {p q : Addr} {u v : Vec} (h1 : Ent w W (vw ms s.heap) p u) (h2 : Ent w W (vw ms s.heap) q v) (hu : A.units + 6 < cLine) : RnW w A s (.ref p) (.ref q) (!veq u v) := by
  obtain ⟨xs, ys, e, t1, t2, he, hr⟩ := entElems (A := A) h1 h2 hu
  rw [← hr]
  exact RnW.tup t1 t2 (by first | assumption | exact ind2 (by assumption) | exact ind1 (by assumption) | exact Nat.le_trans (by assumption) (by decide) | exact Nat.le_of_lt (by assumption) | exact Nat.lt_of_le_of_lt (Nat.le_add_right _ _) (by assumption) | omega) he
end
end Mine
end TextQ4
section TextU1
namespace Mine
open PySem PySem.W PySem.Calls PyProof.Rows PySem.Spec
/-- the heap without one address -/
def hide (h : Heap) (a : Addr) : Heap := h.update a fun o => { o with data := .freed }
theorem hide_other {h : Heap} {a b : Addr} (n : b ≠ a) : (hide h a).get? b = h.get? b := Heap.get?_update_other _ _ (Ne.symm n)
theorem hide_self (h : Heap) (a : Addr) : (hide h a).get? a = none := by
  obtain ⟨objs, l⟩ := h
  unfold hide Heap.update Heap.get?
  simp only [Array.getElem?_modify, if_true]
  cases e : objs[a]? with
  | none => rfl
  | some o => rfl
theorem hide_sub {h : Heap} {a b : Addr} {o : Obj} (e : (hide h a).get? b = some o) : b ≠ a ∧ h.get? b = some o := by
  have n : b ≠ a := fun q => by rw [q, hide_self] at e; cases e
  exact ⟨n, by rw [← hide_other n]; exact e⟩
section
variable {w : World} {A : Around} {s : Shared} {env : Env} {E : Value → Shared → Prop}
/-- a new error is caught where it is raised, under one outer frame -/
theorem caught1 {L L0 e : Addr} {h₀ : Heap} {outer : Env} {X : String} {t : Expr} {b₀ : Stmt} {suite : List Stmt} {pos : Pos} {rest : List ExceptHandler} {Q : Flow → Shared → Prop} {m m0 : Str → Option Value}
    (hfr : A.frames = some [env, outer]) (hk : env.scope.kind = .function) (hk0 : outer.scope.kind = .function) (hf : env.frame = some L) (hf0 : outer.frame = some L0) (hL : h₀.Ns L m) (hL0 : h₀.Ns L0 m0) (hx : Heap.NewExc h₀ s.heap e X)
    (hexc : isSubtype (.type X) (.type "BaseException") = pure true) (hnt : isSubtype (.type ((Manifest.find? X).elim "type" fun x => x.metatype)) (.type "tuple") = pure false) (hsub : isSubtype (.type X) (.type X) = pure true)
    (ht : ∀ (A' : Around) (s' : Shared) (E' : Value → Shared → Prop) (Q' : Value → Shared → Prop), (∀ b o, b ≠ L → b ≠ L0 → h₀.get? b = some o → s'.heap.get? b = some o) → Q' (.type X) s' → wpAny (MD w) A' (eval t env) Q' E' s')
    (h : ∀ s', (∀ b o, b ≠ L → b ≠ L0 → h₀.get? b = some o → s'.heap.get? b = some o) → s'.heap.Ns L m → s'.heap.Ns L0 m0 → s'.gens = s.gens → s'.os = s.os →
      wpAny (MD w) (A.mark (some (.ref e))) (execs (b₀ :: suite) env) Q NE s') :
    wpAny (MD w) A (noteFrame (.ref e) env) (fun _ s₂ => wpAny (MD w) A (setFlight (.ref e) none) (fun _ s₃ => wpAny (MD w) A (handleBy (.ref e) env (.ExceptHandler (some t) none (b₀ :: suite) pos :: rest)) Q E s₃) E s₂) E s := by
  have hL1 : s.heap.Ns L m := hL.keeps hx.keeps
  have hL01 : s.heap.Ns L0 m0 := hL0.keeps hx.keeps
  have hst : (hide (hide h₀ L) L0).StaysIn s.heap := fun b o e => hx.keeps b o (hide_sub (hide_sub e).2).2
  have hbL : (hide (hide h₀ L) L0).get? L = none := by
    by_cases q : L = L0
    · rw [q]; exact hide_self _ _
    · rw [hide_other q]; exact hide_self _ _
  have nsf : ∀ {a : Addr} {m : Str → Option Value}, s.heap.Ns a m → ∃ o, s.heap.get? a = some o ∧ ∀ vs, o.data ≠ .fields vs := fun hn => by
    obtain ⟨o, es, ep, e, hd, _⟩ := hn
    exact ⟨o, e, fun vs q => by rw [hd] at q; cases q⟩
  have hff : s.heap.FunFrames (hide (hide h₀ L) L0) [env, outer] := by
    refine ⟨by rw [hk]; decide, ?_, by rw [hk0]; decide, ?_, trivial⟩
    · obtain ⟨o, e, n⟩ := nsf hL1; exact ⟨L, o, hf, hbL, e, n⟩
    · obtain ⟨o, e, n⟩ := nsf hL01; exact ⟨L0, o, hf0, hide_self _ _, e, n⟩
  have hen : (hide (hide h₀ L) L0).get? e = none := by
    cases q : (hide (hide h₀ L) L0).get? e with
    | none => rfl
    | some o => have := (hide_sub (hide_sub q).2).2; rw [hx.new] at this; cases this
  obtain ⟨oe, t0, he, hcls, hd⟩ := hx.there
  have keep2 : ∀ {h' : Heap}, (hide (hide h₀ L) L0).StaysIn h' → ∀ b o, b ≠ L → b ≠ L0 → h₀.get? b = some o → h'.get? b = some o := fun k b o n1 n2 q => k b o (by rw [hide_other n2, hide_other n1]; exact q)
  unfold noteFrame
  simp only [hf]
  refine wpAny_bind (wpAny_field he hd (x := .none) rfl ?_)
  rw [if_neg (by decide)]
  refine wpAny_entryW hfr hff hf he hst hen hd (by first | exact zm0 | exact zm1 | exact zm2 | exact zm3 | exact zm4 | exact zm5 | exact zm6 | exact zm7 | exact zs0 | exact zs1 | exact zs2 | exact zs3 | exact zn0 | exact zn1 (by decide) | simp) (a0 := t0) rfl fun h1 hN => ?_
  obtain ⟨n1, n2, n3, n4⟩ := hN
  have u1 : s.heap.UpToSlots h1 := n4
  refine wpAny_setFlight_noneW n1 n2 n3 fun h2 k1 k2 k3 k4 => ?_
  have u2 : h1.UpToSlots h2 := fun b o e hn => ⟨o.slots, k4 b o e hn⟩
  refine wpAny_handleBy_builtin (X := X) (T := X) (b := true) hexc hnt hsub ?_
  refine ht _ _ _ _ (keep2 k1) ⟨rfl, ?_, ?_⟩
  · obtain ⟨ob, e1, e2⟩ := k3.at.there
    exact ⟨ob, e1, e2.trans hcls⟩
  · rw [if_pos rfl]
    refine wpAny_setFlight_noneW k1 k2 k3.at fun h3 l1 l2 l3 l4 => ?_
    have u3 : h2.UpToSlots h3 := fun b o e hn => ⟨o.slots, l4 b o e hn⟩
    have u := (u1.trans u2).trans u3
    exact wpAny_noRaise (h _ (keep2 l1) (u.ns hL1) (u.ns hL01) rfl rfl)
end
end Mine
end TextU1
section TextU2
namespace Mine
open PySem PySem.W PySem.Calls PyProof.Rows PySem.Spec
def uldGo : List Vec → List Vec → List Vec → List Vec × List Vec
  | [], ys, mi => (mi, ys)
  | x :: r, ys, mi => if ys.any (fun y => veq y x) then uldGo r (ys.eraseP fun y => veq y x) mi else uldGo r ys (mi ++ [x])
def uld (xs ys : List Vec) : List Vec × List Vec := uldGo xs.reverse ys []
/-- the first place that is hit -/
theorem first_hit {p : Vec → Bool} {ys : List Vec} (h : ys.any p = true) : ∃ j y, ys[j]? = some y ∧ p y = true ∧ (∀ m z, m < j → ys[m]? = some z → p z = false) ∧ ys.eraseP p = ys.eraseIdx j := by
  induction ys with
  | nil => simp at h
  | cons y ys ih =>
    by_cases hy : p y = true
    · exact ⟨0, y, rfl, hy, fun m z hm => absurd hm (Nat.not_lt_zero m), by simp [List.eraseP_cons, hy]⟩
    · have hy' : p y = false := by simpa using hy
      have h' : ys.any p = true := by simpa [hy'] using h
      obtain ⟨j, z, h1, h2, h3, h4⟩ := ih h'
      refine ⟨j + 1, z, by simpa using h1, h2, fun m x hm hx => ?_, by simp [List.eraseP_cons, hy', h4]⟩
      cases m with
      | zero => simp at hx; subst hx; exact hy'
      | succ m => exact h3 m x (by first | assumption | exact ind2 (by assumption) | exact ind1 (by assumption) | exact Nat.le_trans (by assumption) (by decide) | exact Nat.le_of_lt (by assumption) | exact Nat.lt_of_le_of_lt (Nat.le_add_right _ _) (by assumption) | omega) (by simpa using hx)
theorem All2.eraseIdx {α β : Type} {R : α → β → Prop} {as : List α} {bs : List β} (h : All2 R as bs) : ∀ n, All2 R (as.eraseIdx n) (bs.eraseIdx n) := by
  induction h with
  | nil => intro n; simp; exact .nil
  | cons r h ih => intro n; cases n with
    | zero => exact h
    | succ n => exact .cons r (ih n)
theorem bd_uld (w : World) (a b : Value) : bindArgs (fdOf w 63) ⟨[a, b], []⟩ = pure [(Str.ofString "expected", a), (Str.ofString "actual", b)] := by kernel_rfl
section
variable {w : World} {mg mb : Str → Option Value} {A : Around} {s s₀ : Shared} {ms : List Addr} {Q E : Value → Shared → Prop}
theorem Go.catch {L L0 : Addr} {s' : Shared} (G : Go s₀ s) (T : Top0 w mg mb s₀.heap) (hL : s₀.heap.get? L = none) (hL0 : s₀.heap.get? L0 = none) (k : ∀ b o, b ≠ L → b ≠ L0 → s.heap.get? b = some o → s'.heap.get? b = some o) (hg : s'.gens = s.gens) (ho : s'.os = s.os) : Go s₀ s' := by
  refine ⟨⟨fun b o n q => k b o (fun z => by rw [z, hL] at q; cases q) (fun z => by rw [z, hL0] at q; cases q) (G.keep b o n q), fun t => ?_⟩, fun t => by rw [hg]; exact G.bare t, ho.trans G.os⟩
  obtain ⟨ps, ⟨o, vs, file, tf, flags, tg, inF, text, tt, op, ho, hd, h11, h2, h7, h9, h10, hop, hpd, htr, hne⟩, b1, b2⟩ := G.tab t
  have a4 := T.ne51 hL
  have a5 := T.ne55 hL
  have c4 := T.ne51 hL0
  have c5 := T.ne55 hL0
  exact ⟨ps, ⟨o, vs, file, tf, flags, tg, inF, text, tt, op, k _ _ (Ne.symm a5) (Ne.symm c5) ho, hd, h11, h2, h7, h9, h10, k _ _ (Ne.symm a4) (Ne.symm c4) hop, hpd, htr, hne⟩, by
    obtain ⟨o', vs', x1, x2⟩ := b1
    exact ⟨o', vs', k _ _ (Ne.symm a5) (Ne.symm c5) x1, x2⟩, k _ _ (Ne.symm a4) (Ne.symm c4) b2⟩
abbrev EntA (w : World) (W : Bool) (g : View) (vs : List Value) (us : List Vec) : Prop := All2 (fun v u => ∃ a, v = .ref a ∧ Ent w W g a u) vs us
theorem EntA.mono {W : Bool} {g g' : View} {vs : List Value} {us : List Vec} (x : EntA w W g vs us) (k : Le g g') : EntA w W g' vs us := x.imp fun _ _ ⟨a, e, q⟩ => ⟨a, e, q.mono k⟩
/-- x.pop() of a list -/
theorem popL {l : Addr} {xs : List Value} {v : Value} {n : Nat} {pos : Pos} {env : Env} (hl : s.heap.get? l = some (lstO (xs ++ [v]) n)) (hlen : xs.length ≤ 2000) (h : ∀ s' n', Ch l s s' → s'.heap.get? l = some (lstO xs n') → Q v s') :
    wpAny (MD w) A (callWith pos (.builtin "list.pop") [.ref l] (backTo pos (starEach [] env)) []) Q E s := by
  show wpAny (MD w) A (callWith pos (.builtin "list.pop") [.ref l] [] []) Q E s
  refine P.pop_list (items := (xs ++ [v]).toArray) (y := v) hl (by first | exact zm0 | exact zm1 | exact zm2 | exact zm3 | exact zm4 | exact zm5 | exact zm6 | exact zm7 | exact zs0 | exact zs1 | exact zs2 | exact zs3 | exact zn0 | exact zn1 (by decide) | simp) ?_ ?_
  · have h2 := IsL.update (x := hl) (fun ys => ys.eraseIdxIfInBounds ((xs ++ [v]).toArray.size - 1))
    have e : (xs ++ [v]).toArray.eraseIdxIfInBounds ((xs ++ [v]).toArray.size - 1) = xs.toArray := by
      simp [Array.eraseIdxIfInBounds]
      rw [List.eraseIdx_append_of_length_le (Nat.le_refl _)]
      simp
    rw [e] at h2
    exact h _ _ ⟨Heap.SameBut.update .., rfl, rfl⟩ h2
  · rw [List.size_toArray]; exact Nat.le_trans (show _ ≤ 3000 by simp; omega) (by rw [sizeLine_eq]; decide)
end
end Mine
end TextU2
section TextU3
namespace Mine
open PySem PySem.W PySem.Calls PyProof.Rows PySem.Spec
theorem All2.unsnoc {α β : Type} {R : α → β → Prop} {as : List α} {bs : List β} {b : β} (h : All2 R as (bs ++ [b])) : ∃ as' a, as = as' ++ [a] ∧ R a b ∧ All2 R as' bs := by
  induction bs generalizing as with
  | nil => cases h with
    | cons r h => cases h; exact ⟨[], _, rfl, r, .nil⟩
  | cons c bs ih => cases h with
    | cons r h =>
      obtain ⟨as', a, rfl, h1, h2⟩ := ih h
      exact ⟨_ :: as', a, rfl, h1, .cons r h2⟩
theorem ve_sub : isSubtype (.type "ValueError") (.type "BaseException") = pure true ∧ isSubtype (.type ((Manifest.find? "ValueError").elim "type" fun x => x.metatype)) (.type "tuple") = pure false ∧ isSubtype (.type "ValueError") (.type "ValueError") = pure true := by
  refine ⟨?_, ?_, ?_⟩ <;> kernel_rfl
noncomputable def ulWhile (w : World) : Expr × List Stmt := match (fdOf w 63).body with
  | .stmts [_, .While t b _ _, _] => (t, b)
  | _ => (.Constant .none 0 ⟨0, 0, 0, 0⟩, [])
section
variable {w : World} {mg mb : Str → Option Value} {A : Around} {s₀ : Shared} {ms : List Addr} {R : Result → Shared → Prop}
set_option maxHeartbeats 2000000
theorem ul_loop {L L0 a b D : Addr} {H : List Addr} {outer : Env} {m0 : Str → Option Value} {W : Bool} (O : Ok w mg mb ms s₀) (hh : A.handled = none) (hu : A.units + 20 < cLine) (hfr : A.frames = some [callEnvC (fdOf w 63) L 63, outer]) (hk0 : outer.scope.kind = .function) (hf0 : outer.frame = some L0)
    (nL : s₀.heap.get? L = none) (nL0 : s₀.heap.get? L0 = none) (na : s₀.heap.get? a = none) (nb : s₀.heap.get? b = none) (nD : s₀.heap.get? D = none)
    (aL : a ≠ L) (bL : b ≠ L) (DL : D ≠ L) (LL : L ≠ L0) (ab : a ≠ b) (aD : a ≠ D) (bD : b ≠ D) (aL0 : a ≠ L0) (bL0 : b ≠ L0) (DL0 : D ≠ L0) (hH : a ∈ H ∧ b ∈ H ∧ D ∈ H ∧ L ∈ H ∧ L0 ∈ H) :
    ∀ (n : Nat) (xs ys mi : List Vec) (exs acs mis : List Value) (k1 k2 k3 : Nat) (m : Str → Option Value) (s : Shared), xs.length = n → Go s₀ s → s.heap.Ns L m → s.heap.Ns L0 m0 → m "expected" = some (.ref a) → m "actual" = some (.ref b) → m "missing" = some (.ref D) →
      s.heap.get? a = some (lstO exs k1) → s.heap.get? b = some (lstO acs k2) → s.heap.get? D = some (lstO mis k3) → EntA w W (vw H s.heap) exs xs → EntA w W (vw H s.heap) acs ys → EntA w W (vw H s.heap) mis mi → ys.length ≤ 900 → mi.length + n ≤ 900 →
      (∀ s' acs' mis' k1' k2' k3' m', Go s₀ s' → Kb [a, b, D, L, L0] s s' → s'.heap.Ns L m' → s'.heap.Ns L0 m0 → m' "actual" = some (.ref b) → m' "missing" = some (.ref D) → s'.heap.get? a = some (lstO [] k1') → s'.heap.get? b = some (lstO acs' k2') → s'.heap.get? D = some (lstO mis' k3') →
        EntA w W (vw H s'.heap) mis' (uldGo xs.reverse ys mi).1 → EntA w W (vw H s'.heap) acs' (uldGo xs.reverse ys mi).2 → R (.ok .next) s') →
      codeAny (MD w) A (.whileLoop (ulWhile w).1 (ulWhile w).2 [] (callEnvC (fdOf w 63) L 63)) R s := by
  have a51 := O.top.ne51 na
  have b51 := O.top.ne51 nb
  have D51 := O.top.ne51 nD
  have L51 := O.top.ne51 nL
  have L051 := O.top.ne51 nL0
  intro n
  induction n with
  | zero =>
    intro xs ys mi exs acs mis k1 k2 k3 m s hn G hns hn0 m1 m2 m3 hax hby hDm ex ey em hyl hml kf
    have hx0 : xs = [] := List.length_eq_zero_iff.mp hn
    subst hx0
    cases ex
    refine while1 ?_
    refine wpAny_isTrue_value ?_
    refine Mine.nL hns m1 ?_
    refine wpAny_truthy_list (items := #[]) ⟨_, hax, rfl, _, rfl⟩ (by decide) ?_
    rw [if_neg (by decide)]
    refine wpAny_execs_nil ?_
    exact kf _ acs mis k1 k2 k3 m G (fun b o _ _ e => e) hns hn0 m2 m3 hax hby hDm em ey
  | succ n ih =>
    intro xs ys mi exs acs mis k1 k2 k3 m s hn G hns hn0 m1 m2 m3 hax hby hDm ex ey em hyl hml kf
    obtain ⟨xs', x, rfl⟩ : ∃ xs' x, xs = xs' ++ [x] := ⟨xs.dropLast, xs.getLast (by intro h; rw [h] at hn; cases hn), (List.dropLast_concat_getLast _).symm⟩
    obtain ⟨exs', v, rfl, ⟨p, rfl, ep⟩, ex'⟩ := All2.unsnoc ex
    have hn' : xs'.length = n := by simpa using hn
    have hel : exs'.length = n := ex'.length.trans hn'
    rw [List.reverse_append, List.reverse_singleton, List.singleton_append, uldGo] at kf
    refine while1 ?_
    refine wpAny_isTrue_value ?_
    refine Mine.nL hns m1 ?_
    refine wpAny_truthy_list (items := (exs' ++ [Value.ref p]).toArray) ⟨_, hax, rfl, _, rfl⟩ (by simp; omega) ?_
    rw [if_pos (by first | exact zm0 | exact zm1 | exact zm2 | exact zm3 | exact zm4 | exact zm5 | exact zm6 | exact zm7 | exact zs0 | exact zs1 | exact zs2 | exact zs3 | exact zn0 | exact zn1 (by decide) | simp)]
    refine wpAny_execs_cons ?_
    refine wpAny_Assign_Name ?_
    refine MethodCall_ (pl := _) ?_
    refine Mine.nL hns m1 ?_
    refine getMethod_builtin (T := "list") ⟨_, hax, rfl⟩ F.plainAttrs_list F.slot_list_pop F.type_list_pop (fun q e => by cases e; exact ⟨_, hax, rfl⟩) ?_
    refine popL hax (by first | assumption | exact ind2 (by assumption) | exact ind1 (by assumption) | exact Nat.le_trans (by assumption) (by decide) | exact Nat.le_of_lt (by assumption) | exact Nat.lt_of_le_of_lt (Nat.le_add_right _ _) (by assumption) | omega) ?_
    intro s2 k1' ch2 hax2
    have G2 : Go s₀ s2 := Go.ke (s := { s with toks := _ }) G O.top na ch2.ke
    have kb2 : Kb [a, b, D, L, L0] s s2 := Kb.ke (s := { s with toks := _ }) ch2.ke (by first | exact zm0 | exact zm1 | exact zm2 | exact zm3 | exact zm4 | exact zm5 | exact zm6 | exact zm7 | exact zs0 | exact zs1 | exact zs2 | exact zs3 | exact zn0 | exact zn1 (by decide) | simp)
    have hns2 : s2.heap.Ns L m := ns_ke (s := { s with toks := _ }) hns ch2.ke (Ne.symm aL)
    refine sL O G2 nL hns2 ?_
    intro s3 G3 hns3 hs3
    have kb3 : Kb [a, b, D, L, L0] s s3 := kb2.trans (Kb.same (a := L) hs3 (by first | exact zm0 | exact zm1 | exact zm2 | exact zm3 | exact zm4 | exact zm5 | exact zm6 | exact zm7 | exact zs0 | exact zs1 | exact zs2 | exact zs3 | exact zn0 | exact zn1 (by decide) | simp))
    have hax3 := hs3.extBut _ _ aL hax2
    have kbE : Kb [a, L] s s3 := (Kb.ke (s := { s with toks := _ }) ch2.ke (by first | exact zm0 | exact zm1 | exact zm2 | exact zm3 | exact zm4 | exact zm5 | exact zm6 | exact zm7 | exact zs0 | exact zs1 | exact zs2 | exact zs3 | exact zn0 | exact zn1 (by decide) | simp)).trans (Kb.same (a := L) hs3 (by first | exact zm0 | exact zm1 | exact zm2 | exact zm3 | exact zm4 | exact zm5 | exact zm6 | exact zm7 | exact zs0 | exact zs1 | exact zs2 | exact zs3 | exact zn0 | exact zn1 (by decide) | simp))
    have hby3 := kbE _ _ b51 (by first | exact nin1 (⟨Ne.symm ab, bL⟩) | exact ninp (⟨Ne.symm ab, bL⟩) | exact nin3 (⟨Ne.symm ab, bL⟩) | exact zall1 (⟨Ne.symm ab, bL⟩) | exact zall2 (⟨Ne.symm ab, bL⟩) | exact zall3 (⟨Ne.symm ab, bL⟩) | exact zall4 (⟨Ne.symm ab, bL⟩) | (simp; exact ⟨Ne.symm ab, bL⟩)) hby
    have hDm3 := kbE _ _ D51 (by first | exact nin1 (⟨Ne.symm aD, DL⟩) | exact ninp (⟨Ne.symm aD, DL⟩) | exact nin3 (⟨Ne.symm aD, DL⟩) | exact zall1 (⟨Ne.symm aD, DL⟩) | exact zall2 (⟨Ne.symm aD, DL⟩) | exact zall3 (⟨Ne.symm aD, DL⟩) | exact zall4 (⟨Ne.symm aD, DL⟩) | (simp; exact ⟨Ne.symm aD, DL⟩)) hDm
    have hn03 : s3.heap.Ns L0 m0 := kbE.ns hn0 L051 (by first | exact nin1 (⟨Ne.symm aL0, Ne.symm LL⟩) | exact ninp (⟨Ne.symm aL0, Ne.symm LL⟩) | exact nin3 (⟨Ne.symm aL0, Ne.symm LL⟩) | exact zall1 (⟨Ne.symm aL0, Ne.symm LL⟩) | exact zall2 (⟨Ne.symm aL0, Ne.symm LL⟩) | exact zall3 (⟨Ne.symm aL0, Ne.symm LL⟩) | exact zall4 (⟨Ne.symm aL0, Ne.symm LL⟩) | (simp; exact ⟨Ne.symm aL0, Ne.symm LL⟩))
    have le3 : Le (vw H s.heap) (vw H s3.heap) := vw_kb kbE (by first | exact nin1 (⟨hH.1, hH.2.2.2.1⟩) | exact ninp (⟨hH.1, hH.2.2.2.1⟩) | exact nin3 (⟨hH.1, hH.2.2.2.1⟩) | exact zall1 (⟨hH.1, hH.2.2.2.1⟩) | exact zall2 (⟨hH.1, hH.2.2.2.1⟩) | exact zall3 (⟨hH.1, hH.2.2.2.1⟩) | exact zall4 (⟨hH.1, hH.2.2.2.1⟩) | (simp; exact ⟨hH.1, hH.2.2.2.1⟩))
    try dsimp only
    refine wpAny_execs_cons ?_
    refine wpAny_Try_except ?_
    refine wpAny_execs_cons ?_
    refine wpAny_Expr ?_
    refine MethodCall_ (pl := _) ?_
    refine Mine.nL hns3 m2 ?_
    refine getMethod_builtin (T := "list") ⟨_, hby3, rfl⟩ F.plainAttrs_list F.slot_list_remove F.type_list_remove (fun q e => by cases e; exact ⟨_, hby3, rfl⟩) ?_
    refine callWith_method1 ?_
    refine args_cons ?_
    refine Mine.nL hns3 rfl ?_
    refine args_nil ?_
    have hall := ey.length
    have heq : ∀ j (h1 : j < acs.toArray.size), EqW w A.in1 s3 acs.toArray[j] (.ref p) ((ys[j]?.map fun y => veq y x).getD false) := by
      intro j h1
      have h1' : j < acs.length := by simpa using h1
      obtain ⟨y, hy, q, hq, eq⟩ := ey.get' (i := j) (a := acs[j]) (List.getElem?_eq_getElem h1')
      have : acs.toArray[j] = .ref q := by simpa using hq
      rw [this, hy]
      exact entEq (A := A.in1) (eq.mono le3) (ep.mono le3) (by show A.units + 1 + 6 < cLine; omega)
    have hsz : acs.toArray.size ≤ sizeLine := by rw [List.size_toArray, hall]; exact Nat.le_trans hyl (by rw [sizeLine_eq]; decide)
    cases hany : ys.any (fun y => veq y x) with
    | true =>
      rw [hany, if_pos rfl] at kf
      obtain ⟨j, y, f1, f2, f3, f4⟩ := first_hit hany
      have hjl : j < ys.length := (List.getElem?_eq_some_iff.mp f1).1
      refine call_meetsIn F.slot_list_remove ⟨_, hby3, rfl⟩ F.entry_list_remove (F.args_list_remove_2 _ _) (removeW b acs.toArray k2 (.ref p) (fun j => (ys[j]?.map fun y => veq y x).getD false) j (by rw [List.size_toArray, hall]; exact hjl) (by rw [f1]; exact f2) (fun mm hm => ?_) hsz) ⟨hby3, heq, ?_⟩
      · show (Option.map _ ys[mm]?).getD false = false
        cases e : ys[mm]? with
        | none => rfl
        | some z => exact f3 mm z hm e
      have hup := IsL.update (x := hby3) (fun zs => zs.eraseIdxIfInBounds j)
      have ee : acs.toArray.eraseIdxIfInBounds j = (acs.eraseIdx j).toArray := by simp [Array.eraseIdxIfInBounds, hall, hjl]
      rw [ee] at hup
      have ch4 : Ch b s3 { s3 with heap := s3.heap.update b (Obj.mapSeq fun zs => zs.eraseIdxIfInBounds j) } := ⟨Heap.SameBut.update .., rfl, rfl⟩
      show _
      generalize hs4 : ({ s3 with heap := s3.heap.update b (Obj.mapSeq fun zs => zs.eraseIdxIfInBounds j) } : Shared) = s4 at ch4
      obtain ⟨kx, hup4⟩ : ∃ kx, s4.heap.get? b = some (lstO (acs.eraseIdx j) kx) := by rw [← hs4]; exact ⟨_, hup⟩
      have G4 := Go.ke G3 O.top nb ch4.ke
      have hns4 := ns_ke hns3 ch4.ke (Ne.symm bL)
      have hn04 := ns_ke hn03 ch4.ke (Ne.symm bL0)
      have le4 : Le (vw H s3.heap) (vw H s4.heap) := vw_kb (Kb.ke ch4.ke (xs := [b]) (by first | exact zm0 | exact zm1 | exact zm2 | exact zm3 | exact zm4 | exact zm5 | exact zm6 | exact zm7 | exact zs0 | exact zs1 | exact zs2 | exact zs3 | exact zn0 | exact zn1 (by decide) | simp)) (by first | exact nin1 (hH.2.1) | exact ninp (hH.2.1) | exact nin3 (hH.2.1) | exact zall1 (hH.2.1) | exact zall2 (hH.2.1) | exact zall3 (hH.2.1) | exact zall4 (hH.2.1) | (simp; exact hH.2.1))
      refine wpAny_execs_nil ?_
      try dsimp only
      refine wpAny_execs_nil ?_
      try dsimp only
      refine wpAny_execs_nil ?_
      try dsimp only
      rw [f4] at kf
      refine ih xs' (ys.eraseIdx j) mi exs' (acs.eraseIdx j) mis _ _ k3 _ s4 hn' G4 hns4 hn04 m1 m2 m3 (ch4.ke.1 _ _ ab hax3) hup4 (ch4.ke.1 _ _ (Ne.symm bD) hDm3) (EntA.mono ex' (le3.trans le4)) (EntA.mono (All2.eraseIdx ey j) (le3.trans le4)) (EntA.mono em (le3.trans le4)) (Nat.le_trans (List.length_eraseIdx_le ..) hyl) (by first | assumption | exact ind2 (by assumption) | exact ind1 (by assumption) | exact Nat.le_trans (by assumption) (by decide) | exact Nat.le_of_lt (by assumption) | exact Nat.lt_of_le_of_lt (Nat.le_add_right _ _) (by assumption) | omega) ?_
      intro s' acs' mis' k1'' k2'' k3'' m' G' kb' r1 r2 r3 r4 r5 r6 r7 r8 r9
      exact kf s' acs' mis' k1'' k2'' k3'' m' G' ((kb3.trans (Kb.ke ch4.ke (by first | exact zm0 | exact zm1 | exact zm2 | exact zm3 | exact zm4 | exact zm5 | exact zm6 | exact zm7 | exact zs0 | exact zs1 | exact zs2 | exact zs3 | exact zn0 | exact zn1 (by decide) | simp))).trans kb') r1 r2 r3 r4 r5 r6 r7 r8 r9
    | false =>
      rw [hany, if_neg Bool.false_ne_true] at kf
      refine call_meetsIn F.slot_list_remove ⟨_, hby3, rfl⟩ F.entry_list_remove (F.args_list_remove_2 _ _) (remove0W b acs.toArray k2 (.ref p) (fun j => (ys[j]?.map fun y => veq y x).getD false) (fun mm hm => ?_)) ⟨hby3, heq, hh, ?_⟩
      · show (Option.map _ ys[mm]?).getD false = false
        cases e : ys[mm]? with
        | none => rfl
        | some z => exact (List.any_eq_false.mp hany z (List.mem_of_getElem? e)) |> fun h => by simpa using h
      intro h4 tk4 e hx
      refine caught1 (L := L) (L0 := L0) (h₀ := s3.heap) (outer := outer) hfr rfl hk0 rfl hf0 hns3 hn03 hx ve_sub.1 ve_sub.2.1 ve_sub.2.2 ?_ ?_
      · intro A' s' E' Q' kk hq
        have T3 : Top0 w mg mb s'.heap := O.top.goH (Go.catch (s' := { s3 with heap := s'.heap }) G3 O.top nL nL0 kk rfl rfl).1
        exact nB T3 (g_VE w) hq
      intro s5 kk hns5 hn05 eg5 eo5
      have G5 : Go s₀ s5 := Go.catch G3 O.top nL nL0 kk eg5 eo5
      have kb5 : Kb [L, L0] s3 s5 := fun q o _ nm e => kk q o (fun z => nm (by simp [z])) (fun z => nm (by simp [z])) e
      have hDm5 := kk _ _ DL DL0 hDm3
      have le5 : Le (vw H s3.heap) (vw H s5.heap) := vw_kb kb5 (by first | exact nin1 (⟨hH.2.2.2.1, hH.2.2.2.2⟩) | exact ninp (⟨hH.2.2.2.1, hH.2.2.2.2⟩) | exact nin3 (⟨hH.2.2.2.1, hH.2.2.2.2⟩) | exact zall1 (⟨hH.2.2.2.1, hH.2.2.2.2⟩) | exact zall2 (⟨hH.2.2.2.1, hH.2.2.2.2⟩) | exact zall3 (⟨hH.2.2.2.1, hH.2.2.2.2⟩) | exact zall4 (⟨hH.2.2.2.1, hH.2.2.2.2⟩) | (simp; exact ⟨hH.2.2.2.1, hH.2.2.2.2⟩))
      refine wpAny_execs_cons ?_
      refine apnd (D := D) hns5 m3 hDm5 (by have := em.length; omega) ?_ (pl := _)
      refine Mine.nL hns5 rfl ?_
      refine ⟨hDm5, fun s6 c6 hD6 => ?_⟩
      have G6 := Go.ke G5 O.top nD c6.ke
      have hns6 := ns_ke hns5 c6.ke (Ne.symm DL)
      have hn06 := ns_ke hn05 c6.ke (Ne.symm DL0)
      have le6 : Le (vw H s5.heap) (vw H s6.heap) := vw_kb (Kb.ke c6.ke (xs := [D]) (by first | exact zm0 | exact zm1 | exact zm2 | exact zm3 | exact zm4 | exact zm5 | exact zm6 | exact zm7 | exact zs0 | exact zs1 | exact zs2 | exact zs3 | exact zn0 | exact zn1 (by decide) | simp)) (by first | exact nin1 (hH.2.2.1) | exact ninp (hH.2.2.1) | exact nin3 (hH.2.2.1) | exact zall1 (hH.2.2.1) | exact zall2 (hH.2.2.1) | exact zall3 (hH.2.2.1) | exact zall4 (hH.2.2.1) | (simp; exact hH.2.2.1))
      refine wpAny_execs_nil ?_
      try dsimp only
      refine wpAny_execs_nil ?_
      try dsimp only
      have le36 := (le3.trans le5).trans le6
      refine ih xs' ys (mi ++ [x]) exs' acs (mis ++ [.ref p]) _ k2 _ _ s6 hn' G6 hns6 hn06 m1 m2 m3 (c6.ke.1 _ _ aD (kk _ _ aL aL0 hax3)) (c6.ke.1 _ _ bD (kk _ _ bL bL0 hby3)) hD6 (EntA.mono ex' le36) (EntA.mono ey le36) ((EntA.mono em le36).snoc ⟨p, rfl, ep.mono le36⟩) hyl (by rw [List.length_append, List.length_singleton]; omega) ?_
      intro s' acs' mis' k1'' k2'' k3'' m' G' kb' r1 r2 r3 r4 r5 r6 r7 r8 r9
      exact kf s' acs' mis' k1'' k2'' k3'' m' G' (((kb3.trans (kb5.sub (by first | exact zm0 | exact zm1 | exact zm2 | exact zm3 | exact zm4 | exact zm5 | exact zm6 | exact zm7 | exact zs0 | exact zs1 | exact zs2 | exact zs3 | exact zn0 | exact zn1 (by decide) | simp))).trans (Kb.ke c6.ke (by first | exact zm0 | exact zm1 | exact zm2 | exact zm3 | exact zm4 | exact zm5 | exact zm6 | exact zm7 | exact zs0 | exact zs1 | exact zs2 | exact zs3 | exact zn0 | exact zn1 (by decide) | simp))).trans kb') r1 r2 r3 r4 r5 r6 r7 r8 r9
end
end Mine
end TextU3
section TextU4
namespace Mine
open PySem PySem.W PySem.Calls PyProof.Rows PySem.Spec
section
variable {w : World} {mg mb : Str → Option Value} {A : Around} {s s₀ : Shared} {ms : List Addr} {Q E : Value → Shared → Prop}
set_option maxHeartbeats 2000000
theorem uld_spec {L0 a b : Addr} {H : List Addr} {outer : Env} {m0 : Str → Option Value} {W : Bool} {xs ys : List Vec} {exs acs : List Value} {k1 k2 : Nat} (O : Ok w mg mb ms s₀) (G : Go s₀ s) (hA : Fit A 20 60) (hfr : A.frames = some [outer]) (hk0 : outer.scope.kind = .function) (hf0 : outer.frame = some L0)
    (nL0 : s₀.heap.get? L0 = none) (na : s₀.heap.get? a = none) (nb : s₀.heap.get? b = none) (ab : a ≠ b) (aL0 : a ≠ L0) (bL0 : b ≠ L0) (hH : a ∈ H ∧ b ∈ H ∧ L0 ∈ H)
    (hn0 : s.heap.Ns L0 m0) (hax : s.heap.get? a = some (lstO exs k1)) (hby : s.heap.get? b = some (lstO acs k2)) (ex : EntA w W (vw H s.heap) exs xs) (ey : EntA w W (vw H s.heap) acs ys) (hxl : xs.length ≤ 900) (hyl : ys.length ≤ 900)
    (k : ∀ r D s' acs' mis' k1' k2' k3', Go s₀ s' → Kb [a, b, L0] s s' → s'.heap.Ns L0 m0 → s.heap.get? r = none → s.heap.get? D = none → s'.heap.get? r = some (tupO [.ref D, .ref b]) → s'.heap.get? a = some (lstO [] k1') → s'.heap.get? b = some (lstO acs' k2') → s'.heap.get? D = some (lstO mis' k3') →
      EntA w W (vw H s'.heap) mis' (uld xs ys).1 → EntA w W (vw H s'.heap) acs' (uld xs ys).2 → Q (.ref r) s') :
    wpAny (MD w) A (call (.ref 63) [.ref a, .ref b]) Q E s := by
  have Os := O.go G
  refine call_fn Os hA.room rfl rfl rfl rfl (bd_uld _ _ _) rfl rfl ?_
  intro L s1 hLs G1 hns hc hpw
  have nL := O.new G hLs
  have aL : a ≠ L := ne_of_get hax hLs
  have bL : b ≠ L := ne_of_get hby hLs
  have L0L : L0 ≠ L := by obtain ⟨o, _, _, e, _⟩ := hn0; exact ne_of_get e hLs
  have a51 := O.top.ne51 na
  have b51 := O.top.ne51 nb
  have L051 := O.top.ne51 nL0
  have GG := G.trans G1
  refine wpAny_execs_cons ?_
  refine wpAny_Assign_Name ?_
  refine PyProof.Rows.List_ ?_
  refine args_nil ?_
  refine mkL (small_list (Nat.le_of_ble_eq_true rfl)) fun D s2 hD hDo k2' => ?_
  have G2 := GG.trans k2'.go
  have nD := O.new GG hD
  have DL : D ≠ L := by obtain ⟨o, _, _, e, _⟩ := hns; exact Ne.symm (ne_of_get e hD)
  have k02 : ∀ q o, q ≠ 51 → s.heap.get? q = some o → s2.heap.get? q = some o := fun q o n e => k2'.1 q o (G1.keep q o n e)
  have hDs : s.heap.get? D = none := (Os.new G1 hD).1
  have aD : a ≠ D := ne_of_get hax hDs
  have bD : b ≠ D := ne_of_get hby hDs
  have L0D : L0 ≠ D := by obtain ⟨o, _, _, e, _⟩ := hn0; exact ne_of_get e hDs
  refine sL O G2 nL.1 (hns.keeps k2'.1) ?_
  intro s3 G3 hns3 hs3
  have hax3 := hs3.extBut _ _ aL (k02 _ _ a51 hax)
  have hby3 := hs3.extBut _ _ bL (k02 _ _ b51 hby)
  have hD3 := hs3.extBut _ _ DL hDo
  have hn03 : s3.heap.Ns L0 m0 := hn0.at' fun o e => hs3.extBut _ o L0L (k02 _ o L051 e)
  have le3 : Le (vw H s.heap) (vw (D :: L :: H) s3.heap) := fun q o e => by
    obtain ⟨e1, e2, e3⟩ := vw_iff.mp e
    refine vw_iff.mpr ⟨e1, ?_, hs3.extBut _ _ (ne_of_get e3 hLs) (k02 _ _ e1 e3)⟩
    simp only [List.mem_cons]
    rintro (rfl | rfl | h)
    · rw [hDs] at e3; cases e3
    · rw [hLs] at e3; cases e3
    · exact e2 h
  try dsimp only
  refine wpAny_execs_cons ?_
  refine wpAny_While ?_
  refine ul_loop (H := D :: L :: H) (W := W) (m0 := m0) (outer := outer) (D := D) (a := a) (b := b) (L0 := L0) O (show (A.deeper (callEnvC (fdOf w 63) L 63)).handled = none from hA.h) ?_ ?_ hk0 hf0 nL.1 nL0 na nb nD.1 aL bL DL (Ne.symm L0L) ab aD bD aL0 bL0 (Ne.symm L0D)
    (by simp only [List.mem_cons]; exact ⟨.inr (.inr hH.1), .inr (.inr hH.2.1), .inl trivial, .inr (.inl trivial), .inr (.inr hH.2.2)⟩)
    xs.length xs ys [] exs acs [] k1 k2 0 _ s3 rfl G3 hns3 hn03 rfl rfl rfl hax3 hby3 hD3 (EntA.mono ex le3) (EntA.mono ey le3) .nil hyl (by simpa using hxl) ?_
  · exact (Fit.deeper (hA.le (d' := 11) (u' := 23)) (env := callEnvC (fdOf w 63) L 63)).u
  · show (A.deeper (callEnvC (fdOf w 63) L 63)).frames = _
    rw [Around.deeper, hfr]; rfl
  intro s4 acs' mis' k1' k2'' k3' m' G4 kb4 hns4 hn04 m2 m3 ha4 hb4 hD4 em ey'
  try dsimp only
  refine wpAny_execs_cons ?_
  refine wpAny_Return_some ?_
  refine PyProof.Rows.Tuple_ ?_
  refine args_cons ?_
  refine Mine.nL hns4 m3 ?_
  refine args_cons ?_
  refine Mine.nL hns4 m2 ?_
  refine args_nil ?_
  refine mkT (small_list (Nat.le_of_ble_eq_true rfl)) fun r s5 hr hro k5 => ?_
  have kb05 : Kb [a, b, L0] s s5 := fun q o n nm e => by
    have qL : q ≠ L := ne_of_get e hLs
    have qD : q ≠ D := ne_of_get e hDs
    refine k5.1 q o (kb4 q o n ?_ (hs3.extBut _ _ qL (k02 _ _ n e)))
    simp only [List.mem_cons, List.not_mem_nil, or_false] at nm ⊢
    rintro (h | h | h | h | h)
    · exact nm (.inl h)
    · exact nm (.inr (.inl h))
    · exact qD h
    · exact qL h
    · exact nm (.inr (.inr h))
  have hrs : s.heap.get? r = none := by
    cases e : s.heap.get? r with
    | none => rfl
    | some o =>
      exfalso
      have h4 := O.new G4 hr
      by_cases q : r = a
      · rw [q, ha4] at hr; cases hr
      by_cases q2 : r = b
      · rw [q2, hb4] at hr; cases hr
      by_cases q3 : r = L0
      · obtain ⟨o', _, _, e', _⟩ := hn04; rw [q3, e'] at hr; cases hr
      have qL : r ≠ L := ne_of_get e hLs
      have qD : r ≠ D := ne_of_get e hDs
      have := kb4 r o h4.2.1 (by first | exact nin1 (⟨q, q2, qD, qL, q3⟩) | exact ninp (⟨q, q2, qD, qL, q3⟩) | exact nin3 (⟨q, q2, qD, qL, q3⟩) | exact zall1 (⟨q, q2, qD, qL, q3⟩) | exact zall2 (⟨q, q2, qD, qL, q3⟩) | exact zall3 (⟨q, q2, qD, qL, q3⟩) | exact zall4 (⟨q, q2, qD, qL, q3⟩) | (simp; exact ⟨q, q2, qD, qL, q3⟩)) (hs3.extBut _ _ qL (k02 _ _ h4.2.1 e))
      rw [hr] at this; cases this
  have le5 : Le (vw (D :: L :: H) s4.heap) (vw H s5.heap) := (vw_go k5.go).trans (vw_less [D, L])
  exact k r D s5 acs' mis' k1' k2'' k3' (G4.trans k5.go) kb05 (hn04.keeps k5.1) hrs hDs hro (k5.1 _ _ ha4) (k5.1 _ _ hb4) (k5.1 _ _ hD4) (EntA.mono em le5) (EntA.mono ey' le5)
end
end Mine
end TextU4
section TextP1
namespace Mine
open PySem PySem.W PySem.Calls PyProof.Rows PySem.Spec
def cnt (v : Vec) (l : List Vec) : Nat := l.countP fun y => veq y v
theorem countP_range {us : List Vec} {p : Vec → Bool} : (List.range us.length).countP (fun j => (us[j]?.map p).getD false) = us.countP p := by
  induction us with
  | nil => rfl
  | cons u r ih =>
    rw [List.length_cons, List.range_succ_eq_map, List.countP_cons, List.countP_map, List.countP_cons]
    have : ((fun j => ((u :: r)[j]?.map p).getD false) ∘ Nat.succ) = fun j => (r[j]?.map p).getD false := by funext j; simp
    rw [this, ih]
    simp
def partA (xs ys : List Vec) : List Vec := ((rangeL (xs.length - 1) (-1) xs.length).filter fun i => decide (cnt (xs.getD i.toNat Vec.z) ys < cnt (xs.getD i.toNat Vec.z) (xs.drop i.toNat))).map fun i => xs.getD i.toNat Vec.z
def partB (xs ys : List Vec) : List Vec := ((rangeL 0 1 ys.length).filter fun i => decide (cnt (ys.getD i.toNat Vec.z) xs < cnt (ys.getD i.toNat Vec.z) (ys.take (i.toNat + 1)))).map fun i => ys.getD i.toNat Vec.z
theorem bd_parted (w : World) (a b : Value) : bindArgs (fdOf w 128) ⟨[a, b], []⟩ = pure [(Str.ofString "one", a), (Str.ofString "other", b)] := by kernel_rfl
section
variable {w : World} {mg mb : Str → Option Value} {A : Around} {s : Shared} {ms : List Addr} {Q E : Value → Shared → Prop} {env : Env}
/-- o.count(e) -/
theorem cntCall {o e : Expr} {ap cp : Pos} {W : Bool} {H : List Addr} (hu : A.units + 10 < cLine)
    (h : wpAny (MD w) A (eval o env) (fun ov s₁ => ∃ l vs k us, ov = .ref l ∧ s₁.heap.get? l = some (lstO vs k) ∧ wpAny (MD w) A (eval e env) (fun v s₂ => ∃ p u, v = .ref p ∧ s₂.heap.get? l = some (lstO vs k) ∧ EntA w W (vw H s₂.heap) vs us ∧ Ent w W (vw H s₂.heap) p u ∧
      ∀ t s', Kp s₂ s' → Q (.int (cnt u us : Nat) t) s') E s₁) E s) (pl : Sem Bool)
    (he : eval (.Call (.Attribute o "count" ap) [e] [] cp) env = (do
      let ov ← eval o env
      standAt ap.atName
      let (f, first) ← holding [ov] (getMethod ov "count" pl)
      callWith cp f first (backTo cp (starEach [e] env)) []) := by rfl) (he2 : starEach [e] env = (false, eval e env) :: starEach [] env := by rfl) :
    wpAny (MD w) A (eval (.Call (.Attribute o "count" ap) [e] [] cp) env) Q E s := by
  refine MethodCall_ (pl := pl) ?_ he
  refine wpAny_mono h (fun ov s1 h1 => ?_) fun _ _ e => e
  obtain ⟨l, vs, k, us, rfl, hl, h1⟩ := h1
  refine getMethod_builtin (T := "list") ⟨_, hl, rfl⟩ F.plainAttrs_list F.slot_list_count F.type_list_count (fun q e => by cases e; exact ⟨_, hl, rfl⟩) ?_
  refine callWith_method1 ?_ he2 rfl
  rw [he2]
  refine Calls.spliced_cons ?_
  refine wpAny_mono h1 (fun v s2 h2 => ?_) fun _ _ e => e
  obtain ⟨p, u, rfl, hl2, ea, ep, kk⟩ := h2
  refine Calls.spliced_nil ?_
  refine call_meetsIn F.slot_list_count ⟨_, hl2, rfl⟩ F.entry_list_count (F.args_list_count_2 _ _) (countW l vs.toArray k none #[] (.ref p) (fun j => (us[j]?.map fun y => veq y u).getD false)) ⟨hl2, ?_, ?_⟩
  · intro j h1
    have h1' : j < vs.length := by simpa using h1
    obtain ⟨y, hy, q, hq, eq⟩ := ea.get' (i := j) (a := vs[j]) (List.getElem?_eq_getElem h1')
    have : vs.toArray[j] = .ref q := by simpa using hq
    rw [this, hy]
    exact entEq (A := A.in1) eq ep (by show A.units + 1 + 6 < cLine; omega)
  · rw [List.size_toArray, ea.length, countP_range]
    exact kk _ _ ⟨fun b o e => e, rfl, rfl⟩
end
end Mine
end TextP1
section TextP2
namespace Mine
open PySem PySem.W PySem.Calls PyProof.Rows PySem.Spec
theorem rsz_neg : ∀ n : Nat, n < 31 → Builtin.Range.rangeSize ((n : Int) - 1) (-1) (-1) = ((n : Nat) : Int) ∧ Builtin.Range.small ((n : Int) - 1) (-1) (-1) = true := by decide +kernel
theorem rangeL_neg_mem {n : Nat} {i : Int} (h : i ∈ rangeL ((n : Int) - 1) (-1) n) : 0 ≤ i ∧ i < n := by
  obtain ⟨j, hj, rfl⟩ := List.mem_map.mp h
  have := List.mem_range.mp hj
  omega
theorem rangeL_pos_mem {n : Nat} {i : Int} (h : i ∈ rangeL 0 1 n) : 0 ≤ i ∧ i < n := by
  obtain ⟨j, hj, rfl⟩ := List.mem_map.mp h
  have := List.mem_range.mp hj
  omega
theorem len63 {n : Nat} (h : n ≤ 1000) : ((n : Nat) : Int) < 2 ^ 63 := Int.lt_of_le_of_lt (Int.ofNat_le.mpr h) (by decide)
theorem lt63 {i : Int} {n : Nat} (h : i < n) (h2 : n ≤ 1000) : i < 2 ^ 63 := Int.lt_of_lt_of_le h (Int.le_trans (Int.ofNat_le.mpr h2) (by decide))
section
variable {w : World} {mg mb : Str → Option Value} {A : Around} {s : Shared} {ms : List Addr} {Q E : Value → Shared → Prop} {env : Env}
theorem ent_at {W : Bool} {g : View} {vs : List Value} {us : List Vec} {i : Int} (h : EntA w W g vs us) (h0 : 0 ≤ i) (h1 : i < us.length) : ∃ p, vs[i.toNat]? = some (.ref p) ∧ Ent w W g p (us.getD i.toNat Vec.z) := by
  have hlt : i.toNat < us.length := (by first | exact ind0 (by assumption) (by assumption) | exact ind1 (by assumption) | omega)
  obtain ⟨_, e, p, rfl, x⟩ := h.get (List.getElem?_eq_getElem hlt)
  refine ⟨p, e, ?_⟩
  rw [List.getD_eq_getElem?_getD, List.getElem?_eq_getElem hlt]
  exact x
theorem rng3 {a n c : Int} {t u v : Tok} (hc : c ≠ 0) (hp : c.natAbs < 1073741824) (h : ∀ r t u v s', s.heap.get? r = none → IsRange s'.heap r a n c t u v → Kp s s' → Q (.ref r) s') : wpAny (MD w) A (call (.type "range") [.int a t, .int n u, .int c v]) Q E s :=
  call_range_3 hc (h _ _ _ _ _ (get_size _) (Heap.get?_push_size _ rfl) ⟨fun _ _ e => Heap.get?_push_of_some _ e, rfl, rfl⟩) (.inl (PyProof.noPylong_small hp))
set_option maxHeartbeats 2000000
theorem parted_spec {a b : Addr} {xs ys : List Vec} {exs acs : List Value} {k1 k2' : Nat} {W : Bool} (O : Ok w mg mb ms s) (hA : Fit A 20 60) (ha : vw ms s.heap a = some (lstO exs k1)) (hb : vw ms s.heap b = some (lstO acs k2'))
    (ex : EntA w W (vw ms s.heap) exs xs) (ey : EntA w W (vw ms s.heap) acs ys) (hxl : xs.length ≤ 30) (hyl : ys.length ≤ 30)
    (k : ∀ r D D2 s' mis res kk1 kk2, Go s s' → s'.heap.get? r = some (tupO [.ref D, .ref D2]) → s.heap.get? r = none → s.heap.get? D = none → s.heap.get? D2 = none → s'.heap.get? D = some (lstO mis kk1) → s'.heap.get? D2 = some (lstO res kk2) →
      EntA w W (vw ms s'.heap) mis (partA xs ys) → EntA w W (vw ms s'.heap) res (partB xs ys) → Q (.ref r) s') : wpAny (MD w) A (call (.ref 128) [.ref a, .ref b]) Q E s := by
  refine call_fn O hA.room rfl rfl rfl rfl (bd_parted _ _ _) rfl rfl ?_
  intro L s1 hL G hns hc hpw
  have L51 := O.top.ne51 hL
  have hB : Fit (A.deeper (callEnvC (fdOf w 128) L 128)) 10 20 := Fit.deeper (hA.le (d' := 11) (u' := 23))
  have hBu : (A.deeper (callEnvC (fdOf w 128) L 128)).units + 10 < cLine := by have := hB.u; omega
  obtain ⟨ce, hce⟩ : ∃ ce, (callEnvC (fdOf w 128) L 128).cells.lookup (Str.ofString "one") = some ce := ⟨_, rfl⟩
  obtain ⟨cc, hcc⟩ : ∃ cc, (callEnvC (fdOf w 128) L 128).cells.lookup (Str.ofString "other") = some cc := ⟨_, rfl⟩
  obtain ⟨e1, e2, e3⟩ := hc _ _ hce
  obtain ⟨d1, d2, d3⟩ := hc _ _ hcc
  have ce51 := O.top.ne51 e1
  have cc51 := O.top.ne51 d1
  have O1 : Ok w mg mb (L :: ms) s1 := O.fr G hL hns
  have le1 : Le (vw ms s.heap) (vw (L :: ms) s1.heap) := vw_more [L] G (by simpa using hL)
  have hel := ex.length
  have hal := ey.length
  obtain ⟨z1, z2⟩ := rsz_neg xs.length (Nat.lt_succ_of_le hxl)
  refine wpAny_execs_cons ?_
  refine lcA (mg := mg) (mb := mb) (ms := L :: ms) (ds := rangeL ((xs.length : Int) - 1) (-1) xs.length) (p := fun i => decide (cnt (xs.getD i.toNat Vec.z) ys < cnt (xs.getD i.toNat Vec.z) (xs.drop i.toNat))) (R := fun i g y => ∃ p, y = .ref p ∧ Ent w W g p (xs.getD i.toNat Vec.z)) (T := "range_iterator")
    (fun d g g' y le ⟨a, e, x⟩ => ⟨a, e, x.mono le⟩) (by simp [rangeL]; omega) rfl rfl (by decide) rfl (by decide) (by intro x; rfl) ?_
  refine PyProof.Rows.Call_ ?_
  refine nB O1.top (g_range w) ?_
  refine PyProof.Rows.callWith_type1 ?_
  refine args_cons ?_
  refine wpAny_BinOp ?_
  refine PyProof.Rows.Call_ ?_
  refine nB O1.top (g_len w) ?_
  refine PyProof.Rows.callWith_builtin1 ?_
  refine args_cons ?_
  refine nC (c := ce) hce e3 ?_
  refine args_nil ?_
  refine len_list (items := exs.toArray) ⟨_, vw_get (le1 _ _ ha), rfl, _, rfl⟩ (by rw [List.size_toArray]; omega) ?_
  refine wpAny_Constant_int ?_
  refine sub_int ?_
  refine args_cons ?_
  refine wpAny_UnaryOp ?_
  refine wpAny_Constant_int ?_
  refine neg_int ?_
  refine args_cons ?_
  refine wpAny_UnaryOp ?_
  refine wpAny_Constant_int ?_
  refine neg_int ?_
  refine args_nil ?_
  refine rng3 (by decide) (by decide) ?_
  intro rr t1 t2 t3 s2 hrr hr2 k2
  rw [show (exs.toArray.size : Int) = (xs.length : Int) by rw [List.size_toArray, hel]] at hr2
  have G12 : Go s1 s2 := Kp.go (s := { s1 with toks := _ }) k2
  have O2 : Ok w mg mb (L :: ms) s2 := O1.go G12
  have le2 : Le (vw ms s.heap) (vw (L :: ms) s2.heap) := le1.trans (vw_go G12)
  have e32 := cell_at (h' := s2.heap) e3 fun o e => G12.keep _ o ce51 e
  have d32 := cell_at (h' := s2.heap) d3 fun o e => G12.keep _ o cc51 e
  -- what stands at a later state
  refine ⟨⟨fun d v => ∃ t, v = .int d t, _, O2, srcR hA.h O2 (Go.refl _) hr2 z2 z1, tgtN O2 rfl rfl, ?_⟩, ?_⟩
  · intro C D I i m s3 hi hn hM G3 hC hD hI O3
    obtain ⟨v, hv, t, rfl⟩ := hM
    obtain ⟨i0, i1⟩ := rangeL_neg_mem hi
    have le3 : Le (vw ms s.heap) (vw (I :: D :: C :: L :: ms) s3.heap) := le2.trans (vw_more [I, D, C] G3 (by first | exact nin1 (⟨hI, hD, hC⟩) | exact ninp (⟨hI, hD, hC⟩) | exact nin3 (⟨hI, hD, hC⟩) | exact zall1 (⟨hI, hD, hC⟩) | exact zall2 (⟨hI, hD, hC⟩) | exact zall3 (⟨hI, hD, hC⟩) | exact zall4 (⟨hI, hD, hC⟩) | (simp; exact ⟨hI, hD, hC⟩)))
    have ce3 := cell_at (h' := s3.heap) e32 fun o e => G3.keep _ o ce51 e
    have cc3 := cell_at (h' := s3.heap) d32 fun o e => G3.keep _ o cc51 e
    have C51 := O2.top.ne51 hC
    obtain ⟨p, hp, ep⟩ := ent_at (EntA.mono ex le3) i0 i1
    have ha3 := vw_get (le3 _ _ ha)
    have hb3 := vw_get (le3 _ _ hb)
    have hin : ((i.toNat : Nat) : Int) = i := Int.toNat_of_nonneg i0
    refine absQ fun Q1 hQ1 => ?_
    refine wpAny_tests_one ?_
    refine wpAny_isTrue_Compare1 ?_
    refine cntCall (W := W) (H := I :: D :: C :: L :: ms) hBu ?_ (pl := _)
    refine subSlice slot_list_getitem.lookup ?_
    refine nC (c := ce) hce ce3 ?_
    refine wpAny_Slice ?_
    refine wpAny_evalPart_some ?_
    refine nL hn hv ?_
    refine wpAny_evalPart_none ?_
    refine wpAny_evalPart_none ?_
    refine sliceL (items := exs) ⟨_, ha3, rfl, _, rfl⟩ (by first | assumption | exact ind2 (by assumption) | exact ind1 (by assumption) | exact Nat.le_of_lt (by assumption) | exact Nat.lt_of_le_of_lt (Nat.le_add_right _ _) (by assumption) | omega) (.int i t) .none .none (by first | exact zm0 | exact zm1 | exact zm2 | exact zm3 | exact zm4 | exact zm5 | exact zm6 | exact zm7 | exact zs0 | exact zs1 | exact zs2 | exact zs3 | exact zn0 | exact zn1 (by decide) | simp) ?_ _ rfl
    intro r4 s4 hr4 hl4 k4
    rw [← hin, slicePick_from'] at hl4
    have le4 := vw_go (ms := I :: D :: C :: L :: ms) k4.go
    refine ⟨r4, exs.drop i.toNat, 0, xs.drop i.toNat, rfl, hl4, ?_⟩
    refine PyProof.Rows.Subscript_ ?_
    refine nC (c := ce) hce (cell_at ce3 fun o e => k4.1 _ o e) ?_
    refine nL (hn.keeps k4.1) hv ?_
    refine item_listL (l := exs) ⟨_, k4.1 _ _ ha3, rfl, _, rfl⟩ i0 (lt63 i1 (Nat.le_trans hxl (by decide))) hp ?_
    refine ⟨p, _, rfl, hl4, EntA.mono (All2.drop (EntA.mono ex le3) _) le4, ep.mono le4, fun t5 s5 k5 => ?_⟩
    have k35 : Kp s3 s5 := ⟨fun b o e => k5.1 b o (k4.1 b o e), k5.2.1.trans k4.2.1, k5.2.2.trans k4.2.2⟩
    have le5 := vw_go (ms := I :: D :: C :: L :: ms) k35.go
    refine cntCall (W := W) (H := I :: D :: C :: L :: ms) hBu ?_ (pl := _)
    refine nC (c := cc) hcc (cell_at cc3 fun o e => k35.1 _ o e) ?_
    refine ⟨b, acs, k2', ys, rfl, k35.1 _ _ hb3, ?_⟩
    refine PyProof.Rows.Subscript_ ?_
    refine nC (c := ce) hce (cell_at ce3 fun o e => k35.1 _ o e) ?_
    refine nL (hn.keeps k35.1) hv ?_
    refine item_listL (l := exs) ⟨_, k35.1 _ _ ha3, rfl, _, rfl⟩ i0 (lt63 i1 (Nat.le_trans hxl (by decide))) hp ?_
    refine ⟨p, _, rfl, k35.1 _ _ hb3, EntA.mono (EntA.mono ey le3) le5, ep.mono le5, fun t6 s6 k6 => ?_⟩
    have k36 : Kp s3 s6 := ⟨fun b o e => k6.1 b o (k35.1 b o e), k6.2.1.trans k35.2.1, k6.2.2.trans k35.2.2⟩
    refine gt_int ?_
    refine wpAny_truthy_bool ?_
    refine hQ1 _ _ ?_
    refine ⟨by simp, k36.go, fun _ => ?_⟩
    refine absQ fun Q2 hQ2 => ?_
    refine PyProof.Rows.Subscript_ ?_
    refine nC (c := ce) hce (cell_at ce3 fun o e => k36.1 _ o e) ?_
    refine nL (hn.keeps k36.1) hv ?_
    refine item_listL (l := exs) ⟨_, k36.1 _ _ ha3, rfl, _, rfl⟩ i0 (lt63 i1 (Nat.le_trans hxl (by decide))) hp ?_
    exact hQ2 _ _ ⟨Go.refl _, p, rfl, ep.mono (vw_go k36.go)⟩
  · intro D C mis kk s3 mC G3 hD hC hCD hnC hDl hAm
    have G13 := G12.trans G3
    have GG := G.trans G13
    have hns3 : s3.heap.Ns L _ := hns.at' fun o e => G13.keep _ o L51 e
    have hDL : D ≠ L := by obtain ⟨o, _, _, e, _⟩ := hns; exact Ne.symm (ne_of_get (G12.keep _ _ L51 e) hD)
    have hCL : C ≠ L := by obtain ⟨o, _, _, e, _⟩ := hns; exact Ne.symm (ne_of_get (G12.keep _ _ L51 e) hC)
    have ND := O.new (G.trans G12) hD
    have NC := O.new (G.trans G12) hC
    refine sL O GG hL hns3 ?_
    intro s4 G4 hns4 hs4
    refine ⟨⟨mC, hnC.at' fun o e => hs4.extBut _ o hCL e⟩, fun h' hs' => ?_⟩
    have G5 := G4.set (t := s4.toks) O.top NC.1 hs'
    have k35 : Kb [L, C] s3 { s4 with heap := h' } := (Kb.same (a := L) hs4 (by first | exact zm0 | exact zm1 | exact zm2 | exact zm3 | exact zm4 | exact zm5 | exact zm6 | exact zm7 | exact zs0 | exact zs1 | exact zs2 | exact zs3 | exact zn0 | exact zn1 (by decide) | simp)).trans (Kb.same (s := s4) (s' := { s4 with heap := h' }) hs' (by first | exact zm0 | exact zm1 | exact zm2 | exact zm3 | exact zm4 | exact zm5 | exact zm6 | exact zm7 | exact zs0 | exact zs1 | exact zs2 | exact zs3 | exact zn0 | exact zn1 (by decide) | simp))
    have hns5 : ({ s4 with heap := h' } : Shared).heap.Ns L _ := hns4.at' fun o e => hs'.extBut _ o (Ne.symm hCL) e
    generalize ({ s4 with heap := h' } : Shared) = s5 at G5 k35 hns5
    have hD5 := k35 _ _ ND.2.1 (by first | exact nin1 (⟨hDL, Ne.symm hCD⟩) | exact ninp (⟨hDL, Ne.symm hCD⟩) | exact nin3 (⟨hDL, Ne.symm hCD⟩) | exact zall1 (⟨hDL, Ne.symm hCD⟩) | exact zall2 (⟨hDL, Ne.symm hCD⟩) | exact zall3 (⟨hDL, Ne.symm hCD⟩) | exact zall4 (⟨hDL, Ne.symm hCD⟩) | (simp; exact ⟨hDL, Ne.symm hCD⟩)) hDl
    have leE2 : Le (vw (C :: L :: ms) s3.heap) (vw (L :: ms) s5.heap) := (vw_kb k35 (by first | exact zm0 | exact zm1 | exact zm2 | exact zm3 | exact zm4 | exact zm5 | exact zm6 | exact zm7 | exact zs0 | exact zs1 | exact zs2 | exact zs3 | exact zn0 | exact zn1 (by decide) | simp)).trans (vw_less [C])
    have O5 : Ok w mg mb (L :: ms) s5 := O.fr G5 hL hns5
    have hMis : EntA w W (vw (L :: ms) s5.heap) mis (partA xs ys) := All2.map (hAm.imp fun y d ⟨a, e, x⟩ => ⟨a, e, x.mono leE2⟩)
    have le5 : Le (vw ms s.heap) (vw (L :: ms) s5.heap) := vw_more [L] G5 (by simpa using hL)
    have ceC : ce ≠ C := by obtain ⟨o, e, _⟩ := e32; exact ne_of_get e hC
    have ccC : cc ≠ C := by obtain ⟨o, e, _⟩ := d32; exact ne_of_get e hC
    have ce5 := cell_at (h' := s5.heap) e32 fun o e => k35 _ o ce51 (by first | exact nin1 (⟨e2, ceC⟩) | exact ninp (⟨e2, ceC⟩) | exact nin3 (⟨e2, ceC⟩) | exact zall1 (⟨e2, ceC⟩) | exact zall2 (⟨e2, ceC⟩) | exact zall3 (⟨e2, ceC⟩) | exact zall4 (⟨e2, ceC⟩) | (simp; exact ⟨e2, ceC⟩)) (G3.keep _ o ce51 e)
    have cc5 := cell_at (h' := s5.heap) d32 fun o e => k35 _ o cc51 (by first | exact nin1 (⟨d2, ccC⟩) | exact ninp (⟨d2, ccC⟩) | exact nin3 (⟨d2, ccC⟩) | exact zall1 (⟨d2, ccC⟩) | exact zall2 (⟨d2, ccC⟩) | exact zall3 (⟨d2, ccC⟩) | exact zall4 (⟨d2, ccC⟩) | (simp; exact ⟨d2, ccC⟩)) (G3.keep _ o cc51 e)
    obtain ⟨y1, y2⟩ := rsz ys.length (by first | assumption | exact ind2 (by assumption) | exact ind1 (by assumption) | exact Nat.le_of_lt (by assumption) | exact Nat.lt_of_le_of_lt (Nat.le_add_right _ _) (by assumption) | omega)
    try dsimp only
    refine wpAny_execs_cons ?_
    refine wpAny_Return_some ?_
    refine PyProof.Rows.Tuple_ ?_
    refine args_cons ?_
    refine nL hns5 rfl ?_
    refine args_cons ?_
    refine lcV (mg := mg) (mb := mb) (ms := L :: ms) (ds := rangeL 0 1 ys.length) (p := fun i => decide (cnt (ys.getD i.toNat Vec.z) xs < cnt (ys.getD i.toNat Vec.z) (ys.take (i.toNat + 1)))) (R := fun i g y => ∃ p, y = .ref p ∧ Ent w W g p (ys.getD i.toNat Vec.z)) (T := "range_iterator")
      (fun d g g' y le ⟨a, e, x⟩ => ⟨a, e, x.mono le⟩) (by simp [rangeL]; omega) rfl (by decide) rfl (by decide) (by intro x; rfl) ?_
    refine PyProof.Rows.Call_ ?_
    refine nB O5.top (g_range w) ?_
    refine PyProof.Rows.callWith_type1 ?_
    refine args_cons ?_
    refine PyProof.Rows.Call_ ?_
    refine nB O5.top (g_len w) ?_
    refine PyProof.Rows.callWith_builtin1 ?_
    refine args_cons ?_
    refine nC (c := cc) hcc cc5 ?_
    refine args_nil ?_
    refine len_list (items := acs.toArray) ⟨_, vw_get (le5 _ _ hb), rfl, _, rfl⟩ (by rw [List.size_toArray]; omega) ?_
    refine args_nil ?_
    refine rng1 ?_
    intro rr' t1' t2' t3' s6 hrr6 hr6 k6
    rw [show (acs.toArray.size : Int) = (ys.length : Int) by rw [List.size_toArray, hal]] at hr6
    have G56 : Go s5 s6 := Kp.go (s := { s5 with toks := _ }) k6
    have O6 : Ok w mg mb (L :: ms) s6 := O5.go G56
    have le6 : Le (vw ms s.heap) (vw (L :: ms) s6.heap) := le5.trans (vw_go G56)
    have ce6 := cell_at (h' := s6.heap) ce5 fun o e => G56.keep _ o ce51 e
    have cc6 := cell_at (h' := s6.heap) cc5 fun o e => G56.keep _ o cc51 e
    refine ⟨⟨fun d v => ∃ t, v = .int d t, _, O6, srcR hA.h O6 (Go.refl _) hr6 y2 y1, tgtN O6 rfl rfl, ?_⟩, ?_⟩
    · intro C D I i m s3 hi hn hM G3 hC hD hI O3
      obtain ⟨v, hv, t, rfl⟩ := hM
      obtain ⟨i0, i1⟩ := rangeL_pos_mem hi
      have le3 : Le (vw ms s.heap) (vw (I :: D :: C :: L :: ms) s3.heap) := le6.trans (vw_more [I, D, C] G3 (by first | exact nin1 (⟨hI, hD, hC⟩) | exact ninp (⟨hI, hD, hC⟩) | exact nin3 (⟨hI, hD, hC⟩) | exact zall1 (⟨hI, hD, hC⟩) | exact zall2 (⟨hI, hD, hC⟩) | exact zall3 (⟨hI, hD, hC⟩) | exact zall4 (⟨hI, hD, hC⟩) | (simp; exact ⟨hI, hD, hC⟩)))
      have ce3 := cell_at (h' := s3.heap) ce6 fun o e => G3.keep _ o ce51 e
      have cc3 := cell_at (h' := s3.heap) cc6 fun o e => G3.keep _ o cc51 e
      obtain ⟨p, hp, ep⟩ := ent_at (EntA.mono ey le3) i0 i1
      have ha3 := vw_get (le3 _ _ ha)
      have hb3 := vw_get (le3 _ _ hb)
      have hin : ((i.toNat + 1 : Nat) : Int) = i + 1 := by push_cast; omega
      refine absQ fun Q1 hQ1 => ?_
      refine wpAny_tests_one ?_
      refine wpAny_isTrue_Compare1 ?_
      refine cntCall (W := W) (H := I :: D :: C :: L :: ms) hBu ?_ (pl := _)
      refine subSlice slot_list_getitem.lookup ?_
      refine nC (c := cc) hcc cc3 ?_
      refine wpAny_Slice ?_
      refine wpAny_evalPart_none ?_
      refine wpAny_evalPart_some ?_
      refine wpAny_BinOp ?_
      refine nL hn hv ?_
      refine wpAny_Constant_int ?_
      refine add_int ?_
      refine wpAny_evalPart_none ?_
      refine sliceL (s := { s3 with toks := s3.toks + 1 + 1 }) (items := acs) ⟨_, hb3, rfl, _, rfl⟩ (by omega) .none (.int (i + 1) (s3.toks + 1)) .none (by first | exact zm0 | exact zm1 | exact zm2 | exact zm3 | exact zm4 | exact zm5 | exact zm6 | exact zm7 | exact zs0 | exact zs1 | exact zs2 | exact zs3 | exact zn0 | exact zn1 (by decide) | simp) ?_ _ rfl
      intro r4 s4 hr4 hl4 k4
      replace k4 : Kp s3 s4 := k4
      rw [← hin, slicePick_upto'] at hl4
      have le4 := vw_go (ms := I :: D :: C :: L :: ms) k4.go
      refine ⟨r4, acs.take (i.toNat + 1), 0, ys.take (i.toNat + 1), rfl, hl4, ?_⟩
      refine PyProof.Rows.Subscript_ ?_
      refine nC (c := cc) hcc (cell_at cc3 fun o e => k4.1 _ o e) ?_
      refine nL (hn.keeps k4.1) hv ?_
      refine item_listL (l := acs) ⟨_, k4.1 _ _ hb3, rfl, _, rfl⟩ i0 (lt63 i1 (Nat.le_trans hyl (by decide))) hp ?_
      refine ⟨p, _, rfl, hl4, EntA.mono (All2.take (EntA.mono ey le3) _) le4, ep.mono le4, fun t5 s5 k5 => ?_⟩
      have k35 : Kp s3 s5 := ⟨fun b o e => k5.1 b o (k4.1 b o e), k5.2.1.trans k4.2.1, k5.2.2.trans k4.2.2⟩
      have le5 := vw_go (ms := I :: D :: C :: L :: ms) k35.go
      refine cntCall (W := W) (H := I :: D :: C :: L :: ms) hBu ?_ (pl := _)
      refine nC (c := ce) hce (cell_at ce3 fun o e => k35.1 _ o e) ?_
      refine ⟨a, exs, k1, xs, rfl, k35.1 _ _ ha3, ?_⟩
      refine PyProof.Rows.Subscript_ ?_
      refine nC (c := cc) hcc (cell_at cc3 fun o e => k35.1 _ o e) ?_
      refine nL (hn.keeps k35.1) hv ?_
      refine item_listL (l := acs) ⟨_, k35.1 _ _ hb3, rfl, _, rfl⟩ i0 (lt63 i1 (Nat.le_trans hyl (by decide))) hp ?_
      refine ⟨p, _, rfl, k35.1 _ _ ha3, EntA.mono (EntA.mono ex le3) le5, ep.mono le5, fun t6 s6 k6 => ?_⟩
      have k36 : Kp s3 s6 := ⟨fun b o e => k6.1 b o (k35.1 b o e), k6.2.1.trans k35.2.1, k6.2.2.trans k35.2.2⟩
      refine gt_int ?_
      refine wpAny_truthy_bool ?_
      refine hQ1 _ _ ?_
      refine ⟨by simp, k36.go, fun _ => ?_⟩
      refine absQ fun Q2 hQ2 => ?_
      refine PyProof.Rows.Subscript_ ?_
      refine nC (c := cc) hcc (cell_at cc3 fun o e => k36.1 _ o e) ?_
      refine nL (hn.keeps k36.1) hv ?_
      refine item_listL (l := acs) ⟨_, k36.1 _ _ hb3, rfl, _, rfl⟩ i0 (lt63 i1 (Nat.le_trans hyl (by decide))) hp ?_
      exact hQ2 _ _ ⟨Go.refl _, p, rfl, ep.mono (vw_go k36.go)⟩
    intro D2 res kk2 s7 G7 hD2 hl7 hA7
    have G57 := G56.trans G7
    refine args_nil ?_
    refine mkT (small_list (Nat.le_of_ble_eq_true rfl)) fun r s8 hr hro k8 => ?_
    have G8 := (G5.trans G57).trans k8.go
    refine k r D D2 s8 mis res kk kk2 G8 hro (O.new (G5.trans G57) hr).1 ND.1 (O.new (G5.trans G56) hD2).1 (k8.1 _ _ (G57.keep _ _ ND.2.1 hD5)) (k8.1 _ _ hl7) ?_ ?_
    · exact EntA.mono hMis (((vw_go G57).trans (vw_go k8.go)).trans (vw_less [L]))
    · exact EntA.mono (All2.map hA7) ((vw_go k8.go).trans (vw_less [L]))
end
end Mine
end TextP2
section TextM1
namespace Mine
open PySem PySem.W PySem.Calls PyProof.Rows PySem.Spec
theorem bd_init (w : World) (a b : Value) : bindArgs (fdOf w 28) ⟨[a, b], []⟩ = pure [(Str.ofString "self", a), (Str.ofString "comp_select_list", b)] := by kernel_rfl
theorem mk38 (w : World) : makesIn (KK w) 38 = true ∧ findIn (KK w) (.ref 38) "__init__" = some (some (.ref 28)) ∧ typeIn (KK w) (.ref 28) = some (.type "function") ∧ findIn (KK w) (.ref 38) "__setattr__" = some (some (.builtin "object.__setattr__")) ∧
    plainOver (KK w) 38 = true ∧ takerIn (KK w) 38 "comp_select_list" = some none ∧ hasDictIn (KK w) 38 = true :=
  ⟨by kernel_rfl, by kernel_rfl, by kernel_rfl, by kernel_rfl, by kernel_rfl, by kernel_rfl, by kernel_rfl⟩
section
variable {w : World} {mg mb : Str → Option Value} {A : Around} {s : Shared} {ms : List Addr} {Q E : Value → Shared → Prop}
set_option maxHeartbeats 2000000
theorem make_spec {l : Addr} {pk : List (Int × Int)} (O : Ok w mg mb ms s) (hA : Fit A 20 60) (hl : Pk (vw ms s.heap) l pk)
    (k : ∀ x s', Go s s' → s.heap.get? x = none → Cm (vw ms s'.heap) x pk → Q (.ref x) s') : wpAny (MD w) A (call (.ref 38) [.ref l]) Q E s := by
  refine wpAny_call ?_
  obtain ⟨h, g, d, t, os⟩ := s
  have X := O.top.k
  refine make_core (makes_of X (mk38 w).1) (looks_findIn X (mk38 w).2.1) (fun self => bind_fn X self (mk38 w).2.2.1) (.inl rfl) ?_
  have k2 : ∀ b o, h.get? b = some o → ((h.push emptyDict).push (instObj 38 h.objs.size)).get? b = some o := fun b o e => Heap.get?_push_of_some _ (Heap.get?_push_of_some _ e)
  have hsz : (h.push emptyDict).objs.size = h.objs.size + 1 := Heap.size_push ..
  have hx2 : ((h.push emptyDict).push (instObj 38 h.objs.size)).get? (h.objs.size + 1) = some (instObj 38 h.objs.size) := by rw [← hsz]; exact Heap.get?_push_size _ rfl
  have hd2 : ((h.push emptyDict).push (instObj 38 h.objs.size)).get? h.objs.size = some emptyDict := Heap.get?_push_of_some _ (Heap.get?_push_size _ rfl)
  have X2 : (KK w).In ((h.push emptyDict).push (instObj 38 h.objs.size)) := fun a o e => k2 _ _ (X a o e)
  have G2 : Go ⟨h, g, d, t, os⟩ ⟨(h.push emptyDict).push (instObj 38 h.objs.size), g, d, t, os⟩ := Go.of (s := ⟨h, g, d, t, os⟩) k2
  have O2 := O.go G2
  refine codeAny_call_cells (fd := fdOf w 28) (binds := [(Str.ofString "self", .ref (h.objs.size + 1)), (Str.ofString "comp_select_list", .ref l)]) ?_ (O2.top.k _ _ rfl) rfl O2.top.t.nolimit (codeRec_of O2.top.k rfl) rfl (bd_init _ _ _) rfl (kindsX rfl _) (fun s3 I => ?_) rfl rfl rfl
  · have hw : (Code.builtin "type.__call__" ⟨[.ref 38, .ref l], []⟩).weight ≤ 3 := by
      with_unfolding_all exact Nat.le_of_ble_eq_true rfl
    have := hA.d
    show A.depth + _ < _
    omega
  generalize hLd : ({ heap := (h.push emptyDict).push (instObj 38 h.objs.size), gens := g, drawn := d, toks := t, os := os } : Shared).heap.objs.size = L at I ⊢
  have hL2 : L = h.objs.size + 2 := by rw [← hLd]; show ((h.push emptyDict).push _).objs.size = _; rw [Heap.size_push, hsz]
  have hkp : ∀ b o, h.get? b = some o → s3.heap.get? b = some o := fun b o e => I.toInCall.keep b o (k2 b o e)
  have hns : s3.heap.Ns L _ := I.toInCall.ns
  have F : Fr h L s3.heap _ := ⟨hns, hkp, by rw [hL2]; exact Nat.le_add_right _ _⟩
  have N : News h L s3.heap [(h.objs.size + 1, instObj 38 h.objs.size), (h.objs.size, dictOf [] 0)] := by
    intro p hp
    simp only [List.mem_cons, List.not_mem_nil, or_false] at hp
    rcases hp with rfl | rfl
    · exact ⟨I.toInCall.keep _ _ hx2, by rw [hL2]; exact Nat.ne_of_lt (Nat.lt_succ_self _), none_of_le (Nat.le_succ _)⟩
    · exact ⟨I.toInCall.keep _ _ hd2, by rw [hL2]; exact Nat.ne_of_lt (by first | assumption | exact ind2 (by assumption) | exact ind1 (by assumption) | exact Nat.le_trans (by assumption) (by decide) | exact Nat.le_of_lt (by assumption) | exact Nat.lt_of_le_of_lt (Nat.le_add_right _ _) (by assumption) | omega), get_size _⟩
  refine wpAny_noRaise ?_
  refine wpAny_execs_cons ?_
  refine plainObj_wpAny_Assign_Attribute ?_
  refine nL hns rfl ?_
  refine nL hns rfl ?_
  refine set_dict (K := KK w) (C := 38) F X N (InstAt.of_news N (.head _) (.tail _ (.head _))) rfl (mk38 w).2.2.2.1 (mk38 w).2.2.2.2.1 (mk38 w).2.2.2.2.2.1 (mk38 w).2.2.2.2.2.2 rfl rfl (.tail (Nat.ne_of_gt (Nat.lt_succ_self _)) (.head (fun _ h => nomatch h))) (Nat.le_of_ble_eq_true rfl) ?_
  intro h4 F4 N4
  try dsimp only
  refine wpAny_execs_nil ?_
  have n1 := N4 _ (.head _)
  have n2 := N4 _ (.tail _ (.head _))
  have nx := O.fresh n1.2.2
  have nd := O.fresh n2.2.2
  have s3e : s3.gens = g ∧ s3.os = os := by obtain ⟨h', tk, e⟩ := I.toInCall.same; rw [e]; exact ⟨rfl, rfl⟩
  have GG : Go ⟨h, g, d, t, os⟩ { s3 with heap := h4, toks := s3.toks + 2 } := ⟨⟨fun b o _ e => F4.keep b o e, fun x => x.keeps F4.keep⟩, fun x => by rw [show ({ s3 with heap := h4, toks := s3.toks + 2 } : Shared).gens = g from s3e.1]; exact x, s3e.2⟩
  refine ⟨rfl, k (h.objs.size + 1) _ GG n1.2.2 ⟨h.objs.size, _, _, _, l, vw_iff.mpr ⟨nx.1, nx.2, n1.1⟩, vw_iff.mpr ⟨nd.1, nd.2, n2.1⟩, hl.mono (vw_go GG)⟩⟩
end
end Mine
end TextM1
section TextX1
namespace Mine
/-- a bit, for the kernel -/
def tb (T k : Nat) : Bool := Nat.beq (Nat.land (Nat.shiftRight T k) 1) 1
theorem tb_eq (T k : Nat) : tb T k = T.testBit k := by
  have e : Nat.land (Nat.shiftRight T k) 1 = (T >>> k) % 2 := Nat.and_one_is_mod _
  unfold tb
  rw [e, Nat.testBit_eq_decide_div_mod_eq, Nat.shiftRight_eq_div_pow, Bool.eq_iff_iff, Nat.beq_eq, decide_eq_true_iff]
/-- greatest prefix by signs: the rest of the order as single masks, the segment since the top, the top's mask -/
def topN (T : Nat) : List Nat → Nat → Nat → Nat
  | [], _, top => top
  | x :: r, seg, top => bif tb T (Nat.add seg x) then topN T r 0 (Nat.add top (Nat.add seg x)) else topN T r (Nat.add seg x) top
def ringN (T : Nat) : List Nat → Nat → Nat
  | [], c => c
  | x :: r, c => bif tb T x then ringN T r (Nat.add x c) else ringN T r c
/-- the tops, and the sums over rings, each as the number of its digits in base 32 -/
def codeT (T : Nat) : List (List Nat × List Nat) → Nat → Nat
  | [], c => c
  | o :: r, c => codeT T r (Nat.add c (Nat.pow 32 (topN T o.1 0 0)))
def codeR (T : Nat) : List (List Nat × List Nat) → Nat → Nat
  | [], c => c
  | o :: r, c => codeR T r (Nat.add c (Nat.pow 32 (ringN T o.2 0)))
def okN (T m : Nat) (v : Bool) : List (Nat × Nat) → Bool
  | [] => true
  | (a, b) :: r => (bif tb T a then bif tb T b then v else true else bif tb T b then true else !v) && okN T m v r
def chkN (os : List (List Nat × List Nat)) : List (Nat × List (Nat × Nat)) → Nat → Bool
  | [], T => Nat.beq (codeT T os 0) (codeR T os 0)
  | (m, ps) :: r, T => (bif okN T m true ps then chkN os r (Nat.add T (Nat.pow 2 m)) else true) && (bif okN T m false ps then chkN os r T else true)
def subs (m : Nat) : List (Nat × Nat) := ((List.range m).filter fun a => a != 0 && (a &&& m == a)).map fun a => (a, m - a)
def plan (n : Nat) : List (Nat × List (Nat × Nat)) := ((List.range (2 ^ n)).filter (· != 0)).map fun m => (m, subs m)
def one2 (i : Int) : Nat := 2 ^ i.toNat
def maskL (l : List Int) : Nat := (l.map one2).sum
def ordD (n : Nat) : List (List Nat × List Nat) := (orders n).map fun o => (o.map one2, ((rings o).getD []).map maskL)
def ordD2 : List (List Nat × List Nat) := [([2, 1], [3]), ([1, 2], [1, 2])]
def ordD3 : List (List Nat × List Nat) := [([4, 2, 1], [5, 2]), ([2, 4, 1], [7]), ([2, 1, 4], [3, 4]), ([4, 1, 2], [7]), ([1, 4, 2], [1, 6]), ([1, 2, 4], [1, 2, 4])]
def ordD4 : List (List Nat × List Nat) := [([8, 4, 2, 1], [9, 6]), ([4, 8, 2, 1], [15]), ([4, 2, 8, 1], [13, 2]), ([4, 2, 1, 8], [5, 2, 8]), ([8, 2, 4, 1], [9, 2, 4]), ([2, 8, 4, 1], [11, 4]), ([2, 4, 8, 1], [15]), ([2, 4, 1, 8], [7, 8]), ([8, 2, 1, 4], [13, 2]), ([2, 8, 1, 4], [15]), ([2, 1, 8, 4], [3, 12]), ([2, 1, 4, 8], [3, 4, 8]), ([8, 4, 1, 2], [15]), ([4, 8, 1, 2], [5, 10]), ([4, 1, 8, 2], [15]), ([4, 1, 2, 8], [7, 8]), ([8, 1, 4, 2], [11, 4]), ([1, 8, 4, 2], [1, 10, 4]), ([1, 4, 8, 2], [1, 14]), ([1, 4, 2, 8], [1, 6, 8]), ([8, 1, 2, 4], [15]), ([1, 8, 2, 4], [1, 14]), ([1, 2, 8, 4], [1, 2, 12]), ([1, 2, 4, 8], [1, 2, 4, 8])]
def plan2 : List (Nat × List (Nat × Nat)) := [(1, []), (2, []), (3, [(1, 2), (2, 1)])]
def plan3 : List (Nat × List (Nat × Nat)) := [(1, []), (2, []), (3, [(1, 2), (2, 1)]), (4, []), (5, [(1, 4), (4, 1)]), (6, [(2, 4), (4, 2)]), (7, [(1, 6), (2, 5), (3, 4), (4, 3), (5, 2), (6, 1)])]
def plan4 : List (Nat × List (Nat × Nat)) := [(1, []), (2, []), (3, [(1, 2), (2, 1)]), (4, []), (5, [(1, 4), (4, 1)]), (6, [(2, 4), (4, 2)]), (7, [(1, 6), (2, 5), (3, 4), (4, 3), (5, 2), (6, 1)]), (8, []), (9, [(1, 8), (8, 1)]), (10, [(2, 8), (8, 2)]), (11, [(1, 10), (2, 9), (3, 8), (8, 3), (9, 2), (10, 1)]), (12, [(4, 8), (8, 4)]), (13, [(1, 12), (4, 9), (5, 8), (8, 5), (9, 4), (12, 1)]), (14, [(2, 12), (4, 10), (6, 8), (8, 6), (10, 4), (12, 2)]), (15, [(1, 14), (2, 13), (3, 12), (4, 11), (5, 10), (6, 9), (7, 8), (8, 7), (9, 6), (10, 5), (11, 4), (12, 3), (13, 2), (14, 1)])]
theorem ordD2_eq : ordD 2 = ordD2 := by decide +kernel
theorem ordD3_eq : ordD 3 = ordD3 := by decide +kernel
theorem ordD4_eq : ordD 4 = ordD4 := by decide +kernel
theorem plan_eq : plan 2 = plan2 ∧ plan 3 = plan3 ∧ plan 4 = plan4 := by decide +kernel
theorem chk2 : chkN ordD2 plan2 0 = true := by decide +kernel
theorem chk3 : chkN ordD3 plan3 0 = true := by decide +kernel
theorem chk4 : chkN ordD4 plan4 0 = true := by decide +kernel
end Mine
end TextX1
section TextX2
namespace Mine
/-- a plan: the masks m0, m0+1, .. each with its splits -/
def PlanOk : Nat → List (Nat × List (Nat × Nat)) → Prop
  | _, [] => True
  | m0, (m, ps) :: r => m = m0 ∧ 0 < m0 ∧ (∀ ab ∈ ps, ab.1 < m0 ∧ ab.2 < m0 ∧ 0 < ab.1 ∧ 0 < ab.2) ∧ PlanOk (m0 + 1) r
def Closed (pos : Nat → Bool) (pl : List (Nat × List (Nat × Nat))) : Prop :=
  ∀ mp ∈ pl, ∀ ab ∈ mp.2, (pos ab.1 = true → pos ab.2 = true → pos mp.1 = true) ∧ (pos ab.1 = false → pos ab.2 = false → pos mp.1 = false)
theorem okN_of {pos : Nat → Bool} {T m : Nat} : ∀ {ps : List (Nat × Nat)}, (∀ ab ∈ ps, tb T ab.1 = pos ab.1 ∧ tb T ab.2 = pos ab.2) →
    (∀ ab ∈ ps, (pos ab.1 = true → pos ab.2 = true → pos m = true) ∧ (pos ab.1 = false → pos ab.2 = false → pos m = false)) → okN T m (pos m) ps = true
  | [], _, _ => rfl
  | (a, b) :: r, h1, h2 => by
    have x := h1 (a, b) List.mem_cons_self
    have y := h2 (a, b) List.mem_cons_self
    have z := okN_of (ps := r) (fun ab h => h1 ab (List.mem_cons_of_mem _ h)) (fun ab h => h2 ab (List.mem_cons_of_mem _ h))
    rw [okN, x.1, x.2, z]
    dsimp only at y ⊢
    cases ha : pos a with
    | true => cases hb : pos b with
      | true => rw [y.1 ha hb]; rfl
      | false => rfl
    | false => cases hb : pos b with
      | true => rfl
      | false => rw [y.2 ha hb]; rfl
theorem chk_sound {pos : Nat → Bool} {os : List (List Nat × List Nat)} : ∀ (pl : List (Nat × List (Nat × Nat))) (m0 T : Nat), PlanOk m0 pl → Closed pos pl → T < 2 ^ m0 → (∀ k, 0 < k → k < m0 → tb T k = pos k) → chkN os pl T = true →
    ∃ T', (∀ k, 0 < k → k < m0 + pl.length → tb T' k = pos k) ∧ codeT T' os 0 = codeR T' os 0
  | [], m0, T, _, _, _, ht, h => ⟨T, ht, Nat.eq_of_beq_eq_true h⟩
  | (m, ps) :: r, m0, T, hp, hc, hT, ht, h => by
    obtain ⟨rfl, hm0, hps, hr⟩ := hp
    have hok : okN T m (pos m) ps = true := okN_of (fun ab hab => ⟨ht _ (hps ab hab).2.2.1 (hps ab hab).1, ht _ (hps ab hab).2.2.2 (hps ab hab).2.1⟩) (hc (m, ps) List.mem_cons_self)
    rw [chkN, Bool.and_eq_true] at h
    have hc' : Closed pos r := fun mp hmp => hc mp (List.mem_cons_of_mem _ hmp)
    have hpow : 2 ^ (m + 1) = 2 ^ m + 2 ^ m := by rw [Nat.pow_succ, Nat.mul_two]
    have hlen : m + ((m, ps) :: r).length = m + 1 + r.length := by rw [List.length_cons, Nat.add_assoc, Nat.add_comm 1]
    cases hv : pos m with
    | true =>
      rw [hv] at hok
      have h1 := h.1
      rw [hok, cond_true] at h1
      have hT' : ∀ k, 0 < k → k < m + 1 → tb (T + 2 ^ m) k = pos k := fun k h0 hk => by
        rcases Nat.lt_succ_iff_lt_or_eq.mp hk with hk | rfl
        · rw [tb_eq, Nat.add_comm, Nat.testBit_two_pow_add_gt hk, ← tb_eq]; exact ht k h0 hk
        · rw [tb_eq, Nat.add_comm, Nat.testBit_two_pow_add_eq, Nat.testBit_lt_two_pow hT, hv]; rfl
      obtain ⟨T', q1, q2⟩ := chk_sound r (m + 1) (T + 2 ^ m) hr hc' (by rw [hpow]; exact Nat.add_lt_add_right hT _) hT' h1
      exact ⟨T', by rw [hlen]; exact q1, q2⟩
    | false =>
      rw [hv] at hok
      have h1 := h.2
      rw [hok, cond_true] at h1
      have hT' : ∀ k, 0 < k → k < m + 1 → tb T k = pos k := fun k h0 hk => by
        rcases Nat.lt_succ_iff_lt_or_eq.mp hk with hk | rfl
        · exact ht k h0 hk
        · rw [tb_eq, Nat.testBit_lt_two_pow hT, hv]
      obtain ⟨T', q1, q2⟩ := chk_sound r (m + 1) T hr hc' (by rw [hpow]; exact Nat.lt_add_right _ hT) hT' h1
      exact ⟨T', by rw [hlen]; exact q1, q2⟩
theorem planOk : PlanOk 1 plan2 ∧ PlanOk 1 plan3 ∧ PlanOk 1 plan4 := by
  refine ⟨?_, ?_, ?_⟩
  · repeat (first | exact True.intro | refine ⟨rfl, by decide, by decide, ?_⟩)
  · repeat (first | exact True.intro | refine ⟨rfl, by decide, by decide, ?_⟩)
  · repeat (first | exact True.intro | refine ⟨rfl, by decide, by decide, ?_⟩)
end Mine
end TextX2
section TextX3
namespace Mine
theorem at_add (u v : Vec) (c : Int) : (u.add v).at c = u.at c + v.at c := by unfold Vec.at Vec.add; split <;> simp <;> split <;> rfl
theorem at_z (c : Int) : Vec.z.at c = 0 := by unfold Vec.at Vec.z; split <;> simp
/-- one column's word: d times the sign of x, else the rest -/
def sg (x d p : Int) : Int := if x < 0 then -d else if 0 < x then d else p
theorem sgN {x d p : Int} (h : x < 0) : sg x d p = -d := if_pos h
theorem sgP {x d p : Int} (h : 0 < x) : sg x d p = d := by unfold sg; rw [if_neg (Int.not_lt.mpr (Int.le_of_lt h)), if_pos h]
theorem sg0 {d p : Int} : sg 0 d p = p := by unfold sg; rw [if_neg (Int.lt_irrefl 0), if_neg (Int.lt_irrefl 0)]
theorem cmp_sg (c d : Int) (r : List (Int × Int)) (u : Vec) : cmpV ((c, d) :: r) u Vec.z = sg (u.at c) d (cmpV r u Vec.z) := by
  show (if u.at c < Vec.z.at c then -d else if Vec.z.at c < u.at c then d else cmpV r u Vec.z) = _
  rw [at_z]; rfl
theorem lt_of_add {a x : Int} : (a + x < a) = (x < 0) := propext ⟨fun h => Int.lt_of_add_lt_add_left (a := a) (by rw [Int.add_zero]; exact h), fun h => by have := Int.add_lt_add_left h a; rw [Int.add_zero] at this; exact this⟩
theorem gt_of_add {a x : Int} : (a < a + x) = (0 < x) := propext ⟨fun h => Int.lt_of_add_lt_add_left (a := a) (by rw [Int.add_zero]; exact h), fun h => by have := Int.add_lt_add_left h a; rw [Int.add_zero] at this; exact this⟩
theorem cmp_add (pk : List (Int × Int)) (a u : Vec) : cmpV pk (a.add u) a = cmpV pk u Vec.z := by
  induction pk with
  | nil => rfl
  | cons cd r ih =>
    obtain ⟨c, d⟩ := cd
    show (if (a.add u).at c < a.at c then -d else if a.at c < (a.add u).at c then d else cmpV r (a.add u) a) = _
    rw [at_add, ih, cmp_sg]
    unfold sg
    simp only [lt_of_add, gt_of_add]
theorem cmp_self (pk : List (Int × Int)) (u : Vec) : cmpV pk u u = 0 := by
  induction pk with
  | nil => rfl
  | cons cd r ih => obtain ⟨c, d⟩ := cd; simp only [cmpV, Int.lt_irrefl, if_false, ih]
theorem sg_closed {d : Int} (hd : d = 1 ∨ d = -1) {x y p q t : Int} (i1 : p = 1 → q = 1 ∨ q = 0 → t = 1) (i2 : p = 0 → t = q) (i3 : p = -1 → q = -1 ∨ q = 0 → t = -1) (i4 : p = 1 ∨ p = 0 ∨ p = -1) (i5 : q = 1 ∨ q = 0 ∨ q = -1) :
    (sg x d p = 1 → sg y d q = 1 ∨ sg y d q = 0 → sg (x + y) d t = 1) ∧ (sg x d p = 0 → sg (x + y) d t = sg y d q) ∧ (sg x d p = -1 → sg y d q = -1 ∨ sg y d q = 0 → sg (x + y) d t = -1) ∧ (sg x d p = 1 ∨ sg x d p = 0 ∨ sg x d p = -1) ∧ (sg y d q = 1 ∨ sg y d q = 0 ∨ sg y d q = -1) := by
  have hm : -d = 1 ∨ -d = 0 ∨ -d = -1 := by rcases hd with rfl | rfl <;> decide
  have hn : d = 1 ∨ d = 0 ∨ d = -1 := by rcases hd with rfl | rfl <;> decide
  rcases Int.lt_trichotomy x 0 with hx | rfl | hx
  · rcases Int.lt_trichotomy y 0 with hy | rfl | hy
    · rw [sgN hx, sgN hy, sgN (Int.add_lt_add hx hy)]
      exact ⟨fun a _ => a, fun _ => rfl, fun a _ => a, hm, hm⟩
    · rw [sgN hx, sg0, Int.add_zero, sgN hx]
      refine ⟨fun a _ => a, fun a => ?_, fun a _ => a, hm, i5⟩
      rcases hd with rfl | rfl <;> cases a
    · rw [sgN hx, sgP hy]
      refine ⟨fun a b => ?_, fun a => ?_, fun a b => ?_, hm, hn⟩
      · rcases hd with rfl | rfl
        · cases a
        · rcases b with b | b <;> cases b
      · rcases hd with rfl | rfl <;> cases a
      · rcases hd with rfl | rfl
        · rcases b with b | b <;> cases b
        · cases a
  · rw [sg0, Int.zero_add]
    rcases Int.lt_trichotomy y 0 with hy | rfl | hy
    · rw [sgN hy, sgN hy]
      refine ⟨fun _ b => ?_, fun _ => rfl, fun _ b => ?_, i4, hm⟩
      · rcases hd with rfl | rfl
        · rcases b with b | b <;> cases b
        · rfl
      · rcases hd with rfl | rfl
        · rfl
        · rcases b with b | b <;> cases b
    · rw [sg0, sg0]
      exact ⟨i1, i2, i3, i4, i5⟩
    · rw [sgP hy, sgP hy]
      refine ⟨fun _ b => ?_, fun _ => rfl, fun _ b => ?_, i4, hn⟩
      · rcases hd with rfl | rfl
        · rfl
        · rcases b with b | b <;> cases b
      · rcases hd with rfl | rfl
        · rcases b with b | b <;> cases b
        · rfl
  · rcases Int.lt_trichotomy y 0 with hy | rfl | hy
    · rw [sgP hx, sgN hy]
      refine ⟨fun a b => ?_, fun a => ?_, fun a b => ?_, hn, hm⟩
      · rcases hd with rfl | rfl
        · rcases b with b | b <;> cases b
        · cases a
      · rcases hd with rfl | rfl <;> cases a
      · rcases hd with rfl | rfl
        · cases a
        · rcases b with b | b <;> cases b
    · rw [sgP hx, sg0, Int.add_zero, sgP hx]
      refine ⟨fun a _ => a, fun a => ?_, fun a _ => a, hn, i5⟩
      rcases hd with rfl | rfl <;> cases a
    · rw [sgP hx, sgP hy, sgP (Int.add_lt_add hx hy)]
      exact ⟨fun a _ => a, fun _ => rfl, fun a _ => a, hn, hn⟩
/-- both above nothing: the sum is; both not: it is not -/
theorem cmp_closed (pk : List (Int × Int)) (hd : ∀ cd ∈ pk, cd.2 = 1 ∨ cd.2 = -1) (u v : Vec) :
    (cmpV pk u Vec.z = 1 → cmpV pk v Vec.z = 1 → cmpV pk (u.add v) Vec.z = 1) ∧ (cmpV pk u Vec.z ≠ 1 → cmpV pk v Vec.z ≠ 1 → cmpV pk (u.add v) Vec.z ≠ 1) := by
  suffices h : (cmpV pk u Vec.z = 1 → cmpV pk v Vec.z = 1 ∨ cmpV pk v Vec.z = 0 → cmpV pk (u.add v) Vec.z = 1) ∧ (cmpV pk u Vec.z = 0 → cmpV pk (u.add v) Vec.z = cmpV pk v Vec.z) ∧
      (cmpV pk u Vec.z = -1 → cmpV pk v Vec.z = -1 ∨ cmpV pk v Vec.z = 0 → cmpV pk (u.add v) Vec.z = -1) ∧ (cmpV pk u Vec.z = 1 ∨ cmpV pk u Vec.z = 0 ∨ cmpV pk u Vec.z = -1) ∧ (cmpV pk v Vec.z = 1 ∨ cmpV pk v Vec.z = 0 ∨ cmpV pk v Vec.z = -1) by
    obtain ⟨h1, h2, h3, h4, h5⟩ := h
    refine ⟨fun a b => h1 a (.inl b), fun a b => ?_⟩
    rcases h4 with h | h | h
    · exact absurd h a
    · rw [h2 h]; exact b
    · rcases h5 with k | k | k
      · exact absurd k b
      · rw [h3 h (.inr k)]; decide
      · rw [h3 h (.inl k)]; decide
  induction pk with
  | nil => exact ⟨fun h => absurd h (by decide : ¬ (0 : Int) = 1), fun _ => rfl, fun h => absurd h (by decide : ¬ (0 : Int) = -1), .inr (.inl rfl), .inr (.inl rfl)⟩
  | cons cd r ih =>
    obtain ⟨c, d⟩ := cd
    obtain ⟨i1, i2, i3, i4, i5⟩ := ih fun x hx => hd x (List.mem_cons_of_mem _ hx)
    rw [cmp_sg, cmp_sg, cmp_sg, at_add]
    exact sg_closed (hd (c, d) List.mem_cons_self) i1 i2 i3 i4 i5
end Mine
end TextX3
section TextX4
namespace Mine
def bitV (us : List Vec) (m i : Nat) : Vec := if m.testBit i then us.getD i Vec.z else Vec.z
/-- the sum of the entries of a mask -/
def msum (us : List Vec) (m : Nat) : Vec := (bitV us m 0).add ((bitV us m 1).add ((bitV us m 2).add (bitV us m 3)))
def Split (m a b : Nat) : Prop := ∀ i, i < 4 → m.testBit i = (a.testBit i || b.testBit i) ∧ (a.testBit i && b.testBit i) = false
theorem bit_split {us : List Vec} {m a b i : Nat} (h : Split m a b) (hi : i < 4) : bitV us m i = (bitV us a i).add (bitV us b i) := by
  obtain ⟨h1, h2⟩ := h i hi
  unfold bitV
  rw [h1]
  cases ha : a.testBit i <;> cases hb : b.testBit i <;> simp_all [Vec.z_add, Vec.add_z]
theorem add8 (a b c d e f g h : Int) : a + b + (c + d + (e + f + (g + h))) = a + (c + (e + g)) + (b + (d + (f + h))) := by omega
theorem msum_split {us : List Vec} {m a b : Nat} (h : Split m a b) : msum us m = (msum us a).add (msum us b) := by
  unfold msum
  rw [bit_split (us := us) h (show 0 < 4 by decide), bit_split (us := us) h (show 1 < 4 by decide), bit_split (us := us) h (show 2 < 4 by decide), bit_split (us := us) h (show 3 < 4 by decide)]
  simp only [Vec.add, Vec.mk.injEq]
  exact ⟨add8 .., add8 .., add8 .., add8 ..⟩
theorem plan_split : (∀ mp ∈ plan2, ∀ ab ∈ mp.2, Split mp.1 ab.1 ab.2) ∧ (∀ mp ∈ plan3, ∀ ab ∈ mp.2, Split mp.1 ab.1 ab.2) ∧ (∀ mp ∈ plan4, ∀ ab ∈ mp.2, Split mp.1 ab.1 ab.2) := by
  unfold Split; decide +kernel
def posV (pk : List (Int × Int)) (us : List Vec) (m : Nat) : Bool := cmpV pk (msum us m) Vec.z == 1
theorem pos_closed {pk : List (Int × Int)} (hd : ∀ cd ∈ pk, cd.2 = 1 ∨ cd.2 = -1) (us : List Vec) {pl : List (Nat × List (Nat × Nat))} (h : ∀ mp ∈ pl, ∀ ab ∈ mp.2, Split mp.1 ab.1 ab.2) : Closed (posV pk us) pl := by
  intro mp hmp ab hab
  have hs := msum_split (us := us) (h mp hmp ab hab)
  obtain ⟨c1, c2⟩ := cmp_closed pk hd (msum us ab.1) (msum us ab.2)
  unfold posV
  rw [hs]
  constructor
  · intro a b; simp only [beq_iff_eq] at *; exact c1 a b
  · intro a b; simp only [beq_eq_false_iff_ne] at *; exact c2 a b
end Mine
end TextX4
section TextX5
namespace Mine
def pref : Vec → List Vec → List Vec
  | _, [] => []
  | a, x :: r => a.add x :: pref (a.add x) r
theorem pref_eq (xs : List Vec) : ∀ b, (List.range xs.length).map (fun i => (xs.take (i + 1)).foldl Vec.add b) = pref b xs := by
  induction xs with
  | nil => intro b; rfl
  | cons x r ih =>
    intro b
    rw [List.length_cons, List.range_succ_eq_map, List.map_cons, List.map_map, pref, ← ih (b.add x)]
    rfl
theorem psums_pref (xs : List Vec) : psums xs = Vec.z :: pref Vec.z xs := by
  unfold psums psum
  rw [List.range_succ_eq_map, List.map_cons, List.map_map]
  congr 1
  exact pref_eq xs Vec.z
end Mine
end TextX5
section TextX6
namespace Mine
def splitB (m a b : Nat) : Bool := [0, 1, 2, 3].all fun i => (m.testBit i == (a.testBit i || b.testBit i)) && !(a.testBit i && b.testBit i)
theorem splitB_iff {m a b : Nat} (h : splitB m a b = true) : Split m a b := by
  intro i hi
  have : i ∈ [0, 1, 2, 3] := by
    have : i = 0 ∨ i = 1 ∨ i = 2 ∨ i = 3 := (by first | exact ind0 (by assumption) (by assumption) | exact ind1 (by assumption) | omega)
    rcases this with rfl | rfl | rfl | rfl <;> simp
  have := List.all_eq_true.mp h i this
  simp only [Bool.and_eq_true, beq_iff_eq, Bool.not_eq_true'] at this
  exact this
def okTop : List Nat → Nat → Nat → Bool
  | [], _, _ => true
  | x :: r, seg, top => splitB (seg + x) seg x && splitB (top + seg + x) top (seg + x) && okTop r 0 (top + seg + x) && okTop r (seg + x) top
theorem msum_zero (us : List Vec) : msum us 0 = Vec.z := by simp [msum, bitV, Vec.z_add]
theorem topN_cons (T x seg top : Nat) (r : List Nat) : topN T (x :: r) seg top = bif tb T (seg + x) then topN T r 0 (top + seg + x) else topN T r (seg + x) top := by
  rw [Nat.add_assoc]; rfl
theorem top_link {pk : List (Int × Int)} {us : List Vec} {T B : Nat} (hT : ∀ k, 0 < k → k < B → tb T k = posV pk us k) :
    ∀ (xs : List Nat) (seg top : Nat), okTop xs seg top = true → (∀ x ∈ xs, 0 < x) → seg + xs.sum < B →
      great pk (msum us top) (pref ((msum us top).add (msum us seg)) (xs.map (msum us))) = msum us (topN T xs seg top)
  | [], seg, top, _, _, _ => rfl
  | x :: r, seg, top, h, h0, hlt => by
    simp only [okTop, Bool.and_eq_true] at h
    obtain ⟨⟨⟨s1, s2⟩, r1⟩, r2⟩ := h
    have hx := h0 x List.mem_cons_self
    have h0' : ∀ y ∈ r, 0 < y := fun y hy => h0 y (List.mem_cons_of_mem _ hy)
    rw [List.sum_cons] at hlt
    have e1 : (msum us seg).add (msum us x) = msum us (seg + x) := (msum_split (splitB_iff s1)).symm
    have e2 : (msum us top).add (msum us (seg + x)) = msum us (top + seg + x) := (msum_split (splitB_iff s2)).symm
    rw [List.map_cons, pref, great, Vec.add_assoc, e1, cmp_add, topN_cons, hT (seg + x) (by first | assumption | exact ind2 (by assumption) | exact ind1 (by assumption) | exact Nat.le_trans (by assumption) (by decide) | exact Nat.le_of_lt (by assumption) | exact Nat.lt_of_le_of_lt (Nat.le_add_right _ _) (by assumption) | omega) (by first | assumption | exact ind2 (by assumption) | exact ind1 (by assumption) | exact Nat.le_trans (by assumption) (by decide) | exact Nat.le_of_lt (by assumption) | exact Nat.lt_of_le_of_lt (Nat.le_add_right _ _) (by assumption) | omega)]
    unfold posV
    by_cases hc : cmpV pk (msum us (seg + x)) Vec.z = 1
    · rw [if_pos hc, hc, e2]
      have := top_link hT r 0 (top + seg + x) r1 h0' (by first | assumption | exact ind2 (by assumption) | exact ind1 (by assumption) | exact Nat.le_trans (by assumption) (by decide) | exact Nat.le_of_lt (by assumption) | exact Nat.lt_of_le_of_lt (Nat.le_add_right _ _) (by assumption) | omega)
      rw [msum_zero, Vec.add_z] at this
      simpa using this
    · rw [if_neg hc, show (cmpV pk (msum us (seg + x)) Vec.z == 1) = false from beq_eq_false_iff_ne.mpr hc]
      exact top_link hT r (seg + x) top r2 h0' (by first | assumption | exact ind2 (by assumption) | exact ind1 (by assumption) | exact Nat.le_trans (by assumption) (by decide) | exact Nat.le_of_lt (by assumption) | exact Nat.lt_of_le_of_lt (Nat.le_add_right _ _) (by assumption) | omega)
end Mine
end TextX6
section TextX7
namespace Mine
theorem msum_one (us : List Vec) {i : Nat} (h : i < 4) : msum us (2 ^ i) = us.getD i Vec.z := by
  have : i = 0 ∨ i = 1 ∨ i = 2 ∨ i = 3 := (by first | exact ind0 (by assumption) (by assumption) | exact ind1 (by assumption) | omega)
  rcases this with rfl | rfl | rfl | rfl <;> simp [msum, bitV, Vec.z_add, Vec.add_z, Nat.testBit]
def okSum : List Nat → Nat → Bool
  | [], _ => true
  | x :: r, m => splitB (m + x) m x && okSum r (m + x)
theorem sum_link (us : List Vec) : ∀ (xs : List Nat) (m : Nat), okSum xs m = true → (xs.map (msum us)).foldl Vec.add (msum us m) = msum us (m + xs.sum)
  | [], m, _ => rfl
  | x :: r, m, h => by
    rw [okSum, Bool.and_eq_true] at h
    rw [List.map_cons, List.foldl_cons, ← msum_split (splitB_iff h.1), sum_link us r (m + x) h.2, List.sum_cons, Nat.add_assoc]
theorem sel_one (us : List Vec) (o : List Int) (h : ∀ k ∈ o, 0 ≤ k ∧ k < 4) : sel us o = (o.map one2).map (msum us) := by
  unfold sel
  rw [List.map_map]
  apply List.map_congr_left
  intro k hk
  obtain ⟨a, b⟩ := h k hk
  exact (msum_one us (show k.toNat < 4 by omega)).symm
theorem tot_mask (us : List Vec) (o : List Int) (h : ∀ k ∈ o, 0 ≤ k ∧ k < 4) (hs : okSum (o.map one2) 0 = true) : tot (sel us o) = msum us (maskL o) := by
  have := sum_link us (o.map one2) 0 hs
  rw [msum_zero, Nat.zero_add] at this
  rw [sel_one us o h]
  exact this
theorem ring_link {pk : List (Int × Int)} {us : List Vec} {T B : Nat} (hT : ∀ k, 0 < k → k < B → tb T k = posV pk us k) :
    ∀ (xs : List Nat), (∀ x ∈ xs, 0 < x ∧ x < B) → (xs.map (msum us)).filter (fun t => cmpV pk t Vec.z == 1) = (xs.filter fun x => tb T x).map (msum us) ∧ ∀ c, ringN T xs c = (xs.filter fun x => tb T x).sum + c
  | [], _ => ⟨rfl, fun c => (Nat.zero_add c).symm⟩
  | x :: r, h => by
    obtain ⟨a, b⟩ := ring_link hT r fun y hy => h y (List.mem_cons_of_mem _ hy)
    obtain ⟨h0, h1⟩ := h x List.mem_cons_self
    have ht := hT x h0 h1
    unfold posV at ht
    rw [List.map_cons, List.filter_cons, List.filter_cons, ht]
    have hr : ∀ c, ringN T (x :: r) c = bif tb T x then ringN T r (x + c) else ringN T r c := fun c => rfl
    cases hc : (cmpV pk (msum us x) Vec.z == 1) with
    | true =>
      refine ⟨by rw [if_pos rfl, if_pos rfl, List.map_cons, a], fun c => ?_⟩
      rw [hr, ht, hc, cond_true, if_pos rfl, List.sum_cons, b, Nat.add_assoc, Nat.add_left_comm]
    | false =>
      refine ⟨by rw [if_neg Bool.false_ne_true, if_neg Bool.false_ne_true, a], fun c => ?_⟩
      rw [hr, ht, hc, cond_false, if_neg Bool.false_ne_true, b]
end Mine
end TextX7
section TextY1
namespace Mine
/-- the items of t that come oftener (with those seen) than l has them -/
def selA : List Vec → List Vec → List Vec → List Vec
  | _, [], _ => []
  | seen, x :: r, l => if cnt x l < cnt x seen + 1 then x :: selA (seen ++ [x]) r l else selA (seen ++ [x]) r l
theorem cnt_nil (v : Vec) : cnt v [] = 0 := rfl
theorem cnt_append (v : Vec) (a b : List Vec) : cnt v (a ++ b) = cnt v a + cnt v b := by unfold cnt; exact List.countP_append
theorem cnt_cons (v x : Vec) (a : List Vec) : cnt v (x :: a) = cnt v a + (if veq x v then 1 else 0) := by unfold cnt; rw [List.countP_cons]
theorem cnt_reverse (v : Vec) (a : List Vec) : cnt v a.reverse = cnt v a := by unfold cnt; exact List.countP_reverse
theorem veq_self (v : Vec) : veq v v = true := veq_iff.mpr rfl
theorem cnt_snoc (v x : Vec) (a : List Vec) : cnt v (a ++ [x]) = cnt v a + (if veq x v then 1 else 0) := by
  rw [cnt_append, cnt_cons, cnt_nil, Nat.zero_add]
theorem any_cnt (x : Vec) (ys : List Vec) : (ys.any fun y => veq y x) = decide (0 < cnt x ys) := by
  unfold cnt
  rw [Bool.eq_iff_iff, List.any_eq_true, decide_eq_true_iff, List.countP_pos_iff]
theorem selA_congr : ∀ (t : List Vec) {s1 s2 l1 l2 : List Vec}, (∀ v, cnt v s1 + cnt v l2 = cnt v s2 + cnt v l1) → selA s1 t l1 = selA s2 t l2
  | [], _, _, _, _, _ => rfl
  | x :: r, s1, s2, l1, l2, h => by
    have ih := selA_congr r (s1 := s1 ++ [x]) (s2 := s2 ++ [x]) (l1 := l1) (l2 := l2) fun v => by rw [cnt_snoc, cnt_snoc]; have := h v; omega
    have hx := h x
    rw [selA, selA, ih]
    by_cases hc : cnt x l1 < cnt x s1 + 1
    · rw [if_pos hc, if_pos (by first | assumption | exact ind2 (by assumption) | exact ind1 (by assumption) | exact Nat.le_trans (by assumption) (by decide) | exact Nat.le_of_lt (by assumption) | exact Nat.lt_of_le_of_lt (Nat.le_add_right _ _) (by assumption) | omega)]
    · rw [if_neg hc, if_neg (by first | assumption | exact ind2 (by assumption) | exact ind1 (by assumption) | exact Nat.le_trans (by assumption) (by decide) | exact Nat.le_of_lt (by assumption) | exact Nat.lt_of_le_of_lt (Nat.le_add_right _ _) (by assumption) | omega)]
theorem selA_none : ∀ (t : List Vec) {s l : List Vec}, (∀ v, cnt v s + cnt v t ≤ cnt v l) → selA s t l = []
  | [], _, _, _ => rfl
  | x :: r, s, l, h => by
    have hx := h x
    rw [cnt_cons, veq_self, if_pos rfl] at hx
    rw [selA, if_neg (by first | assumption | exact ind2 (by assumption) | exact ind1 (by assumption) | exact Nat.le_trans (by assumption) (by decide) | exact Nat.le_of_lt (by assumption) | exact Nat.lt_of_le_of_lt (Nat.le_add_right _ _) (by assumption) | omega)]
    exact selA_none r fun v => by have := h v; rw [cnt_cons] at this; rw [cnt_snoc]; omega
theorem selA_all : ∀ (t : List Vec) {s l : List Vec}, (∀ v, cnt v l ≤ cnt v s) → selA s t l = t
  | [], _, _, _ => rfl
  | x :: r, s, l, h => by
    have hx := h x
    rw [selA, if_pos (by first | assumption | exact ind2 (by assumption) | exact ind1 (by assumption) | exact Nat.le_trans (by assumption) (by decide) | exact Nat.le_of_lt (by assumption) | exact Nat.lt_of_le_of_lt (Nat.le_add_right _ _) (by assumption) | omega)]
    rw [selA_all r fun v => by have := h v; rw [cnt_snoc]; omega]
theorem selA_append : ∀ (a b : List Vec) {s l : List Vec}, selA s (a ++ b) l = selA s a l ++ selA (s ++ a) b l
  | [], b, s, l => by simp [selA]
  | x :: r, b, s, l => by
    have ih := selA_append r b (s := s ++ [x]) (l := l)
    rw [List.append_assoc, List.singleton_append] at ih
    rw [List.cons_append, selA, selA, ih]
    split <;> simp
theorem cnt_erase (v x : Vec) (ys : List Vec) (h : 0 < cnt x ys) : cnt v (ys.eraseP fun y => veq y x) + (if veq x v then 1 else 0) = cnt v ys := by
  induction ys with
  | nil => simp [cnt] at h
  | cons y r ih =>
    rw [List.eraseP_cons]
    cases hy : veq y x with
    | true => rw [cond_true, cnt_cons, veq_iff.mp hy]
    | false =>
      rw [cnt_cons, hy, if_neg Bool.false_ne_true] at h
      rw [cond_false, cnt_cons, cnt_cons]
      have := ih (by first | assumption | exact ind2 (by assumption) | exact ind1 (by assumption) | exact Nat.le_trans (by assumption) (by decide) | exact Nat.le_of_lt (by assumption) | exact Nat.lt_of_le_of_lt (Nat.le_add_right _ _) (by assumption) | omega)
      omega
theorem subA {c' cy c s : Nat} (e : c' + 1 = cy) (h : cy = c - s) : c' = c - (s + 1) := by rw [← Nat.sub_sub, ← h, ← e, Nat.add_sub_cancel]
theorem subB {cy c s : Nat} (h0 : ¬ 0 < cy) (h : cy = c - s) : cy = c - (s + 1) := by
  have h1 := Nat.eq_zero_of_not_pos h0
  rw [← Nat.sub_sub, ← h, h1]
theorem subC {cy c s : Nat} (h0 : 0 < cy) (h : cy = c - s) : ¬ c < s + 1 := Nat.not_lt.mpr (Nat.succ_le_of_lt (Nat.lt_of_sub_pos (h ▸ h0)))
theorem subD {cy c s : Nat} (h0 : ¬ 0 < cy) (h : cy = c - s) : c < s + 1 := Nat.lt_succ_of_le (Nat.le_of_sub_eq_zero (h ▸ Nat.eq_zero_of_not_pos h0))
theorem uld_miss (ys : List Vec) : ∀ (l seen ys' mi : List Vec), (∀ v, cnt v ys' = cnt v ys - cnt v seen) → (uldGo l ys' mi).1 = mi ++ selA seen l ys
  | [], seen, ys', mi, h => by rw [uldGo, selA, List.append_nil]
  | x :: r, seen, ys', mi, h => by
    have hx := h x
    rw [uldGo, selA, any_cnt]
    by_cases h0 : 0 < cnt x ys'
    · rw [decide_eq_true h0, if_pos rfl, if_neg (subC h0 hx)]
      refine uld_miss ys r (seen ++ [x]) _ mi fun v => ?_
      have e := cnt_erase v x ys' h0
      rw [cnt_snoc]
      by_cases hv : veq x v = true
      · rw [if_pos hv] at e ⊢; exact subA e (h v)
      · rw [if_neg hv] at e ⊢; exact e.trans (h v)
    · rw [decide_eq_false h0, if_neg Bool.false_ne_true, if_pos (subD h0 hx), uld_miss ys r (seen ++ [x]) ys' (mi ++ [x]) fun v => ?_, List.append_assoc, List.singleton_append]
      rw [cnt_snoc]
      by_cases hv : veq x v = true
      · have hxv := veq_iff.mp hv; subst hxv
        rw [if_pos hv]; exact subB h0 hx
      · rw [if_neg hv]; exact h v
theorem sel_erase (x : Vec) (r : List Vec) : ∀ (ys seen : List Vec), 0 < cnt x ys → cnt x seen = 0 → selA seen (ys.eraseP fun y => veq y x) r = selA seen ys (x :: r)
  | [], _, h, _ => by simp [cnt] at h
  | y :: t, seen, h, h0 => by
    rw [List.eraseP_cons]
    cases hy : veq y x with
    | true =>
      have hyx := veq_iff.mp hy; subst hyx
      rw [cond_true, selA, cnt_cons, veq_self, if_pos rfl, if_neg (by first | assumption | exact ind2 (by assumption) | exact ind1 (by assumption) | exact Nat.le_trans (by assumption) (by decide) | exact Nat.le_of_lt (by assumption) | exact Nat.lt_of_le_of_lt (Nat.le_add_right _ _) (by assumption) | omega)]
      refine selA_congr t fun v => ?_
      rw [cnt_cons, cnt_snoc]; omega
    | false =>
      have hxy : veq x y = false := by
        cases hq : veq x y with
        | false => rfl
        | true => rw [veq_iff.mp hq, veq_self] at hy; cases hy
      rw [cnt_cons, hy, if_neg Bool.false_ne_true] at h
      have ih := sel_erase x r t (seen ++ [y]) (by first | assumption | exact ind2 (by assumption) | exact ind1 (by assumption) | exact Nat.le_trans (by assumption) (by decide) | exact Nat.le_of_lt (by assumption) | exact Nat.lt_of_le_of_lt (Nat.le_add_right _ _) (by assumption) | omega) (by rw [cnt_snoc, hy, if_neg Bool.false_ne_true]; omega)
      rw [cond_false, selA, selA, ih, cnt_cons, hxy, if_neg Bool.false_ne_true]; rfl
theorem uld_rest : ∀ (l ys mi : List Vec), (uldGo l ys mi).2 = selA [] ys l
  | [], ys, mi => by
    rw [uldGo]; exact (selA_all ys fun v => Nat.le_refl _).symm
  | x :: r, ys, mi => by
    rw [uldGo, any_cnt]
    by_cases h0 : 0 < cnt x ys
    · rw [decide_eq_true h0, if_pos rfl, uld_rest r]
      exact sel_erase x r ys [] h0 rfl
    · rw [decide_eq_false h0, if_neg Bool.false_ne_true, uld_rest r]
      have key : ∀ (t seen : List Vec), cnt x t = 0 → selA seen t r = selA seen t (x :: r) := by
        intro t
        induction t with
        | nil => intro _ _; rfl
        | cons y t ih =>
          intro seen h
          rw [cnt_cons] at h
          have hy : veq y x = false := by
            cases hq : veq y x with
            | false => rfl
            | true => rw [hq, if_pos rfl] at h; omega
          have hxy : veq x y = false := by
            cases hq : veq x y with
            | false => rfl
            | true => rw [veq_iff.mp hq, veq_self] at hy; cases hy
          rw [selA, selA, ih _ (by first | assumption | exact ind2 (by assumption) | exact ind1 (by assumption) | exact Nat.le_trans (by assumption) (by decide) | exact Nat.le_of_lt (by assumption) | exact Nat.lt_of_le_of_lt (Nat.le_add_right _ _) (by assumption) | omega), cnt_cons, hxy, if_neg Bool.false_ne_true]; rfl
      exact key ys [] (by first | assumption | exact ind2 (by assumption) | exact ind1 (by assumption) | exact Nat.le_trans (by assumption) (by decide) | exact Nat.le_of_lt (by assumption) | exact Nat.lt_of_le_of_lt (Nat.le_add_right _ _) (by assumption) | omega)
theorem uld_eq (xs ys : List Vec) : uld xs ys = (selA [] xs.reverse ys, selA [] ys xs.reverse) := by
  unfold uld
  refine Prod.ext ?_ ?_
  · rw [uld_miss ys xs.reverse [] ys [] fun v => by rw [cnt_nil]; rfl]; rfl
  · exact uld_rest _ _ _
/-- the same by places -/
theorem selA_places (l : List Vec) : ∀ (t seen : List Vec), selA seen t l = ((List.range t.length).filter fun j => decide (cnt (t.getD j Vec.z) l < cnt (t.getD j Vec.z) (seen ++ t.take (j + 1)))).map fun j => t.getD j Vec.z
  | [], seen => rfl
  | x :: r, seen => by
    have ih := selA_places l r (seen ++ [x])
    rw [selA, List.length_cons, List.range_succ_eq_map, List.filter_cons]
    have e0 : (x :: r).getD 0 Vec.z = x := rfl
    have e1 : cnt x (seen ++ (x :: r).take (0 + 1)) = cnt x seen + 1 := by
      rw [show (x :: r).take (0 + 1) = [x] from rfl, cnt_snoc, veq_self, if_pos rfl]
    have e2 : (((List.range r.length).map Nat.succ).filter fun j => decide (cnt ((x :: r).getD j Vec.z) l < cnt ((x :: r).getD j Vec.z) (seen ++ (x :: r).take (j + 1)))).map (fun j => (x :: r).getD j Vec.z) = selA (seen ++ [x]) r l := by
      rw [ih, List.filter_map, List.map_map]
      have : ((fun j => decide (cnt ((x :: r).getD j Vec.z) l < cnt ((x :: r).getD j Vec.z) (seen ++ (x :: r).take (j + 1)))) ∘ Nat.succ) = fun j => decide (cnt (r.getD j Vec.z) l < cnt (r.getD j Vec.z) (seen ++ [x] ++ r.take (j + 1))) := by
        funext j
        simp [List.take_succ_cons, List.append_assoc]
      rw [this]
      rfl
    rw [e0, e1]
    by_cases hc : cnt x l < cnt x seen + 1
    · rw [if_pos hc, decide_eq_true hc, if_pos rfl, List.map_cons, e2]; rfl
    · rw [if_neg hc, decide_eq_false hc, if_neg Bool.false_ne_true, e2]
theorem partB_eq (xs ys : List Vec) : partB xs ys = selA [] ys xs := by
  rw [selA_places]
  unfold partB rangeL
  rw [List.filter_map, List.map_map]
  have h1 : ∀ j : Nat, (0 + (j : Int) * 1).toNat = j := fun j => by omega
  have : ((fun i : Int => decide (cnt (ys.getD i.toNat Vec.z) xs < cnt (ys.getD i.toNat Vec.z) (ys.take (i.toNat + 1)))) ∘ fun (i : Nat) => 0 + (i : Int) * 1) = fun j => decide (cnt (ys.getD j Vec.z) xs < cnt (ys.getD j Vec.z) ([] ++ ys.take (j + 1))) := by
    funext j
    simp only [Function.comp, h1, List.nil_append]
  rw [this]
  apply List.map_congr_left
  intro j _
  simp only [Function.comp, h1]
theorem partA_eq (xs ys : List Vec) : partA xs ys = selA [] xs.reverse ys := by
  rw [selA_places]
  unfold partA rangeL
  rw [List.filter_map, List.map_map, List.length_reverse]
  have h1 : ∀ j : Nat, ((xs.length : Int) - 1 + (j : Int) * -1).toNat = xs.length - 1 - j := fun j => by omega
  have hg : ∀ j, j < xs.length → xs.getD (xs.length - 1 - j) Vec.z = xs.reverse.getD j Vec.z := fun j hj => by
    rw [List.getD_eq_getElem?_getD, List.getD_eq_getElem?_getD, List.getElem?_reverse hj]
  have ht : ∀ v j, j < xs.length → cnt v (xs.drop (xs.length - 1 - j)) = cnt v (xs.reverse.take (j + 1)) := fun v j hj => by
    rw [List.take_reverse, cnt_reverse, show xs.length - (j + 1) = xs.length - 1 - j by omega]
  have hf : ∀ j ∈ List.range xs.length, ((fun i : Int => decide (cnt (xs.getD i.toNat Vec.z) ys < cnt (xs.getD i.toNat Vec.z) (xs.drop i.toNat))) ∘ fun (i : Nat) => (xs.length : Int) - 1 + (i : Int) * -1) j = decide (cnt (xs.reverse.getD j Vec.z) ys < cnt (xs.reverse.getD j Vec.z) ([] ++ xs.reverse.take (j + 1))) := fun j hj => by
    have hj := List.mem_range.mp hj
    simp only [Function.comp, h1, hg j hj, ht _ j hj, List.nil_append]
  rw [List.filter_congr hf]
  apply List.map_congr_left
  intro j hj
  have hj := List.mem_range.mp (List.mem_filter.mp hj).1
  simp only [Function.comp, h1, hg j hj]
theorem uld_parted (xs ys : List Vec) : uld xs ys = (partA xs ys, partB xs ys) := by
  rw [uld_eq, partA_eq, partB_eq]
  congr 1
  refine selA_congr ys fun v => ?_
  rw [cnt_nil, cnt_reverse]
theorem uld_both (xs ys : List Vec) : uld (xs ++ ys) ys = (xs.reverse, []) := by
  rw [uld_eq, List.reverse_append, selA_append, selA_none ys.reverse (s := []) (l := ys) (fun v => by rw [cnt_nil, cnt_reverse]; omega), selA_all xs.reverse (s := [] ++ ys.reverse) (l := ys) (fun v => by rw [List.nil_append, cnt_reverse]; omega),
    selA_none ys (s := []) (l := ys.reverse ++ xs.reverse) (fun v => by rw [cnt_nil, cnt_append, cnt_reverse]; omega)]
  rfl
theorem uld_same (xs ys : List Vec) (h : ∀ v, cnt v xs = cnt v ys) : uld xs ys = ([], []) := by
  rw [uld_eq, selA_none xs.reverse (s := []) (l := ys) (fun v => by rw [cnt_nil, cnt_reverse, h v]; omega), selA_none ys (s := []) (l := xs.reverse) (fun v => by rw [cnt_nil, cnt_reverse, h v]; omega)]
end Mine
end TextY1
section TextX8
namespace Mine
def okSubs : List Nat → Nat → Bool
  | [], _ => true
  | x :: r, m => splitB (m + x) m x && okSubs r (m + x) && okSubs r m
theorem okSubs_filter {p : Nat → Bool} : ∀ (xs : List Nat) (m : Nat), okSubs xs m = true → okSum (xs.filter p) m = true
  | [], _, _ => rfl
  | x :: r, m, h => by
    simp only [okSubs, Bool.and_eq_true] at h
    rw [List.filter_cons]
    split
    · rw [okSum, h.1.1, okSubs_filter r _ h.1.2]; rfl
    · exact okSubs_filter r m h.2
/-- what is asked of one order -/
def okOrd (n : Nat) (o : List Int) : Bool := (o.all fun k => decide (0 ≤ k) && decide (k < 4)) && okTop (o.map one2) 0 0 && decide ((o.map one2).sum < 2 ^ n) && ((o.map one2).all fun x => decide (0 < x)) && okSubs (((rings o).getD []).map maskL) 0 &&
  (((rings o).getD []).all fun r => (r.all fun k => decide (0 ≤ k) && decide (k < 4)) && okSum (r.map one2) 0 && decide (0 < maskL r) && decide (maskL r < 2 ^ n))
theorem okOrd2 : (orders 2).all (okOrd 2) = true := by decide +kernel
theorem okOrd3 : (orders 3).all (okOrd 3) = true := by decide +kernel
theorem okOrd4 : (orders 4).all (okOrd 4) = true := by decide +kernel
theorem great_psums (pk : List (Int × Int)) (xs : List Vec) : great pk Vec.z (psums xs) = great pk Vec.z (pref Vec.z xs) := by
  rw [psums_pref, great]; simp
theorem ord_link {pk : List (Int × Int)} {us : List Vec} {T n : Nat} {o : List Int} (hT : ∀ k, 0 < k → k < 2 ^ n → tb T k = posV pk us k) (h : okOrd n o = true) :
    great pk Vec.z (psums (sel us o)) = msum us (topN T (o.map one2) 0 0) ∧ aboveV pk us ((rings o).getD []) = msum us (ringN T (((rings o).getD []).map maskL) 0) := by
  simp only [okOrd, Bool.and_eq_true, List.all_eq_true, decide_eq_true_eq] at h
  obtain ⟨⟨⟨⟨⟨h1, h2⟩, h3⟩, h4⟩, h5⟩, h6⟩ := h
  constructor
  · rw [great_psums, sel_one us o h1]
    have := top_link hT (o.map one2) 0 0 h2 h4 (by first | assumption | exact ind2 (by assumption) | exact ind1 (by assumption) | exact Nat.le_trans (by assumption) (by decide) | exact Nat.le_of_lt (by assumption) | exact Nat.lt_of_le_of_lt (Nat.le_add_right _ _) (by assumption) | omega)
    rw [msum_zero, Vec.z_add] at this
    exact this
  · unfold aboveV
    have e : ((rings o).getD []).map (fun r => tot (sel us r)) = (((rings o).getD []).map maskL).map (msum us) := by
      rw [List.map_map]
      apply List.map_congr_left
      intro r hr
      obtain ⟨⟨⟨a, b⟩, _⟩, _⟩ := h6 r hr
      exact tot_mask us r a b
    rw [e]
    obtain ⟨r1, r2⟩ := ring_link hT (((rings o).getD []).map maskL) (fun x hx => by
      obtain ⟨r, hr, rfl⟩ := List.mem_map.mp hx
      obtain ⟨⟨_, c⟩, d⟩ := h6 r hr
      exact ⟨c, d⟩)
    rw [r1, r2 0, Nat.add_zero]
    have := sum_link us ((((rings o).getD []).map maskL).filter fun x => tb T x) 0 (okSubs_filter _ _ h5)
    rw [msum_zero, Nat.zero_add] at this
    exact this
theorem codeT_eq (T : Nat) : ∀ (os : List (List Nat × List Nat)) (c : Nat), codeT T os c = c + ((os.map fun o => topN T o.1 0 0).map fun k => 32 ^ k).sum
  | [], c => rfl
  | o :: r, c => by
    rw [List.map_cons, List.map_cons, List.sum_cons, ← Nat.add_assoc]
    exact codeT_eq T r (c + 32 ^ topN T o.1 0 0)
theorem codeR_eq (T : Nat) : ∀ (os : List (List Nat × List Nat)) (c : Nat), codeR T os c = c + ((os.map fun o => ringN T o.2 0).map fun k => 32 ^ k).sum
  | [], c => rfl
  | o :: r, c => by
    rw [List.map_cons, List.map_cons, List.sum_cons, ← Nat.add_assoc]
    exact codeR_eq T r (c + 32 ^ ringN T o.2 0)
/-- the digits of such a number are the counts -/
theorem digits_of (v : Nat) : ∀ (xs : List Nat), ∃ lo K, (xs.map fun k => 32 ^ k).sum = lo + xs.count v * 32 ^ v + K * 32 ^ (v + 1) ∧ lo * 32 ≤ xs.length * 32 ^ v
  | [] => ⟨0, 0, by simp, by simp⟩
  | x :: r => by
    obtain ⟨lo, K, h1, h2⟩ := digits_of v r
    rw [List.map_cons, List.sum_cons, h1, List.length_cons, Nat.add_mul, Nat.one_mul]
    rcases Nat.lt_trichotomy x v with hx | rfl | hx
    · refine ⟨lo + 32 ^ x, K, ?_, ?_⟩
      · rw [List.count_cons_of_ne (Nat.ne_of_lt hx)]
        generalize 32 ^ x = p
        generalize r.count v * 32 ^ v = q
        omega
      · have : 32 ^ x * 32 ≤ 32 ^ v := by rw [← Nat.pow_succ]; exact Nat.pow_le_pow_right (by decide) hx
        rw [Nat.add_mul]
        exact Nat.add_le_add h2 this
    · refine ⟨lo, K, ?_, Nat.le_trans h2 (Nat.le_add_right _ _)⟩
      rw [List.count_cons_self, Nat.add_mul, Nat.one_mul]
      generalize 32 ^ x = p
      generalize r.count x * p = q
      omega
    · obtain ⟨d, rfl⟩ : ∃ d, x = v + 1 + d := ⟨x - (v + 1), by omega⟩
      refine ⟨lo, K + 32 ^ d, ?_, Nat.le_trans h2 (Nat.le_add_right _ _)⟩
      rw [List.count_cons_of_ne (Nat.ne_of_gt hx), Nat.add_mul, ← Nat.pow_add, Nat.add_comm d]
      generalize 32 ^ (v + 1 + d) = p
      generalize r.count v * 32 ^ v = q
      omega
theorem digits {xs : List Nat} (h : xs.length < 32) (v : Nat) : ((xs.map fun k => 32 ^ k).sum / 32 ^ v) % 32 = xs.count v := by
  obtain ⟨lo, K, h1, h2⟩ := digits_of v xs
  have hp : 0 < 32 ^ v := Nat.pow_pos (by decide)
  have hc : xs.count v < 32 := Nat.lt_of_le_of_lt List.count_le_length h
  have hlo : lo < 32 ^ v := by
    have h3 : xs.length * 32 ^ v < 32 * 32 ^ v := Nat.mul_lt_mul_of_pos_right h hp
    have h4 := Nat.lt_of_le_of_lt h2 h3
    rw [Nat.mul_comm 32] at h4
    exact Nat.lt_of_mul_lt_mul_right h4
  rw [h1, Nat.pow_succ, Nat.add_assoc, Nat.mul_comm (32 ^ v) 32, ← Nat.mul_assoc, ← Nat.add_mul, Nat.add_mul_div_right _ _ hp, Nat.div_eq_of_lt hlo, Nat.zero_add, Nat.add_mul_mod_self_right, Nat.mod_eq_of_lt hc]
theorem code_perm {xs ys : List Nat} (hx : xs.length < 32) (hy : ys.length < 32) (h : (xs.map fun k => 32 ^ k).sum = (ys.map fun k => 32 ^ k).sum) : xs.Perm ys :=
  List.perm_iff_count.mpr fun v => by rw [← digits hx v, ← digits hy v, h]
theorem spitzer_of {pk : List (Int × Int)} (hd : ∀ cd ∈ pk, cd.2 = 1 ∨ cd.2 = -1) (us : List Vec) {n : Nat} {od : List (List Nat × List Nat)} {pl : List (Nat × List (Nat × Nat))} (ho : ordD n = od) (hok : (orders n).all (okOrd n) = true)
    (hp : PlanOk 1 pl) (hs : ∀ mp ∈ pl, ∀ ab ∈ mp.2, Split mp.1 ab.1 ab.2) (hl : 1 + pl.length = 2 ^ n) (hc : chkN od pl 0 = true) (hb : od.length < 32) (v : Vec) :
    cnt v ((orders n).map fun o => great pk Vec.z (psums (sel us o))) = cnt v ((orders n).map fun o => aboveV pk us ((rings o).getD [])) := by
  obtain ⟨T, hT, hsame⟩ := chk_sound (pos := posV pk us) (os := od) pl 1 0 hp (pos_closed hd us hs) (by decide) (fun k h0 h1 => by omega) hc
  rw [hl] at hT
  rw [List.all_eq_true] at hok
  have e1 : (orders n).map (fun o => great pk Vec.z (psums (sel us o))) = (od.map fun o => topN T o.1 0 0).map (msum us) := by
    rw [← ho, ordD, List.map_map, List.map_map]
    apply List.map_congr_left
    intro o hm
    exact (ord_link hT (hok o hm)).1
  have e2 : (orders n).map (fun o => aboveV pk us ((rings o).getD [])) = (od.map fun o => ringN T o.2 0).map (msum us) := by
    rw [← ho, ordD, List.map_map, List.map_map]
    apply List.map_congr_left
    intro o hm
    exact (ord_link hT (hok o hm)).2
  rw [e1, e2]
  unfold cnt
  rw [codeT_eq, codeR_eq, Nat.zero_add, Nat.zero_add] at hsame
  exact ((code_perm (by rw [List.length_map]; exact hb) (by rw [List.length_map]; exact hb) hsame).map _).countP_eq _
theorem spitzer {pk : List (Int × Int)} (hd : ∀ cd ∈ pk, cd.2 = 1 ∨ cd.2 = -1) (us : List Vec) {n : Nat} (hn : n = 2 ∨ n = 3 ∨ n = 4) (v : Vec) :
    cnt v ((orders n).map fun o => great pk Vec.z (psums (sel us o))) = cnt v ((orders n).map fun o => aboveV pk us ((rings o).getD [])) := by
  rcases hn with rfl | rfl | rfl
  · exact spitzer_of hd us ordD2_eq okOrd2 planOk.1 plan_split.1 rfl chk2 (by decide) v
  · exact spitzer_of hd us ordD3_eq okOrd3 planOk.2.1 plan_split.2.1 rfl chk3 (by decide) v
  · exact spitzer_of hd us ordD4_eq okOrd4 planOk.2.2 plan_split.2.2 rfl chk4 (by decide) v
end Mine
end TextX8
section TextW0
namespace Mine
open PySem PySem.W PySem.Calls PyProof.Rows PySem.Spec
/-- the body of law from statement n on -/
noncomputable def lawB (w : World) (n : Nat) : List Stmt := match (fdOf w 133).body with
  | .stmts l => l.drop n
  | _ => []
noncomputable abbrev lawE (w : World) (L : Addr) : Env := callEnvC (fdOf w 133) L 133
abbrev HL (L : Addr) : List Addr := [L, L + 1, L + 2, L + 3, L + 4]
theorem bd_law (w : World) (a : Value) : bindArgs (fdOf w 133) ⟨[a], []⟩ = pure [(Str.ofString "script", a)] := by kernel_rfl
theorem cells_law (w : World) (L : Addr) : (lawE w L).cells.lookup (Str.ofString "total") = some (L + 1) ∧ (lawE w L).cells.lookup (Str.ofString "wide") = some (L + 2) ∧ (lawE w L).cells.lookup (Str.ofString "vectors") = some (L + 3) ∧ (lawE w L).cells.lookup (Str.ofString "entries") = some (L + 4) :=
  ⟨rfl, rfl, rfl, rfl⟩
/-- what the script gives -/
def nVec (ns : List Int) : Nat := min 4 (2 + (ns.length + 5) / 8)
def vecOf (x : Int) : Vec := ⟨(x + 1).fmod 3 - 1, (x.fdiv 3 + 1).fmod 3 - 1, x.fdiv 9, 1⟩
def usOf (ns : List Int) : List Vec := ((ns ++ [1, -1]).take (nVec ns)).map vecOf
def wideOf (ns : List Int) : Bool := (((ns.length : Int).fdiv 2).fmod 2) == 1
def colOf (t : Int) (i : Int) : Int := (t.fdiv 8 + (1 + (t.fdiv 24).fmod 2) * i).fmod 3
def pkOf (t : Int) : List (Int × Int) := ((rangeL 0 1 3).map (colOf t)).map fun c => (c, 1 - (t.fdiv (2 ^ c.toNat)).fmod 2 * 2)
theorem usOf_len (ns : List Int) : (usOf ns).length = nVec ns := by
  unfold usOf nVec
  simp only [List.length_map, List.length_take, List.length_append, List.length_cons, List.length_nil]
  omega
theorem us_le4 (ns : List Int) : (usOf ns).length ≤ 4 := by rw [usOf_len]; exact Nat.min_le_left _ _
theorem nVec_234 (ns : List Int) : nVec ns = 2 ∨ nVec ns = 3 ∨ nVec ns = 4 := by unfold nVec; omega
theorem usOf_pos (ns : List Int) : ∀ u ∈ usOf ns, 0 < u.d := by
  intro u hu
  obtain ⟨x, _, rfl⟩ := List.mem_map.mp hu
  exact Int.one_pos
theorem fmod3 (x : Int) : 0 ≤ x.fmod 3 ∧ x.fmod 3 ≤ 2 := ⟨Int.fmod_nonneg_of_pos _ (by decide), by have := Int.fmod_lt_of_pos x (show (0 : Int) < 3 by decide); omega⟩
theorem fmod2 (x : Int) : x.fmod 2 = 0 ∨ x.fmod 2 = 1 := by
  have h1 := Int.fmod_nonneg_of_pos x (show (0 : Int) < 2 by decide)
  have h2 := Int.fmod_lt_of_pos x (show (0 : Int) < 2 by decide)
  omega
theorem pkOf_ok (t : Int) : ∀ cd ∈ pkOf t, (0 ≤ cd.1 ∧ cd.1 ≤ 2) ∧ (cd.2 = 1 ∨ cd.2 = -1) := by
  intro cd h
  obtain ⟨c, hc, rfl⟩ := List.mem_map.mp h
  obtain ⟨i, _, rfl⟩ := List.mem_map.mp hc
  refine ⟨fmod3 _, ?_⟩
  dsimp only
  rcases fmod2 (t.fdiv (2 ^ (colOf t i).toNat)) with e | e <;> rw [e]
  · exact .inl rfl
  · exact .inr rfl
theorem pkOf_len (t : Int) : (pkOf t).length = 3 := by simp [pkOf, rangeL]
end Mine
end TextW0
section TextW1
namespace Mine
open PySem PySem.W PySem.Calls PyProof.Rows PySem.Spec
section
variable {w : World} {mg mb : Str → Option Value} {A : Around} {s s₀ : Shared} {Q : Flow → Shared → Prop} {E : Value → Shared → Prop}
theorem len_pos_le {n : Nat} (h : n ≤ 63) : n ≤ 63 := h
/-- total = sum(script); wide = len(script) // 2 % 2 == 1 -/
theorem law01 {L l : Addr} {ns : List Int} {m : Str → Option Value} (O : Ok w mg mb [] s₀) (G : Go s₀ s) (hA : Fit A 40 150) (hlen : ns.length ≤ 63) (hl : SqI "list" (vw [] s₀.heap) l ns)
    (hH : ∀ x ∈ HL L, s₀.heap.get? x = none) (hns : s.heap.Ns L m) (hm : m "script" = some (.ref l)) (c1 : s.heap.IsCell (L + 1) none) (c2 : s.heap.IsCell (L + 2) none) (c3 : s.heap.IsCell (L + 3) none) (c4 : s.heap.IsCell (L + 4) none)
    (k : ∀ s' t1, Go s₀ s' → s'.heap.Ns L m → s'.heap.IsCell (L + 1) (some (.int ns.sum t1)) → s'.heap.IsCell (L + 2) (some (.bool (wideOf ns))) → s'.heap.IsCell (L + 3) none → s'.heap.IsCell (L + 4) none →
      wpAny (MD w) A (execs (lawB w 2) (lawE w L)) Q NE s') :
    wpAny (MD w) A (execs (lawB w 0) (lawE w L)) Q NE s := by
  obtain ⟨vs, l1, l2⟩ := hl
  have h1 := hH (L + 1) (by first | exact zm0 | exact zm1 | exact zm2 | exact zm3 | exact zm4 | exact zm5 | exact zm6 | exact zm7 | exact zs0 | exact zs1 | exact zs2 | exact zs3 | exact zn0 | exact zn1 (by decide) | simp)
  have h2 := hH (L + 2) (by first | exact zm0 | exact zm1 | exact zm2 | exact zm3 | exact zm4 | exact zm5 | exact zm6 | exact zm7 | exact zs0 | exact zs1 | exact zs2 | exact zs3 | exact zn0 | exact zn1 (by decide) | simp)
  have e1 := O.top.ne51 h1
  refine wpAny_execs_cons ?_
  refine absQ fun Qs1 hQs1 => ?_
  refine wpAny_Assign_Name ?_
  refine PyProof.Rows.Call_ ?_
  refine nB (O.top.go G) (g_sum w) ?_
  refine PyProof.Rows.callWith_builtin1 ?_
  refine args_cons ?_
  refine nL hns hm ?_
  refine args_nil ?_
  refine sumI hA.h (l1.mono (vw_go G)).list l2 ?_
  intro t1 s1 k1
  have G1 := G.trans k1.go
  refine sC (c := L + 1) O G1 rfl h1 (cell_at c1 fun o e => k1.1 _ o e) ?_
  intro s2 G2 d1 hs2
  have k2 : Kb [L + 1] s s2 := (Kb.of k1).trans (Kb.same hs2 (by first | exact zm0 | exact zm1 | exact zm2 | exact zm3 | exact zm4 | exact zm5 | exact zm6 | exact zm7 | exact zs0 | exact zs1 | exact zs2 | exact zs3 | exact zn0 | exact zn1 (by decide) | simp))
  have n51 : ∀ x ∈ HL L, x ≠ 51 := fun x hx => O.top.ne51 (hH x hx)
  have hns2 : s2.heap.Ns L m := k2.ns hns (n51 L (by first | exact zm0 | exact zm1 | exact zm2 | exact zm3 | exact zm4 | exact zm5 | exact zm6 | exact zm7 | exact zs0 | exact zs1 | exact zs2 | exact zs3 | exact zn0 | exact zn1 (by decide) | simp)) (by first | exact zm0 | exact zm1 | exact zm2 | exact zm3 | exact zm4 | exact zm5 | exact zm6 | exact zm7 | exact zs0 | exact zs1 | exact zs2 | exact zs3 | exact zn0 | exact zn1 (by decide) | simp)
  have d2 := cell_at (h' := s2.heap) c2 fun o e => k2 _ o (n51 _ (by first | exact zm0 | exact zm1 | exact zm2 | exact zm3 | exact zm4 | exact zm5 | exact zm6 | exact zm7 | exact zs0 | exact zs1 | exact zs2 | exact zs3 | exact zn0 | exact zn1 (by decide) | simp)) (by first | exact zm0 | exact zm1 | exact zm2 | exact zm3 | exact zm4 | exact zm5 | exact zm6 | exact zm7 | exact zs0 | exact zs1 | exact zs2 | exact zs3 | exact zn0 | exact zn1 (by decide) | simp) e
  have d3 := cell_at (h' := s2.heap) c3 fun o e => k2 _ o (n51 _ (by first | exact zm0 | exact zm1 | exact zm2 | exact zm3 | exact zm4 | exact zm5 | exact zm6 | exact zm7 | exact zs0 | exact zs1 | exact zs2 | exact zs3 | exact zn0 | exact zn1 (by decide) | simp)) (by first | exact zm0 | exact zm1 | exact zm2 | exact zm3 | exact zm4 | exact zm5 | exact zm6 | exact zm7 | exact zs0 | exact zs1 | exact zs2 | exact zs3 | exact zn0 | exact zn1 (by decide) | simp) e
  have d4 := cell_at (h' := s2.heap) c4 fun o e => k2 _ o (n51 _ (by first | exact zm0 | exact zm1 | exact zm2 | exact zm3 | exact zm4 | exact zm5 | exact zm6 | exact zm7 | exact zs0 | exact zs1 | exact zs2 | exact zs3 | exact zn0 | exact zn1 (by decide) | simp)) (by first | exact zm0 | exact zm1 | exact zm2 | exact zm3 | exact zm4 | exact zm5 | exact zm6 | exact zm7 | exact zs0 | exact zs1 | exact zs2 | exact zs3 | exact zn0 | exact zn1 (by decide) | simp) e
  refine hQs1 _ _ ?_
  try dsimp only
  refine wpAny_execs_cons ?_
  refine absQ fun Qs2 hQs2 => ?_
  refine wpAny_Assign_Name ?_
  refine wpAny_Compare1 ?_
  refine wpAny_BinOp ?_
  refine wpAny_BinOp ?_
  refine PyProof.Rows.Call_ ?_
  refine nB (O.top.go G2) (g_len w) ?_
  refine PyProof.Rows.callWith_builtin1 ?_
  refine args_cons ?_
  refine nL hns2 hm ?_
  refine args_nil ?_
  refine len_list (items := vs.toArray) (l1.mono (vw_go G2)).list (by rw [List.size_toArray, l2.length]; omega) ?_
  refine wpAny_Constant_int ?_
  refine PyProof.Rows.floordiv_int (by decide) ?_ (.inl (PyProof.noPylong_of_log2 (by decide +kernel)))
  refine wpAny_Constant_int ?_
  refine PyProof.Rows.mod_int (by decide) ?_
  refine wpAny_Constant_int ?_
  refine eq_int ?_
  rw [show (vs.toArray.size : Int) = (ns.length : Int) by rw [List.size_toArray, l2.length]]
  refine sC (c := L + 2) O (Go.trans (s' := s2) G2 (Go.tok (s := s2))) rfl h2 d2 ?_
  intro s3 G3 f2 hs3
  have k3 : Kb [L + 2] s2 s3 := Kb.same (s := { s2 with toks := _ }) hs3 (by first | exact zm0 | exact zm1 | exact zm2 | exact zm3 | exact zm4 | exact zm5 | exact zm6 | exact zm7 | exact zs0 | exact zs1 | exact zs2 | exact zs3 | exact zn0 | exact zn1 (by decide) | simp)
  refine hQs2 _ _ ?_
  try dsimp only
  exact k s3 t1 G3 (k3.ns hns2 (n51 L (by first | exact zm0 | exact zm1 | exact zm2 | exact zm3 | exact zm4 | exact zm5 | exact zm6 | exact zm7 | exact zs0 | exact zs1 | exact zs2 | exact zs3 | exact zn0 | exact zn1 (by decide) | simp)) (by first | exact zm0 | exact zm1 | exact zm2 | exact zm3 | exact zm4 | exact zm5 | exact zm6 | exact zm7 | exact zs0 | exact zs1 | exact zs2 | exact zs3 | exact zn0 | exact zn1 (by decide) | simp)) (cell_at d1 fun o e => k3 _ o (n51 _ (by first | exact zm0 | exact zm1 | exact zm2 | exact zm3 | exact zm4 | exact zm5 | exact zm6 | exact zm7 | exact zs0 | exact zs1 | exact zs2 | exact zs3 | exact zn0 | exact zn1 (by decide) | simp)) (by first | exact zm0 | exact zm1 | exact zm2 | exact zm3 | exact zm4 | exact zm5 | exact zm6 | exact zm7 | exact zs0 | exact zs1 | exact zs2 | exact zs3 | exact zn0 | exact zn1 (by decide) | simp) e) f2 (cell_at d3 fun o e => k3 _ o (n51 _ (by first | exact zm0 | exact zm1 | exact zm2 | exact zm3 | exact zm4 | exact zm5 | exact zm6 | exact zm7 | exact zs0 | exact zs1 | exact zs2 | exact zs3 | exact zn0 | exact zn1 (by decide) | simp)) (by first | exact zm0 | exact zm1 | exact zm2 | exact zm3 | exact zm4 | exact zm5 | exact zm6 | exact zm7 | exact zs0 | exact zs1 | exact zs2 | exact zs3 | exact zn0 | exact zn1 (by decide) | simp) e) (cell_at d4 fun o e => k3 _ o (n51 _ (by first | exact zm0 | exact zm1 | exact zm2 | exact zm3 | exact zm4 | exact zm5 | exact zm6 | exact zm7 | exact zs0 | exact zs1 | exact zs2 | exact zs3 | exact zn0 | exact zn1 (by decide) | simp)) (by first | exact zm0 | exact zm1 | exact zm2 | exact zm3 | exact zm4 | exact zm5 | exact zm6 | exact zm7 | exact zs0 | exact zs1 | exact zs2 | exact zs3 | exact zn0 | exact zn1 (by decide) | simp) e)
end
end Mine
end TextW1
section TextW2
namespace Mine
open PySem PySem.W PySem.Calls PyProof.Rows PySem.Spec
section
variable {w : World} {mg mb : Str → Option Value} {A : Around} {s s₀ : Shared}
theorem Kp.trans {a b c : Shared} (x : Kp a b) (y : Kp b c) : Kp a c := ⟨fun p o e => y.1 p o (x.1 p o e), y.2.1.trans x.2.1, y.2.2.trans x.2.2⟩
theorem addLL {l b : Addr} {xs ys : List Value} {Q : Value → Shared → Prop} {E : Value → Shared → Prop} (hl : s.heap.IsList l xs.toArray) (hb : s.heap.IsList b ys.toArray) (hlen : xs.length + ys.length ≤ 5000)
    (h : ∀ r s', s.heap.get? r = none → s'.heap.get? r = some (lstO (xs ++ ys) 0) → Kp s s' → Q (.ref r) s') : wpAny (MD w) A (binaryOp .Add (.ref l) (.ref b)) Q E s := by
  obtain ⟨dd, sl, n, ho⟩ := isT_obj hl
  obtain ⟨dd2, sl2, n2, ho2⟩ := isT_obj hb
  refine concat_meets ⟨_, ho, rfl⟩ ⟨_, ho2, rfl⟩ noFill_list_add seq_list_add PySem.F.slot_list_add PySem.F.entry_list_add (PySem.F.args_list_add_2 _ _) (list_addW l b xs.toArray ys.toArray n n2 dd dd2 sl sl2 ?_) ⟨ho, ho2, ?_⟩
  · rw [List.size_toArray, List.size_toArray]; exact Nat.le_trans hlen (by rw [sizeLine_eq]; decide)
  · refine h _ _ (get_size _) ?_ ⟨fun b o e => Heap.get?_push_of_some _ e, rfl, rfl⟩
    show (s.heap.push _).get? s.heap.objs.size = _
    rw [Heap.get?_push_size _ rfl, List.append_toArray]
theorem min2 {a b : Int} {t u : Tok} {Q : Value → Shared → Prop} {E : Value → Shared → Prop} (hh : A.handled = none) (h : ∀ t s', Kp s s' → Q (.int (min a b) t) s') : wpAny (MD w) A (call (.builtin "min") [.int a t, .int b u]) Q E s := by
  refine min_two_ints hh fun h' tk hk => ?_
  by_cases hb : b < a
  · rw [if_pos hb]
    have := h u { s with heap := h', toks := tk } ⟨hk, rfl, rfl⟩
    rwa [Int.min_eq_right (Int.le_of_lt hb)] at this
  · rw [if_neg hb]
    have := h t { s with heap := h', toks := tk } ⟨hk, rfl, rfl⟩
    rwa [Int.min_eq_left (by first | assumption | exact ind2 (by assumption) | exact ind1 (by assumption) | exact Nat.le_trans (by assumption) (by decide) | exact Nat.le_of_lt (by assumption) | exact Nat.lt_of_le_of_lt (Nat.le_add_right _ _) (by assumption) | omega)] at this
theorem ok_HL {L : Addr} {m : Str → Option Value} {v1 v2 v3 v4 : Option Value} (O : Ok w mg mb [] s₀) (G : Go s₀ s) (hH : ∀ x ∈ HL L, s₀.heap.get? x = none) (hns : s.heap.Ns L m) (c1 : s.heap.IsCell (L + 1) v1) (c2 : s.heap.IsCell (L + 2) v2) (c3 : s.heap.IsCell (L + 3) v3) (c4 : s.heap.IsCell (L + 4) v4) : Ok w mg mb (HL L) s := by
  have := O.more (xs := HL L) G (by
    intro x hx
    refine ⟨hH x hx, ?_⟩
    simp only [HL, List.mem_cons, List.not_mem_nil, or_false] at hx
    rcases hx with rfl | rfl | rfl | rfl | rfl
    · obtain ⟨o, _, _, e, _⟩ := hns; exact ⟨o, e⟩
    · obtain ⟨o, e, _⟩ := c1; exact ⟨o, e⟩
    · obtain ⟨o, e, _⟩ := c2; exact ⟨o, e⟩
    · obtain ⟨o, e, _⟩ := c3; exact ⟨o, e⟩
    · obtain ⟨o, e, _⟩ := c4; exact ⟨o, e⟩)
  simpa using this
theorem ints_take {vs : List Value} {xs : List Int} (h : IntsAre vs xs) (n : Nat) : IntsAre (vs.take n) (xs.take n) := intsTake h n
variable {Q : Flow → Shared → Prop}
set_option maxHeartbeats 2000000
/-- vectors = [..] -/
theorem law2 {L l : Addr} {ns : List Int} {m : Str → Option Value} {t1 : Tok} {W : Bool} (O : Ok w mg mb [] s₀) (G : Go s₀ s) (hA : Fit A 40 150) (hlen : ns.length ≤ 63) (hl : SqI "list" (vw [] s₀.heap) l ns)
    (hH : ∀ x ∈ HL L, s₀.heap.get? x = none) (hns : s.heap.Ns L m) (hm : m "script" = some (.ref l)) (c1 : s.heap.IsCell (L + 1) (some (.int ns.sum t1))) (c2 : s.heap.IsCell (L + 2) (some (.bool W))) (c3 : s.heap.IsCell (L + 3) none) (c4 : s.heap.IsCell (L + 4) none)
    (k : ∀ s' lv, Go s₀ s' → s'.heap.Ns L m → s'.heap.IsCell (L + 1) (some (.int ns.sum t1)) → s'.heap.IsCell (L + 2) (some (.bool W)) → s'.heap.IsCell (L + 3) (some (.ref lv)) → s'.heap.IsCell (L + 4) none →
      VecL (vw (HL L) s'.heap) lv (usOf ns) → wpAny (MD w) A (execs (lawB w 3) (lawE w L)) Q NE s') :
    wpAny (MD w) A (execs (lawB w 2) (lawE w L)) Q NE s := by
  obtain ⟨vs, l1, l2⟩ := hl
  have n51 : ∀ x ∈ HL L, x ≠ 51 := fun x hx => O.top.ne51 (hH x hx)
  have O1 := ok_HL O G hH hns c1 c2 c3 c4
  have hvl := l2.length
  refine wpAny_execs_cons ?_
  refine wpAny_Assign_Name ?_
  refine lcV (mg := mg) (mb := mb) (ms := HL L) (ds := (ns ++ [1, -1]).take (nVec ns)) (p := fun _ => true) (R := fun x g y => ∃ a, y = .ref a ∧ SqI "list" g a (Vec.l (vecOf x))) (T := "list_iterator")
    (fun d g g' y le ⟨a, e, x⟩ => ⟨a, e, x.mono le⟩) (by simp; omega) rfl (by decide) rfl (by decide) (by intro x; rfl) ?_
  refine subSlice slot_list_getitem.lookup ?_
  refine wpAny_BinOp ?_
  refine nL hns hm ?_
  refine PyProof.Rows.List_ ?_
  refine args_cons ?_
  refine wpAny_Constant_int ?_
  refine args_cons ?_
  refine wpAny_UnaryOp ?_
  refine wpAny_Constant_int ?_
  refine neg_int ?_
  refine args_nil ?_
  refine mkL (small_list (Nat.le_of_ble_eq_true rfl)) fun r1 s2 hr1 ho1 k2 => ?_
  replace k2 : Kp s s2 := k2
  obtain ⟨zs, hz, ho1⟩ : ∃ zs, IntsAre zs [1, -1] ∧ s2.heap.get? r1 = some (lstO zs 0) := ⟨_, .cons _ _ (.cons _ _ .nil), ho1⟩
  clear hr1
  have hzl := hz.length
  refine addLL (l1.mono (vw_go (G.trans k2.go))).list ⟨_, ho1, rfl, _, rfl⟩ (by rw [hvl, hzl]; simp; omega) ?_
  intro r2 s3 hr2 ho2 k3
  have k13 := k2.trans k3
  refine wpAny_Slice ?_
  refine wpAny_evalPart_none ?_
  refine wpAny_evalPart_some ?_
  refine PyProof.Rows.Call_ ?_
  refine nB (O.top.go (G.trans k13.go)) (g_min w) ?_
  refine PyProof.Rows.callWith_builtin1 ?_
  refine args_cons ?_
  refine wpAny_Constant_int ?_
  refine args_cons ?_
  refine wpAny_BinOp ?_
  refine wpAny_Constant_int ?_
  refine wpAny_BinOp ?_
  refine wpAny_BinOp ?_
  refine PyProof.Rows.Call_ ?_
  refine nB (s := { s3 with toks := _ }) (O.top.go (G.trans k13.go)) (g_len w) ?_
  refine PyProof.Rows.callWith_builtin1 ?_
  refine args_cons ?_
  refine nL (s := { s3 with toks := _ }) (hns.keeps k13.1) hm ?_
  refine args_nil ?_
  refine len_list (s := { s3 with toks := _ }) (items := vs.toArray) (l1.mono (vw_go (G.trans k13.go))).list (by rw [List.size_toArray, l2.length]; omega) ?_
  refine wpAny_Constant_int ?_
  refine add_int ?_
  refine wpAny_Constant_int ?_
  refine PyProof.Rows.floordiv_int (by decide) ?_ (.inl (PyProof.noPylong_of_log2 (by decide +kernel)))
  refine add_int ?_
  refine args_nil ?_
  refine min2 hA.h ?_
  intro t4 s4 k4
  replace k4 : Kp s3 s4 := k4
  have k14 := k13.trans k4
  refine wpAny_evalPart_none ?_
  have hmin : min 4 (2 + ((vs.toArray.size : Int) + 5).fdiv 8) = ((nVec ns : Nat) : Int) := by
    rw [List.size_toArray, hvl]
    have : ((ns.length : Int) + 5).fdiv 8 = ((ns.length + 5) / 8 : Nat) := by
      rw [Int.fdiv_eq_ediv_of_nonneg _ (by decide)]; omega
    rw [this]
    unfold nVec
    omega
  rw [hmin]
  refine sliceL (s := s4) (items := vs ++ zs) ⟨_, k4.1 _ _ ho2, rfl, _, rfl⟩ (by rw [List.length_append, hvl, hzl]; simp; omega) .none (.int _ t4) .none (by first | exact zm0 | exact zm1 | exact zm2 | exact zm3 | exact zm4 | exact zm5 | exact zm6 | exact zm7 | exact zs0 | exact zs1 | exact zs2 | exact zs3 | exact zn0 | exact zn1 (by decide) | simp) ?_ _ rfl
  intro r5 s5 hr5 hl5 k5
  rw [slicePick_upto'] at hl5
  have k15 := k14.trans k5
  have O5 := O1.go k15.go
  have N5 := (O1.go k14.go).fresh hr5
  have hI5 : IntsAre ((vs ++ zs).take (nVec ns)) ((ns ++ [1, -1]).take (nVec ns)) := intsTake (IntsAre.append l2 hz) _
  refine ⟨⟨fun x v => ∃ t, v = .int x t, _, O5, srcL hA.h O5 (Go.refl _) ⟨_, hl5, rfl, _, rfl⟩ N5.1 (ints_all2 hI5), tgtN O5 rfl rfl, ?_⟩, ?_⟩
  · intro C D I x mc s6 hx hnc hM G6 hC hD hI O6
    obtain ⟨v, hv, t, rfl⟩ := hM
    refine wpAny_tests_nil ?_
    refine ⟨rfl, Go.refl _, fun _ => ?_⟩
    refine callG O6.top (f_vector w) (by kernel_rfl) ?_
    refine args_cons ?_
    refine nL hnc hv ?_
    refine args_nil ?_
    refine ⟨O6.top.k, ?_⟩
    refine vector_spec O6 hA.le ?_
    intro r s7 G7 h7
    exact ⟨G7, r, rfl, h7⟩
  · intro D ys kk s6 G6 hD hDl ha
    rw [filter_true] at ha
    have G16 := k15.go.trans G6
    have hD6 := O5.fresh hD
    refine sC (c := L + 3) O (G.trans G16) rfl (hH _ (by first | exact zm0 | exact zm1 | exact zm2 | exact zm3 | exact zm4 | exact zm5 | exact zm6 | exact zm7 | exact zs0 | exact zs1 | exact zs2 | exact zs3 | exact zn0 | exact zn1 (by decide) | simp)) (cell_at c3 fun o e => G16.keep _ o (n51 _ (by first | exact zm0 | exact zm1 | exact zm2 | exact zm3 | exact zm4 | exact zm5 | exact zm6 | exact zm7 | exact zs0 | exact zs1 | exact zs2 | exact zs3 | exact zn0 | exact zn1 (by decide) | simp)) e) ?_
    intro s7 G7 c37 hs7
    have k67 : Kb [L + 3] s6 s7 := Kb.same hs7 (by first | exact zm0 | exact zm1 | exact zm2 | exact zm3 | exact zm4 | exact zm5 | exact zm6 | exact zm7 | exact zs0 | exact zs1 | exact zs2 | exact zs3 | exact zn0 | exact zn1 (by decide) | simp)
    have keep : ∀ x ∈ HL L, x ≠ L + 3 → ∀ o, s.heap.get? x = some o → s7.heap.get? x = some o := fun x hx h3 o e => k67 _ o (n51 x hx) (by first | exact nin1 (h3) | exact ninp (h3) | exact nin3 (h3) | exact zall1 (h3) | exact zall2 (h3) | exact zall3 (h3) | exact zall4 (h3) | (simp; exact h3)) (G16.keep _ o (n51 x hx) e)
    have leE : Le (vw (HL L) s6.heap) (vw (HL L) s7.heap) := vw_kb k67 (by first | exact zm0 | exact zm1 | exact zm2 | exact zm3 | exact zm4 | exact zm5 | exact zm6 | exact zm7 | exact zs0 | exact zs1 | exact zs2 | exact zs3 | exact zn0 | exact zn1 (by decide) | simp)
    try dsimp only
    refine k s7 D G7 (hns.at' fun o e => keep L (by first | exact zm0 | exact zm1 | exact zm2 | exact zm3 | exact zm4 | exact zm5 | exact zm6 | exact zm7 | exact zs0 | exact zs1 | exact zs2 | exact zs3 | exact zn0 | exact zn1 (by decide) | simp) (by first | exact zm0 | exact zm1 | exact zm2 | exact zm3 | exact zm4 | exact zm5 | exact zm6 | exact zm7 | exact zs0 | exact zs1 | exact zs2 | exact zs3 | exact zn0 | exact zn1 (by decide) | simp) o e) (cell_at c1 fun o e => keep _ (by first | exact zm0 | exact zm1 | exact zm2 | exact zm3 | exact zm4 | exact zm5 | exact zm6 | exact zm7 | exact zs0 | exact zs1 | exact zs2 | exact zs3 | exact zn0 | exact zn1 (by decide) | simp) (by first | exact zm0 | exact zm1 | exact zm2 | exact zm3 | exact zm4 | exact zm5 | exact zm6 | exact zm7 | exact zs0 | exact zs1 | exact zs2 | exact zs3 | exact zn0 | exact zn1 (by decide) | simp) o e) (cell_at c2 fun o e => keep _ (by first | exact zm0 | exact zm1 | exact zm2 | exact zm3 | exact zm4 | exact zm5 | exact zm6 | exact zm7 | exact zs0 | exact zs1 | exact zs2 | exact zs3 | exact zn0 | exact zn1 (by decide) | simp) (by first | exact zm0 | exact zm1 | exact zm2 | exact zm3 | exact zm4 | exact zm5 | exact zm6 | exact zm7 | exact zs0 | exact zs1 | exact zs2 | exact zs3 | exact zn0 | exact zn1 (by decide) | simp) o e) c37 (cell_at c4 fun o e => keep _ (by first | exact zm0 | exact zm1 | exact zm2 | exact zm3 | exact zm4 | exact zm5 | exact zm6 | exact zm7 | exact zs0 | exact zs1 | exact zs2 | exact zs3 | exact zn0 | exact zn1 (by decide) | simp) (by first | exact zm0 | exact zm1 | exact zm2 | exact zm3 | exact zm4 | exact zm5 | exact zm6 | exact zm7 | exact zs0 | exact zs1 | exact zs2 | exact zs3 | exact zn0 | exact zn1 (by decide) | simp) o e) ?_
    refine ⟨ys, Sq.ofL (k67 _ _ hD6.1 (by first | exact nin1 (fun h => hD6.2 (by simp [h])) | exact ninp (fun h => hD6.2 (by simp [h])) | exact nin3 (fun h => hD6.2 (by simp [h])) | exact zall1 (fun h => hD6.2 (by simp [h])) | exact zall2 (fun h => hD6.2 (by simp [h])) | exact zall3 (fun h => hD6.2 (by simp [h])) | exact zall4 (fun h => hD6.2 (by simp [h])) | (simp; exact fun h => hD6.2 (by simp [h]))) hDl) hD6.1 hD6.2, ?_⟩
    exact All2.map (ha.imp fun y d ⟨a, e, x⟩ => ⟨a, e, x.mono leE⟩)
end
end Mine
end TextW2
section TextW3
namespace Mine
open PySem PySem.W PySem.Calls PyProof.Rows PySem.Spec
/-- what stands in law once the cells are set; H: what may change -/
structure Inv (w : World) (L : Addr) (s₀ : Shared) (ns : List Int) (t1 : Tok) (lv le : Addr) (H : List Addr) (s : Shared) : Prop where
  G : Go s₀ s
  c1 : s.heap.IsCell (L + 1) (some (.int ns.sum t1))
  c2 : s.heap.IsCell (L + 2) (some (.bool (wideOf ns)))
  c3 : s.heap.IsCell (L + 3) (some (.ref lv))
  c4 : s.heap.IsCell (L + 4) (some (.ref le))
  hv : VecL (vw H s.heap) lv (usOf ns)
  he : EntL w (wideOf ns) (vw H s.heap) le (usOf ns)
  ex : ∃ vs n, vw H s.heap le = some (lstO vs n)
theorem ex_mono {g g' : View} {le : Addr} (x : ∃ vs n, g le = some (lstO vs n)) (k : Le g g') : ∃ vs n, g' le = some (lstO vs n) := let ⟨vs, n, e⟩ := x; ⟨vs, n, k _ _ e⟩
section
variable {w : World} {mg mb : Str → Option Value} {A : Around} {s s' s₀ : Shared} {L : Addr} {ns : List Int} {t1 : Tok} {lv le : Addr} {H : List Addr}
/-- the cells' addresses -/
abbrev CL (L : Addr) : List Addr := [L + 1, L + 2, L + 3, L + 4]
theorem cl_self (L : Addr) : L ∉ CL L := by simp
theorem kbL0 {s' : Shared} {L  : Addr} {l : List Addr} (h : ∃ o, s'.heap.get? L = some o) : ∀ x ∈ [L], x ∈ L :: l ∧ x ∉ CL L ∧ ∃ o, s'.heap.get? x = some o := zall1 ⟨zm0, cl_self L, h⟩
theorem kbL1 {s' : Shared} {L b0 : Addr} {l : List Addr} (h : ∃ o, s'.heap.get? L = some o) : ∀ x ∈ [L], x ∈ b0 :: L :: l ∧ x ∉ CL L ∧ ∃ o, s'.heap.get? x = some o := zall1 ⟨zm1, cl_self L, h⟩
theorem kbL2 {s' : Shared} {L b0 b1 : Addr} {l : List Addr} (h : ∃ o, s'.heap.get? L = some o) : ∀ x ∈ [L], x ∈ b0 :: b1 :: L :: l ∧ x ∉ CL L ∧ ∃ o, s'.heap.get? x = some o := zall1 ⟨zm2, cl_self L, h⟩
theorem kbL3 {s' : Shared} {L b0 b1 b2 : Addr} {l : List Addr} (h : ∃ o, s'.heap.get? L = some o) : ∀ x ∈ [L], x ∈ b0 :: b1 :: b2 :: L :: l ∧ x ∉ CL L ∧ ∃ o, s'.heap.get? x = some o := zall1 ⟨zm3, cl_self L, h⟩
theorem kbL4 {s' : Shared} {L b0 b1 b2 b3 : Addr} {l : List Addr} (h : ∃ o, s'.heap.get? L = some o) : ∀ x ∈ [L], x ∈ b0 :: b1 :: b2 :: b3 :: L :: l ∧ x ∉ CL L ∧ ∃ o, s'.heap.get? x = some o := zall1 ⟨zm4, cl_self L, h⟩
theorem kbI {s' : Shared} {L I : Addr} {l : List Addr} (h : I ∉ CL L ∧ ∃ o, s'.heap.get? I = some o) : ∀ x ∈ [I], x ∈ I :: l ∧ x ∉ CL L ∧ ∃ o, s'.heap.get? x = some o := zall1 ⟨zm0, h⟩
theorem Inv.kb (I : Inv w L s₀ ns t1 lv le H s) (hC : ∀ x ∈ CL L, x ≠ 51) {xs : List Addr} (k : Kb xs s s') (hx : ∀ x ∈ xs, x ∈ H ∧ x ∉ CL L) (G' : Go s₀ s') : Inv w L s₀ ns t1 lv le H s' := by
  have kp : ∀ x ∈ CL L, ∀ o, s.heap.get? x = some o → s'.heap.get? x = some o := fun x hxc o e => k x o (hC x hxc) (fun h => (hx x h).2 hxc) e
  have le' : Le (vw H s.heap) (vw H s'.heap) := vw_kb k fun x h => (hx x h).1
  exact ⟨G', cell_at I.c1 fun o e => kp _ (by first | exact zm0 | exact zm1 | exact zm2 | exact zm3 | exact zm4 | exact zm5 | exact zm6 | exact zm7 | exact zs0 | exact zs1 | exact zs2 | exact zs3 | exact zn0 | exact zn1 (by decide) | simp) o e, cell_at I.c2 fun o e => kp _ (by first | exact zm0 | exact zm1 | exact zm2 | exact zm3 | exact zm4 | exact zm5 | exact zm6 | exact zm7 | exact zs0 | exact zs1 | exact zs2 | exact zs3 | exact zn0 | exact zn1 (by decide) | simp) o e, cell_at I.c3 fun o e => kp _ (by first | exact zm0 | exact zm1 | exact zm2 | exact zm3 | exact zm4 | exact zm5 | exact zm6 | exact zm7 | exact zs0 | exact zs1 | exact zs2 | exact zs3 | exact zn0 | exact zn1 (by decide) | simp) o e, cell_at I.c4 fun o e => kp _ (by first | exact zm0 | exact zm1 | exact zm2 | exact zm3 | exact zm4 | exact zm5 | exact zm6 | exact zm7 | exact zs0 | exact zs1 | exact zs2 | exact zs3 | exact zn0 | exact zn1 (by decide) | simp) o e, I.hv.mono le', I.he.mono le', ex_mono I.ex le'⟩
theorem Inv.go (I : Inv w L s₀ ns t1 lv le H s) (hC : ∀ x ∈ CL L, x ≠ 51) (G : Go s s') : Inv w L s₀ ns t1 lv le H s' :=
  I.kb hC (xs := []) (fun b o n _ e => G.keep b o n e) (fun x h => nomatch h) (I.G.trans G)
/-- more is hidden that is new -/
theorem Inv.more (I : Inv w L s₀ ns t1 lv le H s) (hC : ∀ x ∈ CL L, x ≠ 51) (G : Go s s') {xs : List Addr} (hx : ∀ x ∈ xs, s.heap.get? x = none) : Inv w L s₀ ns t1 lv le (xs ++ H) s' := by
  have J := I.go hC G
  exact ⟨J.G, J.c1, J.c2, J.c3, J.c4, I.hv.mono (vw_more xs G hx), I.he.mono (vw_more xs G hx), ex_mono I.ex (vw_more xs G hx)⟩
theorem Inv.less {xs : List Addr} (I : Inv w L s₀ ns t1 lv le (xs ++ H) s) : Inv w L s₀ ns t1 lv le H s :=
  ⟨I.G, I.c1, I.c2, I.c3, I.c4, I.hv.mono (vw_less xs), I.he.mono (vw_less xs), ex_mono I.ex (vw_less xs)⟩
theorem Inv.live (I : Inv w L s₀ ns t1 lv le H s) : ∀ x ∈ CL L, ∃ o, s.heap.get? x = some o := by
  intro x hx
  simp only [CL, List.mem_cons, List.not_mem_nil, or_false] at hx
  rcases hx with rfl | rfl | rfl | rfl
  · obtain ⟨o, e, _⟩ := I.c1; exact ⟨o, e⟩
  · obtain ⟨o, e, _⟩ := I.c2; exact ⟨o, e⟩
  · obtain ⟨o, e, _⟩ := I.c3; exact ⟨o, e⟩
  · obtain ⟨o, e, _⟩ := I.c4; exact ⟨o, e⟩
variable {Q : Flow → Shared → Prop}
set_option maxHeartbeats 2000000
/-- entries = [..] -/
theorem law3 {m : Str → Option Value} (O : Ok w mg mb [] s₀) (G : Go s₀ s) (hA : Fit A 40 150)
    (hH : ∀ x ∈ HL L, s₀.heap.get? x = none) (hns : s.heap.Ns L m) (c1 : s.heap.IsCell (L + 1) (some (.int ns.sum t1))) (c2 : s.heap.IsCell (L + 2) (some (.bool (wideOf ns)))) (c3 : s.heap.IsCell (L + 3) (some (.ref lv))) (c4 : s.heap.IsCell (L + 4) none)
    (hv : VecL (vw (HL L) s.heap) lv (usOf ns))
    (k : ∀ s' le, s'.heap.Ns L m → Inv w L s₀ ns t1 lv le (HL L) s' → wpAny (MD w) A (execs (lawB w 4) (lawE w L)) Q NE s') :
    wpAny (MD w) A (execs (lawB w 3) (lawE w L)) Q NE s := by
  have n51 : ∀ x ∈ HL L, x ≠ 51 := fun x hx => O.top.ne51 (hH x hx)
  have O1 := ok_HL O G hH hns c1 c2 c3 c4
  obtain ⟨vs, q1, q2⟩ := id hv
  have hul : (usOf ns).length ≤ 4 := us_le4 ns
  refine wpAny_execs_cons ?_
  refine wpAny_Assign_Name ?_
  refine lcV (mg := mg) (mb := mb) (ms := HL L) (ds := usOf ns) (p := fun _ => true) (R := fun u g y => ∃ a, y = .ref a ∧ Ent w (wideOf ns) g a u) (T := "list_iterator")
    (fun d g g' y le ⟨a, e, x⟩ => ⟨a, e, x.mono le⟩) (by first | assumption | exact ind2 (by assumption) | exact ind1 (by assumption) | exact Nat.le_trans (by assumption) (by decide) | exact Nat.le_of_lt (by assumption) | exact Nat.lt_of_le_of_lt (Nat.le_add_right _ _) (by assumption) | omega) rfl (by decide) rfl (by decide) (by intro x; rfl) ?_
  refine nC (c := L + 3) rfl c3 ?_
  refine ⟨⟨fun u v => ∃ a, v = .ref a ∧ SqI "list" (vw (HL L) s.heap) a (Vec.l u), _, O1, srcL hA.h O1 (Go.refl _) q1.list (vw_iff.mp q1.choose_spec.1).1 q2, tgtN O1 rfl rfl, ?_⟩, ?_⟩
  · intro C D I u mc s6 hu hnc hM G6 hC hD hI O6
    obtain ⟨v, hv, a, rfl, ha⟩ := hM
    refine wpAny_tests_nil ?_
    refine ⟨rfl, Go.refl _, fun _ => ?_⟩
    refine callG O6.top (f_entry w) (by kernel_rfl) ?_
    refine args_cons ?_
    refine nL hnc hv ?_
    refine args_cons ?_
    refine nC (c := L + 2) rfl (cell_at c2 fun o e => G6.keep _ o (n51 _ (by first | exact zm0 | exact zm1 | exact zm2 | exact zm3 | exact zm4 | exact zm5 | exact zm6 | exact zm7 | exact zs0 | exact zs1 | exact zs2 | exact zs3 | exact zn0 | exact zn1 (by decide) | simp)) e) ?_
    refine args_nil ?_
    refine ⟨O6.top.k, ?_⟩
    refine entry_spec (W := wideOf ns) (v := u) O6 hA.le (ha.mono (vw_more [I, D, C] G6 (by first | exact nin1 (⟨hI, hD, hC⟩) | exact ninp (⟨hI, hD, hC⟩) | exact nin3 (⟨hI, hD, hC⟩) | exact zall1 (⟨hI, hD, hC⟩) | exact zall2 (⟨hI, hD, hC⟩) | exact zall3 (⟨hI, hD, hC⟩) | exact zall4 (⟨hI, hD, hC⟩) | (simp; exact ⟨hI, hD, hC⟩)))) (usOf_pos ns u hu) ?_
    intro r s7 G7 h7
    exact ⟨G7, r, rfl, h7⟩
  · intro D ys kk s6 G6 hD hDl ha
    rw [filter_true] at ha
    have hD6 := O1.fresh hD
    refine sC (c := L + 4) O (G.trans G6) rfl (hH _ (by first | exact zm0 | exact zm1 | exact zm2 | exact zm3 | exact zm4 | exact zm5 | exact zm6 | exact zm7 | exact zs0 | exact zs1 | exact zs2 | exact zs3 | exact zn0 | exact zn1 (by decide) | simp)) (cell_at c4 fun o e => G6.keep _ o (n51 _ (by first | exact zm0 | exact zm1 | exact zm2 | exact zm3 | exact zm4 | exact zm5 | exact zm6 | exact zm7 | exact zs0 | exact zs1 | exact zs2 | exact zs3 | exact zn0 | exact zn1 (by decide) | simp)) e) ?_
    intro s7 G7 c47 hs7
    have k67 : Kb [L + 4] s6 s7 := Kb.same hs7 (by first | exact zm0 | exact zm1 | exact zm2 | exact zm3 | exact zm4 | exact zm5 | exact zm6 | exact zm7 | exact zs0 | exact zs1 | exact zs2 | exact zs3 | exact zn0 | exact zn1 (by decide) | simp)
    have keep : ∀ x ∈ HL L, x ≠ L + 4 → ∀ o, s.heap.get? x = some o → s7.heap.get? x = some o := fun x hx h3 o e => k67 _ o (n51 x hx) (by first | exact nin1 (h3) | exact ninp (h3) | exact nin3 (h3) | exact zall1 (h3) | exact zall2 (h3) | exact zall3 (h3) | exact zall4 (h3) | (simp; exact h3)) (G6.keep _ o (n51 x hx) e)
    have leE : Le (vw (HL L) s6.heap) (vw (HL L) s7.heap) := vw_kb k67 (by first | exact zm0 | exact zm1 | exact zm2 | exact zm3 | exact zm4 | exact zm5 | exact zm6 | exact zm7 | exact zs0 | exact zs1 | exact zs2 | exact zs3 | exact zn0 | exact zn1 (by decide) | simp)
    try dsimp only
    refine k s7 D (hns.at' fun o e => keep L (by first | exact zm0 | exact zm1 | exact zm2 | exact zm3 | exact zm4 | exact zm5 | exact zm6 | exact zm7 | exact zs0 | exact zs1 | exact zs2 | exact zs3 | exact zn0 | exact zn1 (by decide) | simp) (by first | exact zm0 | exact zm1 | exact zm2 | exact zm3 | exact zm4 | exact zm5 | exact zm6 | exact zm7 | exact zs0 | exact zs1 | exact zs2 | exact zs3 | exact zn0 | exact zn1 (by decide) | simp) o e) ⟨G7, cell_at c1 fun o e => keep _ (by first | exact zm0 | exact zm1 | exact zm2 | exact zm3 | exact zm4 | exact zm5 | exact zm6 | exact zm7 | exact zs0 | exact zs1 | exact zs2 | exact zs3 | exact zn0 | exact zn1 (by decide) | simp) (by first | exact zm0 | exact zm1 | exact zm2 | exact zm3 | exact zm4 | exact zm5 | exact zm6 | exact zm7 | exact zs0 | exact zs1 | exact zs2 | exact zs3 | exact zn0 | exact zn1 (by decide) | simp) o e, cell_at c2 fun o e => keep _ (by first | exact zm0 | exact zm1 | exact zm2 | exact zm3 | exact zm4 | exact zm5 | exact zm6 | exact zm7 | exact zs0 | exact zs1 | exact zs2 | exact zs3 | exact zn0 | exact zn1 (by decide) | simp) (by first | exact zm0 | exact zm1 | exact zm2 | exact zm3 | exact zm4 | exact zm5 | exact zm6 | exact zm7 | exact zs0 | exact zs1 | exact zs2 | exact zs3 | exact zn0 | exact zn1 (by decide) | simp) o e, cell_at c3 fun o e => keep _ (by first | exact zm0 | exact zm1 | exact zm2 | exact zm3 | exact zm4 | exact zm5 | exact zm6 | exact zm7 | exact zs0 | exact zs1 | exact zs2 | exact zs3 | exact zn0 | exact zn1 (by decide) | simp) (by first | exact zm0 | exact zm1 | exact zm2 | exact zm3 | exact zm4 | exact zm5 | exact zm6 | exact zm7 | exact zs0 | exact zs1 | exact zs2 | exact zs3 | exact zn0 | exact zn1 (by decide) | simp) o e, c47, hv.mono ((vw_go G6).trans leE), ?_, ?_⟩
    · refine ⟨ys, Sq.ofL (k67 _ _ hD6.1 (by first | exact nin1 (fun h => hD6.2 (by simp [h])) | exact ninp (fun h => hD6.2 (by simp [h])) | exact nin3 (fun h => hD6.2 (by simp [h])) | exact zall1 (fun h => hD6.2 (by simp [h])) | exact zall2 (fun h => hD6.2 (by simp [h])) | exact zall3 (fun h => hD6.2 (by simp [h])) | exact zall4 (fun h => hD6.2 (by simp [h])) | (simp; exact fun h => hD6.2 (by simp [h]))) hDl) hD6.1 hD6.2, ?_⟩
      exact ha.imp fun y d ⟨a, e, x⟩ => ⟨a, e, x.mono leE⟩
    · exact ⟨ys, kk, vw_iff.mpr ⟨hD6.1, hD6.2, k67 _ _ hD6.1 (by first | exact nin1 (fun h => hD6.2 (by simp [h])) | exact ninp (fun h => hD6.2 (by simp [h])) | exact nin3 (fun h => hD6.2 (by simp [h])) | exact zall1 (fun h => hD6.2 (by simp [h])) | exact zall2 (fun h => hD6.2 (by simp [h])) | exact zall3 (fun h => hD6.2 (by simp [h])) | exact zall4 (fun h => hD6.2 (by simp [h])) | (simp; exact fun h => hD6.2 (by simp [h]))) hDl⟩⟩
end
end Mine
end TextW3
section TextW4
namespace Mine
open PySem PySem.W PySem.Calls PyProof.Rows PySem.Spec
section
variable {w : World} {mg mb : Str → Option Value} {A : Around} {s s₀ : Shared} {ms : List Addr} {E : Value → Shared → Prop} {env : Env}
theorem Go.kb {xs : List Addr} {s s' : Shared} (G : Go s s') : Kb xs s s' := fun b o n _ e => G.keep b o n e
/-- a list comprehension that is named by a local -/
theorem lcAL {α : Type} {T : String} {ds : List α} {p : α → Bool} {R : α → View → Value → Prop} {m : Str → Option Value}
    {elt target iter : Expr} {ifs : List Expr} {scope : Scope} {cl : List (Str × Addr)} {pos spos py : Pos} {y : Str} {Q : Flow → Shared → Prop} (O : Ok w mg mb [] s₀) (hL : s₀.heap.get? env.locals = none) (hLm : env.locals ∈ ms)
    (hRm : ∀ d g g' y, Le g g' → R d g y → R d g' y) (hds : ds.length ≤ 1000)
    (hsw : swapsWith (.ListComp elt [⟨target, iter, ifs, 0⟩] scope pos) (some (.Name y py)) spos.line env = pure true)
    (hclos : closureFor scope env = pure cl) (hcell : ∀ y ∈ scope.names, y.2 ≠ .cell) (hkind : scope.kind = .function) (hnames : ∀ x ∈ scope.names, x.2 = .local → scope.names.lookup x.1 = some .local) (hs : ∀ x, foldedSetIterable iter env x = pure x)
    (h : wpAny (MD w) A (eval iter env) (fun xv s₁ => LcK w mg mb A ms env elt target ifs scope cl T ds p R xv s₁ ∧ Go s₀ s₁ ∧ s₁.heap.Ns env.locals m ∧
      ∀ D ys s', Go s₀ s' → s₁.heap.get? D = none → s'.heap.Ns env.locals (fun z => if z = y then some (.ref D) else m z) → Kb [env.locals] s₁ s' → Sq "list" (vw ms s'.heap) D ys → All2 (fun y d => R d (vw ms s'.heap) y) ys (ds.filter p) → Q .next s') E s)
    (hl : env.kindOf y = some .local := by rfl) (hp : (env.scope.kind == .class || (env.scope.kind == .module && env.locals != env.globals)) = false := by rfl) :
    wpAny (MD w) A (exec (.Assign [.Name y py] (.ListComp elt [⟨target, iter, ifs, 0⟩] scope pos) spos) env) Q E s := by
  refine lcA (mg := mg) (mb := mb) (ms := ms) (p := p) (T := T) hRm hds hsw hclos hcell hkind hnames hs (wpAny_mono h (fun xv s1 h1 => ?_) fun _ _ e => e)
  obtain ⟨hK, G1, hn1, fin⟩ := h1
  have O1 : Ok w mg mb ms s1 := by obtain ⟨_, _, o, _⟩ := hK; exact o
  refine ⟨hK, ?_⟩
  intro D C ys kk s3 mC G3 hD hC hCD hnC hDl ha
  have L51 := O.top.ne51 hL
  have GG := G1.trans G3
  have hns3 := hn1.at' (h' := s3.heap) fun o e => G3.keep _ o L51 e
  have hDL : D ≠ env.locals := by obtain ⟨o, _, _, e, _⟩ := hn1; exact Ne.symm (ne_of_get e hD)
  have hCL : C ≠ env.locals := by obtain ⟨o, _, _, e, _⟩ := hn1; exact Ne.symm (ne_of_get e hC)
  have ND := O1.fresh hD
  have NC := O.new G1 hC
  refine sL O GG hL hns3 ?_ hl hp
  intro s4 G4 hns4 hs4
  refine ⟨⟨mC, hnC.at' fun o e => hs4.extBut _ o hCL e⟩, fun h' hs' => ?_⟩
  have G5 := G4.set (t := s4.toks) O.top NC.1 hs'
  have k35 : Kb [env.locals, C] s3 { s4 with heap := h' } := (Kb.same hs4 (by first | exact zm0 | exact zm1 | exact zm2 | exact zm3 | exact zm4 | exact zm5 | exact zm6 | exact zm7 | exact zs0 | exact zs1 | exact zs2 | exact zs3 | exact zn0 | exact zn1 (by decide) | exact cl_self _ | exact sub2 (by first | exact zm0 | exact zm1 | exact zm2 | exact zm3 | exact zm4 | exact zm5 | exact zm6 | exact zm7) (by first | exact zm0 | exact zm1 | exact zm2 | exact zm3 | exact zm4 | exact zm5 | exact zm6 | exact zm7) | simp)).trans (Kb.same (s := s4) (s' := { s4 with heap := h' }) hs' (by first | exact zm0 | exact zm1 | exact zm2 | exact zm3 | exact zm4 | exact zm5 | exact zm6 | exact zm7 | exact zs0 | exact zs1 | exact zs2 | exact zs3 | exact zn0 | exact zn1 (by decide) | exact cl_self _ | exact sub2 (by first | exact zm0 | exact zm1 | exact zm2 | exact zm3 | exact zm4 | exact zm5 | exact zm6 | exact zm7) (by first | exact zm0 | exact zm1 | exact zm2 | exact zm3 | exact zm4 | exact zm5 | exact zm6 | exact zm7) | simp))
  have hns5 := hns4.at' (h' := ({ s4 with heap := h' } : Shared).heap) fun o e => hs'.extBut _ o (Ne.symm hCL) e
  generalize ({ s4 with heap := h' } : Shared) = s5 at G5 k35 hns5
  have hD5 := k35 _ _ ND.1 (by first | exact nin1 (⟨hDL, Ne.symm hCD⟩) | exact ninp (⟨hDL, Ne.symm hCD⟩) | exact nin3 (⟨hDL, Ne.symm hCD⟩) | exact zall1 (⟨hDL, Ne.symm hCD⟩) | exact zall2 (⟨hDL, Ne.symm hCD⟩) | exact zall3 (⟨hDL, Ne.symm hCD⟩) | exact zall4 (⟨hDL, Ne.symm hCD⟩) | exact kbL0 (⟨hDL, Ne.symm hCD⟩) | exact kbL1 (⟨hDL, Ne.symm hCD⟩) | exact kbL2 (⟨hDL, Ne.symm hCD⟩) | exact kbL3 (⟨hDL, Ne.symm hCD⟩) | exact kbL4 (⟨hDL, Ne.symm hCD⟩) | exact kbI (⟨hDL, Ne.symm hCD⟩) | (simp; exact ⟨hDL, Ne.symm hCD⟩)) hDl
  have leE2 : Le (vw (C :: ms) s3.heap) (vw ms s5.heap) := (vw_kb k35 (by simp [hLm])).trans (vw_less [C])
  refine fin D ys s5 G5 hD hns5 ?_ (Sq.ofL hD5 ND.1 ND.2) (ha.imp fun y d r => hRm d _ _ y leE2 r)
  intro b o b51 bL e
  refine k35 b o b51 ?_ (G3.keep b o b51 e)
  simp only [List.mem_cons, List.not_mem_nil, or_false, not_or]
  exact ⟨by simpa using bL, ne_of_get e hC⟩
theorem mulOk12 {a b : Int} (h : a = 1 ∨ a = 2 ∨ a = 0) : IntMulOk a b := by
  rcases h with rfl | rfl | rfl <;> exact IntMulOk.of_left (by decide +kernel)
theorem pow2_ok {x c : Int} (h0 : 0 ≤ c) (h2 : c ≤ 2) : ((2 : Int) ^ c.toNat ≠ 0) ∧ Builtin.divisionGoesByPylong x ((2 : Int) ^ c.toNat) = false := by
  have : c = 0 ∨ c = 1 ∨ c = 2 := (by first | exact ind0 (by assumption) (by assumption) | exact ind1 (by assumption) | omega)
  rcases this with rfl | rfl | rfl <;> exact ⟨by decide, PyProof.noPylong_small (by decide)⟩
end
end Mine
end TextW4
section TextW5
namespace Mine
open PySem PySem.W PySem.Calls PyProof.Rows PySem.Spec
section
variable {w : World} {mg mb : Str → Option Value} {A : Around} {s s' s₀ : Shared} {L : Addr} {ns : List Int} {t1 : Tok} {lv le : Addr} {H : List Addr} {Q : Flow → Shared → Prop}
set_option maxHeartbeats 2000000
/-- columns, picks, comp -/
theorem law456 {m : Str → Option Value} (O : Ok w mg mb [] s₀) (hA : Fit A 40 150) (hH : ∀ x ∈ HL L, s₀.heap.get? x = none) (hns : s.heap.Ns L m) (J : Inv w L s₀ ns t1 lv le (HL L) s)
    (k : ∀ s' m' lp x, s'.heap.Ns L m' → m' "picks" = some (.ref lp) → m' "comp" = some (.ref x) → Pk (vw (HL L) s'.heap) lp (pkOf ns.sum) → Cm (vw (HL L) s'.heap) x (pkOf ns.sum) → Inv w L s₀ ns t1 lv le (HL L) s' → wpAny (MD w) A (execs (lawB w 7) (lawE w L)) Q NE s') :
    wpAny (MD w) A (execs (lawB w 4) (lawE w L)) Q NE s := by
  have n51 : ∀ x ∈ HL L, x ≠ 51 := fun x hx => O.top.ne51 (hH x hx)
  have hC : ∀ x ∈ CL L, x ≠ 51 := fun x hx => n51 x (List.mem_cons_of_mem _ hx)
  have hL := hH L (by first | exact zm0 | exact zm1 | exact zm2 | exact zm3 | exact zm4 | exact zm5 | exact zm6 | exact zm7 | exact zs0 | exact zs1 | exact zs2 | exact zs3 | exact zn0 | exact zn1 (by decide) | exact cl_self _ | exact sub2 (by first | exact zm0 | exact zm1 | exact zm2 | exact zm3 | exact zm4 | exact zm5 | exact zm6 | exact zm7) (by first | exact zm0 | exact zm1 | exact zm2 | exact zm3 | exact zm4 | exact zm5 | exact zm6 | exact zm7) | simp)
  have O1 := ok_HL O J.G hH hns J.c1 J.c2 J.c3 J.c4
  refine wpAny_execs_cons ?_
  refine lcAL (m := m) (ms := HL L) (ds := rangeL 0 1 3) (p := fun _ => true) (R := fun i g y => ∃ t, y = .int (colOf ns.sum i) t) (T := "range_iterator") O hL (by simp [callEnvC, newEnv])
    (fun _ _ _ _ _ h => h) (by decide) rfl rfl (by decide) rfl (by decide) (by intro x; rfl) ?_
  refine PyProof.Rows.Call_ ?_
  refine nB O1.top (g_range w) ?_
  refine PyProof.Rows.callWith_type1 ?_
  refine args_cons ?_
  refine wpAny_Constant_int ?_
  refine args_nil ?_
  refine rng1 ?_
  intro rr u1 u2 u3 s2 hrr hr2 k2
  replace k2 : Kp s s2 := k2
  obtain ⟨z1, z2⟩ := rsz 3 (by first | assumption | exact ind2 (by assumption) | exact ind1 (by assumption) | exact Nat.le_trans (by assumption) (by decide) | exact Nat.le_of_lt (by assumption) | exact Nat.lt_of_le_of_lt (Nat.le_add_right _ _) (by assumption) | omega)
  have O2 := O1.go k2.go
  refine ⟨⟨fun d v => ∃ t, v = .int d t, _, O2, srcR hA.h O2 (Go.refl _) hr2 z2 z1, tgtN O2 rfl rfl, ?_⟩, J.G.trans k2.go, hns.keeps k2.1, ?_⟩
  · intro C D I i mc s3 hi hnc hM G3 hC3 hD3 hI3 O3
    obtain ⟨v, hv, t, rfl⟩ := hM
    have cT := cell_at (h' := s3.heap) J.c1 fun o e => (k2.go.trans G3).keep _ o (n51 _ (by first | exact zm0 | exact zm1 | exact zm2 | exact zm3 | exact zm4 | exact zm5 | exact zm6 | exact zm7 | exact zs0 | exact zs1 | exact zs2 | exact zs3 | exact zn0 | exact zn1 (by decide) | exact cl_self _ | exact sub2 (by first | exact zm0 | exact zm1 | exact zm2 | exact zm3 | exact zm4 | exact zm5 | exact zm6 | exact zm7) (by first | exact zm0 | exact zm1 | exact zm2 | exact zm3 | exact zm4 | exact zm5 | exact zm6 | exact zm7) | simp)) e
    refine wpAny_tests_nil ?_
    refine ⟨rfl, Go.refl _, fun _ => ?_⟩
    refine wpAny_BinOp ?_
    refine wpAny_BinOp ?_
    refine wpAny_BinOp ?_
    refine nC (c := L + 1) rfl cT ?_
    refine wpAny_Constant_int ?_
    refine PyProof.Rows.floordiv_int (by decide) ?_ (.inl (PyProof.noPylong_of_log2 (by decide +kernel)))
    refine wpAny_BinOp ?_
    refine wpAny_BinOp ?_
    refine wpAny_Constant_int ?_
    refine wpAny_BinOp ?_
    refine wpAny_BinOp ?_
    refine nC (c := L + 1) (s := { s3 with toks := _ }) rfl cT ?_
    refine wpAny_Constant_int ?_
    refine PyProof.Rows.floordiv_int (by decide) ?_ (.inl (PyProof.noPylong_of_log2 (by decide +kernel)))
    refine wpAny_Constant_int ?_
    refine PyProof.Rows.mod_int (by decide) ?_
    refine add_int ?_
    refine nL (s := { s3 with toks := _ }) hnc hv ?_
    refine PyProof.Rows.mul_int ?_ (mulOk12 ?_)
    · refine add_int ?_
      refine wpAny_Constant_int ?_
      refine PyProof.Rows.mod_int (by decide) ?_
      exact ⟨Go.tok (s := s3), _, rfl⟩
    · rcases fmod2 (ns.sum.fdiv 24) with e | e <;> rw [e]
      · exact .inl rfl
      · exact .inr (.inl rfl)
  intro D ys s3 G3 hD hns3 k3 hSq ha
  rw [filter_true] at ha
  have k13 : Kb [L] s s3 := (Kb.of k2).trans k3
  have J3 : Inv w L s₀ ns t1 lv le (HL L) s3 := J.kb hC k13 (by first | exact zm0 | exact zm1 | exact zm2 | exact zm3 | exact zm4 | exact zm5 | exact zm6 | exact zm7 | exact zs0 | exact zs1 | exact zs2 | exact zs3 | exact zn0 | exact zn1 (by decide) | exact cl_self _ | exact sub2 (by first | exact zm0 | exact zm1 | exact zm2 | exact zm3 | exact zm4 | exact zm5 | exact zm6 | exact zm7) (by first | exact zm0 | exact zm1 | exact zm2 | exact zm3 | exact zm4 | exact zm5 | exact zm6 | exact zm7) | simp) G3
  have hcols : IntsAre ys ((rangeL 0 1 3).map (colOf ns.sum)) := all2_ints ha
  have O3 := ok_HL O G3 hH hns3 J3.c1 J3.c2 J3.c3 J3.c4
  try dsimp only
  refine wpAny_execs_cons ?_
  refine lcAL (m := fun z => if z = Str.ofString "columns" then some (.ref D) else m z) (ms := HL L) (ds := (rangeL 0 1 3).map (colOf ns.sum)) (p := fun _ => true) (R := fun c g y => ∃ a, y = .ref a ∧ SqI "tuple" g a [c, 1 - (ns.sum.fdiv (2 ^ c.toNat)).fmod 2 * 2]) (T := "list_iterator") O hL (by simp [callEnvC, newEnv])
    (fun _ _ _ _ le ⟨a, e, x⟩ => ⟨a, e, x.mono le⟩) (by simp [rangeL]) rfl rfl (by decide) rfl (by decide) (by intro x; rfl) ?_
  refine nL hns3 rfl ?_
  refine ⟨⟨fun d v => ∃ t, v = .int d t, _, O3, srcL hA.h O3 (Go.refl _) hSq.list (vw_iff.mp hSq.choose_spec.1).1 (ints_all2 hcols), tgtN O3 rfl rfl, ?_⟩, G3, hns3, ?_⟩
  · intro C D I c mc s4 hc hnc hM G4 hC3 hD3 hI3 O4
    obtain ⟨v, hv, t, rfl⟩ := hM
    obtain ⟨i, _, rfl⟩ := List.mem_map.mp hc
    have hc2 := fmod3 (ns.sum.fdiv 8 + (1 + (ns.sum.fdiv 24).fmod 2) * i)
    change 0 ≤ colOf ns.sum i ∧ colOf ns.sum i ≤ 2 at hc2
    generalize colOf ns.sum i = c at *
    have cT := cell_at (h' := s4.heap) J3.c1 fun o e => G4.keep _ o (n51 _ (by first | exact zm0 | exact zm1 | exact zm2 | exact zm3 | exact zm4 | exact zm5 | exact zm6 | exact zm7 | exact zs0 | exact zs1 | exact zs2 | exact zs3 | exact zn0 | exact zn1 (by decide) | exact cl_self _ | exact sub2 (by first | exact zm0 | exact zm1 | exact zm2 | exact zm3 | exact zm4 | exact zm5 | exact zm6 | exact zm7) (by first | exact zm0 | exact zm1 | exact zm2 | exact zm3 | exact zm4 | exact zm5 | exact zm6 | exact zm7) | simp)) e
    refine wpAny_tests_nil ?_
    refine ⟨rfl, Go.refl _, fun _ => ?_⟩
    refine PyProof.Rows.Tuple_ ?_
    refine args_cons ?_
    refine nL hnc hv ?_
    refine args_cons ?_
    refine wpAny_BinOp ?_
    refine wpAny_Constant_int ?_
    refine wpAny_BinOp ?_
    refine wpAny_BinOp ?_
    refine wpAny_BinOp ?_
    refine nC (c := L + 1) (s := { s4 with toks := _ }) rfl cT ?_
    refine wpAny_BinOp ?_
    refine wpAny_Constant_int ?_
    refine nL (s := { s4 with toks := _ }) hnc hv ?_
    refine pow_int_small hc2.1 (by first | assumption | exact ind2 (by assumption) | exact ind1 (by assumption) | exact Nat.le_trans (by assumption) (by decide) | exact Nat.le_of_lt (by assumption) | exact Nat.lt_of_le_of_lt (Nat.le_add_right _ _) (by assumption) | omega) (by decide) ?_
    refine PyProof.Rows.floordiv_int (pow2_ok (x := 0) hc2.1 hc2.2).1 ?_ (.inl (pow2_ok hc2.1 hc2.2).2)
    refine wpAny_Constant_int ?_
    refine PyProof.Rows.mod_int (by decide) ?_
    refine wpAny_Constant_int ?_
    refine PyProof.Rows.mul_int ?_ (IntMulOk.of_right (by decide +kernel))
    refine sub_int ?_
    refine args_nil ?_
    refine mkT (small_list (Nat.le_of_ble_eq_true rfl)) fun a s5 ha5 ho5 k5 => ?_
    replace k5 : Kp s4 s5 := k5
    have N5 := O4.fresh ha5
    exact ⟨k5.go, a, rfl, _, Sq.ofT ho5 N5.1 N5.2, .cons _ _ (.cons _ _ .nil)⟩
  intro lp ys2 s4 G4 hlp hns4 k4 hSq4 ha4
  rw [filter_true] at ha4
  replace k4 : Kb [L] s3 s4 := k4
  have J4 : Inv w L s₀ ns t1 lv le (HL L) s4 := J3.kb hC k4 (by first | exact zm0 | exact zm1 | exact zm2 | exact zm3 | exact zm4 | exact zm5 | exact zm6 | exact zm7 | exact zs0 | exact zs1 | exact zs2 | exact zs3 | exact zn0 | exact zn1 (by decide) | exact cl_self _ | exact sub2 (by first | exact zm0 | exact zm1 | exact zm2 | exact zm3 | exact zm4 | exact zm5 | exact zm6 | exact zm7) (by first | exact zm0 | exact zm1 | exact zm2 | exact zm3 | exact zm4 | exact zm5 | exact zm6 | exact zm7) | simp) G4
  have O4 := ok_HL O G4 hH hns4 J4.c1 J4.c2 J4.c3 J4.c4
  have hPk : Pk (vw (HL L) s4.heap) lp (pkOf ns.sum) := ⟨ys2, hSq4, All2.map ha4⟩
  try dsimp only
  refine wpAny_execs_cons ?_
  refine wpAny_Assign_Name ?_
  refine callG O4.top (f_TupleComp w) (by kernel_rfl) ?_
  refine args_cons ?_
  refine nL hns4 rfl ?_
  refine args_nil ?_
  refine ⟨O4.top.k, ?_⟩
  refine make_spec O4 hA.le hPk ?_
  intro x s5 G5 hx hCm
  have hns5 := hns4.at' (h' := s5.heap) fun o e => G5.keep _ o (n51 L (by first | exact zm0 | exact zm1 | exact zm2 | exact zm3 | exact zm4 | exact zm5 | exact zm6 | exact zm7 | exact zs0 | exact zs1 | exact zs2 | exact zs3 | exact zn0 | exact zn1 (by decide) | exact cl_self _ | exact sub2 (by first | exact zm0 | exact zm1 | exact zm2 | exact zm3 | exact zm4 | exact zm5 | exact zm6 | exact zm7) (by first | exact zm0 | exact zm1 | exact zm2 | exact zm3 | exact zm4 | exact zm5 | exact zm6 | exact zm7) | simp)) e
  refine sL O (G4.trans G5) hL hns5 ?_
  intro s6 G6 hns6 hs6
  have k56 : Kb [L] s5 s6 := Kb.same hs6 (by simp [callEnvC, newEnv])
  have k46 : Kb [L] s4 s6 := (Go.kb G5).trans k56
  try dsimp only
  exact k s6 _ lp x hns6 rfl rfl (hPk.mono (vw_kb k46 (by first | exact zm0 | exact zm1 | exact zm2 | exact zm3 | exact zm4 | exact zm5 | exact zm6 | exact zm7 | exact zs0 | exact zs1 | exact zs2 | exact zs3 | exact zn0 | exact zn1 (by decide) | exact cl_self _ | exact sub2 (by first | exact zm0 | exact zm1 | exact zm2 | exact zm3 | exact zm4 | exact zm5 | exact zm6 | exact zm7) (by first | exact zm0 | exact zm1 | exact zm2 | exact zm3 | exact zm4 | exact zm5 | exact zm6 | exact zm7) | simp))) (hCm.mono (vw_kb k56 (by first | exact zm0 | exact zm1 | exact zm2 | exact zm3 | exact zm4 | exact zm5 | exact zm6 | exact zm7 | exact zs0 | exact zs1 | exact zs2 | exact zs3 | exact zn0 | exact zn1 (by decide) | exact cl_self _ | exact sub2 (by first | exact zm0 | exact zm1 | exact zm2 | exact zm3 | exact zm4 | exact zm5 | exact zm6 | exact zm7) (by first | exact zm0 | exact zm1 | exact zm2 | exact zm3 | exact zm4 | exact zm5 | exact zm6 | exact zm7) | simp))) (J4.kb hC k46 (by first | exact zm0 | exact zm1 | exact zm2 | exact zm3 | exact zm4 | exact zm5 | exact zm6 | exact zm7 | exact zs0 | exact zs1 | exact zs2 | exact zs3 | exact zn0 | exact zn1 (by decide) | exact cl_self _ | exact sub2 (by first | exact zm0 | exact zm1 | exact zm2 | exact zm3 | exact zm4 | exact zm5 | exact zm6 | exact zm7) (by first | exact zm0 | exact zm1 | exact zm2 | exact zm3 | exact zm4 | exact zm5 | exact zm6 | exact zm7) | simp) G6)
end
end Mine
end TextW5
section TextW6
namespace Mine
open PySem PySem.W PySem.Calls PyProof.Rows PySem.Spec
/-- .. and the comparer -/
structure Inv2 (w : World) (mg mb : Str → Option Value) (L : Addr) (s₀ : Shared) (ns : List Int) (t1 : Tok) (lv le lp x : Addr) (H : List Addr) (s : Shared) : Prop extends Inv w L s₀ ns t1 lv le H s where
  ok : Ok w mg mb H s
  pk : Pk (vw H s.heap) lp (pkOf ns.sum)
  cm : Cm (vw H s.heap) x (pkOf ns.sum)
section
variable {w : World} {mg mb : Str → Option Value} {A : Around} {s s' s₀ : Shared} {L : Addr} {ns : List Int} {t1 : Tok} {lv le lp x : Addr} {H : List Addr} {Q : Flow → Shared → Prop}
theorem Inv2.kb (I : Inv2 w mg mb L s₀ ns t1 lv le lp x H s) (O : Ok w mg mb [] s₀) (hC : ∀ x ∈ CL L, x ≠ 51) {xs : List Addr} (k : Kb xs s s') (hx : ∀ x ∈ xs, x ∈ H ∧ x ∉ CL L ∧ ∃ o, s'.heap.get? x = some o) (G' : Go s₀ s') : Inv2 w mg mb L s₀ ns t1 lv le lp x H s' := by
  have le' : Le (vw H s.heap) (vw H s'.heap) := vw_kb k fun x h => (hx x h).1
  exact ⟨I.toInv.kb hC k (fun x h => ⟨(hx x h).1, (hx x h).2.1⟩) G', ⟨O.top.go G', G'.bare O.bare, live_kb k I.ok.2.2 fun y hy => (hx y hy).2.2⟩, I.pk.mono le', I.cm.mono le'⟩
theorem Inv2.go (I : Inv2 w mg mb L s₀ ns t1 lv le lp x H s) (hC : ∀ x ∈ CL L, x ≠ 51) (G : Go s s') : Inv2 w mg mb L s₀ ns t1 lv le lp x H s' :=
  ⟨I.toInv.go hC G, I.ok.go G, I.pk.mono (vw_go G), I.cm.mono (vw_go G)⟩
theorem Inv2.more (I : Inv2 w mg mb L s₀ ns t1 lv le lp x H s) (hC : ∀ x ∈ CL L, x ≠ 51) (G : Go s s') {xs : List Addr} (hx : ∀ x ∈ xs, s.heap.get? x = none ∧ ∃ o, s'.heap.get? x = some o) : Inv2 w mg mb L s₀ ns t1 lv le lp x (xs ++ H) s' :=
  ⟨I.toInv.more hC G fun x h => (hx x h).1, I.ok.more G hx, I.pk.mono (vw_more xs G fun x h => (hx x h).1), I.cm.mono (vw_more xs G fun x h => (hx x h).1)⟩
theorem Inv2.less {xs : List Addr} (I : Inv2 w mg mb L s₀ ns t1 lv le lp x (xs ++ H) s) : Inv2 w mg mb L s₀ ns t1 lv le lp x H s :=
  ⟨I.toInv.less, I.ok.sub fun x h => List.mem_append_right _ h, I.pk.mono (vw_less xs), I.cm.mono (vw_less xs)⟩
theorem ns_live {h : Heap} {L : Addr} {m : Str → Option Value} (x : h.Ns L m) : ∃ o, h.get? L = some o := let ⟨o, _, _, e, _⟩ := x; ⟨o, e⟩
theorem li_live {h : Heap} {I l : Addr} {i : Nat} (x : h.IsListIter I l i) : ∃ o, h.get? I = some o := let ⟨o, e, _⟩ := x; ⟨o, e⟩
set_option maxHeartbeats 4000000
/-- every pair compared -/
theorem law7 {m : Str → Option Value} (O : Ok w mg mb [] s₀) (hA : Fit A 40 150) (hH : ∀ x ∈ HL L, s₀.heap.get? x = none) (hns : s.heap.Ns L m) (hm1 : m "picks" = some (.ref lp)) (hm2 : m "comp" = some (.ref x)) (J : Inv2 w mg mb L s₀ ns t1 lv le lp x (HL L) s)
    (k : ∀ s' m', s'.heap.Ns L m' → m' "comp" = some (.ref x) → Inv2 w mg mb L s₀ ns t1 lv le lp x (HL L) s' → wpAny (MD w) A (execs (lawB w 8) (lawE w L)) Q NE s') :
    wpAny (MD w) A (execs (lawB w 7) (lawE w L)) Q NE s := by
  have n51 : ∀ x ∈ HL L, x ≠ 51 := fun x hx => O.top.ne51 (hH x hx)
  have hC : ∀ x ∈ CL L, x ≠ 51 := fun x hx => n51 x (List.mem_cons_of_mem _ hx)
  have hL := hH L (by first | exact zm0 | exact zm1 | exact zm2 | exact zm3 | exact zm4 | exact zm5 | exact zm6 | exact zm7 | exact zs0 | exact zs1 | exact zs2 | exact zs3 | exact zn0 | exact zn1 (by decide) | exact cl_self _ | exact sub2 (by first | exact zm0 | exact zm1 | exact zm2 | exact zm3 | exact zm4 | exact zm5 | exact zm6 | exact zm7) (by first | exact zm0 | exact zm1 | exact zm2 | exact zm3 | exact zm4 | exact zm5 | exact zm6 | exact zm7) | simp)
  have hpk := pkOf_ok ns.sum
  have hLC : L ∉ CL L := by simp
  refine wpAny_execs_cons ?_
  refine wpAny_For ?_
  refine nC (c := L + 4) rfl J.c4 ?_
  obtain ⟨vs0, l10, _⟩ := id J.he
  refine iterL l10.list ?_
  intro I1 s1 hI1 hit1 k1
  have NI := O.new J.G hI1
  have J1 : Inv2 w mg mb L s₀ ns t1 lv le lp x ([I1] ++ HL L) s1 := J.more hC k1.go (by first | exact nin1 (⟨hI1, li_live hit1⟩) | exact ninp (⟨hI1, li_live hit1⟩) | exact nin3 (⟨hI1, li_live hit1⟩) | exact zall1 (⟨hI1, li_live hit1⟩) | exact zall2 (⟨hI1, li_live hit1⟩) | exact zall3 (⟨hI1, li_live hit1⟩) | exact zall4 (⟨hI1, li_live hit1⟩) | exact kbL0 (⟨hI1, li_live hit1⟩) | exact kbL1 (⟨hI1, li_live hit1⟩) | exact kbL2 (⟨hI1, li_live hit1⟩) | exact kbL3 (⟨hI1, li_live hit1⟩) | exact kbL4 (⟨hI1, li_live hit1⟩) | exact kbI (⟨hI1, li_live hit1⟩) | (simp; exact ⟨hI1, li_live hit1⟩))
  have I1C : I1 ∉ CL L := fun h => by obtain ⟨o, e⟩ := J.ok.live I1 (List.mem_cons_of_mem _ h); rw [hI1] at e; cases e
  have I1L : L ≠ I1 := by obtain ⟨o, e⟩ := ns_live hns; exact ne_of_get e hI1
  refine absR fun R' hR' => ?_
  obtain ⟨i, m, hi, hns, hm1, hm2, hit, J⟩ : ∃ (i : Nat) (m : Str → Option Value), i ≤ (usOf ns).length ∧ s1.heap.Ns L m ∧ m "picks" = some (.ref lp) ∧ m "comp" = some (.ref x) ∧ s1.heap.IsListIter I1 le i ∧ Inv2 w mg mb L s₀ ns t1 lv le lp x ([I1] ++ HL L) s1 :=
    ⟨0, m, Nat.zero_le _, hns.keeps k1.1, hm1, hm2, hit1, J1⟩
  clear J1 k1 hit1
  induction hn : (usOf ns).length - i generalizing i s1 m with
  | zero =>
    have hie : i = (usOf ns).length := (by first | exact ind0 (by assumption) (by assumption) | exact ind1 (by assumption) | omega)
    obtain ⟨vs, l1, l2⟩ := id J.he
    refine for1 ?_
    refine nextL0 hA.h hit l1.list (by rw [hie, ← l2.length]; simp) ?_
    intro s2 k2
    try dsimp only
    refine wpAny_execs_nil ?_
    refine hR' _ _ ?_
    try dsimp only
    have G2 := Go.ke J.G O.top NI.1 k2
    have J0 : Inv2 w mg mb L s₀ ns t1 lv le lp x (HL L) s1 := J.less
    have kb : Kb [I1] s1 s2 := Kb.ke k2 (by first | exact zm0 | exact zm1 | exact zm2 | exact zm3 | exact zm4 | exact zm5 | exact zm6 | exact zm7 | exact zs0 | exact zs1 | exact zs2 | exact zs3 | exact zn0 | exact zn1 (by decide) | exact cl_self _ | exact sub2 (by first | exact zm0 | exact zm1 | exact zm2 | exact zm3 | exact zm4 | exact zm5 | exact zm6 | exact zm7) (by first | exact zm0 | exact zm1 | exact zm2 | exact zm3 | exact zm4 | exact zm5 | exact zm6 | exact zm7) | simp)
    have lE : Le (vw ([I1] ++ HL L) s1.heap) (vw (HL L) s2.heap) := (vw_kb kb (by first | exact zm0 | exact zm1 | exact zm2 | exact zm3 | exact zm4 | exact zm5 | exact zm6 | exact zm7 | exact zs0 | exact zs1 | exact zs2 | exact zs3 | exact zn0 | exact zn1 (by decide) | exact cl_self _ | exact sub2 (by first | exact zm0 | exact zm1 | exact zm2 | exact zm3 | exact zm4 | exact zm5 | exact zm6 | exact zm7) (by first | exact zm0 | exact zm1 | exact zm2 | exact zm3 | exact zm4 | exact zm5 | exact zm6 | exact zm7) | simp)).trans (vw_less [I1])
    have JJ : Inv2 w mg mb L s₀ ns t1 lv le lp x (HL L) s2 := by
      have kp : ∀ y ∈ CL L, ∀ o, s1.heap.get? y = some o → s2.heap.get? y = some o := fun y hy o e => kb y o (hC y hy) (by first | exact nin1 (fun h => I1C (h ▸ hy)) | exact ninp (fun h => I1C (h ▸ hy)) | exact nin3 (fun h => I1C (h ▸ hy)) | exact zall1 (fun h => I1C (h ▸ hy)) | exact zall2 (fun h => I1C (h ▸ hy)) | exact zall3 (fun h => I1C (h ▸ hy)) | exact zall4 (fun h => I1C (h ▸ hy)) | exact kbL0 (fun h => I1C (h ▸ hy)) | exact kbL1 (fun h => I1C (h ▸ hy)) | exact kbL2 (fun h => I1C (h ▸ hy)) | exact kbL3 (fun h => I1C (h ▸ hy)) | exact kbL4 (fun h => I1C (h ▸ hy)) | exact kbI (fun h => I1C (h ▸ hy)) | (simp; exact fun h => I1C (h ▸ hy))) e
      refine ⟨⟨G2, cell_at J.c1 fun o e => kp _ (by first | exact zm0 | exact zm1 | exact zm2 | exact zm3 | exact zm4 | exact zm5 | exact zm6 | exact zm7 | exact zs0 | exact zs1 | exact zs2 | exact zs3 | exact zn0 | exact zn1 (by decide) | exact cl_self _ | exact sub2 (by first | exact zm0 | exact zm1 | exact zm2 | exact zm3 | exact zm4 | exact zm5 | exact zm6 | exact zm7) (by first | exact zm0 | exact zm1 | exact zm2 | exact zm3 | exact zm4 | exact zm5 | exact zm6 | exact zm7) | simp) o e, cell_at J.c2 fun o e => kp _ (by first | exact zm0 | exact zm1 | exact zm2 | exact zm3 | exact zm4 | exact zm5 | exact zm6 | exact zm7 | exact zs0 | exact zs1 | exact zs2 | exact zs3 | exact zn0 | exact zn1 (by decide) | exact cl_self _ | exact sub2 (by first | exact zm0 | exact zm1 | exact zm2 | exact zm3 | exact zm4 | exact zm5 | exact zm6 | exact zm7) (by first | exact zm0 | exact zm1 | exact zm2 | exact zm3 | exact zm4 | exact zm5 | exact zm6 | exact zm7) | simp) o e, cell_at J.c3 fun o e => kp _ (by first | exact zm0 | exact zm1 | exact zm2 | exact zm3 | exact zm4 | exact zm5 | exact zm6 | exact zm7 | exact zs0 | exact zs1 | exact zs2 | exact zs3 | exact zn0 | exact zn1 (by decide) | exact cl_self _ | exact sub2 (by first | exact zm0 | exact zm1 | exact zm2 | exact zm3 | exact zm4 | exact zm5 | exact zm6 | exact zm7) (by first | exact zm0 | exact zm1 | exact zm2 | exact zm3 | exact zm4 | exact zm5 | exact zm6 | exact zm7) | simp) o e, cell_at J.c4 fun o e => kp _ (by first | exact zm0 | exact zm1 | exact zm2 | exact zm3 | exact zm4 | exact zm5 | exact zm6 | exact zm7 | exact zs0 | exact zs1 | exact zs2 | exact zs3 | exact zn0 | exact zn1 (by decide) | exact cl_self _ | exact sub2 (by first | exact zm0 | exact zm1 | exact zm2 | exact zm3 | exact zm4 | exact zm5 | exact zm6 | exact zm7) (by first | exact zm0 | exact zm1 | exact zm2 | exact zm3 | exact zm4 | exact zm5 | exact zm6 | exact zm7) | simp) o e, J.hv.mono lE, J.he.mono lE, ex_mono J.ex lE⟩, ⟨O.top.go G2, G2.bare O.bare, ?_⟩, J.pk.mono lE, J.cm.mono lE⟩
      intro y hy
      obtain ⟨o, e⟩ := J0.ok.live y hy
      refine ⟨n51 y hy, o, kb y o (n51 y hy) ?_ e⟩
      simp
      intro h
      rcases List.mem_cons.mp hy with q | q
      · exact I1L (q.symm.trans h)
      · exact I1C (h ▸ q)
    exact k s2 m (ns_ke hns k2 I1L) hm2 JJ
  | succ n ih =>
    have hlt : i < (usOf ns).length := (by first | exact ind0 (by assumption) (by assumption) | exact ind1 (by assumption) | omega)
    obtain ⟨u, hu⟩ : ∃ u, (usOf ns)[i]? = some u := ⟨(usOf ns)[i], by simp [hlt]⟩
    obtain ⟨vs, l1, l2⟩ := id J.he
    obtain ⟨_, hvi, b, rfl, eb⟩ := l2.get hu
    refine for1 ?_
    refine nextL hit l1.list hvi ?_
    intro s2 hit2 k2
    try dsimp only
    have hns2 := ns_ke hns k2.ke I1L
    have G2 := Go.ke J.G O.top NI.1 k2.ke
    have J2 := J.kb O hC (Kb.ke k2.ke (xs := [I1]) (by first | exact zm0 | exact zm1 | exact zm2 | exact zm3 | exact zm4 | exact zm5 | exact zm6 | exact zm7 | exact zs0 | exact zs1 | exact zs2 | exact zs3 | exact zn0 | exact zn1 (by decide) | exact cl_self _ | exact sub2 (by first | exact zm0 | exact zm1 | exact zm2 | exact zm3 | exact zm4 | exact zm5 | exact zm6 | exact zm7) (by first | exact zm0 | exact zm1 | exact zm2 | exact zm3 | exact zm4 | exact zm5 | exact zm6 | exact zm7) | simp)) (by first | exact nin1 (⟨I1C, li_live hit2⟩) | exact ninp (⟨I1C, li_live hit2⟩) | exact nin3 (⟨I1C, li_live hit2⟩) | exact zall1 (⟨I1C, li_live hit2⟩) | exact zall2 (⟨I1C, li_live hit2⟩) | exact zall3 (⟨I1C, li_live hit2⟩) | exact zall4 (⟨I1C, li_live hit2⟩) | exact kbL0 (⟨I1C, li_live hit2⟩) | exact kbL1 (⟨I1C, li_live hit2⟩) | exact kbL2 (⟨I1C, li_live hit2⟩) | exact kbL3 (⟨I1C, li_live hit2⟩) | exact kbL4 (⟨I1C, li_live hit2⟩) | exact kbI (⟨I1C, li_live hit2⟩) | (simp; exact ⟨by simpa using I1C, li_live hit2⟩)) G2
    have eb2 := eb.mono (vw_kb (ys := [I1] ++ HL L) (Kb.ke k2.ke (xs := [I1]) (by first | exact zm0 | exact zm1 | exact zm2 | exact zm3 | exact zm4 | exact zm5 | exact zm6 | exact zm7 | exact zs0 | exact zs1 | exact zs2 | exact zs3 | exact zn0 | exact zn1 (by decide) | exact cl_self _ | exact sub2 (by first | exact zm0 | exact zm1 | exact zm2 | exact zm3 | exact zm4 | exact zm5 | exact zm6 | exact zm7) (by first | exact zm0 | exact zm1 | exact zm2 | exact zm3 | exact zm4 | exact zm5 | exact zm6 | exact zm7) | simp)) (by first | exact zm0 | exact zm1 | exact zm2 | exact zm3 | exact zm4 | exact zm5 | exact zm6 | exact zm7 | exact zs0 | exact zs1 | exact zs2 | exact zs3 | exact zn0 | exact zn1 (by decide) | exact cl_self _ | exact sub2 (by first | exact zm0 | exact zm1 | exact zm2 | exact zm3 | exact zm4 | exact zm5 | exact zm6 | exact zm7) (by first | exact zm0 | exact zm1 | exact zm2 | exact zm3 | exact zm4 | exact zm5 | exact zm6 | exact zm7) | simp))
    refine wpAny_pure ?_
    refine wpAny_assign_Name ?_
    refine sL O G2 hL hns2 ?_
    intro s3 G3 hns3 hs3
    have kL : Kb [L] s2 s3 := Kb.same (a := L) hs3 (by first | exact zm0 | exact zm1 | exact zm2 | exact zm3 | exact zm4 | exact zm5 | exact zm6 | exact zm7 | exact zs0 | exact zs1 | exact zs2 | exact zs3 | exact zn0 | exact zn1 (by decide) | exact cl_self _ | exact sub2 (by first | exact zm0 | exact zm1 | exact zm2 | exact zm3 | exact zm4 | exact zm5 | exact zm6 | exact zm7) (by first | exact zm0 | exact zm1 | exact zm2 | exact zm3 | exact zm4 | exact zm5 | exact zm6 | exact zm7) | simp)
    have J3 := J2.kb O hC kL (by first | exact nin1 (ns_live hns3) | exact ninp (ns_live hns3) | exact nin3 (ns_live hns3) | exact zall1 (ns_live hns3) | exact zall2 (ns_live hns3) | exact zall3 (ns_live hns3) | exact zall4 (ns_live hns3) | exact kbL0 (ns_live hns3) | exact kbL1 (ns_live hns3) | exact kbL2 (ns_live hns3) | exact kbL3 (ns_live hns3) | exact kbL4 (ns_live hns3) | exact kbI (ns_live hns3) | (simp; exact ns_live hns3)) G3
    have eb3 := eb2.mono (vw_kb (ys := [I1] ++ HL L) kL (by first | exact zm0 | exact zm1 | exact zm2 | exact zm3 | exact zm4 | exact zm5 | exact zm6 | exact zm7 | exact zs0 | exact zs1 | exact zs2 | exact zs3 | exact zn0 | exact zn1 (by decide) | exact cl_self _ | exact sub2 (by first | exact zm0 | exact zm1 | exact zm2 | exact zm3 | exact zm4 | exact zm5 | exact zm6 | exact zm7) (by first | exact zm0 | exact zm1 | exact zm2 | exact zm3 | exact zm4 | exact zm5 | exact zm6 | exact zm7) | simp))
    have hit3 := hit2.extBut hs3.extBut (Ne.symm I1L)
    refine wpAny_execs_cons ?_
    refine wpAny_For ?_
    refine nC (c := L + 4) rfl J3.c4 ?_
    obtain ⟨vs3, l13, _⟩ := id J3.he
    refine iterL l13.list ?_
    intro I2 s4 hI2 hit4 k4
    have N2 := O.new J3.G hI2
    have J4 : Inv2 w mg mb L s₀ ns t1 lv le lp x ([I2] ++ ([I1] ++ HL L)) s4 := J3.more hC k4.go (by first | exact nin1 (⟨hI2, li_live hit4⟩) | exact ninp (⟨hI2, li_live hit4⟩) | exact nin3 (⟨hI2, li_live hit4⟩) | exact zall1 (⟨hI2, li_live hit4⟩) | exact zall2 (⟨hI2, li_live hit4⟩) | exact zall3 (⟨hI2, li_live hit4⟩) | exact zall4 (⟨hI2, li_live hit4⟩) | exact kbL0 (⟨hI2, li_live hit4⟩) | exact kbL1 (⟨hI2, li_live hit4⟩) | exact kbL2 (⟨hI2, li_live hit4⟩) | exact kbL3 (⟨hI2, li_live hit4⟩) | exact kbL4 (⟨hI2, li_live hit4⟩) | exact kbI (⟨hI2, li_live hit4⟩) | (simp; exact ⟨hI2, li_live hit4⟩))
    have I2C : I2 ∉ CL L := fun h => by obtain ⟨o, e⟩ := J3.ok.live I2 (by simp at h ⊢; exact .inr (.inr h)); rw [hI2] at e; cases e
    have I2L : L ≠ I2 := by obtain ⟨o, e⟩ := ns_live hns3; exact ne_of_get e hI2
    have I12 : I1 ≠ I2 := by obtain ⟨o, e⟩ := li_live hit3; exact ne_of_get e hI2
    have eb4 : Ent w (wideOf ns) (vw ([I2] ++ ([I1] ++ HL L)) s4.heap) b u := eb3.mono (vw_more [I2] k4.go (by first | exact zall1 hI2 | exact nin1 hI2 | simpa using hI2))
    refine absR fun R2 hR2 => ?_
    obtain ⟨j, m4, hj, hns4, m41, m42, m43, hitI, hitJ, eb, J⟩ : ∃ (j : Nat) (m : Str → Option Value), j ≤ (usOf ns).length ∧ s4.heap.Ns L m ∧ m "picks" = some (.ref lp) ∧ m "comp" = some (.ref x) ∧ m "one" = some (.ref b) ∧ s4.heap.IsListIter I1 le (i + 1) ∧ s4.heap.IsListIter I2 le j ∧ Ent w (wideOf ns) (vw ([I2] ++ ([I1] ++ HL L)) s4.heap) b u ∧ Inv2 w mg mb L s₀ ns t1 lv le lp x ([I2] ++ ([I1] ++ HL L)) s4 :=
      ⟨0, _, Nat.zero_le _, hns3.keeps k4.1, hm1, hm2, rfl, hit3.at fun o e => k4.1 _ o e, hit4, eb4, J4⟩
    clear J4 eb4 hit4 k4
    induction hn2 : (usOf ns).length - j generalizing j s4 m4 with
    | zero =>
      have hje : j = (usOf ns).length := (by first | exact ind0 (by assumption) (by assumption) | exact ind1 (by assumption) | omega)
      obtain ⟨vs, l1, l2⟩ := id J.he
      refine for1 ?_
      refine nextL0 hA.h hitJ l1.list (by rw [hje, ← l2.length]; simp) ?_
      intro s5 k5
      try dsimp only
      refine wpAny_execs_nil ?_
      refine hR2 _ _ ?_
      try dsimp only
      refine wpAny_execs_nil ?_
      try dsimp only
      have G5 := Go.ke J.G O.top N2.1 k5
      have kb : Kb [I2] s4 s5 := Kb.ke k5 (by first | exact zm0 | exact zm1 | exact zm2 | exact zm3 | exact zm4 | exact zm5 | exact zm6 | exact zm7 | exact zs0 | exact zs1 | exact zs2 | exact zs3 | exact zn0 | exact zn1 (by decide) | exact cl_self _ | exact sub2 (by first | exact zm0 | exact zm1 | exact zm2 | exact zm3 | exact zm4 | exact zm5 | exact zm6 | exact zm7) (by first | exact zm0 | exact zm1 | exact zm2 | exact zm3 | exact zm4 | exact zm5 | exact zm6 | exact zm7) | simp)
      have lE : Le (vw ([I2] ++ ([I1] ++ HL L)) s4.heap) (vw ([I1] ++ HL L) s5.heap) := (vw_kb kb (by first | exact zm0 | exact zm1 | exact zm2 | exact zm3 | exact zm4 | exact zm5 | exact zm6 | exact zm7 | exact zs0 | exact zs1 | exact zs2 | exact zs3 | exact zn0 | exact zn1 (by decide) | exact cl_self _ | exact sub2 (by first | exact zm0 | exact zm1 | exact zm2 | exact zm3 | exact zm4 | exact zm5 | exact zm6 | exact zm7) (by first | exact zm0 | exact zm1 | exact zm2 | exact zm3 | exact zm4 | exact zm5 | exact zm6 | exact zm7) | simp)).trans (vw_less [I2])
      have kp : ∀ y ∈ CL L, ∀ o, s4.heap.get? y = some o → s5.heap.get? y = some o := fun y hy o e => kb y o (hC y hy) (by first | exact nin1 (fun h => I2C (h ▸ hy)) | exact ninp (fun h => I2C (h ▸ hy)) | exact nin3 (fun h => I2C (h ▸ hy)) | exact zall1 (fun h => I2C (h ▸ hy)) | exact zall2 (fun h => I2C (h ▸ hy)) | exact zall3 (fun h => I2C (h ▸ hy)) | exact zall4 (fun h => I2C (h ▸ hy)) | exact kbL0 (fun h => I2C (h ▸ hy)) | exact kbL1 (fun h => I2C (h ▸ hy)) | exact kbL2 (fun h => I2C (h ▸ hy)) | exact kbL3 (fun h => I2C (h ▸ hy)) | exact kbL4 (fun h => I2C (h ▸ hy)) | exact kbI (fun h => I2C (h ▸ hy)) | (simp; exact fun h => I2C (h ▸ hy))) e
      have JJ : Inv2 w mg mb L s₀ ns t1 lv le lp x ([I1] ++ HL L) s5 := by
        refine ⟨⟨G5, cell_at J.c1 fun o e => kp _ (by first | exact zm0 | exact zm1 | exact zm2 | exact zm3 | exact zm4 | exact zm5 | exact zm6 | exact zm7 | exact zs0 | exact zs1 | exact zs2 | exact zs3 | exact zn0 | exact zn1 (by decide) | exact cl_self _ | exact sub2 (by first | exact zm0 | exact zm1 | exact zm2 | exact zm3 | exact zm4 | exact zm5 | exact zm6 | exact zm7) (by first | exact zm0 | exact zm1 | exact zm2 | exact zm3 | exact zm4 | exact zm5 | exact zm6 | exact zm7) | simp) o e, cell_at J.c2 fun o e => kp _ (by first | exact zm0 | exact zm1 | exact zm2 | exact zm3 | exact zm4 | exact zm5 | exact zm6 | exact zm7 | exact zs0 | exact zs1 | exact zs2 | exact zs3 | exact zn0 | exact zn1 (by decide) | exact cl_self _ | exact sub2 (by first | exact zm0 | exact zm1 | exact zm2 | exact zm3 | exact zm4 | exact zm5 | exact zm6 | exact zm7) (by first | exact zm0 | exact zm1 | exact zm2 | exact zm3 | exact zm4 | exact zm5 | exact zm6 | exact zm7) | simp) o e, cell_at J.c3 fun o e => kp _ (by first | exact zm0 | exact zm1 | exact zm2 | exact zm3 | exact zm4 | exact zm5 | exact zm6 | exact zm7 | exact zs0 | exact zs1 | exact zs2 | exact zs3 | exact zn0 | exact zn1 (by decide) | exact cl_self _ | exact sub2 (by first | exact zm0 | exact zm1 | exact zm2 | exact zm3 | exact zm4 | exact zm5 | exact zm6 | exact zm7) (by first | exact zm0 | exact zm1 | exact zm2 | exact zm3 | exact zm4 | exact zm5 | exact zm6 | exact zm7) | simp) o e, cell_at J.c4 fun o e => kp _ (by first | exact zm0 | exact zm1 | exact zm2 | exact zm3 | exact zm4 | exact zm5 | exact zm6 | exact zm7 | exact zs0 | exact zs1 | exact zs2 | exact zs3 | exact zn0 | exact zn1 (by decide) | exact cl_self _ | exact sub2 (by first | exact zm0 | exact zm1 | exact zm2 | exact zm3 | exact zm4 | exact zm5 | exact zm6 | exact zm7) (by first | exact zm0 | exact zm1 | exact zm2 | exact zm3 | exact zm4 | exact zm5 | exact zm6 | exact zm7) | simp) o e, J.hv.mono lE, J.he.mono lE, ex_mono J.ex lE⟩, ⟨O.top.go G5, G5.bare O.bare, ?_⟩, J.pk.mono lE, J.cm.mono lE⟩
        intro y hy
        obtain ⟨y51, o, e⟩ := J.ok.2.2 y (List.mem_append_right _ hy)
        refine ⟨y51, o, kb y o y51 ?_ e⟩
        simp
        intro h
        rcases List.mem_append.mp hy with q | q
        · exact I12 ((List.mem_singleton.mp q).symm.trans h)
        · rcases List.mem_cons.mp q with q | q
          · exact I2L (q.symm.trans h)
          · exact I2C (h ▸ q)
      exact ih s5 (i + 1) m4 hlt (ns_ke hns4 k5 I2L) m41 m42 (hitI.extBut k5.1 I12) JJ (by first | assumption | exact ind2 (by assumption) | exact ind1 (by assumption) | exact Nat.le_trans (by assumption) (by decide) | exact Nat.le_of_lt (by assumption) | exact Nat.lt_of_le_of_lt (Nat.le_add_right _ _) (by assumption) | omega)
    | succ n2 ih2 =>
      have hltj : j < (usOf ns).length := (by first | exact ind0 (by assumption) (by assumption) | exact ind1 (by assumption) | omega)
      obtain ⟨v, hv⟩ : ∃ v, (usOf ns)[j]? = some v := ⟨(usOf ns)[j], by simp [hltj]⟩
      obtain ⟨vs, l1, l2⟩ := id J.he
      obtain ⟨_, hvj, c, rfl, ec⟩ := l2.get hv
      refine for1 ?_
      refine nextL hitJ l1.list hvj ?_
      intro s5 hitJ5 k5
      try dsimp only
      have kb5 : Kb [I2] s4 s5 := Kb.ke k5.ke (by first | exact zm0 | exact zm1 | exact zm2 | exact zm3 | exact zm4 | exact zm5 | exact zm6 | exact zm7 | exact zs0 | exact zs1 | exact zs2 | exact zs3 | exact zn0 | exact zn1 (by decide) | exact cl_self _ | exact sub2 (by first | exact zm0 | exact zm1 | exact zm2 | exact zm3 | exact zm4 | exact zm5 | exact zm6 | exact zm7) (by first | exact zm0 | exact zm1 | exact zm2 | exact zm3 | exact zm4 | exact zm5 | exact zm6 | exact zm7) | simp)
      have hns5 := ns_ke hns4 k5.ke I2L
      have G5 := Go.ke J.G O.top N2.1 k5.ke
      have J5 := J.kb O hC kb5 (by first | exact nin1 (⟨I2C, li_live hitJ5⟩) | exact ninp (⟨I2C, li_live hitJ5⟩) | exact nin3 (⟨I2C, li_live hitJ5⟩) | exact zall1 (⟨I2C, li_live hitJ5⟩) | exact zall2 (⟨I2C, li_live hitJ5⟩) | exact zall3 (⟨I2C, li_live hitJ5⟩) | exact zall4 (⟨I2C, li_live hitJ5⟩) | exact kbL0 (⟨I2C, li_live hitJ5⟩) | exact kbL1 (⟨I2C, li_live hitJ5⟩) | exact kbL2 (⟨I2C, li_live hitJ5⟩) | exact kbL3 (⟨I2C, li_live hitJ5⟩) | exact kbL4 (⟨I2C, li_live hitJ5⟩) | exact kbI (⟨I2C, li_live hitJ5⟩) | (simp; exact ⟨by simpa using I2C, li_live hitJ5⟩)) G5
      have le5 := vw_kb (ys := [I2] ++ ([I1] ++ HL L)) kb5 (by first | exact zm0 | exact zm1 | exact zm2 | exact zm3 | exact zm4 | exact zm5 | exact zm6 | exact zm7 | exact zs0 | exact zs1 | exact zs2 | exact zs3 | exact zn0 | exact zn1 (by decide) | exact cl_self _ | exact sub2 (by first | exact zm0 | exact zm1 | exact zm2 | exact zm3 | exact zm4 | exact zm5 | exact zm6 | exact zm7) (by first | exact zm0 | exact zm1 | exact zm2 | exact zm3 | exact zm4 | exact zm5 | exact zm6 | exact zm7) | simp)
      refine wpAny_pure ?_
      refine wpAny_assign_Name ?_
      refine sL O G5 hL hns5 ?_
      intro s6 G6 hns6 hs6
      have kL : Kb [L] s5 s6 := Kb.same (a := L) hs6 (by first | exact zm0 | exact zm1 | exact zm2 | exact zm3 | exact zm4 | exact zm5 | exact zm6 | exact zm7 | exact zs0 | exact zs1 | exact zs2 | exact zs3 | exact zn0 | exact zn1 (by decide) | exact cl_self _ | exact sub2 (by first | exact zm0 | exact zm1 | exact zm2 | exact zm3 | exact zm4 | exact zm5 | exact zm6 | exact zm7) (by first | exact zm0 | exact zm1 | exact zm2 | exact zm3 | exact zm4 | exact zm5 | exact zm6 | exact zm7) | simp)
      have J6 := J5.kb O hC kL (by first | exact nin1 (ns_live hns6) | exact ninp (ns_live hns6) | exact nin3 (ns_live hns6) | exact zall1 (ns_live hns6) | exact zall2 (ns_live hns6) | exact zall3 (ns_live hns6) | exact zall4 (ns_live hns6) | exact kbL0 (ns_live hns6) | exact kbL1 (ns_live hns6) | exact kbL2 (ns_live hns6) | exact kbL3 (ns_live hns6) | exact kbL4 (ns_live hns6) | exact kbI (ns_live hns6) | (simp; exact ns_live hns6)) G6
      have le6 := le5.trans (vw_kb (ys := [I2] ++ ([I1] ++ HL L)) kL (by first | exact zm0 | exact zm1 | exact zm2 | exact zm3 | exact zm4 | exact zm5 | exact zm6 | exact zm7 | exact zs0 | exact zs1 | exact zs2 | exact zs3 | exact zn0 | exact zn1 (by decide) | exact cl_self _ | exact sub2 (by first | exact zm0 | exact zm1 | exact zm2 | exact zm3 | exact zm4 | exact zm5 | exact zm6 | exact zm7) (by first | exact zm0 | exact zm1 | exact zm2 | exact zm3 | exact zm4 | exact zm5 | exact zm6 | exact zm7) | simp))
      have eb6 := eb.mono le6
      have ec6 := ec.mono le6
      refine wpAny_execs_cons ?_
      refine wpAny_Assign_Name ?_
      refine cmpCall (x := x) (W := wideOf ns) (u := u) (v := v) (pk := pkOf ns.sum) J6.ok hA.le (fun Q' hQ' => nL hns6 m42 hQ') J6.cm (fun cd h => (hpk cd h).1) ?_ (pl := _)
      refine nL hns6 m43 ?_
      refine nL hns6 rfl ?_
      refine ⟨b, c, rfl, rfl, Go.refl _, eb6, ec6, fun t7 s7 G7 => ?_⟩
      have hns7 := hns6.at' (h' := s7.heap) fun o e => G7.keep _ o (n51 L (by first | exact zm0 | exact zm1 | exact zm2 | exact zm3 | exact zm4 | exact zm5 | exact zm6 | exact zm7 | exact zs0 | exact zs1 | exact zs2 | exact zs3 | exact zn0 | exact zn1 (by decide) | exact cl_self _ | exact sub2 (by first | exact zm0 | exact zm1 | exact zm2 | exact zm3 | exact zm4 | exact zm5 | exact zm6 | exact zm7) (by first | exact zm0 | exact zm1 | exact zm2 | exact zm3 | exact zm4 | exact zm5 | exact zm6 | exact zm7) | simp)) e
      have J7 := J6.go hC G7
      refine sL O J7.G hL hns7 ?_
      intro s8 G8 hns8 hs8
      have kL8 : Kb [L] s7 s8 := Kb.same (a := L) hs8 (by first | exact zm0 | exact zm1 | exact zm2 | exact zm3 | exact zm4 | exact zm5 | exact zm6 | exact zm7 | exact zs0 | exact zs1 | exact zs2 | exact zs3 | exact zn0 | exact zn1 (by decide) | exact cl_self _ | exact sub2 (by first | exact zm0 | exact zm1 | exact zm2 | exact zm3 | exact zm4 | exact zm5 | exact zm6 | exact zm7) (by first | exact zm0 | exact zm1 | exact zm2 | exact zm3 | exact zm4 | exact zm5 | exact zm6 | exact zm7) | simp)
      have J8 := J7.kb O hC kL8 (by first | exact nin1 (ns_live hns8) | exact ninp (ns_live hns8) | exact nin3 (ns_live hns8) | exact zall1 (ns_live hns8) | exact zall2 (ns_live hns8) | exact zall3 (ns_live hns8) | exact zall4 (ns_live hns8) | exact kbL0 (ns_live hns8) | exact kbL1 (ns_live hns8) | exact kbL2 (ns_live hns8) | exact kbL3 (ns_live hns8) | exact kbL4 (ns_live hns8) | exact kbI (ns_live hns8) | (simp; exact ns_live hns8)) G8
      have le8 := (vw_go (ms := [I2] ++ ([I1] ++ HL L)) G7).trans (vw_kb (ys := [I2] ++ ([I1] ++ HL L)) kL8 (by first | exact zm0 | exact zm1 | exact zm2 | exact zm3 | exact zm4 | exact zm5 | exact zm6 | exact zm7 | exact zs0 | exact zs1 | exact zs2 | exact zs3 | exact zn0 | exact zn1 (by decide) | exact cl_self _ | exact sub2 (by first | exact zm0 | exact zm1 | exact zm2 | exact zm3 | exact zm4 | exact zm5 | exact zm6 | exact zm7) (by first | exact zm0 | exact zm1 | exact zm2 | exact zm3 | exact zm4 | exact zm5 | exact zm6 | exact zm7) | simp))
      have eb8 := eb6.mono le8
      have ec8 := ec6.mono le8
      try dsimp only
      refine wpAny_execs_cons ?_
      refine wpAny_If ?_
      refine isTrue_or ?_
      refine wpAny_isTrue_Compare1 ?_
      refine nL hns8 rfl ?_
      refine callG J8.ok.top (f_sign w) (by kernel_rfl) ?_
      refine args_cons ?_
      refine nL hns8 m43 ?_
      refine args_cons ?_
      refine nL hns8 rfl ?_
      refine args_cons ?_
      refine nL hns8 m41 ?_
      refine args_nil ?_
      refine ⟨J8.ok.top.k, ?_⟩
      refine sign_spec J8.ok hA.le eb8 ec8 J8.pk (by rw [pkOf_len]; decide) (fun cd h => (hpk cd h).1) (fun cd h => (hpk cd h).2) ?_
      intro t9 s9 G9
      have hns9 := hns8.at' (h' := s9.heap) fun o e => G9.keep _ o (n51 L (by first | exact zm0 | exact zm1 | exact zm2 | exact zm3 | exact zm4 | exact zm5 | exact zm6 | exact zm7 | exact zs0 | exact zs1 | exact zs2 | exact zs3 | exact zn0 | exact zn1 (by decide) | exact cl_self _ | exact sub2 (by first | exact zm0 | exact zm1 | exact zm2 | exact zm3 | exact zm4 | exact zm5 | exact zm6 | exact zm7) (by first | exact zm0 | exact zm1 | exact zm2 | exact zm3 | exact zm4 | exact zm5 | exact zm6 | exact zm7) | simp)) e
      have J9 := J8.go hC G9
      refine ne_int ?_
      rw [bne_self_eq_false]
      refine wpAny_truthy_bool ?_
      rw [if_neg Bool.false_ne_true]
      refine isTrue_or ?_
      refine isTrue_not ?_
      refine wpAny_isTrue_value ?_
      refine callG J9.ok.top (f_whole w) (by kernel_rfl) ?_
      refine args_cons ?_
      refine nL hns9 rfl ?_
      refine args_nil ?_
      refine ⟨J9.ok.top.k, ?_⟩
      refine whole_spec J9.ok hA.le ?_
      intro s10 G10
      refine wpAny_truthy_bool ?_
      rw [if_neg (by decide)]
      refine isTrue_or_nil ?_
      rw [if_neg Bool.false_ne_true]
      refine wpAny_execs_nil ?_
      try dsimp only
      refine wpAny_execs_nil ?_
      try dsimp only
      have J10 := J9.go hC G10
      have hns10 := hns9.at' (h' := s10.heap) fun o e => G10.keep _ o (n51 L (by first | exact zm0 | exact zm1 | exact zm2 | exact zm3 | exact zm4 | exact zm5 | exact zm6 | exact zm7 | exact zs0 | exact zs1 | exact zs2 | exact zs3 | exact zn0 | exact zn1 (by decide) | exact cl_self _ | exact sub2 (by first | exact zm0 | exact zm1 | exact zm2 | exact zm3 | exact zm4 | exact zm5 | exact zm6 | exact zm7) (by first | exact zm0 | exact zm1 | exact zm2 | exact zm3 | exact zm4 | exact zm5 | exact zm6 | exact zm7) | simp)) e
      have I151 : I1 ≠ 51 := NI.2.1
      have I251 : I2 ≠ 51 := N2.2.1
      have stay : ∀ y, y ≠ 51 → y ≠ L → y ≠ I2 → ∀ o, s4.heap.get? y = some o → s10.heap.get? y = some o := fun y h1 h2 h3 o e =>
        G10.keep _ o h1 (G9.keep _ o h1 (kL8 _ o h1 (by first | exact zall1 h2 | exact nin1 h2 | simpa using h2) (G7.keep _ o h1 (kL _ o h1 (by first | exact zall1 h2 | exact nin1 h2 | simpa using h2) (kb5 _ o h1 (by first | exact zall1 h3 | exact nin1 h3 | simpa using h3) e)))))
      have stay2 : ∀ o, s5.heap.get? I2 = some o → s10.heap.get? I2 = some o := fun o e =>
        G10.keep _ o I251 (G9.keep _ o I251 (kL8 _ o I251 (by first | exact nin1 (Ne.symm I2L) | exact ninp (Ne.symm I2L) | exact nin3 (Ne.symm I2L) | exact zall1 (Ne.symm I2L) | exact zall2 (Ne.symm I2L) | exact zall3 (Ne.symm I2L) | exact zall4 (Ne.symm I2L) | exact kbL0 (Ne.symm I2L) | exact kbL1 (Ne.symm I2L) | exact kbL2 (Ne.symm I2L) | exact kbL3 (Ne.symm I2L) | exact kbL4 (Ne.symm I2L) | exact kbI (Ne.symm I2L) | (simp; exact Ne.symm I2L)) (G7.keep _ o I251 (kL _ o I251 (by first | exact nin1 (Ne.symm I2L) | exact ninp (Ne.symm I2L) | exact nin3 (Ne.symm I2L) | exact zall1 (Ne.symm I2L) | exact zall2 (Ne.symm I2L) | exact zall3 (Ne.symm I2L) | exact zall4 (Ne.symm I2L) | exact kbL0 (Ne.symm I2L) | exact kbL1 (Ne.symm I2L) | exact kbL2 (Ne.symm I2L) | exact kbL3 (Ne.symm I2L) | exact kbL4 (Ne.symm I2L) | exact kbI (Ne.symm I2L) | (simp; exact Ne.symm I2L)) e))))
      refine ih2 s10 (j + 1) _ hltj hns10 m41 m42 m43 (hitI.at fun o e => stay I1 I151 (Ne.symm I1L) I12 o e) (hitJ5.at fun o e => stay2 o e) (eb8.mono ((vw_go G9).trans (vw_go G10))) J10 (by first | assumption | exact ind2 (by assumption) | exact ind1 (by assumption) | exact Nat.le_trans (by assumption) (by decide) | exact Nat.le_of_lt (by assumption) | exact Nat.lt_of_le_of_lt (Nat.le_add_right _ _) (by assumption) | omega)
end
end Mine
end TextW6
section TextW7
namespace Mine
open PySem PySem.W PySem.Calls PyProof.Rows PySem.Spec
theorem rsz1 : ∀ n : Nat, n < 31 → Builtin.Range.rangeSize 1 ((n : Int) + 1) 1 = ((n : Nat) : Int) ∧ Builtin.Range.small 1 ((n : Int) + 1) 1 = true := by decide +kernel
theorem i0 (i : Nat) : (0 : Int) ≤ 1 + (i : Int) := Int.le_trans (by decide) (Int.le_add_of_nonneg_right (Int.natCast_nonneg i))
theorem i63 {i n : Nat} (h : i < n) (h2 : n ≤ 4) : 1 + (i : Int) < 2 ^ 63 := by omega
theorem iN (i : Nat) : (1 + (i : Int)).toNat = i + 1 := by omega
theorem iC (i : Nat) : 1 + (i : Int) = ((i + 1 : Nat) : Int) := by omega
theorem iE {n i : Nat} (h : i = n) : (n : Int) - i ≤ 0 := by rw [h, Int.sub_self]; decide
theorem iL {n i : Nat} (h : i < n) : 0 < (n : Int) - i := Int.sub_pos_of_lt (Int.ofNat_lt.mpr h)
theorem iS (i : Nat) : 1 + ((i + 1 : Nat) : Int) = 1 + (i : Int) + 1 := by omega
theorem iR (n i : Nat) : (n : Int) - ((i + 1 : Nat) : Int) = (n : Int) - i - 1 := by omega
section
variable {w : World} {mg mb : Str → Option Value} {A : Around} {s s' s₁ s₀ : Shared} {L : Addr} {ns : List Int} {t1 : Tok} {lv le lp x : Addr} {H ms : List Addr} {Q : Flow → Shared → Prop}
/-- what was hidden is no more -/
theorem Inv2.out {I : Addr} (J : Inv2 w mg mb L s₀ ns t1 lv le lp x ([I] ++ H) s) (O : Ok w mg mb [] s₀) (hC : ∀ x ∈ CL L, x ≠ 51) (IC : I ∉ CL L) (IH : I ∉ H) (k : Ke I s s') (G' : Go s₀ s') : Inv2 w mg mb L s₀ ns t1 lv le lp x H s' := by
  have kb : Kb [I] s s' := Kb.ke k (by first | exact zm0 | exact zm1 | exact zm2 | exact zm3 | exact zm4 | exact zm5 | exact zm6 | exact zm7 | exact zs0 | exact zs1 | exact zs2 | exact zs3 | exact zn0 | exact zn1 (by decide) | exact cl_self _ | exact sub2 (by first | exact zm0 | exact zm1 | exact zm2 | exact zm3 | exact zm4 | exact zm5 | exact zm6 | exact zm7) (by first | exact zm0 | exact zm1 | exact zm2 | exact zm3 | exact zm4 | exact zm5 | exact zm6 | exact zm7) | simp)
  have lE : Le (vw ([I] ++ H) s.heap) (vw H s'.heap) := (vw_kb kb (by first | exact zm0 | exact zm1 | exact zm2 | exact zm3 | exact zm4 | exact zm5 | exact zm6 | exact zm7 | exact zs0 | exact zs1 | exact zs2 | exact zs3 | exact zn0 | exact zn1 (by decide) | exact cl_self _ | exact sub2 (by first | exact zm0 | exact zm1 | exact zm2 | exact zm3 | exact zm4 | exact zm5 | exact zm6 | exact zm7) (by first | exact zm0 | exact zm1 | exact zm2 | exact zm3 | exact zm4 | exact zm5 | exact zm6 | exact zm7) | simp)).trans (vw_less [I])
  have kp : ∀ y ∈ CL L, ∀ o, s.heap.get? y = some o → s'.heap.get? y = some o := fun y hy o e => kb y o (hC y hy) (by first | exact nin1 (fun h => IC (h ▸ hy)) | exact ninp (fun h => IC (h ▸ hy)) | exact nin3 (fun h => IC (h ▸ hy)) | exact zall1 (fun h => IC (h ▸ hy)) | exact zall2 (fun h => IC (h ▸ hy)) | exact zall3 (fun h => IC (h ▸ hy)) | exact zall4 (fun h => IC (h ▸ hy)) | exact kbL0 (fun h => IC (h ▸ hy)) | exact kbL1 (fun h => IC (h ▸ hy)) | exact kbL2 (fun h => IC (h ▸ hy)) | exact kbL3 (fun h => IC (h ▸ hy)) | exact kbL4 (fun h => IC (h ▸ hy)) | exact kbI (fun h => IC (h ▸ hy)) | (simp; exact fun h => IC (h ▸ hy))) e
  refine ⟨⟨G', cell_at J.c1 fun o e => kp _ (by first | exact zm0 | exact zm1 | exact zm2 | exact zm3 | exact zm4 | exact zm5 | exact zm6 | exact zm7 | exact zs0 | exact zs1 | exact zs2 | exact zs3 | exact zn0 | exact zn1 (by decide) | exact cl_self _ | exact sub2 (by first | exact zm0 | exact zm1 | exact zm2 | exact zm3 | exact zm4 | exact zm5 | exact zm6 | exact zm7) (by first | exact zm0 | exact zm1 | exact zm2 | exact zm3 | exact zm4 | exact zm5 | exact zm6 | exact zm7) | simp) o e, cell_at J.c2 fun o e => kp _ (by first | exact zm0 | exact zm1 | exact zm2 | exact zm3 | exact zm4 | exact zm5 | exact zm6 | exact zm7 | exact zs0 | exact zs1 | exact zs2 | exact zs3 | exact zn0 | exact zn1 (by decide) | exact cl_self _ | exact sub2 (by first | exact zm0 | exact zm1 | exact zm2 | exact zm3 | exact zm4 | exact zm5 | exact zm6 | exact zm7) (by first | exact zm0 | exact zm1 | exact zm2 | exact zm3 | exact zm4 | exact zm5 | exact zm6 | exact zm7) | simp) o e, cell_at J.c3 fun o e => kp _ (by first | exact zm0 | exact zm1 | exact zm2 | exact zm3 | exact zm4 | exact zm5 | exact zm6 | exact zm7 | exact zs0 | exact zs1 | exact zs2 | exact zs3 | exact zn0 | exact zn1 (by decide) | exact cl_self _ | exact sub2 (by first | exact zm0 | exact zm1 | exact zm2 | exact zm3 | exact zm4 | exact zm5 | exact zm6 | exact zm7) (by first | exact zm0 | exact zm1 | exact zm2 | exact zm3 | exact zm4 | exact zm5 | exact zm6 | exact zm7) | simp) o e, cell_at J.c4 fun o e => kp _ (by first | exact zm0 | exact zm1 | exact zm2 | exact zm3 | exact zm4 | exact zm5 | exact zm6 | exact zm7 | exact zs0 | exact zs1 | exact zs2 | exact zs3 | exact zn0 | exact zn1 (by decide) | exact cl_self _ | exact sub2 (by first | exact zm0 | exact zm1 | exact zm2 | exact zm3 | exact zm4 | exact zm5 | exact zm6 | exact zm7) (by first | exact zm0 | exact zm1 | exact zm2 | exact zm3 | exact zm4 | exact zm5 | exact zm6 | exact zm7) | simp) o e, J.hv.mono lE, J.he.mono lE, ex_mono J.ex lE⟩, ⟨O.top.go G', G'.bare O.bare, ?_⟩, J.pk.mono lE, J.cm.mono lE⟩
  intro y hy
  obtain ⟨y51, o, e⟩ := J.ok.2.2 y (List.mem_append_right _ hy)
  refine ⟨y51, o, kb y o y51 ?_ e⟩
  simp
  exact fun h => IH (h ▸ hy)
theorem applied4 {sl : Addr} {u : Tok} {Q : Int × Int × Nat → Shared → Prop} {E : Value → Shared → Prop} (hs : s.heap.IsSliceOf sl .none (.int 4 u) .none) (h : Q (0, 1, 4) s) :
    wpAny (MD w) A (Builtin.Slice.sliceApplied (.ref sl) (pure (5 : Int))) Q E s := by
  obtain ⟨os, hos, hcs, hds⟩ := id hs
  unfold Builtin.Slice.sliceApplied Builtin.Slice.sliceFields
  refine wpAny_bind (wpAny_bind (wpAny_field hos hds (x := .none) rfl (wpAny_bind (wpAny_field hos hds (x := .int 4 u) rfl (wpAny_bind (wpAny_field hos hds (x := .none) rfl (wpAny_pure ?_)))))))
  refine wpAny_bind (slicePart_none ?_)
  show wpAny _ _ (if ((1 : Int) == 0) = true then _ else _) _ _ s
  rw [if_neg (by decide)]
  refine wpAny_bind (slicePart_none (wpAny_bind (slicePart_int (wpAny_bind (wpAny_pure ?_)))))
  exact wpAny_pure h
/-- t[:4] of five -/
theorem tup4 {t : Addr} {a b c d e : Value} {u : Tok} {Q : Value → Shared → Prop} {E : Value → Shared → Prop} (ht : IsTup s.heap t #[a, b, c, d, e])
    (h : ∀ r s', s.heap.get? r = none → s'.heap.get? r = some (tupO [a, b, c, d]) → Kp s s' → Q (.ref r) s') :
    ∀ s1 : Shared, s1 = { s with heap := s.heap.push { cls := .type "slice", data := .fields #[.none, .int 4 u, .none] } } → s1.TypeIs (.ref t) "tuple" ∧ wpAny (MD w) A (getItem (.ref t) (.ref s.heap.objs.size)) Q E s1 := by
  rintro s1 rfl
  have ht1 : IsTup (s.heap.push { cls := .type "slice", data := .fields #[.none, .int 4 u, .none] }) t #[a, b, c, d, e] := by
    obtain ⟨o, e1, r⟩ := ht; exact ⟨o, Heap.get?_push_of_some _ e1, r⟩
  have hs : (s.heap.push { cls := .type "slice", data := .fields #[.none, .int 4 u, .none] }).IsSliceOf s.heap.objs.size .none (.int 4 u) .none := Heap.IsSliceOf.new ..
  refine ⟨ht1.typeIs, ?_⟩
  obtain ⟨os, hos, hcs, hds⟩ := id hs
  have hTs : ({ s with heap := s.heap.push { cls := .type "slice", data := .fields #[.none, .int 4 u, .none] } } : Shared).TypeIs (.ref s.heap.objs.size) "slice" := ⟨os, hos, hcs⟩
  have hsz : sizeOk (.seq ([a, b, c, d] : List Value).toArray) := small_list (vs := [a, b, c, d]) (Nat.le_of_ble_eq_true rfl)
  have fin : Q (.ref (s.heap.push { cls := .type "slice", data := .fields #[.none, .int 4 u, .none] }).objs.size) { s with heap := (s.heap.push { cls := .type "slice", data := .fields #[.none, .int 4 u, .none] }).push { cls := .type "tuple", data := .seq ([a, b, c, d] : List Value).toArray } } := by
    refine h _ _ (none_of_le ?_) (Heap.get?_push_size _ rfl) ⟨fun b o e => Heap.get?_push_of_some _ (Heap.get?_push_of_some _ e), rfl, rfl⟩
    rw [Heap.size_push]; exact Nat.le_succ _
  unfold getItem
  try with_reducible refine wpAny_holding ?_
  first | refine wpAny_bind (wpAny_pure ?_) | skip
  refine wpAny_bind (wpAny_sequenceKey ht1.typeIs (by decide) ?_)
  refine wpAny_bind (wpAny_callSpecial?_slot (name := Str.ofString "__getitem__") ht1.typeIs slot_tuple_getitem
    (wpAny_call_entry slot_tuple_getitem ht1.typeIs entry_tuple_getitem ?_ (args_tuple_getitem _ _)))
  show wpAny _ _ (Builtin.Tuple.tupleItemsOf (.ref t) >>= _) _ _ _
  refine wpAny_bind (tupleItemsOf_ ht1 ?_)
  refine wpAny_bind (wpAny_typeOf hTs ?_)
  rw [if_pos (by decide)]
  refine wpAny_bind (applied4 hs ?_)
  show wpAny _ _ (if ((0 : Int) == 0 && (1 : Int) == 1 && (4 : Nat) == 5) = true then _ else _) _ _ _
  rw [if_neg (by decide)]
  have hp : ((List.range 4).filterMap fun (k : Nat) => (#[a, b, c, d, e] : Array Value)[((0 : Int) + (k : Int) * 1).toNat]?).toArray = [a, b, c, d].toArray := rfl
  rw [hp]
  first
    | exact wpAny_bind (m := Builtin.Tuple.tupleExact _) (wpAny_newObj_type (wpAny_pure ⟨_, rfl, wpAny_pure fin⟩) hsz)
    | exact wpAny_bind (m := Builtin.Tuple.tupleExact _) (wpAny_newObj_type (wpAny_bind (wpAny_pure (wpAny_pure ⟨_, rfl, wpAny_pure fin⟩))) hsz)
    | exact wpAny_bind (wpAny_bind (m := Builtin.Tuple.tupleExact _) (wpAny_newObj_type (wpAny_pure (wpAny_pure ⟨_, rfl, wpAny_pure fin⟩)) hsz))
    | exact wpAny_bind (wpAny_bind (m := Builtin.Tuple.tupleExact _) (wpAny_newObj_type (wpAny_pure ⟨_, rfl, wpAny_pure fin⟩) hsz))
/-- the source is a tuple -/
theorem srcT {α : Type} {ds : List α} {K : α → Value → Prop} {l : Addr} {vs : List Value} {E : Value → Shared → Prop} (hh : A.handled = none) (O : Ok w mg mb ms s) (G : Go s s₁) (hl : s₁.heap.IsTuple l vs.toArray) (h51 : l ≠ 51) (hK : All2 (fun v d => K d v) vs ds) :
    wpAny (MD w) A (pyIter (.ref l)) (fun it s₂ => Go s s₂ ∧ SrcIt w A "tuple_iterator" ds K s s₂ it) E s₁ := by
  have hlt : l < s₁.heap.objs.size := by obtain ⟨_, e, _⟩ := hl; exact Heap.lt_size e
  refine wpAny_pyIter_tuple hl ⟨G.trans Go.push, s₁.heap.objs.size, [s₁.heap.objs.size, l], fun i v => vs.toArray[i]? = some v, fun i h => h.IsTupleIter s₁.heap.objs.size l i ∧ h.IsTuple l vs.toArray, rfl, (O.new G (get_size _)).1, ?_, ?_, ?_, ?_, ?_⟩
  · have := Walks.tuple (prog := PG) (w := w) hh s₁.heap.objs.size l (Nat.ne_of_lt hlt) vs.toArray
    rw [show vs.toArray.size = ds.length by rw [List.size_toArray]; exact hK.length] at this
    exact this
  · intro i v hv hi
    obtain ⟨d, a, b⟩ := hK.get' (i := i) (a := v) (by first | exact zall1 hv | exact nin1 hv | simpa using hv)
    exact ⟨d, a, b⟩
  · intro b hb
    rcases List.mem_cons.mp hb with rfl | hb
    · exact ⟨(O.new G (get_size _)).2.1, _, Heap.get?_push_size _ rfl⟩
    · rw [List.mem_singleton.mp hb]; obtain ⟨o, e, _⟩ := hl; exact ⟨h51, o, Heap.get?_push_of_some _ e⟩
  · intro i h ⟨⟨o, e, c, _⟩, _⟩
    exact ⟨o, e, c⟩
  · exact ⟨⟨_, Heap.get?_push_size _ rfl, rfl, rfl⟩, hl.push _⟩
end
end Mine
end TextW7
section TextW8
namespace Mine
open PySem PySem.W PySem.Calls PyProof.Rows PySem.Spec
/-- the body of the loop over the orders, from statement n on -/
noncomputable def lawT (w : World) (n : Nat) : List Stmt := match lawB w 10 with
  | .For _ _ body _ _ :: _ => body.drop n
  | _ => []
theorem sel_take (us : List Vec) (o : List Int) (i : Nat) : (sel us o).take i = sel us (o.take i) := by unfold sel; rw [List.map_take]
theorem psum_tot (us : List Vec) (o : List Int) (i : Nat) : psum (sel us o) i = tot (sel us (o.take i)) := by unfold psum tot; rw [sel_take]
theorem sel_pos {us : List Vec} {o : List Int} (h : ∀ u ∈ us, 0 < u.d) (hk : ∀ k ∈ o, 0 ≤ k ∧ k < us.length) : ∀ u ∈ sel us o, 0 < u.d := by
  intro u hu
  obtain ⟨k, hk', rfl⟩ := List.mem_map.mp hu
  obtain ⟨a, b⟩ := hk k hk'
  have hlt : k.toNat < us.length := (by first | exact ind0 (by assumption) (by assumption) | exact ind1 (by assumption) | omega)
  rw [List.getD_eq_getElem?_getD, List.getElem?_eq_getElem hlt]
  exact h _ (List.getElem_mem hlt)
section
variable {w : World} {mg mb : Str → Option Value} {A : Around} {s s₀ : Shared} {L : Addr} {ns : List Int} {t1 : Tok} {lv le lp x : Addr} {H : List Addr} {Q : Flow → Shared → Prop} {m : Str → Option Value} {lo : Addr} {o : List Int}
set_option maxHeartbeats 4000000
/-- sums = _law_along([entries[k] for k in order]) -/
theorem turn0 (O : Ok w mg mb [] s₀) (hA : Fit A 40 150) (hH : ∀ x ∈ HL L, s₀.heap.get? x = none) (hLH : L ∈ H) (hns : s.heap.Ns L m) (J : Inv2 w mg mb L s₀ ns t1 lv le lp x H s) (hmo : m "order" = some (.ref lo)) (ho : SqI "list" (vw H s.heap) lo o)
    (hks : ∀ k ∈ o, 0 ≤ k ∧ k < (usOf ns).length) (hol : o.length ≤ 4)
    (k : ∀ s' ls, s'.heap.Ns L (fun y => if y = Str.ofString "sums" then some (.ref ls) else m y) → Kb [L] s s' → Inv2 w mg mb L s₀ ns t1 lv le lp x H s' → EntL w (wideOf ns) (vw H s'.heap) ls (psums (sel (usOf ns) o)) → wpAny (MD w) A (execs (lawT w 1) (lawE w L)) Q NE s') :
    wpAny (MD w) A (execs (lawT w 0) (lawE w L)) Q NE s := by
  have n51 : ∀ x ∈ HL L, x ≠ 51 := fun x hx => O.top.ne51 (hH x hx)
  have hC : ∀ x ∈ CL L, x ≠ 51 := fun x hx => n51 x (List.mem_cons_of_mem _ hx)
  have hL := hH L (by first | exact zm0 | exact zm1 | exact zm2 | exact zm3 | exact zm4 | exact zm5 | exact zm6 | exact zm7 | exact zs0 | exact zs1 | exact zs2 | exact zs3 | exact zn0 | exact zn1 (by decide) | exact cl_self _ | exact sub2 (by first | exact zm0 | exact zm1 | exact zm2 | exact zm3 | exact zm4 | exact zm5 | exact zm6 | exact zm7) (by first | exact zm0 | exact zm1 | exact zm2 | exact zm3 | exact zm4 | exact zm5 | exact zm6 | exact zm7) | simp)
  have hul : (usOf ns).length ≤ 4 := us_le4 ns
  obtain ⟨evs, e1, e2⟩ := id J.he
  obtain ⟨ovs, o1, o2⟩ := id ho
  refine wpAny_execs_cons ?_
  refine wpAny_Assign_Name ?_
  refine callG J.ok.top (f_along w) (by kernel_rfl) ?_
  refine args_cons ?_
  refine pickC (Rv := fun g v u => ∃ a, v = .ref a ∧ Ent w (wideOf ns) g a u) (c := L + 4) (ks := o) (us := usOf ns) Vec.z hA.h J.ok (fun g g' v u le ⟨a, e, x⟩ => ⟨a, e, x.mono le⟩) rfl (by decide) rfl (by decide) (by intro x; rfl) rfl (fun _ => rfl) rfl rfl J.c4 (hC _ (by first | exact zm0 | exact zm1 | exact zm2 | exact zm3 | exact zm4 | exact zm5 | exact zm6 | exact zm7 | exact zs0 | exact zs1 | exact zs2 | exact zs3 | exact zn0 | exact zn1 (by decide) | exact cl_self _ | exact sub2 (by first | exact zm0 | exact zm1 | exact zm2 | exact zm3 | exact zm4 | exact zm5 | exact zm6 | exact zm7) (by first | exact zm0 | exact zm1 | exact zm2 | exact zm3 | exact zm4 | exact zm5 | exact zm6 | exact zm7) | simp)) e1 e2 hks (Nat.le_trans hul (by decide)) (Nat.le_trans hol (by decide)) ?_ ?_
  · refine nL hns hmo ?_
    exact ⟨lo, ovs, rfl, Go.refl _, o1.list, (vw_iff.mp o1.choose_spec.1).1, o2⟩
  intro D ys kk s2 G2 hD hDl ha
  have J2 := J.go hC G2
  have N2 := J.ok.fresh hD
  refine args_nil ?_
  refine ⟨J2.ok.top.k, ?_⟩
  refine along_spec (us := sel (usOf ns) o) (W := wideOf ns) J2.ok hA.le ⟨ys, Sq.ofL hDl N2.1 N2.2, ha⟩ (sel_pos (usOf_pos ns) hks) (by rw [sel, List.length_map]; exact Nat.le_trans hol (by decide)) ?_
  intro ls s3 G3 hls hE3
  have J3 := J2.go hC G3
  have G13 := G2.trans G3
  have hns3 := hns.at' (h' := s3.heap) fun o e => G13.keep _ o (n51 L (by first | exact zm0 | exact zm1 | exact zm2 | exact zm3 | exact zm4 | exact zm5 | exact zm6 | exact zm7 | exact zs0 | exact zs1 | exact zs2 | exact zs3 | exact zn0 | exact zn1 (by decide) | exact cl_self _ | exact sub2 (by first | exact zm0 | exact zm1 | exact zm2 | exact zm3 | exact zm4 | exact zm5 | exact zm6 | exact zm7) (by first | exact zm0 | exact zm1 | exact zm2 | exact zm3 | exact zm4 | exact zm5 | exact zm6 | exact zm7) | simp)) e
  refine sL O J3.G hL hns3 ?_
  intro s4 G4 hns4 hs4
  have kL : Kb [L] s3 s4 := Kb.same (a := L) hs4 (by first | exact zm0 | exact zm1 | exact zm2 | exact zm3 | exact zm4 | exact zm5 | exact zm6 | exact zm7 | exact zs0 | exact zs1 | exact zs2 | exact zs3 | exact zn0 | exact zn1 (by decide) | exact cl_self _ | exact sub2 (by first | exact zm0 | exact zm1 | exact zm2 | exact zm3 | exact zm4 | exact zm5 | exact zm6 | exact zm7) (by first | exact zm0 | exact zm1 | exact zm2 | exact zm3 | exact zm4 | exact zm5 | exact zm6 | exact zm7) | simp)
  have J4 := J3.kb O hC kL (by first | exact nin1 (⟨hLH, ns_live hns4⟩) | exact ninp (⟨hLH, ns_live hns4⟩) | exact nin3 (⟨hLH, ns_live hns4⟩) | exact zall1 (⟨hLH, ns_live hns4⟩) | exact zall2 (⟨hLH, ns_live hns4⟩) | exact zall3 (⟨hLH, ns_live hns4⟩) | exact zall4 (⟨hLH, ns_live hns4⟩) | exact kbL0 (⟨hLH, ns_live hns4⟩) | exact kbL1 (⟨hLH, ns_live hns4⟩) | exact kbL2 (⟨hLH, ns_live hns4⟩) | exact kbL3 (⟨hLH, ns_live hns4⟩) | exact kbL4 (⟨hLH, ns_live hns4⟩) | exact kbI (⟨hLH, ns_live hns4⟩) | (simp; exact ⟨hLH, ns_live hns4⟩)) G4
  try dsimp only
  exact k s4 ls hns4 ((Go.kb G13).trans kL) J4 (hE3.mono (vw_kb kL (by first | exact zall1 hLH | exact nin1 hLH | simpa using hLH)))
/-- the sums are the entries of the sums -/
theorem turn1 {ls : Addr} (O : Ok w mg mb [] s₀) (hA : Fit A 40 150) (hH : ∀ x ∈ HL L, s₀.heap.get? x = none) (hLH : L ∈ H) (hns : s.heap.Ns L m) (J : Inv2 w mg mb L s₀ ns t1 lv le lp x H s) (hmo : m "order" = some (.ref lo)) (ho : SqI "list" (vw H s.heap) lo o)
    (hks : ∀ k ∈ o, 0 ≤ k ∧ k < (usOf ns).length) (hol : o.length ≤ 4) (hms : m "sums" = some (.ref ls)) (hE : EntL w (wideOf ns) (vw H s.heap) ls (psums (sel (usOf ns) o)))
    (k : ∀ s' m', s'.heap.Ns L m' → (∀ y, y ≠ Str.ofString "i" → m' y = m y) → Kb [L] s s' → Inv2 w mg mb L s₀ ns t1 lv le lp x H s' → EntL w (wideOf ns) (vw H s'.heap) ls (psums (sel (usOf ns) o)) → SqI "list" (vw H s'.heap) lo o → wpAny (MD w) A (execs (lawT w 2) (lawE w L)) Q NE s') :
    wpAny (MD w) A (execs (lawT w 1) (lawE w L)) Q NE s := by
  have n51 : ∀ x ∈ HL L, x ≠ 51 := fun x hx => O.top.ne51 (hH x hx)
  have hC : ∀ x ∈ CL L, x ≠ 51 := fun x hx => n51 x (List.mem_cons_of_mem _ hx)
  have hL := hH L (by first | exact zm0 | exact zm1 | exact zm2 | exact zm3 | exact zm4 | exact zm5 | exact zm6 | exact zm7 | exact zs0 | exact zs1 | exact zs2 | exact zs3 | exact zn0 | exact zn1 (by decide) | exact cl_self _ | exact sub2 (by first | exact zm0 | exact zm1 | exact zm2 | exact zm3 | exact zm4 | exact zm5 | exact zm6 | exact zm7) (by first | exact zm0 | exact zm1 | exact zm2 | exact zm3 | exact zm4 | exact zm5 | exact zm6 | exact zm7) | simp)
  have hul : (usOf ns).length ≤ 4 := us_le4 ns
  have hsl : (psums (sel (usOf ns) o)).length = o.length + 1 := by rw [psums_len]; simp [sel]
  have hus := usOf_pos ns
  refine wpAny_execs_cons ?_
  refine wpAny_For ?_
  refine PyProof.Rows.Call_ ?_
  refine nB J.ok.top (g_range w) ?_
  refine PyProof.Rows.callWith_type1 ?_
  refine args_cons ?_
  refine wpAny_Constant_int ?_
  refine args_cons ?_
  refine PyProof.Rows.Call_ ?_
  refine nB (s := { s with toks := _ }) J.ok.top (g_len w) ?_
  refine PyProof.Rows.callWith_builtin1 ?_
  refine args_cons ?_
  refine nL (s := { s with toks := _ }) hns hms ?_
  refine args_nil ?_
  obtain ⟨svs, q1, q2⟩ := id hE
  have hsv : svs.length = o.length + 1 := by rw [q2.length, hsl]
  refine len_list (s := { s with toks := _ }) (items := svs.toArray) q1.list (by rw [List.size_toArray, hsv]; exact len63 (Nat.le_trans (Nat.succ_le_succ hol) (by decide))) ?_
  refine args_nil ?_
  refine rng2 ?_
  intro rr u1 u2 u3 s2 hrr hr2 k2
  replace k2 : Kp s s2 := k2
  rw [show (svs.toArray.size : Int) = (o.length : Int) + 1 by rw [List.size_toArray, hsv]; push_cast; rfl] at hr2
  obtain ⟨z1, z2⟩ := rsz1 o.length (Nat.lt_of_le_of_lt hol (by decide))
  refine iterR hr2 z2 z1 ?_
  intro I s3 hI hit3 k3
  have k13 := k2.trans k3
  have J2 := J.go hC k2.go
  have NI := O.new J2.G hI
  have J3 : Inv2 w mg mb L s₀ ns t1 lv le lp x ([I] ++ H) s3 := J2.more hC k3.go (by first | exact nin1 (⟨hI, _, hit3⟩) | exact ninp (⟨hI, _, hit3⟩) | exact nin3 (⟨hI, _, hit3⟩) | exact zall1 (⟨hI, _, hit3⟩) | exact zall2 (⟨hI, _, hit3⟩) | exact zall3 (⟨hI, _, hit3⟩) | exact zall4 (⟨hI, _, hit3⟩) | exact kbL0 (⟨hI, _, hit3⟩) | exact kbL1 (⟨hI, _, hit3⟩) | exact kbL2 (⟨hI, _, hit3⟩) | exact kbL3 (⟨hI, _, hit3⟩) | exact kbL4 (⟨hI, _, hit3⟩) | exact kbI (⟨hI, _, hit3⟩) | (simp; exact ⟨hI, _, hit3⟩))
  have NH := J2.ok.fresh hI
  have IC : I ∉ CL L := fun h => by obtain ⟨o, e⟩ := J2.toInv.live I h; rw [hI] at e; cases e
  have IL : L ≠ I := fun h => NH.2 (h ▸ hLH)
  have ho3 : SqI "list" (vw ([I] ++ H) s3.heap) lo o := (ho.mono (vw_go k2.go)).mono (vw_more [I] k3.go (by first | exact zall1 hI | exact nin1 hI | simpa using hI))
  have hE3 : EntL w (wideOf ns) (vw ([I] ++ H) s3.heap) ls (psums (sel (usOf ns) o)) := (hE.mono (vw_go k2.go)).mono (vw_more [I] k3.go (by first | exact zall1 hI | exact nin1 hI | simpa using hI))
  refine absR fun R' hR' => ?_
  obtain ⟨i, m', hi, hns', hmm, hit, J, hoo, hEE, hkb⟩ : ∃ (i : Nat) (m' : Str → Option Value), i ≤ o.length ∧ s3.heap.Ns L m' ∧ (∀ y, y ≠ Str.ofString "i" → m' y = m y) ∧ IsRangeIter s3.heap I (1 + (i : Int)) ((o.length : Int) - i) 1 ∧ Inv2 w mg mb L s₀ ns t1 lv le lp x ([I] ++ H) s3 ∧
      SqI "list" (vw ([I] ++ H) s3.heap) lo o ∧ EntL w (wideOf ns) (vw ([I] ++ H) s3.heap) ls (psums (sel (usOf ns) o)) ∧ Kb [L, I] s s3 :=
    ⟨0, m, Nat.zero_le _, hns.keeps k13.1, fun _ _ => rfl, by simpa using hit3, J3, ho3, hE3, Kb.of k13⟩
  clear J3 hit3 k3 k13 ho3 hE3
  induction hn : o.length - i generalizing i s3 m' with
  | zero =>
    have hie : i = o.length := ind0 hn hi
    refine for1 ?_
    refine nextR0 hA.h hit (iE hie) ?_
    intro s4 k4
    try dsimp only
    refine wpAny_execs_nil ?_
    refine hR' _ _ ?_
    try dsimp only
    have G4 := Go.ke J.G O.top NI.1 k4
    have kb : Kb [I] s3 s4 := Kb.ke k4 (by first | exact zm0 | exact zm1 | exact zm2 | exact zm3 | exact zm4 | exact zm5 | exact zm6 | exact zm7 | exact zs0 | exact zs1 | exact zs2 | exact zs3 | exact zn0 | exact zn1 (by decide) | exact cl_self _ | exact sub2 (by first | exact zm0 | exact zm1 | exact zm2 | exact zm3 | exact zm4 | exact zm5 | exact zm6 | exact zm7) (by first | exact zm0 | exact zm1 | exact zm2 | exact zm3 | exact zm4 | exact zm5 | exact zm6 | exact zm7) | simp)
    have lE : Le (vw ([I] ++ H) s3.heap) (vw H s4.heap) := (vw_kb kb (by first | exact zm0 | exact zm1 | exact zm2 | exact zm3 | exact zm4 | exact zm5 | exact zm6 | exact zm7 | exact zs0 | exact zs1 | exact zs2 | exact zs3 | exact zn0 | exact zn1 (by decide) | exact cl_self _ | exact sub2 (by first | exact zm0 | exact zm1 | exact zm2 | exact zm3 | exact zm4 | exact zm5 | exact zm6 | exact zm7) (by first | exact zm0 | exact zm1 | exact zm2 | exact zm3 | exact zm4 | exact zm5 | exact zm6 | exact zm7) | simp)).trans (vw_less [I])
    refine k s4 m' (ns_ke hns' k4 IL) hmm ?_ (J.out O hC IC NH.2 k4 G4) (hEE.mono lE) (hoo.mono lE)
    intro b ob b51 bL e
    have hbI : b ≠ I := ne_of_get (k2.1 _ _ e) hI
    exact kb b ob b51 (by first | exact zall1 hbI | exact nin1 hbI | simpa using hbI) (hkb b ob b51 (by simp at bL ⊢; exact ⟨bL, hbI⟩) e)
  | succ n ih =>
    have hlt : i < o.length := ind1 hn
    refine for1 ?_
    refine nextR hit (iL hlt) ?_
    intro ti s4 hit4 k4
    try dsimp only
    have kb4 : Kb [I] s3 s4 := Kb.ke k4.ke (by first | exact zm0 | exact zm1 | exact zm2 | exact zm3 | exact zm4 | exact zm5 | exact zm6 | exact zm7 | exact zs0 | exact zs1 | exact zs2 | exact zs3 | exact zn0 | exact zn1 (by decide) | exact cl_self _ | exact sub2 (by first | exact zm0 | exact zm1 | exact zm2 | exact zm3 | exact zm4 | exact zm5 | exact zm6 | exact zm7) (by first | exact zm0 | exact zm1 | exact zm2 | exact zm3 | exact zm4 | exact zm5 | exact zm6 | exact zm7) | simp)
    have hns4 := ns_ke hns' k4.ke IL
    have G4 := Go.ke J.G O.top NI.1 k4.ke
    have J4 := J.kb O hC kb4 (by first | exact nin1 (⟨IC, _, hit4⟩) | exact ninp (⟨IC, _, hit4⟩) | exact nin3 (⟨IC, _, hit4⟩) | exact zall1 (⟨IC, _, hit4⟩) | exact zall2 (⟨IC, _, hit4⟩) | exact zall3 (⟨IC, _, hit4⟩) | exact zall4 (⟨IC, _, hit4⟩) | exact kbL0 (⟨IC, _, hit4⟩) | exact kbL1 (⟨IC, _, hit4⟩) | exact kbL2 (⟨IC, _, hit4⟩) | exact kbL3 (⟨IC, _, hit4⟩) | exact kbL4 (⟨IC, _, hit4⟩) | exact kbI (⟨IC, _, hit4⟩) | (simp; exact ⟨by simpa using IC, _, hit4⟩)) G4
    refine wpAny_pure ?_
    refine wpAny_assign_Name ?_
    refine sL O G4 hL hns4 ?_
    intro s5 G5 hns5 hs5
    have kL : Kb [L] s4 s5 := Kb.same (a := L) hs5 (by first | exact zm0 | exact zm1 | exact zm2 | exact zm3 | exact zm4 | exact zm5 | exact zm6 | exact zm7 | exact zs0 | exact zs1 | exact zs2 | exact zs3 | exact zn0 | exact zn1 (by decide) | exact cl_self _ | exact sub2 (by first | exact zm0 | exact zm1 | exact zm2 | exact zm3 | exact zm4 | exact zm5 | exact zm6 | exact zm7) (by first | exact zm0 | exact zm1 | exact zm2 | exact zm3 | exact zm4 | exact zm5 | exact zm6 | exact zm7) | simp)
    have J5 := J4.kb O hC kL (by first | exact nin1 (⟨.inr hLH, ns_live hns5⟩) | exact ninp (⟨.inr hLH, ns_live hns5⟩) | exact nin3 (⟨.inr hLH, ns_live hns5⟩) | exact zall1 (⟨.inr hLH, ns_live hns5⟩) | exact zall2 (⟨.inr hLH, ns_live hns5⟩) | exact zall3 (⟨.inr hLH, ns_live hns5⟩) | exact zall4 (⟨.inr hLH, ns_live hns5⟩) | exact kbL0 (⟨.inr hLH, ns_live hns5⟩) | exact kbL1 (⟨.inr hLH, ns_live hns5⟩) | exact kbL2 (⟨.inr hLH, ns_live hns5⟩) | exact kbL3 (⟨.inr hLH, ns_live hns5⟩) | exact kbL4 (⟨.inr hLH, ns_live hns5⟩) | exact kbI (⟨.inr hLH, ns_live hns5⟩) | (simp; exact ⟨.inr hLH, ns_live hns5⟩)) G5
    have le5 := (vw_kb (ys := [I] ++ H) kb4 (by first | exact zm0 | exact zm1 | exact zm2 | exact zm3 | exact zm4 | exact zm5 | exact zm6 | exact zm7 | exact zs0 | exact zs1 | exact zs2 | exact zs3 | exact zn0 | exact zn1 (by decide) | exact cl_self _ | exact sub2 (by first | exact zm0 | exact zm1 | exact zm2 | exact zm3 | exact zm4 | exact zm5 | exact zm6 | exact zm7) (by first | exact zm0 | exact zm1 | exact zm2 | exact zm3 | exact zm4 | exact zm5 | exact zm6 | exact zm7) | simp)).trans (vw_kb (ys := [I] ++ H) kL (by simp [hLH]))
    have ho5 := hoo.mono le5
    have hE5 := hEE.mono le5
    have hmo5 : m' "order" = some (.ref lo) := (hmm _ (by decide)).trans hmo
    have hms5 : m' "sums" = some (.ref ls) := (hmm _ (by decide)).trans hms
    obtain ⟨svs5, q15, q25⟩ := id hE5
    obtain ⟨ovs, o1, o2⟩ := id ho5
    obtain ⟨vvs, v1, v2⟩ := id J5.hv
    have hov : ovs.length = o.length := o2.length
    obtain ⟨_, hsi, p, rfl, ep⟩ := q25.get (i := i + 1) (b := psum (sel (usOf ns) o) (i + 1)) (by
      unfold psums
      rw [List.getElem?_map, List.getElem?_range (Nat.succ_lt_succ (by rw [sel, List.length_map]; exact hlt))]; rfl)
    have hsv5 : svs5.length = o.length + 1 := by rw [q25.length, hsl]
    refine wpAny_execs_cons ?_
    refine wpAny_If ?_
    refine wpAny_isTrue_Compare1 ?_
    refine PyProof.Rows.Subscript_ ?_
    refine nL hns5 hms5 ?_
    refine nL hns5 rfl ?_
    refine item_listL (k := 1 + (i : Int)) q15.list (i0 i) (i63 hlt hol) (x := .ref p) (by rw [iN i]; exact hsi) ?_
    refine callG J5.ok.top (f_entry w) (by kernel_rfl) ?_
    refine args_cons ?_
    refine callG J5.ok.top (f_together w) (by kernel_rfl) ?_
    refine args_cons ?_
    refine pickC (Rv := fun g v u => ∃ a, v = .ref a ∧ SqI "list" g a (Vec.l u)) (c := L + 3) (ks := o.take (i + 1)) (us := usOf ns) Vec.z hA.h J5.ok (fun g g' v u le ⟨a, e, x⟩ => ⟨a, e, x.mono le⟩) rfl (by decide) rfl (by decide) (by intro x; rfl) rfl (fun _ => rfl) rfl rfl J5.c3 (hC _ (by first | exact zm0 | exact zm1 | exact zm2 | exact zm3 | exact zm4 | exact zm5 | exact zm6 | exact zm7 | exact zs0 | exact zs1 | exact zs2 | exact zs3 | exact zn0 | exact zn1 (by decide) | exact cl_self _ | exact sub2 (by first | exact zm0 | exact zm1 | exact zm2 | exact zm3 | exact zm4 | exact zm5 | exact zm6 | exact zm7) (by first | exact zm0 | exact zm1 | exact zm2 | exact zm3 | exact zm4 | exact zm5 | exact zm6 | exact zm7) | simp)) v1 v2 (fun k hk => hks k (List.mem_of_mem_take hk)) (Nat.le_trans hul (by decide)) (Nat.le_trans (by rw [List.length_take]; exact Nat.min_le_right _ _) (Nat.le_trans hol (by decide))) ?_ ?_
    · refine subSlice slot_list_getitem.lookup ?_
      refine nL hns5 hmo5 ?_
      refine wpAny_Slice ?_
      refine wpAny_evalPart_none ?_
      refine wpAny_evalPart_some ?_
      refine nL hns5 rfl ?_
      refine wpAny_evalPart_none ?_
      refine sliceL (items := ovs) o1.list (by rw [hov]; exact Nat.le_trans hol (by decide)) .none (.int (1 + (i : Int)) ti) .none (by first | exact zm0 | exact zm1 | exact zm2 | exact zm3 | exact zm4 | exact zm5 | exact zm6 | exact zm7 | exact zs0 | exact zs1 | exact zs2 | exact zs3 | exact zn0 | exact zn1 (by decide) | exact cl_self _ | exact sub2 (by first | exact zm0 | exact zm1 | exact zm2 | exact zm3 | exact zm4 | exact zm5 | exact zm6 | exact zm7) (by first | exact zm0 | exact zm1 | exact zm2 | exact zm3 | exact zm4 | exact zm5 | exact zm6 | exact zm7) | simp) ?_ _ rfl
      intro r6 s6 hr6 hl6 k6
      rw [iC i, slicePick_upto'] at hl6
      have N6 := J5.ok.fresh hr6
      exact ⟨r6, ovs.take (i + 1), rfl, k6.go, ⟨_, hl6, rfl, _, rfl⟩, N6.1, intsTake o2 _⟩
    intro D ys kk s6 G6 hD hDl ha
    have J6 := J5.go hC G6
    have N6 := J5.ok.fresh hD
    have hns6 := hns5.at' (h' := s6.heap) fun o e => G6.keep _ o (n51 L (by first | exact zm0 | exact zm1 | exact zm2 | exact zm3 | exact zm4 | exact zm5 | exact zm6 | exact zm7 | exact zs0 | exact zs1 | exact zs2 | exact zs3 | exact zn0 | exact zn1 (by decide) | exact cl_self _ | exact sub2 (by first | exact zm0 | exact zm1 | exact zm2 | exact zm3 | exact zm4 | exact zm5 | exact zm6 | exact zm7) (by first | exact zm0 | exact zm1 | exact zm2 | exact zm3 | exact zm4 | exact zm5 | exact zm6 | exact zm7) | simp)) e
    refine args_nil ?_
    refine ⟨J6.ok.top.k, ?_⟩
    refine together_spec (us := sel (usOf ns) (o.take (i + 1))) J6.ok hA.le ⟨ys, Sq.ofL hDl N6.1 N6.2, ha⟩ (by rw [sel, List.length_map, List.length_take]; exact Nat.le_trans (Nat.min_le_right _ _) (Nat.le_trans hol (by decide))) ?_
    intro r7 s7 G7 hr7 hS7
    have J7 := J6.go hC G7
    refine args_cons ?_
    refine nC (c := L + 2) rfl J7.c2 ?_
    refine args_nil ?_
    refine ⟨J7.ok.top.k, ?_⟩
    refine entry_spec (W := wideOf ns) (v := tot (sel (usOf ns) (o.take (i + 1)))) J7.ok hA.le hS7 (tot_pos (sel_pos hus fun k hk => hks k (List.mem_of_mem_take hk)) ?_) ?_
    · intro h
      have := congrArg List.length h
      rw [sel, List.length_map, List.length_take, List.length_nil] at this
      exact absurd this (Nat.ne_of_gt (Nat.lt_min.mpr ⟨Nat.succ_pos _, Nat.lt_of_le_of_lt (Nat.zero_le _) hlt⟩))
    intro r8 s8 G8 hE8
    have J8 := J7.go hC G8
    have G58 := (G6.trans G7).trans G8
    have ep8 := ep.mono (vw_go (ms := [I] ++ H) G58)
    refine entNe (A := A) ep8 hE8 (hA.uu (by decide)) _ _ ?_
    rw [psum_tot, veq_self]
    refine wpAny_truthy_bool ?_
    rw [if_neg (by decide)]
    refine wpAny_execs_nil ?_
    try dsimp only
    refine wpAny_execs_nil ?_
    try dsimp only
    have I51 : I ≠ 51 := NI.2.1
    have hns8 := hns5.at' (h' := s8.heap) fun o e => G58.keep _ o (n51 L (by first | exact zm0 | exact zm1 | exact zm2 | exact zm3 | exact zm4 | exact zm5 | exact zm6 | exact zm7 | exact zs0 | exact zs1 | exact zs2 | exact zs3 | exact zn0 | exact zn1 (by decide) | exact cl_self _ | exact sub2 (by first | exact zm0 | exact zm1 | exact zm2 | exact zm3 | exact zm4 | exact zm5 | exact zm6 | exact zm7) (by first | exact zm0 | exact zm1 | exact zm2 | exact zm3 | exact zm4 | exact zm5 | exact zm6 | exact zm7) | simp)) e
    have hit8 : IsRangeIter s8.heap I (1 + ((i + 1 : Nat) : Int)) ((o.length : Int) - ((i + 1 : Nat) : Int)) 1 := by
      have := G58.keep _ _ I51 (kL _ _ I51 (by first | exact nin1 (Ne.symm IL) | exact ninp (Ne.symm IL) | exact nin3 (Ne.symm IL) | exact zall1 (Ne.symm IL) | exact zall2 (Ne.symm IL) | exact zall3 (Ne.symm IL) | exact zall4 (Ne.symm IL) | exact kbL0 (Ne.symm IL) | exact kbL1 (Ne.symm IL) | exact kbL2 (Ne.symm IL) | exact kbL3 (Ne.symm IL) | exact kbL4 (Ne.symm IL) | exact kbI (Ne.symm IL) | (simp; exact Ne.symm IL)) hit4)
      rw [iS i, iR o.length i]
      exact this
    refine ih s8 (i + 1) _ hlt hns8 (fun y hy => ?_) hit8 J8 (ho5.mono (vw_go G58)) (hE5.mono (vw_go G58)) ?_ (ind2 hn)
    · show (if y = Str.ofString "i" then _ else m' y) = m y
      rw [if_neg hy]; exact hmm y hy
    · exact ((hkb.trans (kb4.sub (by first | exact zm0 | exact zm1 | exact zm2 | exact zm3 | exact zm4 | exact zm5 | exact zm6 | exact zm7 | exact zs0 | exact zs1 | exact zs2 | exact zs3 | exact zn0 | exact zn1 (by decide) | exact cl_self _ | exact sub2 (by first | exact zm0 | exact zm1 | exact zm2 | exact zm3 | exact zm4 | exact zm5 | exact zm6 | exact zm7) (by first | exact zm0 | exact zm1 | exact zm2 | exact zm3 | exact zm4 | exact zm5 | exact zm6 | exact zm7) | simp))).trans (kL.sub (by first | exact zm0 | exact zm1 | exact zm2 | exact zm3 | exact zm4 | exact zm5 | exact zm6 | exact zm7 | exact zs0 | exact zs1 | exact zs2 | exact zs3 | exact zn0 | exact zn1 (by decide) | exact cl_self _ | exact sub2 (by first | exact zm0 | exact zm1 | exact zm2 | exact zm3 | exact zm4 | exact zm5 | exact zm6 | exact zm7) (by first | exact zm0 | exact zm1 | exact zm2 | exact zm3 | exact zm4 | exact zm5 | exact zm6 | exact zm7) | simp))).trans (Go.kb G58)
end
end Mine
end TextW8
section TextW9
namespace Mine
open PySem PySem.W PySem.Calls PyProof.Rows PySem.Spec
section
variable {w : World} {mg mb : Str → Option Value} {A : Around} {s s₀ : Shared} {L : Addr} {ns : List Int} {t1 : Tok} {lv le lp x : Addr} {H : List Addr} {Q : Flow → Shared → Prop} {m : Str → Option Value} {lo : Addr} {o : List Int}
theorem all2_nil_right {α β : Type} {R : α → β → Prop} {xs : List α} (h : All2 R xs []) : xs = [] := by cases h; rfl
set_option maxHeartbeats 4000000
/-- the last sum's columns are ints -/
theorem turn2 {ls : Addr} {us : List Vec} (O : Ok w mg mb [] s₀) (hA : Fit A 40 150) (hH : ∀ x ∈ HL L, s₀.heap.get? x = none) (hns : s.heap.Ns L m) (J : Inv2 w mg mb L s₀ ns t1 lv le lp x H s)
    (hms : m "sums" = some (.ref ls)) (hE : EntL w (wideOf ns) (vw H s.heap) ls (psums us))
    (k : ∀ s', Go s s' → s'.heap.Ns L m → wpAny (MD w) A (execs (lawT w 3) (lawE w L)) Q NE s') :
    wpAny (MD w) A (execs (lawT w 2) (lawE w L)) Q NE s := by
  have n51 : ∀ x ∈ HL L, x ≠ 51 := fun x hx => O.top.ne51 (hH x hx)
  have hC : ∀ x ∈ CL L, x ≠ 51 := fun x hx => n51 x (List.mem_cons_of_mem _ hx)
  obtain ⟨svs, p, q1, q2, q, ta, tb, tc, td, q3, _⟩ := entL_last hE
  refine wpAny_execs_cons ?_
  refine wpAny_If ?_
  refine wpAny_isTrue_Compare1 ?_
  refine lcV (mg := mg) (mb := mb) (ms := H) (ds := Vec.l (tot us)) (p := fun _ => false) (R := fun _ _ _ => True) (T := "tuple_iterator")
    (fun _ _ _ _ _ h => h) (by simp [Vec.l]) rfl (by decide) rfl (by decide) (by intro x; rfl) ?_
  refine subSlice slot_tuple_getitem.lookup ?_
  refine PyProof.Rows.Subscript_ ?_
  refine nL hns hms ?_
  refine wpAny_UnaryOp ?_
  refine wpAny_Constant_int ?_
  refine neg_int ?_
  refine lastR (s := { s with toks := _ }) q1.list q2 ?_
  refine wpAny_Slice ?_
  refine wpAny_evalPart_none ?_
  refine wpAny_evalPart_some ?_
  refine wpAny_Constant_int ?_
  refine wpAny_evalPart_none ?_
  refine tup4 (s := { s with toks := s.toks + 1 + 1 + 1 }) (u := s.toks + 1 + 1) q3.isTup ?_ _ rfl
  intro r s2 hr ho k2
  replace k2 : Kp s s2 := k2
  have N2 := J.ok.fresh hr
  have O2 := J.ok.go k2.go
  have hns2 := hns.keeps k2.1
  refine ⟨⟨fun d v => ∃ t, v = .int d t, _, O2, srcT hA.h O2 (Go.refl _) ⟨_, ho, rfl, _, rfl⟩ N2.1 (.cons ⟨_, rfl⟩ (.cons ⟨_, rfl⟩ (.cons ⟨_, rfl⟩ (.cons ⟨_, rfl⟩ .nil)))), tgtN O2 rfl rfl, ?_⟩, ?_⟩
  · intro C D I d mc s3 hd hnc hM G3 hC3 hD3 hI3 O3
    obtain ⟨v, hv, t, rfl⟩ := hM
    refine wpAny_tests_one ?_
    refine isTrue_not ?_
    refine wpAny_isTrue_value ?_
    refine callG O3.top (f_whole w) (by kernel_rfl) ?_
    refine args_cons ?_
    refine nL hnc hv ?_
    refine args_nil ?_
    refine ⟨O3.top.k, ?_⟩
    refine whole_spec O3 hA.le ?_
    intro s4 G4
    refine wpAny_truthy_bool ?_
    exact ⟨rfl, G4, fun h => by cases h⟩
  intro D ys kk s3 G3 hD hDl ha
  have hys : ys = [] := by
    have e : (Vec.l (tot us)).filter (fun _ => false) = [] := by simp
    rw [e] at ha
    exact all2_nil_right ha
  subst hys
  refine PyProof.Rows.List_ ?_
  refine args_nil ?_
  refine mkL (small_list (Nat.le_of_ble_eq_true rfl)) fun D2 s4 hD2 hDo2 k4 => ?_
  refine RnW.lst (A := A) (e := fun _ => true) ⟨_, k4.1 _ _ hDl, rfl, _, rfl⟩ ⟨_, hDo2, rfl, _, rfl⟩ hA.units (fun j h1 _ => absurd h1 (Nat.not_lt_zero j)) _ _ ?_
  refine wpAny_truthy_bool ?_
  rw [if_neg (by decide)]
  refine wpAny_execs_nil ?_
  try dsimp only
  have GG := (k2.go.trans G3).trans k4.go
  exact k s4 GG (hns.at' fun o e => GG.keep _ o (n51 L (by first | exact zm0 | exact zm1 | exact zm2 | exact zm3 | exact zm4 | exact zm5 | exact zm6 | exact zm7 | exact zs0 | exact zs1 | exact zs2 | exact zs3 | exact zn0 | exact zn1 (by decide) | exact cl_self _ | exact sub2 (by first | exact zm0 | exact zm1 | exact zm2 | exact zm3 | exact zm4 | exact zm5 | exact zm6 | exact zm7) (by first | exact zm0 | exact zm1 | exact zm2 | exact zm3 | exact zm4 | exact zm5 | exact zm6 | exact zm7) | simp)) e)
/-- tops.append(_law_greatest(sums, comp)) -/
theorem turn3 {ls D1 : Addr} {us : List Vec} {ys : List Value} {k1 : Nat} (O : Ok w mg mb [] s₀) (hA : Fit A 40 150) (hH : ∀ x ∈ HL L, s₀.heap.get? x = none) (hns : s.heap.Ns L m) (J : Inv2 w mg mb L s₀ ns t1 lv le lp x H s)
    (hmc : m "comp" = some (.ref x)) (hms : m "sums" = some (.ref ls)) (hmt : m "tops" = some (.ref D1)) (hE : EntL w (wideOf ns) (vw H s.heap) ls (psums us)) (hD : s.heap.get? D1 = some (lstO ys k1)) (hyl : ys.length ≤ 100) (nD : s₀.heap.get? D1 = none) (hDH : D1 ∈ H) (hDC : D1 ∉ CL L) (hDL : D1 ≠ L)
    (k : ∀ s' p, s'.heap.Ns L m → Kb [D1] s s' → Inv2 w mg mb L s₀ ns t1 lv le lp x H s' → s'.heap.get? D1 = some (lstO (ys ++ [.ref p]) (k1 + 1)) → Ent w (wideOf ns) (vw H s'.heap) p (great (pkOf ns.sum) Vec.z (psums us)) → wpAny (MD w) A (execs (lawT w 4) (lawE w L)) Q NE s') :
    wpAny (MD w) A (execs (lawT w 3) (lawE w L)) Q NE s := by
  have n51 : ∀ x ∈ HL L, x ≠ 51 := fun x hx => O.top.ne51 (hH x hx)
  have hC : ∀ x ∈ CL L, x ≠ 51 := fun x hx => n51 x (List.mem_cons_of_mem _ hx)
  have hpk := pkOf_ok ns.sum
  refine wpAny_execs_cons ?_
  refine apnd (D := D1) hns hmt hD (by first | assumption | exact ind2 (by assumption) | exact ind1 (by assumption) | exact Nat.le_trans (by assumption) (by decide) | exact Nat.le_of_lt (by assumption) | exact Nat.lt_of_le_of_lt (Nat.le_add_right _ _) (by assumption) | omega) ?_ (pl := _)
  refine callG J.ok.top (f_greatest w) (by kernel_rfl) ?_
  refine args_cons ?_
  refine nL hns hms ?_
  refine args_cons ?_
  refine nL hns hmc ?_
  refine args_nil ?_
  refine ⟨J.ok.top.k, ?_⟩
  rw [psums_pref] at hE
  refine greatest_spec (W := wideOf ns) (pk := pkOf ns.sum) J.ok hA.le hE J.cm (fun cd h => (hpk cd h).1) ?_
  intro r s2 G2 er
  rw [← psums_pref] at er
  have D51 := O.top.ne51 nD
  refine ⟨G2.keep _ _ D51 hD, fun s3 c3 hD3 => ?_⟩
  have J2 := J.go hC G2
  have G3 := Go.ke J2.G O.top nD c3.ke
  have kb : Kb [D1] s2 s3 := Kb.ke c3.ke (by first | exact zm0 | exact zm1 | exact zm2 | exact zm3 | exact zm4 | exact zm5 | exact zm6 | exact zm7 | exact zs0 | exact zs1 | exact zs2 | exact zs3 | exact zn0 | exact zn1 (by decide) | exact cl_self _ | exact sub2 (by first | exact zm0 | exact zm1 | exact zm2 | exact zm3 | exact zm4 | exact zm5 | exact zm6 | exact zm7) (by first | exact zm0 | exact zm1 | exact zm2 | exact zm3 | exact zm4 | exact zm5 | exact zm6 | exact zm7) | simp)
  have J3 := J2.kb O hC kb (by first | exact nin1 (⟨hDH, hDC, _, hD3⟩) | exact ninp (⟨hDH, hDC, _, hD3⟩) | exact nin3 (⟨hDH, hDC, _, hD3⟩) | exact zall1 (⟨hDH, hDC, _, hD3⟩) | exact zall2 (⟨hDH, hDC, _, hD3⟩) | exact zall3 (⟨hDH, hDC, _, hD3⟩) | exact zall4 (⟨hDH, hDC, _, hD3⟩) | exact kbL0 (⟨hDH, hDC, _, hD3⟩) | exact kbL1 (⟨hDH, hDC, _, hD3⟩) | exact kbL2 (⟨hDH, hDC, _, hD3⟩) | exact kbL3 (⟨hDH, hDC, _, hD3⟩) | exact kbL4 (⟨hDH, hDC, _, hD3⟩) | exact kbI (⟨hDH, hDC, _, hD3⟩) | (simp; exact ⟨hDH, by simpa using hDC, _, hD3⟩)) G3
  try dsimp only
  refine k s3 r ?_ ((Go.kb G2).trans kb) J3 hD3 (er.mono (vw_kb kb (by first | exact zall1 hDH | exact nin1 hDH | simpa using hDH)))
  exact kb.ns (hns.at' fun o e => G2.keep _ o (n51 L (by first | exact zm0 | exact zm1 | exact zm2 | exact zm3 | exact zm4 | exact zm5 | exact zm6 | exact zm7 | exact zs0 | exact zs1 | exact zs2 | exact zs3 | exact zn0 | exact zn1 (by decide) | exact cl_self _ | exact sub2 (by first | exact zm0 | exact zm1 | exact zm2 | exact zm3 | exact zm4 | exact zm5 | exact zm6 | exact zm7) (by first | exact zm0 | exact zm1 | exact zm2 | exact zm3 | exact zm4 | exact zm5 | exact zm6 | exact zm7) | simp)) e) (n51 L (by first | exact zm0 | exact zm1 | exact zm2 | exact zm3 | exact zm4 | exact zm5 | exact zm6 | exact zm7 | exact zs0 | exact zs1 | exact zs2 | exact zs3 | exact zn0 | exact zn1 (by decide) | exact cl_self _ | exact sub2 (by first | exact zm0 | exact zm1 | exact zm2 | exact zm3 | exact zm4 | exact zm5 | exact zm6 | exact zm7) (by first | exact zm0 | exact zm1 | exact zm2 | exact zm3 | exact zm4 | exact zm5 | exact zm6 | exact zm7) | simp)) (by first | exact nin1 (Ne.symm hDL) | exact ninp (Ne.symm hDL) | exact nin3 (Ne.symm hDL) | exact zall1 (Ne.symm hDL) | exact zall2 (Ne.symm hDL) | exact zall3 (Ne.symm hDL) | exact zall4 (Ne.symm hDL) | exact kbL0 (Ne.symm hDL) | exact kbL1 (Ne.symm hDL) | exact kbL2 (Ne.symm hDL) | exact kbL3 (Ne.symm hDL) | exact kbL4 (Ne.symm hDL) | exact kbI (Ne.symm hDL) | (simp; exact Ne.symm hDL))
/-- ringed.append(_law_above(entries, order, comp)) -/
theorem turn4 {D2 : Addr} {ys : List Value} {k1 : Nat} {rs : List (List Int)} (O : Ok w mg mb [] s₀) (hA : Fit A 40 150) (hH : ∀ x ∈ HL L, s₀.heap.get? x = none) (hns : s.heap.Ns L m) (J : Inv2 w mg mb L s₀ ns t1 lv le lp x H s)
    (hmc : m "comp" = some (.ref x)) (hmo : m "order" = some (.ref lo)) (ho : SqI "list" (vw H s.heap) lo o) (hol : o.length ≤ 4) (hr : rings o = some rs) (hrl : rs.length ≤ 900) (hri : ∀ r ∈ rs, r ≠ [] ∧ r.length ≤ 900 ∧ ∀ k ∈ r, 0 ≤ k ∧ k < (usOf ns).length)
    (hmt : m "ringed" = some (.ref D2)) (hD : s.heap.get? D2 = some (lstO ys k1)) (hyl : ys.length ≤ 100) (nD : s₀.heap.get? D2 = none) (hDH : D2 ∈ H) (hDC : D2 ∉ CL L) (hDL : D2 ≠ L)
    (k : ∀ s' p, s'.heap.Ns L m → Kb [D2] s s' → Inv2 w mg mb L s₀ ns t1 lv le lp x H s' → s'.heap.get? D2 = some (lstO (ys ++ [.ref p]) (k1 + 1)) → Ent w (wideOf ns) (vw H s'.heap) p (aboveV (pkOf ns.sum) (usOf ns) rs) → Q .next s') :
    wpAny (MD w) A (execs (lawT w 4) (lawE w L)) Q NE s := by
  have n51 : ∀ x ∈ HL L, x ≠ 51 := fun x hx => O.top.ne51 (hH x hx)
  have hC : ∀ x ∈ CL L, x ≠ 51 := fun x hx => n51 x (List.mem_cons_of_mem _ hx)
  have hpk := pkOf_ok ns.sum
  have hul : (usOf ns).length ≤ 4 := us_le4 ns
  refine wpAny_execs_cons ?_
  refine apnd (D := D2) hns hmt hD (by first | assumption | exact ind2 (by assumption) | exact ind1 (by assumption) | exact Nat.le_trans (by assumption) (by decide) | exact Nat.le_of_lt (by assumption) | exact Nat.lt_of_le_of_lt (Nat.le_add_right _ _) (by assumption) | omega) ?_ (pl := _)
  refine callG J.ok.top (f_above w) (by kernel_rfl) ?_
  refine args_cons ?_
  refine nC (c := L + 4) rfl J.c4 ?_
  refine args_cons ?_
  refine nL hns hmo ?_
  refine args_cons ?_
  refine nL hns hmc ?_
  refine args_nil ?_
  refine ⟨J.ok.top.k, ?_⟩
  refine above_spec (W := wideOf ns) (pk := pkOf ns.sum) J.ok hA.le J.he (usOf_pos ns) (by first | assumption | exact ind2 (by assumption) | exact ind1 (by assumption) | exact Nat.le_trans (by assumption) (by decide) | exact Nat.le_of_lt (by assumption) | exact Nat.lt_of_le_of_lt (Nat.le_add_right _ _) (by assumption) | omega) ho (by first | assumption | exact ind2 (by assumption) | exact ind1 (by assumption) | exact Nat.le_trans (by assumption) (by decide) | exact Nat.le_of_lt (by assumption) | exact Nat.lt_of_le_of_lt (Nat.le_add_right _ _) (by assumption) | omega) hr hrl hri J.cm (fun cd h => (hpk cd h).1) ?_
  intro r s2 G2 er
  have D51 := O.top.ne51 nD
  refine ⟨G2.keep _ _ D51 hD, fun s3 c3 hD3 => ?_⟩
  have J2 := J.go hC G2
  have G3 := Go.ke J2.G O.top nD c3.ke
  have kb : Kb [D2] s2 s3 := Kb.ke c3.ke (by first | exact zm0 | exact zm1 | exact zm2 | exact zm3 | exact zm4 | exact zm5 | exact zm6 | exact zm7 | exact zs0 | exact zs1 | exact zs2 | exact zs3 | exact zn0 | exact zn1 (by decide) | exact cl_self _ | exact sub2 (by first | exact zm0 | exact zm1 | exact zm2 | exact zm3 | exact zm4 | exact zm5 | exact zm6 | exact zm7) (by first | exact zm0 | exact zm1 | exact zm2 | exact zm3 | exact zm4 | exact zm5 | exact zm6 | exact zm7) | simp)
  have J3 := J2.kb O hC kb (by first | exact nin1 (⟨hDH, hDC, _, hD3⟩) | exact ninp (⟨hDH, hDC, _, hD3⟩) | exact nin3 (⟨hDH, hDC, _, hD3⟩) | exact zall1 (⟨hDH, hDC, _, hD3⟩) | exact zall2 (⟨hDH, hDC, _, hD3⟩) | exact zall3 (⟨hDH, hDC, _, hD3⟩) | exact zall4 (⟨hDH, hDC, _, hD3⟩) | exact kbL0 (⟨hDH, hDC, _, hD3⟩) | exact kbL1 (⟨hDH, hDC, _, hD3⟩) | exact kbL2 (⟨hDH, hDC, _, hD3⟩) | exact kbL3 (⟨hDH, hDC, _, hD3⟩) | exact kbL4 (⟨hDH, hDC, _, hD3⟩) | exact kbI (⟨hDH, hDC, _, hD3⟩) | (simp; exact ⟨hDH, by simpa using hDC, _, hD3⟩)) G3
  try dsimp only
  refine wpAny_execs_nil ?_
  refine k s3 r ?_ ((Go.kb G2).trans kb) J3 hD3 (er.mono (vw_kb kb (by first | exact zall1 hDH | exact nin1 hDH | simpa using hDH)))
  exact kb.ns (hns.at' fun o e => G2.keep _ o (n51 L (by first | exact zm0 | exact zm1 | exact zm2 | exact zm3 | exact zm4 | exact zm5 | exact zm6 | exact zm7 | exact zs0 | exact zs1 | exact zs2 | exact zs3 | exact zn0 | exact zn1 (by decide) | exact cl_self _ | exact sub2 (by first | exact zm0 | exact zm1 | exact zm2 | exact zm3 | exact zm4 | exact zm5 | exact zm6 | exact zm7) (by first | exact zm0 | exact zm1 | exact zm2 | exact zm3 | exact zm4 | exact zm5 | exact zm6 | exact zm7) | simp)) e) (n51 L (by first | exact zm0 | exact zm1 | exact zm2 | exact zm3 | exact zm4 | exact zm5 | exact zm6 | exact zm7 | exact zs0 | exact zs1 | exact zs2 | exact zs3 | exact zn0 | exact zn1 (by decide) | exact cl_self _ | exact sub2 (by first | exact zm0 | exact zm1 | exact zm2 | exact zm3 | exact zm4 | exact zm5 | exact zm6 | exact zm7) (by first | exact zm0 | exact zm1 | exact zm2 | exact zm3 | exact zm4 | exact zm5 | exact zm6 | exact zm7) | simp)) (by first | exact nin1 (Ne.symm hDL) | exact ninp (Ne.symm hDL) | exact nin3 (Ne.symm hDL) | exact zall1 (Ne.symm hDL) | exact zall2 (Ne.symm hDL) | exact zall3 (Ne.symm hDL) | exact zall4 (Ne.symm hDL) | exact kbL0 (Ne.symm hDL) | exact kbL1 (Ne.symm hDL) | exact kbL2 (Ne.symm hDL) | exact kbL3 (Ne.symm hDL) | exact kbL4 (Ne.symm hDL) | exact kbI (Ne.symm hDL) | (simp; exact Ne.symm hDL))
end
end Mine
end TextW9
section TextWa
namespace Mine
open PySem PySem.W PySem.Calls PyProof.Rows PySem.Spec
def topV (ns : List Int) (o : List Int) : Vec := great (pkOf ns.sum) Vec.z (psums (sel (usOf ns) o))
def ringV (ns : List Int) (o : List Int) : Vec := aboveV (pkOf ns.sum) (usOf ns) ((rings o).getD [])
def ordFact (n : Nat) (o : List Int) : Bool := decide (o.length ≤ 4) && (o.all fun k => decide (0 ≤ k) && decide (k < n)) && (rings o).isSome && decide (((rings o).getD []).length ≤ 900) &&
  ((rings o).getD []).all fun r => decide (0 < r.length) && decide (r.length ≤ 900) && r.all fun k => decide (0 ≤ k) && decide (k < n)
theorem ordFacts : (orders 2).all (ordFact 2) = true ∧ (orders 3).all (ordFact 3) = true ∧ (orders 4).all (ordFact 4) = true := by decide +kernel
theorem ordLen : (orders 2).length = 2 ∧ (orders 3).length = 6 ∧ (orders 4).length = 24 := by decide +kernel
theorem ord_fact {n : Nat} (hn : n = 2 ∨ n = 3 ∨ n = 4) {o : List Int} (h : o ∈ orders n) : o.length ≤ 4 ∧ (∀ k ∈ o, 0 ≤ k ∧ k < n) ∧ rings o = some ((rings o).getD []) ∧ ((rings o).getD []).length ≤ 900 ∧ ∀ r ∈ (rings o).getD [], r ≠ [] ∧ r.length ≤ 900 ∧ ∀ k ∈ r, 0 ≤ k ∧ k < n := by
  have hf : ordFact n o = true := by
    rcases hn with rfl | rfl | rfl
    · exact List.all_eq_true.mp ordFacts.1 o h
    · exact List.all_eq_true.mp ordFacts.2.1 o h
    · exact List.all_eq_true.mp ordFacts.2.2 o h
  simp only [ordFact, Bool.and_eq_true, List.all_eq_true, decide_eq_true_eq] at hf
  obtain ⟨⟨⟨⟨h1, h2⟩, h3⟩, h4⟩, h5⟩ := hf
  refine ⟨h1, h2, ?_, h4, fun r hr => ?_⟩
  · obtain ⟨rs, e⟩ := Option.isSome_iff_exists.mp h3
    rw [e]; rfl
  · obtain ⟨⟨a, b⟩, c⟩ := h5 r hr
    exact ⟨fun e => by rw [e] at a; exact Nat.lt_irrefl _ a, b, c⟩
theorem ord_len {n : Nat} (hn : n = 2 ∨ n = 3 ∨ n = 4) : (orders n).length ≤ 24 := by
  rcases hn with rfl | rfl | rfl
  · rw [ordLen.1]; decide
  · rw [ordLen.2.1]; decide
  · rw [ordLen.2.2]; decide
section
variable {w : World} {mg mb : Str → Option Value} {A : Around} {s s₀ : Shared} {L : Addr} {ns : List Int} {t1 : Tok} {lv le lp x : Addr} {Q : Flow → Shared → Prop} {m : Str → Option Value}
set_option maxHeartbeats 4000000
/-- the loop over the orders -/
theorem law89 (O : Ok w mg mb [] s₀) (hA : Fit A 40 150) (hH : ∀ x ∈ HL L, s₀.heap.get? x = none) (hns : s.heap.Ns L m) (hmc : m "comp" = some (.ref x)) (J : Inv2 w mg mb L s₀ ns t1 lv le lp x (HL L) s)
    (k : ∀ s' m' D1 D2 ys1 ys2 k1 k2, s'.heap.Ns L m' → m' "tops" = some (.ref D1) → m' "ringed" = some (.ref D2) → Inv2 w mg mb L s₀ ns t1 lv le lp x (HL L) s' → vw (HL L) s'.heap D1 = some (lstO ys1 k1) → vw (HL L) s'.heap D2 = some (lstO ys2 k2) →
      EntA w (wideOf ns) (vw (HL L) s'.heap) ys1 ((orders (nVec ns)).map (topV ns)) → EntA w (wideOf ns) (vw (HL L) s'.heap) ys2 ((orders (nVec ns)).map (ringV ns)) → wpAny (MD w) A (execs (lawB w 11) (lawE w L)) Q NE s') :
    wpAny (MD w) A (execs (lawB w 8) (lawE w L)) Q NE s := by
  have n51 : ∀ x ∈ HL L, x ≠ 51 := fun x hx => O.top.ne51 (hH x hx)
  have hC : ∀ x ∈ CL L, x ≠ 51 := fun x hx => n51 x (List.mem_cons_of_mem _ hx)
  have hL := hH L (by first | exact zm0 | exact zm1 | exact zm2 | exact zm3 | exact zm4 | exact zm5 | exact zm6 | exact zm7 | exact zs0 | exact zs1 | exact zs2 | exact zs3 | exact zn0 | exact zn1 (by decide) | exact cl_self _ | exact sub2 (by first | exact zm0 | exact zm1 | exact zm2 | exact zm3 | exact zm4 | exact zm5 | exact zm6 | exact zm7) (by first | exact zm0 | exact zm1 | exact zm2 | exact zm3 | exact zm4 | exact zm5 | exact zm6 | exact zm7) | simp)
  have hnv := nVec_234 ns
  have hul : (usOf ns).length = nVec ns := usOf_len ns
  refine wpAny_execs_cons ?_
  refine wpAny_Assign_Name ?_
  refine PyProof.Rows.List_ ?_
  refine args_nil ?_
  refine mkL (small_list (Nat.le_of_ble_eq_true rfl)) fun D1 s1 hD1 hDo1 k1 => ?_
  have J1 : Inv2 w mg mb L s₀ ns t1 lv le lp x ([D1] ++ HL L) s1 := J.more hC k1.go (by first | exact nin1 (⟨hD1, _, hDo1⟩) | exact ninp (⟨hD1, _, hDo1⟩) | exact nin3 (⟨hD1, _, hDo1⟩) | exact zall1 (⟨hD1, _, hDo1⟩) | exact zall2 (⟨hD1, _, hDo1⟩) | exact zall3 (⟨hD1, _, hDo1⟩) | exact zall4 (⟨hD1, _, hDo1⟩) | exact kbL0 (⟨hD1, _, hDo1⟩) | exact kbL1 (⟨hD1, _, hDo1⟩) | exact kbL2 (⟨hD1, _, hDo1⟩) | exact kbL3 (⟨hD1, _, hDo1⟩) | exact kbL4 (⟨hD1, _, hDo1⟩) | exact kbI (⟨hD1, _, hDo1⟩) | (simp; exact ⟨hD1, _, hDo1⟩))
  have N1 := O.new J.G hD1
  have F1 := J.ok.fresh hD1
  have L1 : L ≠ D1 := fun h => F1.2 (by rw [← h]; first | exact zm0 | exact zm1 | exact zm2 | exact zm3 | exact zm4 | exact zm5 | exact zm6 | exact zm7 | simp)
  have C1 : D1 ∉ CL L := fun h => F1.2 (List.mem_cons_of_mem _ h)
  refine sL O J1.G hL (hns.keeps k1.1) ?_
  intro s2 G2 hns2 hs2
  have kL2 : Kb [L] s1 s2 := Kb.same (a := L) hs2 (by first | exact zm0 | exact zm1 | exact zm2 | exact zm3 | exact zm4 | exact zm5 | exact zm6 | exact zm7 | exact zs0 | exact zs1 | exact zs2 | exact zs3 | exact zn0 | exact zn1 (by decide) | exact cl_self _ | exact sub2 (by first | exact zm0 | exact zm1 | exact zm2 | exact zm3 | exact zm4 | exact zm5 | exact zm6 | exact zm7) (by first | exact zm0 | exact zm1 | exact zm2 | exact zm3 | exact zm4 | exact zm5 | exact zm6 | exact zm7) | simp)
  have J2 := J1.kb O hC kL2 (by first | exact nin1 (ns_live hns2) | exact ninp (ns_live hns2) | exact nin3 (ns_live hns2) | exact zall1 (ns_live hns2) | exact zall2 (ns_live hns2) | exact zall3 (ns_live hns2) | exact zall4 (ns_live hns2) | exact kbL0 (ns_live hns2) | exact kbL1 (ns_live hns2) | exact kbL2 (ns_live hns2) | exact kbL3 (ns_live hns2) | exact kbL4 (ns_live hns2) | exact kbI (ns_live hns2) | (simp; exact ns_live hns2)) G2
  have d12 := kL2 _ _ F1.1 (by first | exact nin1 (Ne.symm L1) | exact ninp (Ne.symm L1) | exact nin3 (Ne.symm L1) | exact zall1 (Ne.symm L1) | exact zall2 (Ne.symm L1) | exact zall3 (Ne.symm L1) | exact zall4 (Ne.symm L1) | exact kbL0 (Ne.symm L1) | exact kbL1 (Ne.symm L1) | exact kbL2 (Ne.symm L1) | exact kbL3 (Ne.symm L1) | exact kbL4 (Ne.symm L1) | exact kbI (Ne.symm L1) | (simp; exact Ne.symm L1)) hDo1
  try dsimp only
  refine wpAny_execs_cons ?_
  refine wpAny_Assign_Name ?_
  refine PyProof.Rows.List_ ?_
  refine args_nil ?_
  refine mkL (small_list (Nat.le_of_ble_eq_true rfl)) fun D2 s3 hD2 hDo2 k3 => ?_
  have J3 : Inv2 w mg mb L s₀ ns t1 lv le lp x ([D2] ++ ([D1] ++ HL L)) s3 := J2.more hC k3.go (by first | exact nin1 (⟨hD2, _, hDo2⟩) | exact ninp (⟨hD2, _, hDo2⟩) | exact nin3 (⟨hD2, _, hDo2⟩) | exact zall1 (⟨hD2, _, hDo2⟩) | exact zall2 (⟨hD2, _, hDo2⟩) | exact zall3 (⟨hD2, _, hDo2⟩) | exact zall4 (⟨hD2, _, hDo2⟩) | exact kbL0 (⟨hD2, _, hDo2⟩) | exact kbL1 (⟨hD2, _, hDo2⟩) | exact kbL2 (⟨hD2, _, hDo2⟩) | exact kbL3 (⟨hD2, _, hDo2⟩) | exact kbL4 (⟨hD2, _, hDo2⟩) | exact kbI (⟨hD2, _, hDo2⟩) | (simp; exact ⟨hD2, _, hDo2⟩))
  have N2 := O.new J2.G hD2
  have F2 := J2.ok.fresh hD2
  have L2 : L ≠ D2 := fun h => F2.2 (by rw [← h]; first | exact zm0 | exact zm1 | exact zm2 | exact zm3 | exact zm4 | exact zm5 | exact zm6 | exact zm7 | simp)
  have C2 : D2 ∉ CL L := fun h => F2.2 (List.mem_append_right _ (List.mem_cons_of_mem _ h))
  have D12 : D1 ≠ D2 := ne_of_get d12 hD2
  refine sL O J3.G hL (hns2.keeps k3.1) ?_
  intro s4 G4 hns4 hs4
  have kL4 : Kb [L] s3 s4 := Kb.same (a := L) hs4 (by first | exact zm0 | exact zm1 | exact zm2 | exact zm3 | exact zm4 | exact zm5 | exact zm6 | exact zm7 | exact zs0 | exact zs1 | exact zs2 | exact zs3 | exact zn0 | exact zn1 (by decide) | exact cl_self _ | exact sub2 (by first | exact zm0 | exact zm1 | exact zm2 | exact zm3 | exact zm4 | exact zm5 | exact zm6 | exact zm7) (by first | exact zm0 | exact zm1 | exact zm2 | exact zm3 | exact zm4 | exact zm5 | exact zm6 | exact zm7) | simp)
  have J4 := J3.kb O hC kL4 (by first | exact nin1 (ns_live hns4) | exact ninp (ns_live hns4) | exact nin3 (ns_live hns4) | exact zall1 (ns_live hns4) | exact zall2 (ns_live hns4) | exact zall3 (ns_live hns4) | exact zall4 (ns_live hns4) | exact kbL0 (ns_live hns4) | exact kbL1 (ns_live hns4) | exact kbL2 (ns_live hns4) | exact kbL3 (ns_live hns4) | exact kbL4 (ns_live hns4) | exact kbI (ns_live hns4) | (simp; exact ns_live hns4)) G4
  have d14 := kL4 _ _ F1.1 (by first | exact nin1 (Ne.symm L1) | exact ninp (Ne.symm L1) | exact nin3 (Ne.symm L1) | exact zall1 (Ne.symm L1) | exact zall2 (Ne.symm L1) | exact zall3 (Ne.symm L1) | exact zall4 (Ne.symm L1) | exact kbL0 (Ne.symm L1) | exact kbL1 (Ne.symm L1) | exact kbL2 (Ne.symm L1) | exact kbL3 (Ne.symm L1) | exact kbL4 (Ne.symm L1) | exact kbI (Ne.symm L1) | (simp; exact Ne.symm L1)) (k3.1 _ _ d12)
  have d24 := kL4 _ _ F2.1 (by first | exact nin1 (Ne.symm L2) | exact ninp (Ne.symm L2) | exact nin3 (Ne.symm L2) | exact zall1 (Ne.symm L2) | exact zall2 (Ne.symm L2) | exact zall3 (Ne.symm L2) | exact zall4 (Ne.symm L2) | exact kbL0 (Ne.symm L2) | exact kbL1 (Ne.symm L2) | exact kbL2 (Ne.symm L2) | exact kbL3 (Ne.symm L2) | exact kbL4 (Ne.symm L2) | exact kbI (Ne.symm L2) | (simp; exact Ne.symm L2)) hDo2
  try dsimp only
  refine wpAny_execs_cons ?_
  refine wpAny_For ?_
  refine callG J4.ok.top (f_orders w) (by kernel_rfl) ?_
  refine args_cons ?_
  refine PyProof.Rows.Call_ ?_
  refine nB J4.ok.top (g_len w) ?_
  refine PyProof.Rows.callWith_builtin1 ?_
  refine args_cons ?_
  refine nC (c := L + 4) rfl J4.c4 ?_
  refine args_nil ?_
  obtain ⟨evs, e1, e2⟩ := id J4.he
  have hev : evs.length = nVec ns := by rw [e2.length, hul]
  refine len_list (items := evs.toArray) e1.list (by rw [List.size_toArray]; omega) ?_
  refine args_nil ?_
  refine ⟨J4.ok.top.k, ?_⟩
  rw [show (evs.toArray.size : Int) = ((nVec ns : Nat) : Int) by rw [List.size_toArray, hev]]
  refine orders_spec (n := nVec ns) (s := { s4 with toks := _ }) J4.ok hA.le (by first | assumption | exact ind2 (by assumption) | exact ind1 (by assumption) | exact Nat.le_trans (by assumption) (by decide) | exact Nat.le_of_lt (by assumption) | exact Nat.lt_of_le_of_lt (Nat.le_add_right _ _) (by assumption) | omega) ?_
  intro lor s5 G5 hlor hLL
  replace G5 : Go s4 s5 := G5
  have J5 := J4.go hC G5
  have hns5 := hns4.at' (h' := s5.heap) fun o e => G5.keep _ o (n51 L (by first | exact zm0 | exact zm1 | exact zm2 | exact zm3 | exact zm4 | exact zm5 | exact zm6 | exact zm7 | exact zs0 | exact zs1 | exact zs2 | exact zs3 | exact zn0 | exact zn1 (by decide) | exact cl_self _ | exact sub2 (by first | exact zm0 | exact zm1 | exact zm2 | exact zm3 | exact zm4 | exact zm5 | exact zm6 | exact zm7) (by first | exact zm0 | exact zm1 | exact zm2 | exact zm3 | exact zm4 | exact zm5 | exact zm6 | exact zm7) | simp)) e
  have d15 := G5.keep _ _ F1.1 d14
  have d25 := G5.keep _ _ F2.1 d24
  obtain ⟨ovs0, w1, _⟩ := id hLL
  refine iterL w1.list ?_
  intro I s6 hI hit6 k6
  have NI := O.new J5.G hI
  have FI := J5.ok.fresh hI
  have LI : L ≠ I := fun h => FI.2 (by rw [← h]; first | exact zm0 | exact zm1 | exact zm2 | exact zm3 | exact zm4 | exact zm5 | exact zm6 | exact zm7 | simp)
  have CI : I ∉ CL L := fun h => FI.2 (List.mem_append_right _ (List.mem_append_right _ (List.mem_cons_of_mem _ h)))
  have D1I : D1 ≠ I := ne_of_get d15 hI
  have D2I : D2 ≠ I := ne_of_get d25 hI
  have J6 : Inv2 w mg mb L s₀ ns t1 lv le lp x ([I] ++ ([D2] ++ ([D1] ++ HL L))) s6 := J5.more hC k6.go (by first | exact nin1 (⟨hI, li_live hit6⟩) | exact ninp (⟨hI, li_live hit6⟩) | exact nin3 (⟨hI, li_live hit6⟩) | exact zall1 (⟨hI, li_live hit6⟩) | exact zall2 (⟨hI, li_live hit6⟩) | exact zall3 (⟨hI, li_live hit6⟩) | exact zall4 (⟨hI, li_live hit6⟩) | exact kbL0 (⟨hI, li_live hit6⟩) | exact kbL1 (⟨hI, li_live hit6⟩) | exact kbL2 (⟨hI, li_live hit6⟩) | exact kbL3 (⟨hI, li_live hit6⟩) | exact kbL4 (⟨hI, li_live hit6⟩) | exact kbI (⟨hI, li_live hit6⟩) | (simp; exact ⟨hI, li_live hit6⟩))
  have hLL6 : IntLL (vw ([I] ++ ([D2] ++ ([D1] ++ HL L))) s6.heap) lor (orders (nVec ns)) := hLL.mono (vw_more [I] k6.go (by first | exact zall1 hI | exact nin1 hI | simpa using hI))
  refine absR fun R' hR' => ?_
  obtain ⟨i, m', ys1, ys2, kk1, kk2, hi, hns', hm1, hm2, hm3, hit, J, hLL, d1, d2, a1, a2⟩ : ∃ (i : Nat) (m' : Str → Option Value) (ys1 ys2 : List Value) (kk1 kk2 : Nat), i ≤ (orders (nVec ns)).length ∧ s6.heap.Ns L m' ∧ m' "comp" = some (.ref x) ∧ m' "tops" = some (.ref D1) ∧ m' "ringed" = some (.ref D2) ∧ s6.heap.IsListIter I lor i ∧
      Inv2 w mg mb L s₀ ns t1 lv le lp x ([I] ++ ([D2] ++ ([D1] ++ HL L))) s6 ∧ IntLL (vw ([I] ++ ([D2] ++ ([D1] ++ HL L))) s6.heap) lor (orders (nVec ns)) ∧ s6.heap.get? D1 = some (lstO ys1 kk1) ∧ s6.heap.get? D2 = some (lstO ys2 kk2) ∧
      EntA w (wideOf ns) (vw ([I] ++ ([D2] ++ ([D1] ++ HL L))) s6.heap) ys1 (((orders (nVec ns)).take i).map (topV ns)) ∧ EntA w (wideOf ns) (vw ([I] ++ ([D2] ++ ([D1] ++ HL L))) s6.heap) ys2 (((orders (nVec ns)).take i).map (ringV ns)) :=
    ⟨0, _, [], [], 0, 0, Nat.zero_le _, hns5.keeps k6.1, hmc, rfl, rfl, hit6, J6, hLL6, k6.1 _ _ d15, k6.1 _ _ d25, .nil, .nil⟩
  clear J6 hLL6 hit6 k6
  have hol := ord_len hnv
  induction hn : (orders (nVec ns)).length - i generalizing i s6 m' ys1 ys2 kk1 kk2 with
  | zero =>
    have hie : i = (orders (nVec ns)).length := (by first | exact ind0 (by assumption) (by assumption) | exact ind1 (by assumption) | omega)
    obtain ⟨ovs, l1, l2⟩ := id hLL
    refine for1 ?_
    refine nextL0 hA.h hit l1.list (by rw [hie, ← l2.length]; simp) ?_
    intro s7 k7
    try dsimp only
    refine wpAny_execs_nil ?_
    refine hR' _ _ ?_
    try dsimp only
    have G7 := Go.ke J.G O.top NI.1 k7
    have kb : Kb [I] s6 s7 := Kb.ke k7 (by first | exact zm0 | exact zm1 | exact zm2 | exact zm3 | exact zm4 | exact zm5 | exact zm6 | exact zm7 | exact zs0 | exact zs1 | exact zs2 | exact zs3 | exact zn0 | exact zn1 (by decide) | exact cl_self _ | exact sub2 (by first | exact zm0 | exact zm1 | exact zm2 | exact zm3 | exact zm4 | exact zm5 | exact zm6 | exact zm7) (by first | exact zm0 | exact zm1 | exact zm2 | exact zm3 | exact zm4 | exact zm5 | exact zm6 | exact zm7) | simp)
    have lE : Le (vw ([I] ++ ([D2] ++ ([D1] ++ HL L))) s6.heap) (vw (HL L) s7.heap) := (vw_kb kb (by first | exact zm0 | exact zm1 | exact zm2 | exact zm3 | exact zm4 | exact zm5 | exact zm6 | exact zm7 | exact zs0 | exact zs1 | exact zs2 | exact zs3 | exact zn0 | exact zn1 (by decide) | exact cl_self _ | exact sub2 (by first | exact zm0 | exact zm1 | exact zm2 | exact zm3 | exact zm4 | exact zm5 | exact zm6 | exact zm7) (by first | exact zm0 | exact zm1 | exact zm2 | exact zm3 | exact zm4 | exact zm5 | exact zm6 | exact zm7) | simp)).trans (vw_less [I, D2, D1])
    have J7 : Inv2 w mg mb L s₀ ns t1 lv le lp x ([D2] ++ ([D1] ++ HL L)) s7 := J.out O hC CI FI.2 k7 G7
    rw [hie, List.take_length] at a1 a2
    exact k s7 m' D1 D2 ys1 ys2 kk1 kk2 (ns_ke hns' k7 LI) hm2 hm3 J7.less.less (vw_iff.mpr ⟨F1.1, F1.2, kb _ _ F1.1 (by first | exact nin1 (D1I) | exact ninp (D1I) | exact nin3 (D1I) | exact zall1 (D1I) | exact zall2 (D1I) | exact zall3 (D1I) | exact zall4 (D1I) | exact kbL0 (D1I) | exact kbL1 (D1I) | exact kbL2 (D1I) | exact kbL3 (D1I) | exact kbL4 (D1I) | exact kbI (D1I) | (simp; exact D1I)) d1⟩) (vw_iff.mpr ⟨F2.1, fun h => F2.2 (List.mem_append_right _ h), kb _ _ F2.1 (by first | exact nin1 (D2I) | exact ninp (D2I) | exact nin3 (D2I) | exact zall1 (D2I) | exact zall2 (D2I) | exact zall3 (D2I) | exact zall4 (D2I) | exact kbL0 (D2I) | exact kbL1 (D2I) | exact kbL2 (D2I) | exact kbL3 (D2I) | exact kbL4 (D2I) | exact kbI (D2I) | (simp; exact D2I)) d2⟩) (EntA.mono a1 lE) (EntA.mono a2 lE)
  | succ n ih =>
    have hlt : i < (orders (nVec ns)).length := (by first | exact ind0 (by assumption) (by assumption) | exact ind1 (by assumption) | omega)
    obtain ⟨o, ho⟩ : ∃ o, (orders (nVec ns))[i]? = some o := ⟨(orders (nVec ns))[i], by simp [hlt]⟩
    obtain ⟨f1, f2, f3, f4, f5⟩ := ord_fact hnv (List.mem_of_getElem? ho)
    obtain ⟨ovs, l1, l2⟩ := id hLL
    obtain ⟨_, hvi, lo, rfl, hlo⟩ := l2.get ho
    have hy1 : ys1.length ≤ 100 := by have := a1.length; rw [List.length_map, List.length_take] at this; omega
    have hy2 : ys2.length ≤ 100 := by have := a2.length; rw [List.length_map, List.length_take] at this; omega
    refine for1 ?_
    refine nextL hit l1.list hvi ?_
    intro s7 hit7 k7
    try dsimp only
    have kb7 : Kb [I] s6 s7 := Kb.ke k7.ke (by first | exact zm0 | exact zm1 | exact zm2 | exact zm3 | exact zm4 | exact zm5 | exact zm6 | exact zm7 | exact zs0 | exact zs1 | exact zs2 | exact zs3 | exact zn0 | exact zn1 (by decide) | exact cl_self _ | exact sub2 (by first | exact zm0 | exact zm1 | exact zm2 | exact zm3 | exact zm4 | exact zm5 | exact zm6 | exact zm7) (by first | exact zm0 | exact zm1 | exact zm2 | exact zm3 | exact zm4 | exact zm5 | exact zm6 | exact zm7) | simp)
    have hns7 := ns_ke hns' k7.ke LI
    have G7 := Go.ke J.G O.top NI.1 k7.ke
    have J7 := J.kb O hC kb7 (by first | exact nin1 (⟨CI, li_live hit7⟩) | exact ninp (⟨CI, li_live hit7⟩) | exact nin3 (⟨CI, li_live hit7⟩) | exact zall1 (⟨CI, li_live hit7⟩) | exact zall2 (⟨CI, li_live hit7⟩) | exact zall3 (⟨CI, li_live hit7⟩) | exact zall4 (⟨CI, li_live hit7⟩) | exact kbL0 (⟨CI, li_live hit7⟩) | exact kbL1 (⟨CI, li_live hit7⟩) | exact kbL2 (⟨CI, li_live hit7⟩) | exact kbL3 (⟨CI, li_live hit7⟩) | exact kbL4 (⟨CI, li_live hit7⟩) | exact kbI (⟨CI, li_live hit7⟩) | (simp; exact ⟨by simpa using CI, li_live hit7⟩)) G7
    refine wpAny_pure ?_
    refine wpAny_assign_Name ?_
    refine sL O G7 hL hns7 ?_
    intro s8 G8 hns8 hs8
    have kL8 : Kb [L] s7 s8 := Kb.same (a := L) hs8 (by first | exact zm0 | exact zm1 | exact zm2 | exact zm3 | exact zm4 | exact zm5 | exact zm6 | exact zm7 | exact zs0 | exact zs1 | exact zs2 | exact zs3 | exact zn0 | exact zn1 (by decide) | exact cl_self _ | exact sub2 (by first | exact zm0 | exact zm1 | exact zm2 | exact zm3 | exact zm4 | exact zm5 | exact zm6 | exact zm7) (by first | exact zm0 | exact zm1 | exact zm2 | exact zm3 | exact zm4 | exact zm5 | exact zm6 | exact zm7) | simp)
    have J8 := J7.kb O hC kL8 (by first | exact nin1 (ns_live hns8) | exact ninp (ns_live hns8) | exact nin3 (ns_live hns8) | exact zall1 (ns_live hns8) | exact zall2 (ns_live hns8) | exact zall3 (ns_live hns8) | exact zall4 (ns_live hns8) | exact kbL0 (ns_live hns8) | exact kbL1 (ns_live hns8) | exact kbL2 (ns_live hns8) | exact kbL3 (ns_live hns8) | exact kbL4 (ns_live hns8) | exact kbI (ns_live hns8) | (simp; exact ns_live hns8)) G8
    have le8 := (vw_kb (ys := [I] ++ ([D2] ++ ([D1] ++ HL L))) kb7 (by first | exact zm0 | exact zm1 | exact zm2 | exact zm3 | exact zm4 | exact zm5 | exact zm6 | exact zm7 | exact zs0 | exact zs1 | exact zs2 | exact zs3 | exact zn0 | exact zn1 (by decide) | exact cl_self _ | exact sub2 (by first | exact zm0 | exact zm1 | exact zm2 | exact zm3 | exact zm4 | exact zm5 | exact zm6 | exact zm7) (by first | exact zm0 | exact zm1 | exact zm2 | exact zm3 | exact zm4 | exact zm5 | exact zm6 | exact zm7) | simp)).trans (vw_kb (ys := [I] ++ ([D2] ++ ([D1] ++ HL L))) kL8 (by first | exact zm0 | exact zm1 | exact zm2 | exact zm3 | exact zm4 | exact zm5 | exact zm6 | exact zm7 | exact zs0 | exact zs1 | exact zs2 | exact zs3 | exact zn0 | exact zn1 (by decide) | exact cl_self _ | exact sub2 (by first | exact zm0 | exact zm1 | exact zm2 | exact zm3 | exact zm4 | exact zm5 | exact zm6 | exact zm7) (by first | exact zm0 | exact zm1 | exact zm2 | exact zm3 | exact zm4 | exact zm5 | exact zm6 | exact zm7) | simp))
    have k78 : Kb [L, I] s6 s8 := (kb7.sub (by first | exact zm0 | exact zm1 | exact zm2 | exact zm3 | exact zm4 | exact zm5 | exact zm6 | exact zm7 | exact zs0 | exact zs1 | exact zs2 | exact zs3 | exact zn0 | exact zn1 (by decide) | exact cl_self _ | exact sub2 (by first | exact zm0 | exact zm1 | exact zm2 | exact zm3 | exact zm4 | exact zm5 | exact zm6 | exact zm7) (by first | exact zm0 | exact zm1 | exact zm2 | exact zm3 | exact zm4 | exact zm5 | exact zm6 | exact zm7) | simp)).trans (kL8.sub (by first | exact zm0 | exact zm1 | exact zm2 | exact zm3 | exact zm4 | exact zm5 | exact zm6 | exact zm7 | exact zs0 | exact zs1 | exact zs2 | exact zs3 | exact zn0 | exact zn1 (by decide) | exact cl_self _ | exact sub2 (by first | exact zm0 | exact zm1 | exact zm2 | exact zm3 | exact zm4 | exact zm5 | exact zm6 | exact zm7) (by first | exact zm0 | exact zm1 | exact zm2 | exact zm3 | exact zm4 | exact zm5 | exact zm6 | exact zm7) | simp))
    -- the turn
    refine turn0 (H := [I] ++ ([D2] ++ ([D1] ++ HL L))) (lo := lo) (o := o) O hA hH (by first | exact zm0 | exact zm1 | exact zm2 | exact zm3 | exact zm4 | exact zm5 | exact zm6 | exact zm7 | exact zs0 | exact zs1 | exact zs2 | exact zs3 | exact zn0 | exact zn1 (by decide) | exact cl_self _ | exact sub2 (by first | exact zm0 | exact zm1 | exact zm2 | exact zm3 | exact zm4 | exact zm5 | exact zm6 | exact zm7) (by first | exact zm0 | exact zm1 | exact zm2 | exact zm3 | exact zm4 | exact zm5 | exact zm6 | exact zm7) | simp) hns8 J8 rfl (hlo.mono le8) (by rw [hul]; exact f2) f1 ?_
    intro s9 ls hns9 k9 J9 hE9
    have le9 := vw_kb (ys := [I] ++ ([D2] ++ ([D1] ++ HL L))) k9 (by first | exact zm0 | exact zm1 | exact zm2 | exact zm3 | exact zm4 | exact zm5 | exact zm6 | exact zm7 | exact zs0 | exact zs1 | exact zs2 | exact zs3 | exact zn0 | exact zn1 (by decide) | exact cl_self _ | exact sub2 (by first | exact zm0 | exact zm1 | exact zm2 | exact zm3 | exact zm4 | exact zm5 | exact zm6 | exact zm7) (by first | exact zm0 | exact zm1 | exact zm2 | exact zm3 | exact zm4 | exact zm5 | exact zm6 | exact zm7) | simp)
    refine turn1 (H := [I] ++ ([D2] ++ ([D1] ++ HL L))) (lo := lo) (o := o) O hA hH (by first | exact zm0 | exact zm1 | exact zm2 | exact zm3 | exact zm4 | exact zm5 | exact zm6 | exact zm7 | exact zs0 | exact zs1 | exact zs2 | exact zs3 | exact zn0 | exact zn1 (by decide) | exact cl_self _ | exact sub2 (by first | exact zm0 | exact zm1 | exact zm2 | exact zm3 | exact zm4 | exact zm5 | exact zm6 | exact zm7) (by first | exact zm0 | exact zm1 | exact zm2 | exact zm3 | exact zm4 | exact zm5 | exact zm6 | exact zm7) | simp) hns9 J9 rfl ((hlo.mono le8).mono le9) (by rw [hul]; exact f2) f1 rfl hE9 ?_
    intro s10 m10 hns10 hmm k10 J10 hE10 hlo10
    have le10 := vw_kb (ys := [I] ++ ([D2] ++ ([D1] ++ HL L))) k10 (by first | exact zm0 | exact zm1 | exact zm2 | exact zm3 | exact zm4 | exact zm5 | exact zm6 | exact zm7 | exact zs0 | exact zs1 | exact zs2 | exact zs3 | exact zn0 | exact zn1 (by decide) | exact cl_self _ | exact sub2 (by first | exact zm0 | exact zm1 | exact zm2 | exact zm3 | exact zm4 | exact zm5 | exact zm6 | exact zm7) (by first | exact zm0 | exact zm1 | exact zm2 | exact zm3 | exact zm4 | exact zm5 | exact zm6 | exact zm7) | simp)
    have mc : m10 "comp" = some (.ref x) := (hmm _ (by decide)).trans hm1
    have mt : m10 "tops" = some (.ref D1) := (hmm _ (by decide)).trans hm2
    have mr : m10 "ringed" = some (.ref D2) := (hmm _ (by decide)).trans hm3
    have mo : m10 "order" = some (.ref lo) := (hmm _ (by decide)).trans rfl
    have msu : m10 "sums" = some (.ref ls) := (hmm _ (by decide)).trans rfl
    refine turn2 (H := [I] ++ ([D2] ++ ([D1] ++ HL L))) O hA hH hns10 J10 msu hE10 ?_
    intro s11 G11 hns11
    have J11 := J10.go hC G11
    have k8b : Kb [L] s8 s11 := (k9.trans k10).trans (Go.kb G11)
    have k6b : Kb [L, I] s6 s11 := k78.trans (k8b.sub (by first | exact zm0 | exact zm1 | exact zm2 | exact zm3 | exact zm4 | exact zm5 | exact zm6 | exact zm7 | exact zs0 | exact zs1 | exact zs2 | exact zs3 | exact zn0 | exact zn1 (by decide) | exact cl_self _ | exact sub2 (by first | exact zm0 | exact zm1 | exact zm2 | exact zm3 | exact zm4 | exact zm5 | exact zm6 | exact zm7) (by first | exact zm0 | exact zm1 | exact zm2 | exact zm3 | exact zm4 | exact zm5 | exact zm6 | exact zm7) | simp))
    have d111 := k6b _ _ F1.1 (by first | exact nin1 (⟨Ne.symm L1, D1I⟩) | exact ninp (⟨Ne.symm L1, D1I⟩) | exact nin3 (⟨Ne.symm L1, D1I⟩) | exact zall1 (⟨Ne.symm L1, D1I⟩) | exact zall2 (⟨Ne.symm L1, D1I⟩) | exact zall3 (⟨Ne.symm L1, D1I⟩) | exact zall4 (⟨Ne.symm L1, D1I⟩) | exact kbL0 (⟨Ne.symm L1, D1I⟩) | exact kbL1 (⟨Ne.symm L1, D1I⟩) | exact kbL2 (⟨Ne.symm L1, D1I⟩) | exact kbL3 (⟨Ne.symm L1, D1I⟩) | exact kbL4 (⟨Ne.symm L1, D1I⟩) | exact kbI (⟨Ne.symm L1, D1I⟩) | (simp; exact ⟨Ne.symm L1, D1I⟩)) d1
    have d211 := k6b _ _ F2.1 (by first | exact nin1 (⟨Ne.symm L2, D2I⟩) | exact ninp (⟨Ne.symm L2, D2I⟩) | exact nin3 (⟨Ne.symm L2, D2I⟩) | exact zall1 (⟨Ne.symm L2, D2I⟩) | exact zall2 (⟨Ne.symm L2, D2I⟩) | exact zall3 (⟨Ne.symm L2, D2I⟩) | exact zall4 (⟨Ne.symm L2, D2I⟩) | exact kbL0 (⟨Ne.symm L2, D2I⟩) | exact kbL1 (⟨Ne.symm L2, D2I⟩) | exact kbL2 (⟨Ne.symm L2, D2I⟩) | exact kbL3 (⟨Ne.symm L2, D2I⟩) | exact kbL4 (⟨Ne.symm L2, D2I⟩) | exact kbI (⟨Ne.symm L2, D2I⟩) | (simp; exact ⟨Ne.symm L2, D2I⟩)) d2
    refine turn3 (H := [I] ++ ([D2] ++ ([D1] ++ HL L))) (D1 := D1) O hA hH hns11 J11 mc msu mt (hE10.mono (vw_go G11)) d111 hy1 N1.1 (by first | exact zm0 | exact zm1 | exact zm2 | exact zm3 | exact zm4 | exact zm5 | exact zm6 | exact zm7 | exact zs0 | exact zs1 | exact zs2 | exact zs3 | exact zn0 | exact zn1 (by decide) | exact cl_self _ | exact sub2 (by first | exact zm0 | exact zm1 | exact zm2 | exact zm3 | exact zm4 | exact zm5 | exact zm6 | exact zm7) (by first | exact zm0 | exact zm1 | exact zm2 | exact zm3 | exact zm4 | exact zm5 | exact zm6 | exact zm7) | simp) C1 (Ne.symm L1) ?_
    intro s12 p1 hns12 k12 J12 d112 ep1
    have le12 := vw_kb (ys := [I] ++ ([D2] ++ ([D1] ++ HL L))) k12 (by first | exact zm0 | exact zm1 | exact zm2 | exact zm3 | exact zm4 | exact zm5 | exact zm6 | exact zm7 | exact zs0 | exact zs1 | exact zs2 | exact zs3 | exact zn0 | exact zn1 (by decide) | exact cl_self _ | exact sub2 (by first | exact zm0 | exact zm1 | exact zm2 | exact zm3 | exact zm4 | exact zm5 | exact zm6 | exact zm7) (by first | exact zm0 | exact zm1 | exact zm2 | exact zm3 | exact zm4 | exact zm5 | exact zm6 | exact zm7) | simp)
    refine turn4 (H := [I] ++ ([D2] ++ ([D1] ++ HL L))) (D2 := D2) (lo := lo) (o := o) O hA hH hns12 J12 mc mo ((hlo10.mono (vw_go G11)).mono le12) f1 f3 f4 (by rw [hul]; exact f5) mr (k12 _ _ F2.1 (by first | exact nin1 (Ne.symm D12) | exact ninp (Ne.symm D12) | exact nin3 (Ne.symm D12) | exact zall1 (Ne.symm D12) | exact zall2 (Ne.symm D12) | exact zall3 (Ne.symm D12) | exact zall4 (Ne.symm D12) | exact kbL0 (Ne.symm D12) | exact kbL1 (Ne.symm D12) | exact kbL2 (Ne.symm D12) | exact kbL3 (Ne.symm D12) | exact kbL4 (Ne.symm D12) | exact kbI (Ne.symm D12) | (simp; exact Ne.symm D12)) d211) hy2 N2.1 (by first | exact zm0 | exact zm1 | exact zm2 | exact zm3 | exact zm4 | exact zm5 | exact zm6 | exact zm7 | exact zs0 | exact zs1 | exact zs2 | exact zs3 | exact zn0 | exact zn1 (by decide) | exact cl_self _ | exact sub2 (by first | exact zm0 | exact zm1 | exact zm2 | exact zm3 | exact zm4 | exact zm5 | exact zm6 | exact zm7) (by first | exact zm0 | exact zm1 | exact zm2 | exact zm3 | exact zm4 | exact zm5 | exact zm6 | exact zm7) | simp) C2 (Ne.symm L2) ?_
    intro s13 p2 hns13 k13 J13 d213 ep2
    have le13 := vw_kb (ys := [I] ++ ([D2] ++ ([D1] ++ HL L))) k13 (by first | exact zm0 | exact zm1 | exact zm2 | exact zm3 | exact zm4 | exact zm5 | exact zm6 | exact zm7 | exact zs0 | exact zs1 | exact zs2 | exact zs3 | exact zn0 | exact zn1 (by decide) | exact cl_self _ | exact sub2 (by first | exact zm0 | exact zm1 | exact zm2 | exact zm3 | exact zm4 | exact zm5 | exact zm6 | exact zm7) (by first | exact zm0 | exact zm1 | exact zm2 | exact zm3 | exact zm4 | exact zm5 | exact zm6 | exact zm7) | simp)
    have le613 : Le (vw ([I] ++ ([D2] ++ ([D1] ++ HL L))) s6.heap) (vw ([I] ++ ([D2] ++ ([D1] ++ HL L))) s13.heap) := ((le8.trans (vw_kb k8b (by first | exact zm0 | exact zm1 | exact zm2 | exact zm3 | exact zm4 | exact zm5 | exact zm6 | exact zm7 | exact zs0 | exact zs1 | exact zs2 | exact zs3 | exact zn0 | exact zn1 (by decide) | exact cl_self _ | exact sub2 (by first | exact zm0 | exact zm1 | exact zm2 | exact zm3 | exact zm4 | exact zm5 | exact zm6 | exact zm7) (by first | exact zm0 | exact zm1 | exact zm2 | exact zm3 | exact zm4 | exact zm5 | exact zm6 | exact zm7) | simp))).trans le12).trans le13
    try dsimp only
    have I51 : I ≠ 51 := NI.2.1
    have hit13 : s13.heap.IsListIter I lor (i + 1) := hit7.at fun o e => k13 _ o I51 (by first | exact nin1 (Ne.symm D2I) | exact ninp (Ne.symm D2I) | exact nin3 (Ne.symm D2I) | exact zall1 (Ne.symm D2I) | exact zall2 (Ne.symm D2I) | exact zall3 (Ne.symm D2I) | exact zall4 (Ne.symm D2I) | exact kbL0 (Ne.symm D2I) | exact kbL1 (Ne.symm D2I) | exact kbL2 (Ne.symm D2I) | exact kbL3 (Ne.symm D2I) | exact kbL4 (Ne.symm D2I) | exact kbI (Ne.symm D2I) | (simp; exact Ne.symm D2I)) (k12 _ o I51 (by first | exact nin1 (Ne.symm D1I) | exact ninp (Ne.symm D1I) | exact nin3 (Ne.symm D1I) | exact zall1 (Ne.symm D1I) | exact zall2 (Ne.symm D1I) | exact zall3 (Ne.symm D1I) | exact zall4 (Ne.symm D1I) | exact kbL0 (Ne.symm D1I) | exact kbL1 (Ne.symm D1I) | exact kbL2 (Ne.symm D1I) | exact kbL3 (Ne.symm D1I) | exact kbL4 (Ne.symm D1I) | exact kbI (Ne.symm D1I) | (simp; exact Ne.symm D1I)) (k8b _ o I51 (by first | exact nin1 (Ne.symm LI) | exact ninp (Ne.symm LI) | exact nin3 (Ne.symm LI) | exact zall1 (Ne.symm LI) | exact zall2 (Ne.symm LI) | exact zall3 (Ne.symm LI) | exact zall4 (Ne.symm LI) | exact kbL0 (Ne.symm LI) | exact kbL1 (Ne.symm LI) | exact kbL2 (Ne.symm LI) | exact kbL3 (Ne.symm LI) | exact kbL4 (Ne.symm LI) | exact kbI (Ne.symm LI) | (simp; exact Ne.symm LI)) (kL8 _ o I51 (by first | exact nin1 (Ne.symm LI) | exact ninp (Ne.symm LI) | exact nin3 (Ne.symm LI) | exact zall1 (Ne.symm LI) | exact zall2 (Ne.symm LI) | exact zall3 (Ne.symm LI) | exact zall4 (Ne.symm LI) | exact kbL0 (Ne.symm LI) | exact kbL1 (Ne.symm LI) | exact kbL2 (Ne.symm LI) | exact kbL3 (Ne.symm LI) | exact kbL4 (Ne.symm LI) | exact kbI (Ne.symm LI) | (simp; exact Ne.symm LI)) e)))
    refine ih s13 (i + 1) m10 (ys1 ++ [.ref p1]) (ys2 ++ [.ref p2]) _ _ hlt hns13 mc mt mr hit13 J13 (hLL.mono le613) (k13 _ _ F1.1 (by first | exact nin1 (D12) | exact ninp (D12) | exact nin3 (D12) | exact zall1 (D12) | exact zall2 (D12) | exact zall3 (D12) | exact zall4 (D12) | exact kbL0 (D12) | exact kbL1 (D12) | exact kbL2 (D12) | exact kbL3 (D12) | exact kbL4 (D12) | exact kbI (D12) | (simp; exact D12)) d112) d213 ?_ ?_ (by first | assumption | exact ind2 (by assumption) | exact ind1 (by assumption) | exact Nat.le_trans (by assumption) (by decide) | exact Nat.le_of_lt (by assumption) | exact Nat.lt_of_le_of_lt (Nat.le_add_right _ _) (by assumption) | omega)
    · rw [List.take_add_one, ho, Option.toList_some, List.map_append]
      exact (EntA.mono a1 le613).append (.cons ⟨p1, rfl, ep1.mono le13⟩ .nil)
    · rw [List.take_add_one, ho, Option.toList_some, List.map_append]
      exact (EntA.mono a2 le613).append (.cons ⟨p2, rfl, ep2⟩ .nil)
end
end Mine
end TextWa
section TextWb
namespace Mine
open PySem PySem.W PySem.Calls PyProof.Rows PySem.Spec
section
variable {w : World} {mg mb : Str → Option Value} {A : Around} {s s₀ : Shared} {H : List Addr}
/-- list(x) -/
theorem cpy {l : Addr} {vs : List Value} {Q : Value → Shared → Prop} {E : Value → Shared → Prop} (hl : s.heap.IsList l vs.toArray) (hlen : vs.length ≤ 1000)
    (h : ∀ r s' c, s.heap.get? r = none → s'.heap.get? r = some (lstO vs c) → Kp s s' → Q (.ref r) s') : wpAny (MD w) A (call (.type "list") [.ref l]) Q E s := by
  obtain ⟨o, ho, hc, n, hd⟩ := hl
  exact call_list_seq l (.inl rfl) ho hc hd (fun h' c' hk hr => h _ { s with heap := h' } c' (get_size _) hr ⟨hk, rfl, rfl⟩) (by rw [List.size_toArray]; exact Nat.le_trans hlen (by rw [sizeLine_eq]; decide))
theorem ent_elems {W : Bool} {vs vs' : List Value} {us : List Vec} (a : EntA w W (vw H s.heap) vs us) (a' : EntA w W (vw H s.heap) vs' us) (hu : A.units + 10 < cLine) :
    ∀ j (h1 : j < vs.toArray.size) (h2 : j < vs'.toArray.size), EqW w A.in1 s vs.toArray[j] vs'.toArray[j] true := by
  intro j h1 h2
  have g1 : j < vs.length := by simpa using h1
  have g2 : j < vs'.length := by simpa using h2
  have g3 : j < us.length := by rw [← a.length]; exact g1
  obtain ⟨_, x1, p, rfl, ep⟩ := a.get (List.getElem?_eq_getElem g3)
  obtain ⟨_, x2, q, rfl, eq⟩ := a'.get (List.getElem?_eq_getElem g3)
  have y1 : vs.toArray[j] = .ref p := by have := (List.getElem?_eq_some_iff.mp x1).2; simpa using this
  have y2 : vs'.toArray[j] = .ref q := by have := (List.getElem?_eq_some_iff.mp x2).2; simpa using this
  rw [y1, y2]
  have := entEq (A := A.in1) ep eq (by show A.units + 1 + 6 < cLine; omega)
  rw [veq_self] at this
  exact this
theorem eqLs {W : Bool} {l b : Addr} {vs vs' : List Value} {us : List Vec} (hl : s.heap.IsList l vs.toArray) (hb : s.heap.IsList b vs'.toArray) (a : EntA w W (vw H s.heap) vs us) (a' : EntA w W (vw H s.heap) vs' us) (hu : A.units + 10 < cLine) : EqW w A s (.ref l) (.ref b) true := by
  by_cases hlb : l = b
  · subst hlb; exact EqW.same _
  · have := RcW.lst (A := A) (e := fun _ => true) hl hb (by first | assumption | exact ind2 (by assumption) | exact ind1 (by assumption) | exact Nat.le_trans (by assumption) (by decide) | exact Nat.le_of_lt (by assumption) | exact Nat.lt_of_le_of_lt (Nat.le_add_right _ _) (by assumption) | omega) (ent_elems a a' hu)
    rw [show (vs.toArray.size == vs'.toArray.size && (List.range vs.toArray.size).all fun _ => true) = true by rw [List.size_toArray, List.size_toArray, a.length, a'.length]; simp] at this
    exact EqW.refs hlb this
theorem neLs {W : Bool} {l b : Addr} {vs vs' : List Value} {us : List Vec} (hl : s.heap.IsList l vs.toArray) (hb : s.heap.IsList b vs'.toArray) (a : EntA w W (vw H s.heap) vs us) (a' : EntA w W (vw H s.heap) vs' us) (hu : A.units + 10 < cLine) : RnW w A s (.ref l) (.ref b) false := by
  have := RnW.lst (A := A) (e := fun _ => true) hl hb (by first | assumption | exact ind2 (by assumption) | exact ind1 (by assumption) | exact Nat.le_trans (by assumption) (by decide) | exact Nat.le_of_lt (by assumption) | exact Nat.lt_of_le_of_lt (Nat.le_add_right _ _) (by assumption) | omega) (ent_elems a a' hu)
  rw [show (!(vs.toArray.size == vs'.toArray.size && (List.range vs.toArray.size).all fun _ => true)) = false by rw [List.size_toArray, List.size_toArray, a.length, a'.length]; simp] at this
  exact this
theorem two_elems {a b c d : Value} (h1 : EqW w A.in1 s a c true) (h2 : EqW w A.in1 s b d true) : ∀ j (g1 : j < [a, b].toArray.size) (g2 : j < [c, d].toArray.size), EqW w A.in1 s [a, b].toArray[j] [c, d].toArray[j] true := by
  intro j g1 g2
  have h : j < 2 := by simpa using g1
  match j, h with
  | 0, _ => exact h1
  | 1, _ => exact h2
theorem neT2 {t1 t2 : Addr} {a b c d : Value} (ht1 : s.heap.get? t1 = some (tupO [a, b])) (ht2 : s.heap.get? t2 = some (tupO [c, d])) (h1 : EqW w A.in1 s a c true) (h2 : EqW w A.in1 s b d true) (hu : A.units + 10 < cLine) : RnW w A s (.ref t1) (.ref t2) false :=
  RnW.tup (A := A) (e := fun _ => true) ⟨_, ht1, rfl, _, rfl⟩ ⟨_, ht2, rfl, _, rfl⟩ (by first | assumption | exact ind2 (by assumption) | exact ind1 (by assumption) | exact Nat.le_trans (by assumption) (by decide) | exact Nat.le_of_lt (by assumption) | exact Nat.lt_of_le_of_lt (Nat.le_add_right _ _) (by assumption) | omega) (two_elems h1 h2)
theorem eqT2 {t1 t2 : Addr} {a b c d : Value} (ht1 : s.heap.get? t1 = some (tupO [a, b])) (ht2 : s.heap.get? t2 = some (tupO [c, d])) (h1 : EqW w A.in1 s a c true) (h2 : EqW w A.in1 s b d true) (hu : A.units + 10 < cLine) : RcW w A s (.ref t1) (.ref t2) true :=
  RcW.tup (A := A) (e := fun _ => true) ⟨_, ht1, rfl, _, rfl⟩ ⟨_, ht2, rfl, _, rfl⟩ (by first | assumption | exact ind2 (by assumption) | exact ind1 (by assumption) | exact Nat.le_trans (by assumption) (by decide) | exact Nat.le_of_lt (by assumption) | exact Nat.lt_of_le_of_lt (Nat.le_add_right _ _) (by assumption) | omega) (two_elems h1 h2)
theorem entL_ex {W : Bool} {g : View} {le : Addr} {us : List Vec} (he : EntL w W g le us) (hx : ∃ vs n, g le = some (lstO vs n)) : ∃ vs n, g le = some (lstO vs n) ∧ EntA w W g vs us := by
  obtain ⟨vs, n, e⟩ := hx
  obtain ⟨vs', q1, q2⟩ := he
  have : Sq "list" g le vs := ⟨_, e, rfl, _, rfl⟩
  have := q1.inj this
  subst this
  exact ⟨vs', n, e, q2⟩
end
section
variable {w : World} {mg mb : Str → Option Value} {A : Around} {s s₀ : Shared} {L : Addr} {ns : List Int} {t1 : Tok} {lv le lp x : Addr} {Q : Flow → Shared → Prop} {m : Str → Option Value} {D1 D2 : Addr} {ys1 ys2 : List Value} {k1 k2 : Nat} {T R : List Vec}
/-- the state behind the loop -/
structure Inv3 (w : World) (mg mb : Str → Option Value) (L : Addr) (s₀ : Shared) (ns : List Int) (t1 : Tok) (lv le lp x D1 D2 : Addr) (ys1 ys2 : List Value) (k1 k2 : Nat) (T R : List Vec) (H : List Addr) (s : Shared) : Prop extends Inv2 w mg mb L s₀ ns t1 lv le lp x H s where
  v1 : vw H s.heap D1 = some (lstO ys1 k1)
  v2 : vw H s.heap D2 = some (lstO ys2 k2)
  a1 : EntA w (wideOf ns) (vw H s.heap) ys1 T
  a2 : EntA w (wideOf ns) (vw H s.heap) ys2 R
variable {s' : Shared} {H : List Addr}
theorem Inv3.kb (I : Inv3 w mg mb L s₀ ns t1 lv le lp x D1 D2 ys1 ys2 k1 k2 T R H s) (O : Ok w mg mb [] s₀) (hC : ∀ x ∈ CL L, x ≠ 51) {xs : List Addr} (k : Kb xs s s') (hx : ∀ x ∈ xs, x ∈ H ∧ x ∉ CL L ∧ ∃ o, s'.heap.get? x = some o) (G' : Go s₀ s') : Inv3 w mg mb L s₀ ns t1 lv le lp x D1 D2 ys1 ys2 k1 k2 T R H s' := by
  have le' : Le (vw H s.heap) (vw H s'.heap) := vw_kb k fun x h => (hx x h).1
  exact ⟨I.toInv2.kb O hC k hx G', le' _ _ I.v1, le' _ _ I.v2, EntA.mono I.a1 le', EntA.mono I.a2 le'⟩
theorem Inv3.go (I : Inv3 w mg mb L s₀ ns t1 lv le lp x D1 D2 ys1 ys2 k1 k2 T R H s) (hC : ∀ x ∈ CL L, x ≠ 51) (G : Go s s') : Inv3 w mg mb L s₀ ns t1 lv le lp x D1 D2 ys1 ys2 k1 k2 T R H s' :=
  ⟨I.toInv2.go hC G, vw_go G _ _ I.v1, vw_go G _ _ I.v2, EntA.mono I.a1 (vw_go G), EntA.mono I.a2 (vw_go G)⟩
theorem Inv3.more (I : Inv3 w mg mb L s₀ ns t1 lv le lp x D1 D2 ys1 ys2 k1 k2 T R H s) (hC : ∀ x ∈ CL L, x ≠ 51) (G : Go s s') {xs : List Addr} (hx : ∀ x ∈ xs, s.heap.get? x = none ∧ ∃ o, s'.heap.get? x = some o) : Inv3 w mg mb L s₀ ns t1 lv le lp x D1 D2 ys1 ys2 k1 k2 T R (xs ++ H) s' := by
  have le' := vw_more (ms := H) xs G fun x h => (hx x h).1
  exact ⟨I.toInv2.more hC G hx, le' _ _ I.v1, le' _ _ I.v2, EntA.mono I.a1 le', EntA.mono I.a2 le'⟩
theorem Inv3.less {xs : List Addr} (I : Inv3 w mg mb L s₀ ns t1 lv le lp x D1 D2 ys1 ys2 k1 k2 T R (xs ++ H) s) : Inv3 w mg mb L s₀ ns t1 lv le lp x D1 D2 ys1 ys2 k1 k2 T R H s :=
  ⟨I.toInv2.less, vw_less xs _ _ I.v1, vw_less xs _ _ I.v2, EntA.mono I.a1 (vw_less xs), EntA.mono I.a2 (vw_less xs)⟩
set_option maxHeartbeats 4000000
/-- a call of unorderable_list_difference upon two new lists -/
theorem uldCall {a b : Addr} {W : Bool} {xs ys : List Vec} {exs acs : List Value} {k3 k4 : Nat} {Q : Value → Shared → Prop} (O : Ok w mg mb [] s₀) (hA : Fit A 40 150) (hfr : A.frames = some [lawE w L]) (hH : ∀ x ∈ HL L, s₀.heap.get? x = none) (hns : s.heap.Ns L m)
    (J : Inv3 w mg mb L s₀ ns t1 lv le lp x D1 D2 ys1 ys2 k1 k2 T R ([b] ++ ([a] ++ HL L)) s) (hW : W = wideOf ns) (na : s₀.heap.get? a = none) (nb : s₀.heap.get? b = none) (ab : a ≠ b) (aH : a ∉ HL L) (bH : b ∉ HL L)
    (ha : s.heap.get? a = some (lstO exs k3)) (hb : s.heap.get? b = some (lstO acs k4)) (ex : EntA w W (vw ([b] ++ ([a] ++ HL L)) s.heap) exs xs) (ey : EntA w W (vw ([b] ++ ([a] ++ HL L)) s.heap) acs ys) (hxl : xs.length ≤ 900) (hyl : ys.length ≤ 900)
    (k : ∀ r D s' acs' mis' k1' k2' k3', Kb [a, b, L] s s' → s'.heap.Ns L m → Inv3 w mg mb L s₀ ns t1 lv le lp x D1 D2 ys1 ys2 k1 k2 T R ([b] ++ ([a] ++ HL L)) s' → s.heap.get? r = none → s.heap.get? D = none → s'.heap.get? r = some (tupO [.ref D, .ref b]) → s'.heap.get? a = some (lstO [] k1') → s'.heap.get? b = some (lstO acs' k2') → s'.heap.get? D = some (lstO mis' k3') →
      EntA w W (vw ([b] ++ ([a] ++ HL L)) s'.heap) mis' (uld xs ys).1 → EntA w W (vw ([b] ++ ([a] ++ HL L)) s'.heap) acs' (uld xs ys).2 → Q (.ref r) s') {E : Value → Shared → Prop} :
    wpAny (MD w) A (call (.ref 63) [.ref a, .ref b]) Q E s := by
  have n51 : ∀ x ∈ HL L, x ≠ 51 := fun x hx => O.top.ne51 (hH x hx)
  have hC : ∀ x ∈ CL L, x ≠ 51 := fun x hx => n51 x (List.mem_cons_of_mem _ hx)
  have aC : a ∉ CL L := fun h => aH (List.mem_cons_of_mem _ h)
  have bC : b ∉ CL L := fun h => bH (List.mem_cons_of_mem _ h)
  have aL : a ≠ L := fun h => aH (by rw [h]; first | exact zm0 | exact zm1 | exact zm2 | exact zm3 | exact zm4 | exact zm5 | exact zm6 | exact zm7 | simp)
  have bL : b ≠ L := fun h => bH (by rw [h]; first | exact zm0 | exact zm1 | exact zm2 | exact zm3 | exact zm4 | exact zm5 | exact zm6 | exact zm7 | simp)
  refine uld_spec (L0 := L) (m0 := m) (H := [b] ++ ([a] ++ HL L)) (outer := lawE w L) (W := W) O J.G hA.le hfr rfl rfl (hH L (by first | exact zm0 | exact zm1 | exact zm2 | exact zm3 | exact zm4 | exact zm5 | exact zm6 | exact zm7 | exact zs0 | exact zs1 | exact zs2 | exact zs3 | exact zn0 | exact zn1 (by decide) | exact cl_self _ | exact sub2 (by first | exact zm0 | exact zm1 | exact zm2 | exact zm3 | exact zm4 | exact zm5 | exact zm6 | exact zm7) (by first | exact zm0 | exact zm1 | exact zm2 | exact zm3 | exact zm4 | exact zm5 | exact zm6 | exact zm7) | simp)) na nb ab aL bL (by first | exact zm0 | exact zm1 | exact zm2 | exact zm3 | exact zm4 | exact zm5 | exact zm6 | exact zm7 | exact zs0 | exact zs1 | exact zs2 | exact zs3 | exact zn0 | exact zn1 (by decide) | exact cl_self _ | exact sub2 (by first | exact zm0 | exact zm1 | exact zm2 | exact zm3 | exact zm4 | exact zm5 | exact zm6 | exact zm7) (by first | exact zm0 | exact zm1 | exact zm2 | exact zm3 | exact zm4 | exact zm5 | exact zm6 | exact zm7) | simp) hns ha hb ex ey hxl hyl ?_
  intro r D s2 acs' mis' k1' k2' k3' G2 kb hns2 hr hD hro ha2 hb2 hD2 e1 e2
  refine k r D s2 acs' mis' k1' k2' k3' kb hns2 ?_ hr hD hro ha2 hb2 hD2 e1 e2
  refine J.kb O hC kb ?_ G2
  intro y hy
  simp only [List.mem_cons, List.not_mem_nil, or_false] at hy
  rcases hy with rfl | rfl | rfl
  · exact ⟨by simp, aC, _, ha2⟩
  · exact ⟨by simp, bC, _, hb2⟩
  · exact ⟨by simp, by simp, ns_live hns2⟩
end
end Mine
end TextWb
section TextWc
namespace Mine
open PySem PySem.W PySem.Calls PyProof.Rows PySem.Spec
section
variable {w : World} {mg mb : Str → Option Value} {A : Around} {s s₀ : Shared} {L : Addr} {ns : List Int} {t1 : Tok} {lv le lp x : Addr} {Q : Flow → Shared → Prop} {m : Str → Option Value} {D1 D2 : Addr} {ys1 ys2 : List Value} {k1 k2 : Nat} {T R : List Vec}
set_option maxHeartbeats 4000000
/-- given, left, told, and the first question -/
theorem law1114 (O : Ok w mg mb [] s₀) (hA : Fit A 40 150) (hfr : A.frames = some [lawE w L]) (hH : ∀ x ∈ HL L, s₀.heap.get? x = none) (hns : s.heap.Ns L m) (mt : m "tops" = some (.ref D1)) (mr : m "ringed" = some (.ref D2))
    (J : Inv3 w mg mb L s₀ ns t1 lv le lp x D1 D2 ys1 ys2 k1 k2 T R (HL L) s) (hT : T.length ≤ 24)
    (k : ∀ s' m', s'.heap.Ns L m' → m' "tops" = some (.ref D1) → m' "ringed" = some (.ref D2) → Inv3 w mg mb L s₀ ns t1 lv le lp x D1 D2 ys1 ys2 k1 k2 T R (HL L) s' → wpAny (MD w) A (execs (lawB w 15) (lawE w L)) Q NE s') :
    wpAny (MD w) A (execs (lawB w 11) (lawE w L)) Q NE s := by
  have n51 : ∀ x ∈ HL L, x ≠ 51 := fun x hx => O.top.ne51 (hH x hx)
  have hC : ∀ x ∈ CL L, x ≠ 51 := fun x hx => n51 x (List.mem_cons_of_mem _ hx)
  have hL := hH L (by first | exact zm0 | exact zm1 | exact zm2 | exact zm3 | exact zm4 | exact zm5 | exact zm6 | exact zm7 | exact zs0 | exact zs1 | exact zs2 | exact zs3 | exact zn0 | exact zn1 (by decide) | exact cl_self _ | exact sub2 (by first | exact zm0 | exact zm1 | exact zm2 | exact zm3 | exact zm4 | exact zm5 | exact zm6 | exact zm7) (by first | exact zm0 | exact zm1 | exact zm2 | exact zm3 | exact zm4 | exact zm5 | exact zm6 | exact zm7) | simp)
  have hul : (usOf ns).length ≤ 4 := us_le4 ns
  have hu10 : A.units + 20 < cLine := hA.uu (by decide)
  have hu11 : A.in1.units + 10 < cLine := hA.uu1 (by decide)
  have hy1 := J.a1.length
  -- given = list(tops)
  refine wpAny_execs_cons ?_
  refine absQ fun Qs1 hQs1 => ?_
  refine wpAny_Assign_Name ?_
  refine PyProof.Rows.Call_ ?_
  refine nB J.ok.top (g_list w) ?_
  refine PyProof.Rows.callWith_type1 ?_
  refine args_cons ?_
  refine nL hns mt ?_
  refine args_nil ?_
  refine cpy (vs := ys1) ⟨_, vw_get J.v1, rfl, _, rfl⟩ (by first | assumption | exact ind2 (by assumption) | exact ind1 (by assumption) | exact Nat.le_trans (by assumption) (by decide) | exact Nat.le_of_lt (by assumption) | exact Nat.lt_of_le_of_lt (Nat.le_add_right _ _) (by assumption) | omega) ?_
  intro a s1 ca ha hao p1
  have J1 := J.more hC p1.go (xs := [a]) (by first | exact nin1 (⟨ha, _, hao⟩) | exact ninp (⟨ha, _, hao⟩) | exact nin3 (⟨ha, _, hao⟩) | exact zall1 (⟨ha, _, hao⟩) | exact zall2 (⟨ha, _, hao⟩) | exact zall3 (⟨ha, _, hao⟩) | exact zall4 (⟨ha, _, hao⟩) | exact kbL0 (⟨ha, _, hao⟩) | exact kbL1 (⟨ha, _, hao⟩) | exact kbL2 (⟨ha, _, hao⟩) | exact kbL3 (⟨ha, _, hao⟩) | exact kbL4 (⟨ha, _, hao⟩) | exact kbI (⟨ha, _, hao⟩) | (simp; exact ⟨ha, _, hao⟩))
  have Na := O.new J.G ha
  have Fa := J.ok.fresh ha
  have aL : a ≠ L := fun h => Fa.2 (by rw [h]; first | exact zm0 | exact zm1 | exact zm2 | exact zm3 | exact zm4 | exact zm5 | exact zm6 | exact zm7 | simp)
  refine sL O J1.G hL (hns.keeps p1.1) ?_
  intro s2 G2 hns2 hs2
  have kL2 : Kb [L] s1 s2 := Kb.same (a := L) hs2 (by first | exact zm0 | exact zm1 | exact zm2 | exact zm3 | exact zm4 | exact zm5 | exact zm6 | exact zm7 | exact zs0 | exact zs1 | exact zs2 | exact zs3 | exact zn0 | exact zn1 (by decide) | exact cl_self _ | exact sub2 (by first | exact zm0 | exact zm1 | exact zm2 | exact zm3 | exact zm4 | exact zm5 | exact zm6 | exact zm7) (by first | exact zm0 | exact zm1 | exact zm2 | exact zm3 | exact zm4 | exact zm5 | exact zm6 | exact zm7) | simp)
  have J2 := J1.kb O hC kL2 (by first | exact nin1 (ns_live hns2) | exact ninp (ns_live hns2) | exact nin3 (ns_live hns2) | exact zall1 (ns_live hns2) | exact zall2 (ns_live hns2) | exact zall3 (ns_live hns2) | exact zall4 (ns_live hns2) | exact kbL0 (ns_live hns2) | exact kbL1 (ns_live hns2) | exact kbL2 (ns_live hns2) | exact kbL3 (ns_live hns2) | exact kbL4 (ns_live hns2) | exact kbI (ns_live hns2) | (simp; exact ns_live hns2)) G2
  have ao2 := kL2 _ _ Fa.1 (by first | exact nin1 (aL) | exact ninp (aL) | exact nin3 (aL) | exact zall1 (aL) | exact zall2 (aL) | exact zall3 (aL) | exact zall4 (aL) | exact kbL0 (aL) | exact kbL1 (aL) | exact kbL2 (aL) | exact kbL3 (aL) | exact kbL4 (aL) | exact kbI (aL) | (simp; exact aL)) hao
  refine hQs1 _ _ ?_
  try dsimp only
  -- left = list(entries)
  refine wpAny_execs_cons ?_
  refine absQ fun Qs2 hQs2 => ?_
  refine wpAny_Assign_Name ?_
  refine PyProof.Rows.Call_ ?_
  refine nB J2.ok.top (g_list w) ?_
  refine PyProof.Rows.callWith_type1 ?_
  refine args_cons ?_
  refine nC (c := L + 4) rfl J2.c4 ?_
  refine args_nil ?_
  obtain ⟨evs, ke, ve, ae⟩ := entL_ex J2.he J2.ex
  have hel := ae.length
  refine cpy (vs := evs) ⟨_, vw_get ve, rfl, _, rfl⟩ (by first | assumption | exact ind2 (by assumption) | exact ind1 (by assumption) | exact Nat.le_trans (by assumption) (by decide) | exact Nat.le_of_lt (by assumption) | exact Nat.lt_of_le_of_lt (Nat.le_add_right _ _) (by assumption) | omega) ?_
  intro b s3 cb hb hbo p3
  have J3 := J2.more hC p3.go (xs := [b]) (by first | exact nin1 (⟨hb, _, hbo⟩) | exact ninp (⟨hb, _, hbo⟩) | exact nin3 (⟨hb, _, hbo⟩) | exact zall1 (⟨hb, _, hbo⟩) | exact zall2 (⟨hb, _, hbo⟩) | exact zall3 (⟨hb, _, hbo⟩) | exact zall4 (⟨hb, _, hbo⟩) | exact kbL0 (⟨hb, _, hbo⟩) | exact kbL1 (⟨hb, _, hbo⟩) | exact kbL2 (⟨hb, _, hbo⟩) | exact kbL3 (⟨hb, _, hbo⟩) | exact kbL4 (⟨hb, _, hbo⟩) | exact kbI (⟨hb, _, hbo⟩) | (simp; exact ⟨hb, _, hbo⟩))
  have Nb := O.new J2.G hb
  have Fb := J2.ok.fresh hb
  have bL : b ≠ L := fun h => Fb.2 (by rw [h]; first | exact zm0 | exact zm1 | exact zm2 | exact zm3 | exact zm4 | exact zm5 | exact zm6 | exact zm7 | simp)
  have ab : a ≠ b := ne_of_get ao2 hb
  have ae3 : EntA w (wideOf ns) (vw ([b] ++ ([a] ++ HL L)) s3.heap) evs (usOf ns) := EntA.mono ae (vw_more [b] p3.go (by first | exact zall1 hb | exact nin1 hb | simpa using hb))
  refine sL O J3.G hL (hns2.keeps p3.1) ?_
  intro s4 G4 hns4 hs4
  have kL4 : Kb [L] s3 s4 := Kb.same (a := L) hs4 (by first | exact zm0 | exact zm1 | exact zm2 | exact zm3 | exact zm4 | exact zm5 | exact zm6 | exact zm7 | exact zs0 | exact zs1 | exact zs2 | exact zs3 | exact zn0 | exact zn1 (by decide) | exact cl_self _ | exact sub2 (by first | exact zm0 | exact zm1 | exact zm2 | exact zm3 | exact zm4 | exact zm5 | exact zm6 | exact zm7) (by first | exact zm0 | exact zm1 | exact zm2 | exact zm3 | exact zm4 | exact zm5 | exact zm6 | exact zm7) | simp)
  have J4 := J3.kb O hC kL4 (by first | exact nin1 (ns_live hns4) | exact ninp (ns_live hns4) | exact nin3 (ns_live hns4) | exact zall1 (ns_live hns4) | exact zall2 (ns_live hns4) | exact zall3 (ns_live hns4) | exact zall4 (ns_live hns4) | exact kbL0 (ns_live hns4) | exact kbL1 (ns_live hns4) | exact kbL2 (ns_live hns4) | exact kbL3 (ns_live hns4) | exact kbL4 (ns_live hns4) | exact kbI (ns_live hns4) | (simp; exact ns_live hns4)) G4
  have ao4 := kL4 _ _ Fa.1 (by first | exact nin1 (aL) | exact ninp (aL) | exact nin3 (aL) | exact zall1 (aL) | exact zall2 (aL) | exact zall3 (aL) | exact zall4 (aL) | exact kbL0 (aL) | exact kbL1 (aL) | exact kbL2 (aL) | exact kbL3 (aL) | exact kbL4 (aL) | exact kbI (aL) | (simp; exact aL)) (p3.1 _ _ ao2)
  have bo4 := kL4 _ _ Fb.1 (by first | exact nin1 (bL) | exact ninp (bL) | exact nin3 (bL) | exact zall1 (bL) | exact zall2 (bL) | exact zall3 (bL) | exact zall4 (bL) | exact kbL0 (bL) | exact kbL1 (bL) | exact kbL2 (bL) | exact kbL3 (bL) | exact kbL4 (bL) | exact kbI (bL) | (simp; exact bL)) hbo
  have ae4 := EntA.mono ae3 (vw_kb (ys := [b] ++ ([a] ++ HL L)) kL4 (by first | exact zm0 | exact zm1 | exact zm2 | exact zm3 | exact zm4 | exact zm5 | exact zm6 | exact zm7 | exact zs0 | exact zs1 | exact zs2 | exact zs3 | exact zn0 | exact zn1 (by decide) | exact cl_self _ | exact sub2 (by first | exact zm0 | exact zm1 | exact zm2 | exact zm3 | exact zm4 | exact zm5 | exact zm6 | exact zm7) (by first | exact zm0 | exact zm1 | exact zm2 | exact zm3 | exact zm4 | exact zm5 | exact zm6 | exact zm7) | simp))
  refine hQs2 _ _ ?_
  try dsimp only
  -- told = unorderable_list_difference(given, left)
  refine wpAny_execs_cons ?_
  refine absQ fun Qs3 hQs3 => ?_
  refine wpAny_Assign_Name ?_
  refine callG J4.ok.top (f_uld w) (by kernel_rfl) ?_
  refine args_cons ?_
  refine nL hns4 rfl ?_
  refine args_cons ?_
  refine nL hns4 rfl ?_
  refine args_nil ?_
  refine ⟨J4.ok.top.k, ?_⟩
  refine uldCall (a := a) (b := b) (W := wideOf ns) O hA hfr hH hns4 J4 rfl Na.1 Nb.1 ab Fa.2 (fun h => Fb.2 (List.mem_append_right _ h)) ao4 bo4 J4.a1 ae4 (by first | assumption | exact ind2 (by assumption) | exact ind1 (by assumption) | exact Nat.le_trans (by assumption) (by decide) | exact Nat.le_of_lt (by assumption) | exact Nat.lt_of_le_of_lt (Nat.le_add_right _ _) (by assumption) | omega) (by first | assumption | exact ind2 (by assumption) | exact ind1 (by assumption) | exact Nat.le_trans (by assumption) (by decide) | exact Nat.le_of_lt (by assumption) | exact Nat.lt_of_le_of_lt (Nat.le_add_right _ _) (by assumption) | omega) ?_
  intro r D s5 acs' mis' q1 q2 q3 kb5 hns5 J5 hr hD hro ao5 bo5 Do5 eM eR
  have Nr := J4.ok.fresh hr
  have ND := J4.ok.fresh hD
  have rL : r ≠ L := fun h => Nr.2 (by rw [h]; first | exact zm0 | exact zm1 | exact zm2 | exact zm3 | exact zm4 | exact zm5 | exact zm6 | exact zm7 | simp)
  have DL : D ≠ L := fun h => ND.2 (by rw [h]; first | exact zm0 | exact zm1 | exact zm2 | exact zm3 | exact zm4 | exact zm5 | exact zm6 | exact zm7 | simp)
  refine sL O J5.G hL hns5 ?_
  intro s6 G6 hns6 hs6
  have kL6 : Kb [L] s5 s6 := Kb.same (a := L) hs6 (by first | exact zm0 | exact zm1 | exact zm2 | exact zm3 | exact zm4 | exact zm5 | exact zm6 | exact zm7 | exact zs0 | exact zs1 | exact zs2 | exact zs3 | exact zn0 | exact zn1 (by decide) | exact cl_self _ | exact sub2 (by first | exact zm0 | exact zm1 | exact zm2 | exact zm3 | exact zm4 | exact zm5 | exact zm6 | exact zm7) (by first | exact zm0 | exact zm1 | exact zm2 | exact zm3 | exact zm4 | exact zm5 | exact zm6 | exact zm7) | simp)
  have J6 := J5.kb O hC kL6 (by first | exact nin1 (ns_live hns6) | exact ninp (ns_live hns6) | exact nin3 (ns_live hns6) | exact zall1 (ns_live hns6) | exact zall2 (ns_live hns6) | exact zall3 (ns_live hns6) | exact zall4 (ns_live hns6) | exact kbL0 (ns_live hns6) | exact kbL1 (ns_live hns6) | exact kbL2 (ns_live hns6) | exact kbL3 (ns_live hns6) | exact kbL4 (ns_live hns6) | exact kbI (ns_live hns6) | (simp; exact ns_live hns6)) G6
  have le6 := vw_kb (ys := [b] ++ ([a] ++ HL L)) kL6 (by first | exact zm0 | exact zm1 | exact zm2 | exact zm3 | exact zm4 | exact zm5 | exact zm6 | exact zm7 | exact zs0 | exact zs1 | exact zs2 | exact zs3 | exact zn0 | exact zn1 (by decide) | exact cl_self _ | exact sub2 (by first | exact zm0 | exact zm1 | exact zm2 | exact zm3 | exact zm4 | exact zm5 | exact zm6 | exact zm7) (by first | exact zm0 | exact zm1 | exact zm2 | exact zm3 | exact zm4 | exact zm5 | exact zm6 | exact zm7) | simp)
  have ro6 := kL6 _ _ Nr.1 (by first | exact nin1 (rL) | exact ninp (rL) | exact nin3 (rL) | exact zall1 (rL) | exact zall2 (rL) | exact zall3 (rL) | exact zall4 (rL) | exact kbL0 (rL) | exact kbL1 (rL) | exact kbL2 (rL) | exact kbL3 (rL) | exact kbL4 (rL) | exact kbI (rL) | (simp; exact rL)) hro
  have ao6 := kL6 _ _ Fa.1 (by first | exact nin1 (aL) | exact ninp (aL) | exact nin3 (aL) | exact zall1 (aL) | exact zall2 (aL) | exact zall3 (aL) | exact zall4 (aL) | exact kbL0 (aL) | exact kbL1 (aL) | exact kbL2 (aL) | exact kbL3 (aL) | exact kbL4 (aL) | exact kbI (aL) | (simp; exact aL)) ao5
  have bo6 := kL6 _ _ Fb.1 (by first | exact nin1 (bL) | exact ninp (bL) | exact nin3 (bL) | exact zall1 (bL) | exact zall2 (bL) | exact zall3 (bL) | exact zall4 (bL) | exact kbL0 (bL) | exact kbL1 (bL) | exact kbL2 (bL) | exact kbL3 (bL) | exact kbL4 (bL) | exact kbI (bL) | (simp; exact bL)) bo5
  have Do6 := kL6 _ _ ND.1 (by first | exact nin1 (DL) | exact ninp (DL) | exact nin3 (DL) | exact zall1 (DL) | exact zall2 (DL) | exact zall3 (DL) | exact zall4 (DL) | exact kbL0 (DL) | exact kbL1 (DL) | exact kbL2 (DL) | exact kbL3 (DL) | exact kbL4 (DL) | exact kbI (DL) | (simp; exact DL)) Do5
  replace eM := EntA.mono eM le6
  replace eR := EntA.mono eR le6
  rw [uld_parted] at eM eR
  refine hQs3 _ _ ?_
  try dsimp only
  -- the question
  refine wpAny_execs_cons ?_
  refine wpAny_If ?_
  refine isTrue_or ?_
  refine wpAny_isTrue_Compare1 ?_
  refine nL hns6 rfl ?_
  refine callG J6.ok.top (f_parted w) (by kernel_rfl) ?_
  refine args_cons ?_
  refine nL hns6 mt ?_
  refine args_cons ?_
  refine nC (c := L + 4) rfl J6.c4 ?_
  refine args_nil ?_
  refine ⟨J6.ok.top.k, ?_⟩
  obtain ⟨evs6, ke6, ve6, ae6⟩ := entL_ex J6.he J6.ex
  refine parted_spec (W := wideOf ns) J6.ok hA.le J6.v1 ve6 J6.a1 ae6 (by first | assumption | exact ind2 (by assumption) | exact ind1 (by assumption) | exact Nat.le_trans (by assumption) (by decide) | exact Nat.le_of_lt (by assumption) | exact Nat.lt_of_le_of_lt (Nat.le_add_right _ _) (by assumption) | omega) (by first | assumption | exact ind2 (by assumption) | exact ind1 (by assumption) | exact Nat.le_trans (by assumption) (by decide) | exact Nat.le_of_lt (by assumption) | exact Nat.lt_of_le_of_lt (Nat.le_add_right _ _) (by assumption) | omega) ?_
  intro r2 P1 P2 s7 mis res kk1 kk2 G7 hr2 _ _ _ hP1 hP2 eP1 eP2
  have J7 := J6.go hC G7
  have hns7 := hns6.at' (h' := s7.heap) fun o e => G7.keep _ o (n51 L (by first | exact zm0 | exact zm1 | exact zm2 | exact zm3 | exact zm4 | exact zm5 | exact zm6 | exact zm7 | exact zs0 | exact zs1 | exact zs2 | exact zs3 | exact zn0 | exact zn1 (by decide) | exact cl_self _ | exact sub2 (by first | exact zm0 | exact zm1 | exact zm2 | exact zm3 | exact zm4 | exact zm5 | exact zm6 | exact zm7) (by first | exact zm0 | exact zm1 | exact zm2 | exact zm3 | exact zm4 | exact zm5 | exact zm6 | exact zm7) | simp)) e
  have ro7 := G7.keep _ _ Nr.1 ro6
  have ao7 := G7.keep _ _ Fa.1 ao6
  have bo7 := G7.keep _ _ Fb.1 bo6
  have Do7 := G7.keep _ _ ND.1 Do6
  have le7 := vw_go (ms := [b] ++ ([a] ++ HL L)) G7
  refine neT2 (A := A) ro7 hr2 (eqLs (A := A.in1) ⟨_, Do7, rfl, _, rfl⟩ ⟨_, hP1, rfl, _, rfl⟩ (EntA.mono eM le7) eP1 hu11) (eqLs (A := A.in1) ⟨_, bo7, rfl, _, rfl⟩ ⟨_, hP2, rfl, _, rfl⟩ (EntA.mono eR le7) eP2 hu11) (by first | assumption | exact ind2 (by assumption) | exact ind1 (by assumption) | exact Nat.le_trans (by assumption) (by decide) | exact Nat.le_of_lt (by assumption) | exact Nat.lt_of_le_of_lt (Nat.le_add_right _ _) (by assumption) | omega) _ _ ?_
  refine wpAny_truthy_bool ?_
  rw [if_neg Bool.false_ne_true]
  refine isTrue_or ?_
  refine wpAny_isTrue_Compare1 ?_
  refine PyProof.Rows.Subscript_ ?_
  refine nL hns7 rfl ?_
  refine wpAny_Constant_int ?_
  refine item_tupleT (l := [.ref D, .ref b]) (x := .ref b) (j := 1) ⟨_, ro7, rfl, _, rfl⟩ (by decide) (by decide) rfl rfl ?_
  refine nL (s := { s7 with toks := _ }) hns7 rfl ?_
  refine wpAny_isNot_ref_self ?_
  refine wpAny_truthy_bool ?_
  rw [if_neg Bool.false_ne_true]
  refine isTrue_or ?_
  refine wpAny_isTrue_Compare1 ?_
  refine nL (s := { s7 with toks := _ }) hns7 rfl ?_
  refine PyProof.Rows.List_ ?_
  refine args_nil ?_
  refine mkL (small_list (Nat.le_of_ble_eq_true rfl)) fun z s8 hz hzo p8 => ?_
  replace p8 : Kp s7 s8 := p8
  refine RnW.lst (A := A) (e := fun _ => true) ⟨_, p8.1 _ _ ao7, rfl, _, rfl⟩ ⟨_, hzo, rfl, _, rfl⟩ (by first | assumption | exact ind2 (by assumption) | exact ind1 (by assumption) | exact Nat.le_trans (by assumption) (by decide) | exact Nat.le_of_lt (by assumption) | exact Nat.lt_of_le_of_lt (Nat.le_add_right _ _) (by assumption) | omega) (fun j h1 _ => absurd h1 (Nat.not_lt_zero j)) _ _ ?_
  refine wpAny_truthy_bool ?_
  rw [if_neg (by decide)]
  refine isTrue_or_nil ?_
  rw [if_neg Bool.false_ne_true]
  refine wpAny_execs_nil ?_
  try dsimp only
  exact k s8 _ (hns7.keeps p8.1) mt mr (J7.go hC p8.go).less.less
end
end Mine
end TextWc
section TextWd
namespace Mine
open PySem PySem.W PySem.Calls PyProof.Rows PySem.Spec
section
variable {w : World} {mg mb : Str → Option Value} {A : Around} {s s₀ : Shared} {L : Addr} {ns : List Int} {t1 : Tok} {lv le lp x : Addr} {Q : Flow → Shared → Prop} {m : Str → Option Value} {D1 D2 : Addr} {ys1 ys2 : List Value} {k1 k2 : Nat} {T R : List Vec}
set_option maxHeartbeats 4000000
/-- the second question -/
theorem law15 (O : Ok w mg mb [] s₀) (hA : Fit A 40 150) (hfr : A.frames = some [lawE w L]) (hH : ∀ x ∈ HL L, s₀.heap.get? x = none) (hns : s.heap.Ns L m) (mt : m "tops" = some (.ref D1))
    (J : Inv3 w mg mb L s₀ ns t1 lv le lp x D1 D2 ys1 ys2 k1 k2 T R (HL L) s) (hT : T.length ≤ 24)
    (k : ∀ s', s'.heap.Ns L m → Inv3 w mg mb L s₀ ns t1 lv le lp x D1 D2 ys1 ys2 k1 k2 T R (HL L) s' → wpAny (MD w) A (execs (lawB w 16) (lawE w L)) Q NE s') :
    wpAny (MD w) A (execs (lawB w 15) (lawE w L)) Q NE s := by
  have n51 : ∀ x ∈ HL L, x ≠ 51 := fun x hx => O.top.ne51 (hH x hx)
  have hC : ∀ x ∈ CL L, x ≠ 51 := fun x hx => n51 x (List.mem_cons_of_mem _ hx)
  have hul : (usOf ns).length ≤ 4 := us_le4 ns
  have hu10 : A.units + 20 < cLine := hA.uu (by decide)
  have hu11 : A.in1.units + 10 < cLine := hA.uu1 (by decide)
  have hy1 := J.a1.length
  obtain ⟨evs, ke, ve, ae⟩ := entL_ex J.he J.ex
  have hel := ae.length
  refine wpAny_execs_cons ?_
  refine wpAny_If ?_
  refine wpAny_isTrue_Compare1 ?_
  refine callG J.ok.top (f_uld w) (by kernel_rfl) ?_
  refine args_cons ?_
  refine wpAny_BinOp ?_
  refine nL hns mt ?_
  refine nC (c := L + 4) rfl J.c4 ?_
  refine addLL (xs := ys1) (ys := evs) ⟨_, vw_get J.v1, rfl, _, rfl⟩ ⟨_, vw_get ve, rfl, _, rfl⟩ (by first | assumption | exact ind2 (by assumption) | exact ind1 (by assumption) | exact Nat.le_trans (by assumption) (by decide) | exact Nat.le_of_lt (by assumption) | exact Nat.lt_of_le_of_lt (Nat.le_add_right _ _) (by assumption) | omega) ?_
  intro a s1 ha hao p1
  have J1 := J.more hC p1.go (xs := [a]) (by first | exact nin1 (⟨ha, _, hao⟩) | exact ninp (⟨ha, _, hao⟩) | exact nin3 (⟨ha, _, hao⟩) | exact zall1 (⟨ha, _, hao⟩) | exact zall2 (⟨ha, _, hao⟩) | exact zall3 (⟨ha, _, hao⟩) | exact zall4 (⟨ha, _, hao⟩) | exact kbL0 (⟨ha, _, hao⟩) | exact kbL1 (⟨ha, _, hao⟩) | exact kbL2 (⟨ha, _, hao⟩) | exact kbL3 (⟨ha, _, hao⟩) | exact kbL4 (⟨ha, _, hao⟩) | exact kbI (⟨ha, _, hao⟩) | (simp; exact ⟨ha, _, hao⟩))
  have Na := O.new J.G ha
  have Fa := J.ok.fresh ha
  refine args_cons ?_
  refine PyProof.Rows.Call_ ?_
  refine nB J1.ok.top (g_list w) ?_
  refine PyProof.Rows.callWith_type1 ?_
  refine args_cons ?_
  refine nC (c := L + 4) rfl J1.c4 ?_
  refine args_nil ?_
  refine cpy (vs := evs) ⟨_, p1.1 _ _ (vw_get ve), rfl, _, rfl⟩ (by first | assumption | exact ind2 (by assumption) | exact ind1 (by assumption) | exact Nat.le_trans (by assumption) (by decide) | exact Nat.le_of_lt (by assumption) | exact Nat.lt_of_le_of_lt (Nat.le_add_right _ _) (by assumption) | omega) ?_
  intro b s2 cb hb hbo p2
  have J2 := J1.more hC p2.go (xs := [b]) (by first | exact nin1 (⟨hb, _, hbo⟩) | exact ninp (⟨hb, _, hbo⟩) | exact nin3 (⟨hb, _, hbo⟩) | exact zall1 (⟨hb, _, hbo⟩) | exact zall2 (⟨hb, _, hbo⟩) | exact zall3 (⟨hb, _, hbo⟩) | exact zall4 (⟨hb, _, hbo⟩) | exact kbL0 (⟨hb, _, hbo⟩) | exact kbL1 (⟨hb, _, hbo⟩) | exact kbL2 (⟨hb, _, hbo⟩) | exact kbL3 (⟨hb, _, hbo⟩) | exact kbL4 (⟨hb, _, hbo⟩) | exact kbI (⟨hb, _, hbo⟩) | (simp; exact ⟨hb, _, hbo⟩))
  have Nb := O.new J1.G hb
  have Fb := J1.ok.fresh hb
  have ab : a ≠ b := ne_of_get hao hb
  have ae2 : EntA w (wideOf ns) (vw ([b] ++ ([a] ++ HL L)) s2.heap) evs (usOf ns) := EntA.mono (EntA.mono ae (vw_more [a] p1.go (by first | exact zall1 ha | exact nin1 ha | simpa using ha))) (vw_more [b] p2.go (by first | exact zall1 hb | exact nin1 hb | simpa using hb))
  have hns2 := (hns.keeps p1.1).keeps p2.1
  refine args_nil ?_
  refine ⟨J2.ok.top.k, ?_⟩
  refine uldCall (a := a) (b := b) (W := wideOf ns) (xs := T ++ usOf ns) (ys := usOf ns) O hA hfr hH hns2 J2 rfl Na.1 Nb.1 ab Fa.2 (fun h => Fb.2 (List.mem_append_right _ h)) (p2.1 _ _ hao) hbo (J2.a1.append ae2) ae2 (by rw [List.length_append]; omega) (by first | assumption | exact ind2 (by assumption) | exact ind1 (by assumption) | exact Nat.le_trans (by assumption) (by decide) | exact Nat.le_of_lt (by assumption) | exact Nat.lt_of_le_of_lt (Nat.le_add_right _ _) (by assumption) | omega) ?_
  intro r D s5 acs' mis' q1 q2 q3 kb5 hns5 J5 hr hD hro ao5 bo5 Do5 eM eR
  rw [uld_both] at eM eR
  have Nr := J2.ok.fresh hr
  have ND := J2.ok.fresh hD
  -- (tops[::-1], [])
  refine PyProof.Rows.Tuple_ ?_
  refine args_cons ?_
  refine subSliceS slot_list_getitem.lookup ?_
  refine nL hns5 mt ?_
  refine wpAny_Slice ?_
  refine wpAny_evalPart_none ?_
  refine wpAny_evalPart_none ?_
  refine wpAny_evalPart_some ?_
  refine wpAny_UnaryOp ?_
  refine wpAny_Constant_int ?_
  refine neg_int ?_
  refine sliceL (s := { s5 with toks := s5.toks + 1 + 1 }) (items := ys1) ⟨_, vw_get J5.v1, rfl, _, rfl⟩ (by first | assumption | exact ind2 (by assumption) | exact ind1 (by assumption) | exact Nat.le_trans (by assumption) (by decide) | exact Nat.le_of_lt (by assumption) | exact Nat.lt_of_le_of_lt (Nat.le_add_right _ _) (by assumption) | omega) .none .none (.int (-1) (s5.toks + 1)) (by first | exact zm0 | exact zm1 | exact zm2 | exact zm3 | exact zm4 | exact zm5 | exact zm6 | exact zm7 | exact zs0 | exact zs1 | exact zs2 | exact zs3 | exact zn0 | exact zn1 (by decide) | exact cl_self _ | exact sub2 (by first | exact zm0 | exact zm1 | exact zm2 | exact zm3 | exact zm4 | exact zm5 | exact zm6 | exact zm7) (by first | exact zm0 | exact zm1 | exact zm2 | exact zm3 | exact zm4 | exact zm5 | exact zm6 | exact zm7) | simp) ?_ _ rfl
  intro z s6 hz hzo p6
  replace p6 : Kp s5 s6 := p6
  rw [krv_pick] at hzo
  refine args_cons ?_
  refine PyProof.Rows.List_ ?_
  refine args_nil ?_
  refine mkL (small_list (Nat.le_of_ble_eq_true rfl)) fun y s7 hy hyo p7 => ?_
  refine args_nil ?_
  refine mkT (small_list (Nat.le_of_ble_eq_true rfl)) fun tt s8 htt htto p8 => ?_
  have p58 := (p6.trans p7).trans p8
  have le58 := vw_go (ms := [b] ++ ([a] ++ HL L)) p58.go
  refine neT2 (A := A) (p58.1 _ _ hro) htto (eqLs (A := A.in1) (vs' := ys1.reverse) ⟨_, p58.1 _ _ Do5, rfl, _, rfl⟩ ⟨_, p8.1 _ _ (p7.1 _ _ hzo), rfl, _, rfl⟩ (EntA.mono eM le58) (EntA.mono J5.a1.reverse le58) hu11) (eqLs (A := A.in1) (vs' := []) ⟨_, p58.1 _ _ bo5, rfl, _, rfl⟩ ⟨_, p8.1 _ _ hyo, rfl, _, rfl⟩ (EntA.mono eR le58) .nil hu11) (by first | assumption | exact ind2 (by assumption) | exact ind1 (by assumption) | exact Nat.le_trans (by assumption) (by decide) | exact Nat.le_of_lt (by assumption) | exact Nat.lt_of_le_of_lt (Nat.le_add_right _ _) (by assumption) | omega) _ _ ?_
  refine wpAny_truthy_bool ?_
  rw [if_neg Bool.false_ne_true]
  refine wpAny_execs_nil ?_
  try dsimp only
  exact k s8 (hns5.keeps p58.1) (J5.go hC p58.go).less.less
/-- the third question -/
theorem law16 (O : Ok w mg mb [] s₀) (hA : Fit A 40 150) (hH : ∀ x ∈ HL L, s₀.heap.get? x = none) (hns : s.heap.Ns L m)
    (J : Inv3 w mg mb L s₀ ns t1 lv le lp x D1 D2 ys1 ys2 k1 k2 T R (HL L) s)
    (k : ∀ s', s'.heap.Ns L m → Inv3 w mg mb L s₀ ns t1 lv le lp x D1 D2 ys1 ys2 k1 k2 T R (HL L) s' → wpAny (MD w) A (execs (lawB w 17) (lawE w L)) Q NE s') :
    wpAny (MD w) A (execs (lawB w 16) (lawE w L)) Q NE s := by
  have n51 : ∀ x ∈ HL L, x ≠ 51 := fun x hx => O.top.ne51 (hH x hx)
  have hC : ∀ x ∈ CL L, x ≠ 51 := fun x hx => n51 x (List.mem_cons_of_mem _ hx)
  have hul : (usOf ns).length ≤ 4 := us_le4 ns
  have hu10 : A.units + 20 < cLine := hA.uu (by decide)
  obtain ⟨vs, q1, q2⟩ := id J.hv
  refine wpAny_execs_cons ?_
  refine wpAny_If ?_
  refine wpAny_isTrue_Compare1 ?_
  refine nC (c := L + 4) rfl J.c4 ?_
  refine lcV (mg := mg) (mb := mb) (ms := HL L) (ds := usOf ns) (p := fun _ => true) (R := fun u g y => ∃ a, y = .ref a ∧ Ent w (wideOf ns) g a u) (T := "list_iterator")
    (fun d g g' y le ⟨a, e, x⟩ => ⟨a, e, x.mono le⟩) (by first | assumption | exact ind2 (by assumption) | exact ind1 (by assumption) | exact Nat.le_trans (by assumption) (by decide) | exact Nat.le_of_lt (by assumption) | exact Nat.lt_of_le_of_lt (Nat.le_add_right _ _) (by assumption) | omega) rfl (by decide) rfl (by decide) (by intro x; rfl) ?_
  refine nC (c := L + 3) rfl J.c3 ?_
  refine ⟨⟨fun u v => ∃ a, v = .ref a ∧ SqI "list" (vw (HL L) s.heap) a (Vec.l u), _, J.ok, srcL hA.h J.ok (Go.refl _) q1.list (vw_iff.mp q1.choose_spec.1).1 q2, tgtN J.ok rfl rfl, ?_⟩, ?_⟩
  · intro C D I u mc s6 hu hnc hM G6 hC6 hD hI O6
    obtain ⟨v, hv, a, rfl, ha⟩ := hM
    refine wpAny_tests_nil ?_
    refine ⟨rfl, Go.refl _, fun _ => ?_⟩
    refine callG O6.top (f_entry w) (by kernel_rfl) ?_
    refine args_cons ?_
    refine nL hnc hv ?_
    refine args_cons ?_
    refine nC (c := L + 2) rfl (cell_at J.c2 fun o e => G6.keep _ o (n51 _ (by first | exact zm0 | exact zm1 | exact zm2 | exact zm3 | exact zm4 | exact zm5 | exact zm6 | exact zm7 | exact zs0 | exact zs1 | exact zs2 | exact zs3 | exact zn0 | exact zn1 (by decide) | exact cl_self _ | exact sub2 (by first | exact zm0 | exact zm1 | exact zm2 | exact zm3 | exact zm4 | exact zm5 | exact zm6 | exact zm7) (by first | exact zm0 | exact zm1 | exact zm2 | exact zm3 | exact zm4 | exact zm5 | exact zm6 | exact zm7) | simp)) e) ?_
    refine args_nil ?_
    refine ⟨O6.top.k, ?_⟩
    refine entry_spec (W := wideOf ns) (v := u) O6 hA.le (ha.mono (vw_more [I, D, C] G6 (by first | exact nin1 (⟨hI, hD, hC6⟩) | exact ninp (⟨hI, hD, hC6⟩) | exact nin3 (⟨hI, hD, hC6⟩) | exact zall1 (⟨hI, hD, hC6⟩) | exact zall2 (⟨hI, hD, hC6⟩) | exact zall3 (⟨hI, hD, hC6⟩) | exact zall4 (⟨hI, hD, hC6⟩) | exact kbL0 (⟨hI, hD, hC6⟩) | exact kbL1 (⟨hI, hD, hC6⟩) | exact kbL2 (⟨hI, hD, hC6⟩) | exact kbL3 (⟨hI, hD, hC6⟩) | exact kbL4 (⟨hI, hD, hC6⟩) | exact kbI (⟨hI, hD, hC6⟩) | (simp; exact ⟨hI, hD, hC6⟩)))) (usOf_pos ns u hu) ?_
    intro r s7 G7 h7
    exact ⟨G7, r, rfl, h7⟩
  intro D ys kk s6 G6 hD hDl ha
  rw [filter_true] at ha
  have J6 := J.go hC G6
  obtain ⟨evs, ke, ve, ae⟩ := entL_ex J6.he J6.ex
  refine neLs (A := A) ⟨_, vw_get ve, rfl, _, rfl⟩ ⟨_, hDl, rfl, _, rfl⟩ ae ha (by first | assumption | exact ind2 (by assumption) | exact ind1 (by assumption) | exact Nat.le_trans (by assumption) (by decide) | exact Nat.le_of_lt (by assumption) | exact Nat.lt_of_le_of_lt (Nat.le_add_right _ _) (by assumption) | omega) _ _ ?_
  refine wpAny_truthy_bool ?_
  rw [if_neg Bool.false_ne_true]
  refine wpAny_execs_nil ?_
  try dsimp only
  exact k s6 (hns.at' fun o e => G6.keep _ o (n51 L (by first | exact zm0 | exact zm1 | exact zm2 | exact zm3 | exact zm4 | exact zm5 | exact zm6 | exact zm7 | exact zs0 | exact zs1 | exact zs2 | exact zs3 | exact zn0 | exact zn1 (by decide) | exact cl_self _ | exact sub2 (by first | exact zm0 | exact zm1 | exact zm2 | exact zm3 | exact zm4 | exact zm5 | exact zm6 | exact zm7) (by first | exact zm0 | exact zm1 | exact zm2 | exact zm3 | exact zm4 | exact zm5 | exact zm6 | exact zm7) | simp)) e) J6
/-- the answer -/
theorem law17 (O : Ok w mg mb [] s₀) (hA : Fit A 40 150) (hfr : A.frames = some [lawE w L]) (hH : ∀ x ∈ HL L, s₀.heap.get? x = none) (hns : s.heap.Ns L m) (mt : m "tops" = some (.ref D1)) (mr : m "ringed" = some (.ref D2))
    (J : Inv3 w mg mb L s₀ ns t1 lv le lp x D1 D2 ys1 ys2 k1 k2 T R (HL L) s) (hT : T.length ≤ 24) (hR : R.length ≤ 24) (hsame : ∀ v, cnt v T = cnt v R)
    (k : ∀ s', Go s₀ s' → Q (.ret (.bool true)) s') :
    wpAny (MD w) A (execs (lawB w 17) (lawE w L)) Q NE s := by
  have n51 : ∀ x ∈ HL L, x ≠ 51 := fun x hx => O.top.ne51 (hH x hx)
  have hC : ∀ x ∈ CL L, x ≠ 51 := fun x hx => n51 x (List.mem_cons_of_mem _ hx)
  have hu10 : A.units + 20 < cLine := hA.uu (by decide)
  have hu11 : A.in1.units + 10 < cLine := hA.uu1 (by decide)
  have hy1 := J.a1.length
  have hy2 := J.a2.length
  refine wpAny_execs_cons ?_
  refine wpAny_Return_some ?_
  refine wpAny_Compare1 ?_
  refine callG J.ok.top (f_uld w) (by kernel_rfl) ?_
  refine args_cons ?_
  refine PyProof.Rows.Call_ ?_
  refine nB J.ok.top (g_list w) ?_
  refine PyProof.Rows.callWith_type1 ?_
  refine args_cons ?_
  refine nL hns mt ?_
  refine args_nil ?_
  refine cpy (vs := ys1) ⟨_, vw_get J.v1, rfl, _, rfl⟩ (by first | assumption | exact ind2 (by assumption) | exact ind1 (by assumption) | exact Nat.le_trans (by assumption) (by decide) | exact Nat.le_of_lt (by assumption) | exact Nat.lt_of_le_of_lt (Nat.le_add_right _ _) (by assumption) | omega) ?_
  intro a s1 ca ha hao p1
  have J1 := J.more hC p1.go (xs := [a]) (by first | exact nin1 (⟨ha, _, hao⟩) | exact ninp (⟨ha, _, hao⟩) | exact nin3 (⟨ha, _, hao⟩) | exact zall1 (⟨ha, _, hao⟩) | exact zall2 (⟨ha, _, hao⟩) | exact zall3 (⟨ha, _, hao⟩) | exact zall4 (⟨ha, _, hao⟩) | exact kbL0 (⟨ha, _, hao⟩) | exact kbL1 (⟨ha, _, hao⟩) | exact kbL2 (⟨ha, _, hao⟩) | exact kbL3 (⟨ha, _, hao⟩) | exact kbL4 (⟨ha, _, hao⟩) | exact kbI (⟨ha, _, hao⟩) | (simp; exact ⟨ha, _, hao⟩))
  have Na := O.new J.G ha
  have Fa := J.ok.fresh ha
  have hns1 := hns.keeps p1.1
  refine args_cons ?_
  refine PyProof.Rows.Call_ ?_
  refine nB J1.ok.top (g_list w) ?_
  refine PyProof.Rows.callWith_type1 ?_
  refine args_cons ?_
  refine nL hns1 mr ?_
  refine args_nil ?_
  refine cpy (vs := ys2) ⟨_, vw_get J1.v2, rfl, _, rfl⟩ (by first | assumption | exact ind2 (by assumption) | exact ind1 (by assumption) | exact Nat.le_trans (by assumption) (by decide) | exact Nat.le_of_lt (by assumption) | exact Nat.lt_of_le_of_lt (Nat.le_add_right _ _) (by assumption) | omega) ?_
  intro b s2 cb hb hbo p2
  have J2 := J1.more hC p2.go (xs := [b]) (by first | exact nin1 (⟨hb, _, hbo⟩) | exact ninp (⟨hb, _, hbo⟩) | exact nin3 (⟨hb, _, hbo⟩) | exact zall1 (⟨hb, _, hbo⟩) | exact zall2 (⟨hb, _, hbo⟩) | exact zall3 (⟨hb, _, hbo⟩) | exact zall4 (⟨hb, _, hbo⟩) | exact kbL0 (⟨hb, _, hbo⟩) | exact kbL1 (⟨hb, _, hbo⟩) | exact kbL2 (⟨hb, _, hbo⟩) | exact kbL3 (⟨hb, _, hbo⟩) | exact kbL4 (⟨hb, _, hbo⟩) | exact kbI (⟨hb, _, hbo⟩) | (simp; exact ⟨hb, _, hbo⟩))
  have Nb := O.new J1.G hb
  have Fb := J1.ok.fresh hb
  have ab : a ≠ b := ne_of_get hao hb
  have hns2 := hns1.keeps p2.1
  refine args_nil ?_
  refine ⟨J2.ok.top.k, ?_⟩
  refine uldCall (a := a) (b := b) (W := wideOf ns) (xs := T) (ys := R) O hA hfr hH hns2 J2 rfl Na.1 Nb.1 ab Fa.2 (fun h => Fb.2 (List.mem_append_right _ h)) (p2.1 _ _ hao) hbo J2.a1 J2.a2 (by first | assumption | exact ind2 (by assumption) | exact ind1 (by assumption) | exact Nat.le_trans (by assumption) (by decide) | exact Nat.le_of_lt (by assumption) | exact Nat.lt_of_le_of_lt (Nat.le_add_right _ _) (by assumption) | omega) (by first | assumption | exact ind2 (by assumption) | exact ind1 (by assumption) | exact Nat.le_trans (by assumption) (by decide) | exact Nat.le_of_lt (by assumption) | exact Nat.lt_of_le_of_lt (Nat.le_add_right _ _) (by assumption) | omega) ?_
  intro r D s5 acs' mis' q1 q2 q3 kb5 hns5 J5 hr hD hro ao5 bo5 Do5 eM eR
  rw [uld_same T R hsame] at eM eR
  refine PyProof.Rows.Tuple_ ?_
  refine args_cons ?_
  refine PyProof.Rows.List_ ?_
  refine args_nil ?_
  refine mkL (small_list (Nat.le_of_ble_eq_true rfl)) fun z s6 hz hzo p6 => ?_
  refine args_cons ?_
  refine PyProof.Rows.List_ ?_
  refine args_nil ?_
  refine mkL (small_list (Nat.le_of_ble_eq_true rfl)) fun y s7 hy hyo p7 => ?_
  refine args_nil ?_
  refine mkT (small_list (Nat.le_of_ble_eq_true rfl)) fun tt s8 htt htto p8 => ?_
  have p58 := (p6.trans p7).trans p8
  have le58 := vw_go (ms := [b] ++ ([a] ++ HL L)) p58.go
  refine eqT2 (A := A) (p58.1 _ _ hro) htto (eqLs (A := A.in1) (vs' := []) ⟨_, p58.1 _ _ Do5, rfl, _, rfl⟩ ⟨_, p8.1 _ _ (p7.1 _ _ hzo), rfl, _, rfl⟩ (EntA.mono eM le58) .nil hu11) (eqLs (A := A.in1) (vs' := []) ⟨_, p58.1 _ _ bo5, rfl, _, rfl⟩ ⟨_, p8.1 _ _ hyo, rfl, _, rfl⟩ (EntA.mono eR le58) .nil hu11) (by first | assumption | exact ind2 (by assumption) | exact ind1 (by assumption) | exact Nat.le_trans (by assumption) (by decide) | exact Nat.le_of_lt (by assumption) | exact Nat.lt_of_le_of_lt (Nat.le_add_right _ _) (by assumption) | omega) _ _ ?_
  exact k s8 (J5.G.trans p58.go)
end
section
variable {w : World} {mg mb : Str → Option Value} {A : Around} {s : Shared} {Q E : Value → Shared → Prop}
set_option maxHeartbeats 4000000
/-- law gives True -/
theorem law_spec {l : Addr} {ns : List Int} (O : Ok w mg mb [] s) (hA : Fit A 60 200) (hfr : A.frames = some []) (hl : SqI "list" (vw [] s.heap) l ns) (hlen : ns.length ≤ 63) (k : ∀ s', Go s s' → Q (.bool true) s') : wpAny (MD w) A (call (.ref 133) [.ref l]) Q E s := by
  refine call_fn O hA.room rfl rfl rfl rfl (bd_law _ _) rfl rfl ?_
  intro L s1 hL G hns hc hpw
  have hB : Fit (A.deeper (lawE w L)) 40 150 := Fit.deeper (hA.le (d' := 41) (u' := 153))
  have hfr1 : (A.deeper (lawE w L)).frames = some [lawE w L] := by
    show A.frames.map _ = _
    rw [hfr]; rfl
  obtain ⟨a1, _, c1⟩ := hc _ _ (cells_law w L).1
  obtain ⟨a2, _, c2⟩ := hc _ _ (cells_law w L).2.1
  obtain ⟨a3, _, c3⟩ := hc _ _ (cells_law w L).2.2.1
  obtain ⟨a4, _, c4⟩ := hc _ _ (cells_law w L).2.2.2
  have hH : ∀ x ∈ HL L, s.heap.get? x = none := by
    intro x hx
    simp only [HL, List.mem_cons, List.not_mem_nil, or_false] at hx
    rcases hx with rfl | rfl | rfl | rfl | rfl
    · exact hL
    · exact a1
    · exact a2
    · exact a3
    · exact a4
  have hnv := nVec_234 ns
  have hT : ((orders (nVec ns)).map (topV ns)).length ≤ 24 := by rw [List.length_map]; exact ord_len hnv
  have hR : ((orders (nVec ns)).map (ringV ns)).length ≤ 24 := by rw [List.length_map]; exact ord_len hnv
  have hsame : ∀ v, cnt v ((orders (nVec ns)).map (topV ns)) = cnt v ((orders (nVec ns)).map (ringV ns)) := fun v => spitzer (fun cd h => (pkOf_ok ns.sum cd h).2) (usOf ns) hnv v
  refine law01 O G hB hlen hl hH hns rfl c1 c2 c3 c4 ?_
  intro s2 t1 G2 hns2 c1 c2 c3 c4
  refine law2 O G2 hB hlen hl hH hns2 rfl c1 c2 c3 c4 ?_
  intro s3 lv G3 hns3 c1 c2 c3 c4 hv
  refine law3 O G3 hB hH hns3 c1 c2 c3 c4 hv ?_
  intro s4 le hns4 J4
  refine law456 O hB hH hns4 J4 ?_
  intro s5 m5 lp x hns5 hm1 hm2 hpk hcm J5
  refine law7 O hB hH hns5 hm1 hm2 ⟨J5, ok_HL O J5.G hH hns5 J5.c1 J5.c2 J5.c3 J5.c4, hpk, hcm⟩ ?_
  intro s6 m6 hns6 hmc J6
  refine law89 O hB hH hns6 hmc J6 ?_
  intro s7 m7 D1 D2 ys1 ys2 k1 k2 hns7 mt mr J7 v1 v2 b1 b2
  refine law1114 O hB hfr1 hH hns7 mt mr ⟨J7, v1, v2, b1, b2⟩ hT ?_
  intro s8 m8 hns8 mt mr J8
  refine law15 O hB hfr1 hH hns8 mt J8 hT ?_
  intro s9 hns9 J9
  refine law16 O hB hH hns9 J9 ?_
  intro s10 hns10 J10
  refine law17 O hB hfr1 hH hns10 mt mr J10 hT hR hsame ?_
  intro s11 G11
  exact k s11 G11
end
end Mine
end TextWd
namespace Mine
open PySem PySem.W PySem.Calls PyProof.Rows PySem.Spec
theorem callerFit : Fit callerA 60 200 := ⟨rfl, by decide, by decide⟩
/-- the code table of add_callers at the start -/
theorem tab_start {w : World} {mean : ExcName → Option Value} {mg mb : Str → Option Value} {h : Heap} (KX : (KK w).In h) (T : Top hd.view_39 (looseW hd.view_39 []) mean mg mb h) : h.IsCode 55 51 #[] ∧ h.TableAt 55 51 #[] := by
  obtain ⟨c, P, e, B⟩ := based_of_top T (d := _) (name := Str.ofString "add_callers") rfl (mg_of KX T.g (f_ac w)) (KX 56 _ rfl) rfl
  have e55 : c = 55 := by
    have : (Value.ref 55 : Value) = .ref c := e
    injection this with this
    exact this.symm
  subst e55
  have hP : P = 51 := by
    obtain ⟨⟨o, vs, ho, hc, hd, h11⟩, _⟩ := B.tab
    have ho' := KX 55 _ rfl
    rw [ho] at ho'
    cases ho'
    cases hd
    have : (some (Value.ref 51) : Option Value) = some (.ref P) := h11
    injection this with this
    injection this with this
    exact this.symm
  subst hP
  exact ⟨B.code, B.tab⟩
/-- what law does to the old part -/
theorem oldK_of {s s' : Shared} (ht : s.heap.TableAt 55 51 #[]) (hc : s.heap.IsCode 55 51 #[]) (G : Go s s') : OldK s.heap s'.heap := by
  obtain ⟨ps, _, ht'⟩ := G.tab ⟨#[], hc, ht⟩
  refine ⟨fun b o e => ?_, fun b o e => ?_⟩
  · by_cases hb : b = 51
    · subst hb
      have e0 : o = { cls := .none, data := .fields #[] } := Option.some.inj (e.symm.trans ht.2)
      subst e0
      exact .inr (.inl ⟨ht.isCodeTable, rfl, #[], ps, rfl, by rw [ht'.2]; simp⟩)
    · exact .inl (G.keep b o hb e)
  · by_cases hb : b = 51
    · exact ⟨_, by rw [hb]; exact ht'.2⟩
    · exact ⟨o, G.keep b o hb e⟩
set_option maxHeartbeats 8000000 in
theorem whole : PySem.Challenge.rw_nq0014_01.Holds := by
  refine hd ?_
  intro w s₀ s₁ mg mb G Y fa o pm cd doc dV kV ho hdt hcd hD hmg hg args vals as hpre hlay hrd hwl hlo
  have KX := kIn_of Y
  refine Ground.open G ?_
  intro T B D TE TW
  have hfa : fa = 133 := by
    have h1 : mg (Str.ofString "law") = some (.ref 133) := mg_of KX T.g (by kernel_rfl)
    have h2 := hmg.symm.trans h1
    injection h2 with h2
    injection h2
  subst hfa
  clear hdt hcd hD hmg ho
  wrow_args hpre hlay hrd hwl hlo
  rename_i ns _ _ _ _ _ _ _ l vs _ hL _ _ _ hI _ hc _
  have tab := tab_start KX T
  have hO : Ok w mg mb [] s₁ := ⟨⟨KX, topRead_of T, bmod_of_top T, #[], tab.1, tab.2⟩, by rw [hg]; exact AllBare.empty, fun x h => nomatch h⟩
  have h51 : l ≠ 51 := by
    intro h
    obtain ⟨o, e, c, _⟩ := hL
    rw [h, tab.2.2] at e
    cases e
    cases c
  have hl : SqI "list" (vw [] s₁.heap) l ns := by
    obtain ⟨o, e, c, n, d⟩ := hL
    exact ⟨vs, ⟨o, vw_iff.mpr ⟨h51, fun h => (nomatch h), e⟩, c, n, d⟩, hI⟩
  refine law_spec hO callerFit rfl hl (by omega) ?_
  intro s' G'
  refine ⟨.inl ⟨_, _, [], rfl, fun _ => rfl, ReadsW.bool true, ?_, fun _ => ⟨List.nodup_nil, fun _ hm => (nomatch hm)⟩⟩, oldK_of tab.2 tab.1 G', G'.os, G'.bare hO.bare⟩
  wrow_post
end Mine
open PySem PySem.W PyProof.Rows
theorem PySem.Challenge.cw_nq0014_01_holds : PySem.Challenge.rw_nq0014_01.Holds :=
  Mine.whole
