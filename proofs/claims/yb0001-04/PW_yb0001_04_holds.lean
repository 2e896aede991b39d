import PyProof.Rows.All
import Wide.All
import OpenK.AllK
import Wide.FinOn
import PySem.Challenge.RW_yb0001_04
open PySem PySem.W PyProof.Rows PySem.Calls
set_option Elab.async false
set_option linter.unusedVariables false
set_option maxRecDepth 100000
namespace Mine
def topRunS (stp : SharedT → Thread → Option (SharedT × Thread)) (ok : Thread → Bool) : Nat → SharedT → Thread → Option SharedT
  | 0, _, _ => none
  | n + 1, s, t => match through t with
    | true => some s
    | false => match ok t with
      | false => none
      | true => match stp s t with
        | some (s', t') => topRunS stp ok n s' t'
        | none => none
theorem topRun_of {tb : String → Option Builtin} {p : Program} {w : World} {n₀ : Nat} {ann : Option Value} : ∀ {n : Nat} {s s' : SharedT} {t : Thread}, topRunS (stepT (denote tb) p w) (stepOk n₀ ann) n s t = some s' → topRun tb p w n₀ ann n s.abs t = some s'.abs
  | 0, _, _, _, h => by cases h
  | n + 1, s, s', t, h => by
    unfold topRunS at h
    unfold topRun
    cases he : through t with
    | true => rw [he] at h; cases h; rfl
    | false =>
      rw [he] at h
      cases hk : stepOk n₀ ann t with
      | false => rw [hk] at h; cases h
      | true =>
        rw [hk] at h
        cases hs : stepT (denote tb) p w s t with
        | none => rw [hs] at h; cases h
        | some r => obtain ⟨s₂, t₂⟩ := r; rw [hs] at h; dsimp only; rw [stepT_spec hs]; exact topRun_of h
noncomputable def bootT (P : Params) : BT :=
  .node (boot_o_0 P) (.node (boot_o_1 P) (.node (boot_o_3 P) (.node (boot_o_7 P) .nil .nil) .nil) (.node (boot_o_5 P) (.node (boot_o_9 P) .nil .nil) .nil))
    (.node (boot_o_2 P) (.node (boot_o_4 P) (.node (boot_o_8 P) .nil .nil) .nil) (.node (boot_o_6 P) (.node (boot_o_10 P) .nil .nil) .nil))
noncomputable abbrev boot0 (w : World) (os : OsState) : SharedT := ⟨bootT w.params, 11, {}, Array.mk [], boot_drawn, boot_toks, os⟩
theorem leftO_tree {p q : Program} {loose : List Str} {Xt : Shared → Bool} {α : Type} {Yf : Shared → α} {Ya : World → α} {N : Nat} {m₀ : Nat} {ann : Option Value}
    (e : opening p = plainProg p.main.scope.names) (hN : Nat.ble 600 N = true) (f : ∀ s, fenceModules? p s = some s)
    (size : ∀ w : World, ((boot_heap w.params).isNs mainGlobals, (boot_heap w.params).objs.size, (boot_heap w.params).nsMap mainGlobals "__annotations__") = (true, m₀, ann))
    (run : ∀ (w : World) (os : OsState), (topRunS (stepT (denote treeTable) p w) (stepOk m₀ ann) N (boot0 w os) (topStub p)).map (fun s => (staticsOk (importedModules p.main.body) (boot_heap w.params) s.abs.heap && namesBound p s.abs.heap && gensDone s.abs && laidKept (boot_heap w.params) s.abs.heap,
        openSeen q loose (importedModules p.main.body) Xt true s.abs)) = some (true, openGood q loose))
    (run' : ∀ (w : World) (os : OsState), (topRunS (stepT (denote treeTable) p w) (stepOk m₀ ann) N (boot0 w os) (topStub p)).map (fun s => Yf s.abs) = some (Ya w)) : LeftO p q loose Xt Yf Ya N := fun w => by
  obtain ⟨⟨h, gs, d, k, os⟩, e1, e'⟩ := Option.map_eq_some_iff.mp (boot_open e hN f w)
  obtain ⟨rfl, rfl, rfl, rfl⟩ : h = boot_heap w.params ∧ gs = Array.mk [] ∧ d = boot_drawn ∧ k = boot_toks := by simpa using e'
  obtain ⟨z1, z2, z3⟩ : _ ∧ _ ∧ _ := by simpa only [Prod.mk.injEq] using size w
  obtain ⟨s, hs, l⟩ := Option.map_eq_some_iff.mp (run w os)
  obtain ⟨l1, l2⟩ : _ ∧ _ := by simpa only [Prod.mk.injEq] using l
  obtain ⟨s', hs', l3⟩ := Option.map_eq_some_iff.mp (run' w os)
  obtain rfl : s = s' := Option.some.inj (hs.symm.trans hs')
  have r := topRun_of hs
  have t : topFrom treeTable p w N ⟨boot_heap w.params, Array.mk [], boot_drawn, boot_toks, os⟩ = some s.abs := by
    unfold topFrom
    dsimp only
    rw [z1, z2, z3]
    rw [show (⟨boot_heap w.params, Array.mk [], boot_drawn, boot_toks, os⟩ : Shared) = (boot0 w os).abs from rfl, r]
    show (match staticsOk (importedModules p.main.body) (boot_heap w.params) s.abs.heap && namesBound p s.abs.heap && gensDone s.abs && laidKept (boot_heap w.params) s.abs.heap with | true => some s.abs | false => none) = _
    rw [l1]
  unfold openEnds
  rw [e1]
  show (topFrom treeTable p w N _).map _ = _
  rw [t]
  exact congrArg some (Prod.ext l2 l3)
end Mine
namespace Mine
def tabHook (H : Hook) (ts : List Addr) : Hook where
  α := H.α × List (Option Obj)
  obs := fun s => (H.obs s, ts.map s.heap.get?)
  val := fun w => (H.val w, ts.map fun _ => some (tabObj #[]))
  says := fun w h => H.says w h ∧ ∀ P ∈ ts, h.get? P = some (tabObj #[])
  of := fun w s x => ⟨H.of w s (Prod.mk.inj x).1, List.map_inj_left.mp (Prod.mk.inj x).2⟩
  keeps := fun w h h' x k => ⟨H.keeps w h h' x.1 k, fun P hP => k _ _ (x.2 P hP)⟩
def pickAt {α : Type} (l : List α) (is : List Nat) : List α := is.filterMap fun i => l[i]?
def view : Program := { PySem.Challenge.pw_yb0001_04 with main := { PySem.Challenge.pw_yb0001_04.main with body := pickAt PySem.Challenge.pw_yb0001_04.main.body [0, 2, 3, 5, 6, 8, 9, 10, 11, 12, 13, 14, 15, 16, 17] } }
theorem run_sound (w : World) (os : OsState) : (topRunS (stepT (denote treeTable) PySem.Challenge.pw_yb0001_04 w) (stepOk 11 (some (.ref 6))) 5454 (boot0 w os) (topStub PySem.Challenge.pw_yb0001_04)).map (fun s => (staticsOk (importedModules PySem.Challenge.pw_yb0001_04.main.body) (boot_heap w.params) s.abs.heap && namesBound PySem.Challenge.pw_yb0001_04 s.abs.heap && gensDone s.abs && laidKept (boot_heap w.params) s.abs.heap,
    openSeen view [PySem.Str.ofString "GenericMatrix"] (importedModules PySem.Challenge.pw_yb0001_04.main.body) (fun s => xlAt view [] s && recOk (RowW.records (OpenRow.toRowW PySem.Challenge.rw_yb0001_04.row)) s) true s.abs)) = some (true, openGood view [PySem.Str.ofString "GenericMatrix"]) := by
  unfold view
  rewrite [PySem.W.Fast.te10156331382660048174, PySem.W.Fast.te11892475500146522536, PySem.W.Fast.te6613529449190102663, PySem.W.Fast.te14364793385576792824, PySem.W.Fast.te4187177175401517315, PySem.W.Fast.te5923862056798008813]
  (try rewrite [PySem.W.Fast.te16101424991871605647])
  kernel_rfl
end Mine
local macro_rules | `(tactic| o_head $H) => `(tactic| (
  refine holds_open (q := Mine.view) (loose := [PySem.Str.ofString "GenericMatrix"]) (Xt := fun s => xlAt Mine.view [] s && recOk (RowW.records (OpenRow.toRowW PySem.Challenge.rw_yb0001_04.row)) s) (XP := XL Mine.view []) (Yf := Hook.obs (Mine.tabHook $H [362, 320])) (Ya := Hook.val (Mine.tabHook $H [362, 320])) (YP := Hook.says (Mine.tabHook $H [362, 320])) (N := 5454) ?hl (Hook.of (Mine.tabHook $H [362, 320])) (Hook.keeps (Mine.tabHook $H [362, 320])) (fun s e => xl_of s (Bool.and_eq_true_iff.mp e).1) XL.keeps (by rfl) (by rfl) (by rfl) (fun s e => recFacts_of (Bool.and_eq_true_iff.mp e).2) (by rfl) (by first | assumption | decide +kernel) (by decide +kernel) ⟨rfl, rfl, rfl, rfl, rfl, by decide +kernel⟩ ?hw ?hc
  (case hl => exact Mine.leftO_tree (m₀ := 11) (ann := some (.ref 6)) (by rfl) (by decide +kernel) (fun _ => by rfl) (fun w => by kernel_rfl) Mine.run_sound (fun w os => by rewrite [PySem.W.Fast.te10156331382660048174, PySem.W.Fast.te11892475500146522536, PySem.W.Fast.te6613529449190102663, PySem.W.Fast.te14364793385576792824]; (try rewrite [PySem.W.Fast.te16101424991871605647]); kernel_rfl))))
namespace Mine
set_option maxHeartbeats 0 in
open_top hd for PySem.Challenge.rw_yb0001_04
end Mine
namespace Mine
theorem rm_done {n i : Nat} (h : n - i = 0) (hi : i ≤ n) : i = n := Nat.le_antisymm hi (Nat.sub_eq_zero_iff_le.mp h)
theorem rm_lt {n i r : Nat} (h : n - i = r + 1) : i < n := Nat.lt_of_sub_eq_succ h
theorem rm_succ {n i : Nat} (h : i < n) : n - i = n - (i + 1) + 1 := by omega
theorem rm_next {n i r : Nat} (h : n - i = r + 1) : n - (i + 1) = r := by rw [← Nat.sub_sub, h]; rfl

/-- a frozen part: what stands for good -/
abbrev FM := Addr → Option Obj
def FM.put (g : FM) (a : Addr) (o : Obj) : FM := fun b => if b = a then some o else g b
def FM.le (g g' : FM) : Prop := ∀ a o, g a = some o → g' a = some o
def FM.on (g : FM) (h : Heap) : Prop := ∀ a o, g a = some o → h.get? a = some o
theorem FM.le.refl (g : FM) : g.le g := fun _ _ e => e
theorem FM.le.trans {g g' g'' : FM} (x : g.le g') (y : g'.le g'') : g.le g'' := fun a o e => y a o (x a o e)
theorem FM.put_self (g : FM) (a : Addr) (o : Obj) : g.put a o a = some o := if_pos rfl
theorem FM.put_le {g : FM} {a : Addr} {o : Obj} (n : g a = none) : g.le (g.put a o) := fun b p e => by
  unfold FM.put
  by_cases q : b = a
  · subst q; rw [n] at e; cases e
  · rw [if_neg q]; exact e

/-- what a run leaves of (frozen part, heap): all is kept but what stands at S -/
structure Ev (S : List Addr) (g : FM) (h : Heap) (g' : FM) (h' : Heap) : Prop where
  gg : g.le g'
  new : ∀ a o, g' a = some o → g a = some o ∨ h.get? a = none
  keep : ∀ a o, a ∉ S → h.get? a = some o → h'.get? a = some o
  live : ∀ a o, h.get? a = some o → ∃ o', h'.get? a = some o'
  on : g'.on h'

theorem Ev.refl {S : List Addr} {g : FM} {h : Heap} (x : g.on h) : Ev S g h g h := ⟨.refl g, fun _ _ e => .inl e, fun _ _ _ e => e, fun _ o e => ⟨o, e⟩, x⟩
theorem Ev.mono {S S' : List Addr} {g g' : FM} {h h' : Heap} (x : Ev S g h g' h') (hs : ∀ a ∈ S, a ∈ S') : Ev S' g h g' h' :=
  ⟨x.gg, x.new, fun a o n e => x.keep a o (fun q => n (hs a q)) e, x.live, x.on⟩
theorem Ev.keeps {S : List Addr} {g : FM} {h h' : Heap} (x : g.on h) (k : ∀ a o, h.get? a = some o → h'.get? a = some o) : Ev S g h g h' :=
  ⟨.refl g, fun _ _ e => .inl e, fun a o _ e => k a o e, fun a o e => ⟨o, k a o e⟩, fun a o e => k a o (x a o e)⟩

def owns (env : Env) (mu : List (Addr × Obj)) : List Addr := env.locals :: (env.cells.map (·.2) ++ mu.map (·.1))
theorem owns_L {env : Env} {mu : List (Addr × Obj)} : env.locals ∈ owns env mu := .head _
theorem owns_mu {env : Env} {mu : List (Addr × Obj)} {p : Addr × Obj} (h : p ∈ mu) : p.1 ∈ owns env mu :=
  .tail _ (List.mem_append_right _ (List.mem_map_of_mem h))

/-- the state within a frame -/
structure St (b : Heap) (S : List Addr) (g0 : FM) (h0 : Heap) (env : Env) (g : FM) (m mc : Str → Option Value) (mu : List (Addr × Obj)) (h : Heap) : Prop where
  ns : h.Ns env.locals m
  cell : ∀ x c, (x, c) ∈ env.cells → h.IsCell c (mc x)
  bg : ∀ a o, b.get? a = some o → g a = some o
  lo : b.objs.size ≤ env.locals
  ev : Ev S g0 h0 g h
  mus : ∀ p ∈ mu, h.get? p.1 = some p.2
  nd : (owns env mu).Nodup
  nn : (env.cells.map (·.1)).Nodup
  own : ∀ a ∈ owns env mu, g a = none ∧ (h0.get? a = none ∨ a ∈ S)

section
variable {b : Heap} {S : List Addr} {g0 : FM} {h0 : Heap} {env : Env} {g g' : FM} {m mc m' mc' : Str → Option Value} {mu mu' : List (Addr × Obj)} {h h' : Heap}

theorem St.on (H : St b S g0 h0 env g m mc mu h) : g.on h := H.ev.on
theorem St.base (H : St b S g0 h0 env g m mc mu h) : ∀ a o, b.get? a = some o → h.get? a = some o := fun a o e => H.on a o (H.bg a o e)

theorem St.liveO (H : St b S g0 h0 env g m mc mu h) {a : Addr} (ha : a ∈ owns env mu) : ∃ o, h.get? a = some o := by
  rcases List.mem_cons.mp ha with rfl | ha
  · obtain ⟨o, _, _, e, _⟩ := H.ns; exact ⟨o, e⟩
  · rcases List.mem_append.mp ha with ha | ha
    · obtain ⟨⟨x, c⟩, hc, rfl⟩ := List.mem_map.mp ha
      obtain ⟨o, e, _⟩ := H.cell x c hc; exact ⟨o, e⟩
    · obtain ⟨p, hp, rfl⟩ := List.mem_map.mp ha
      exact ⟨_, H.mus p hp⟩

theorem St.move (H : St b S g0 h0 env g m mc mu h) (e : Ev (owns env mu) g h g' h') (ns : h'.Ns env.locals m') (cell : ∀ x c, (x, c) ∈ env.cells → h'.IsCell c (mc' x))
    (mus : ∀ p ∈ mu', h'.get? p.1 = some p.2) (ad : mu'.map (·.1) = mu.map (·.1)) : St b S g0 h0 env g' m' mc' mu' h' := by
  have ow : owns env mu' = owns env mu := by unfold owns; rw [ad]
  refine ⟨ns, cell, fun a o q => e.gg a o (H.bg a o q), H.lo, ⟨H.ev.gg.trans e.gg, fun a o q => ?_, fun a o n q => ?_, fun a o q => ?_, e.on⟩, mus, ow ▸ H.nd, H.nn, fun a ha => ?_⟩
  · rcases e.new a o q with q | q
    · exact H.ev.new a o q
    · cases r : h0.get? a with
      | none => exact .inr rfl
      | some o' => obtain ⟨o'', r'⟩ := H.ev.live a o' r; rw [q] at r'; cases r'
  · refine e.keep a o (fun ha => ?_) (H.ev.keep a o n q)
    rcases (H.own a ha).2 with r | r
    · rw [q] at r; cases r
    · exact n r
  · obtain ⟨o', q'⟩ := H.ev.live a o q; exact e.live a o' q'
  · rw [ow] at ha
    refine ⟨?_, (H.own a ha).2⟩
    cases q : g' a with
    | none => rfl
    | some o =>
      rcases e.new a o q with q | q
      · rw [(H.own a ha).1] at q; cases q
      · obtain ⟨o', q'⟩ := H.liveO ha; rw [q] at q'; cases q'

/-- the base stands in the frozen part -/
structure Bg (b : Heap) (g : FM) (h : Heap) : Prop where
  bg : ∀ a o, b.get? a = some o → g a = some o
  lo : b.objs.size ≤ h.objs.size
  on : g.on h
theorem St.Bg (H : St b S g0 h0 env g m mc mu h) : Mine.Bg b g h :=
  ⟨H.bg, Nat.le_trans H.lo (Nat.le_of_lt (by obtain ⟨o, _, _, e, _⟩ := H.ns; exact Heap.lt_size e)), H.on⟩

/-- everything is kept, and nothing of the frame's turned -/
theorem St.keeps (H : St b S g0 h0 env g m mc mu h) (k : ∀ a o, h.get? a = some o → h'.get? a = some o) : St b S g0 h0 env g m mc mu h' :=
  H.move (Ev.keeps H.on k) (H.ns.keeps k) (fun x c hc => (H.cell x c hc).keeps k) (fun p hp => k _ _ (H.mus p hp)) rfl

/-- a call (or any step) that leaves alone what is the frame's own -/
theorem St.call {Sf : List Addr} (H : St b S g0 h0 env g m mc mu h) (e : Ev Sf g h g' h') (hS : ∀ a ∈ Sf, a ∈ mu.map (·.1)) (mus : ∀ p ∈ mu', h'.get? p.1 = some p.2) (ad : mu'.map (·.1) = mu.map (·.1)) :
    St b S g0 h0 env g' m mc mu' h' := by
  have nd := H.nd
  unfold owns at nd
  have hL : env.locals ∉ Sf := fun q => (List.nodup_cons.mp nd).1 (List.mem_append_right _ (hS _ q))
  have hC : ∀ x c, (x, c) ∈ env.cells → c ∉ Sf := fun x c hc q =>
    (List.nodup_append.mp (List.nodup_cons.mp nd).2).2.2 c (List.mem_map.mpr ⟨(x, c), hc, rfl⟩) c (hS c q) rfl
  refine H.move (e.mono fun a q => .tail _ (List.mem_append_right _ (hS a q))) ?_ (fun x c hc => ?_) mus ad
  · obtain ⟨o, es, ep, q, r⟩ := H.ns; exact ⟨o, es, ep, e.keep _ _ hL q, r⟩
  · obtain ⟨o, q, r⟩ := H.cell x c hc; exact ⟨o, e.keep _ _ (hC x c hc) q, r⟩
theorem St.call0 (H : St b S g0 h0 env g m mc mu h) (e : Ev [] g h g' h') : St b S g0 h0 env g' m mc mu h' :=
  H.call e (fun _ q => nomatch q) (fun p hp => e.keep _ _ (fun q => nomatch q) (H.mus p hp)) rfl

theorem St.setL (H : St b S g0 h0 env g m mc mu h) (hn : h'.Ns env.locals m') (hs : Heap.SameBut env.locals h h') : St b S g0 h0 env g m' mc mu h' := by
  have nd := H.nd
  unfold owns at nd
  have nL := (List.nodup_cons.mp nd).1
  have gL := (H.own _ owns_L).1
  refine H.move ⟨.refl g, fun _ _ e => .inl e, fun a o n e => hs.extBut a o (fun q => n (q ▸ owns_L)) e, fun a o e => ?_, fun a o e => hs.extBut a o (fun q => by subst q; rw [gL] at e; cases e) (H.on a o e)⟩ hn
    (fun x c hc => (H.cell x c hc).sameBut hs fun q => nL (q ▸ List.mem_append_left _ (List.mem_map.mpr ⟨(x, c), hc, rfl⟩)))
    (fun p hp => (hs.2 _ fun q => nL (q ▸ List.mem_append_right _ (List.mem_map_of_mem hp))).trans (H.mus p hp)) rfl
  by_cases q : a = env.locals
  · subst q; obtain ⟨o', _, _, e', _⟩ := hn; exact ⟨o', e'⟩
  · exact ⟨o, hs.extBut a o q e⟩

theorem cell_inj {cs : List (Str × Addr)} (nd : (cs.map (·.2)).Nodup) {x y : Str} {c : Addr} (h1 : (x, c) ∈ cs) (h2 : (y, c) ∈ cs) : x = y := by
  induction cs with
  | nil => cases h1
  | cons p r ih =>
    rw [List.map_cons, List.nodup_cons] at nd
    rcases List.mem_cons.mp h1 with e1 | e1 <;> rcases List.mem_cons.mp h2 with e2 | e2
    · rw [← e2] at e1; exact congrArg Prod.fst e1
    · exact absurd (List.mem_map.mpr ⟨(y, c), e2, by rw [← e1]⟩) nd.1
    · exact absurd (List.mem_map.mpr ⟨(x, c), e1, by rw [← e2]⟩) nd.1
    · exact ih nd.2 e1 e2

theorem cell_fun {cs : List (Str × Addr)} (nd : (cs.map (·.1)).Nodup) {x : Str} {c d : Addr} (h1 : (x, c) ∈ cs) (h2 : (x, d) ∈ cs) : c = d := by
  induction cs with
  | nil => cases h1
  | cons p r ih =>
    rw [List.map_cons, List.nodup_cons] at nd
    rcases List.mem_cons.mp h1 with e1 | e1 <;> rcases List.mem_cons.mp h2 with e2 | e2
    · rw [← e2] at e1; exact congrArg Prod.snd e1
    · exact absurd (List.mem_map.mpr ⟨(x, d), e2, by rw [← e1]⟩) nd.1
    · exact absurd (List.mem_map.mpr ⟨(x, c), e1, by rw [← e2]⟩) nd.1
    · exact ih nd.2 e1 e2

theorem St.setC (H : St b S g0 h0 env g m mc mu h) {x : Str} {c : Addr} {v : Option Value} (hc : (x, c) ∈ env.cells) (hn : h'.IsCell c v) (hs : Heap.SameBut c h h') :
    St b S g0 h0 env g m (fun y => if y = x then v else mc y) mu h' := by
  have nd := H.nd
  unfold owns at nd
  have hcm : c ∈ env.cells.map (·.2) := List.mem_map.mpr ⟨(x, c), hc, rfl⟩
  have hLc : env.locals ≠ c := fun q => (List.nodup_cons.mp nd).1 (q ▸ List.mem_append_left _ hcm)
  have ap := List.nodup_append.mp (List.nodup_cons.mp nd).2
  have ho : c ∈ owns env mu := .tail _ (List.mem_append_left _ hcm)
  have gc := (H.own _ ho).1
  refine H.move ⟨.refl g, fun _ _ e => .inl e, fun a o n e => hs.extBut a o (fun q => n (q ▸ ho)) e, fun a o e => ?_, fun a o e => hs.extBut a o (fun q => by subst q; rw [gc] at e; cases e) (H.on a o e)⟩ (H.ns.sameBut hs hLc)
    (fun y d hd => ?_) (fun p hp => (hs.2 _ fun q => ap.2.2 c hcm p.1 (List.mem_map_of_mem hp) q.symm).trans (H.mus p hp)) rfl
  · by_cases q : a = c
    · subst q; obtain ⟨o', e', _⟩ := hn; exact ⟨o', e'⟩
    · exact ⟨o, hs.extBut a o q e⟩
  · by_cases q : d = c
    · subst q
      have := cell_inj ap.1 hd hc
      subst this
      rw [if_pos rfl]; exact hn
    · have : y ≠ x := fun r => q (by subst r; exact cell_fun H.nn hd hc)
      rw [if_neg this]; exact (H.cell y d hd).sameBut hs q

/-- a new object, to be turned later -/
theorem St.alloc (H : St b S g0 h0 env g m mc mu h) {a : Addr} {o : Obj} (hf : h.get? a = none) (ha : h'.get? a = some o) (k : ∀ a o, h.get? a = some o → h'.get? a = some o) :
    St b S g0 h0 env g m mc ((a, o) :: mu) h' := by
  have no : a ∉ owns env mu := fun q => by obtain ⟨o', e⟩ := H.liveO q; rw [hf] at e; cases e
  have K := H.keeps k
  refine ⟨K.ns, K.cell, K.bg, K.lo, K.ev, fun p hp => ?_, ?_, H.nn, fun x hx => ?_⟩
  · rcases List.mem_cons.mp hp with rfl | hp
    · exact ha
    · exact K.mus p hp
  · have nd := H.nd
    unfold owns at nd no ⊢
    rw [List.map_cons]
    refine List.nodup_cons.mpr ⟨fun q => ?_, ?_⟩
    · rcases List.mem_append.mp q with q | q
      · exact (List.nodup_cons.mp nd).1 (List.mem_append_left _ q)
      · rcases List.mem_cons.mp q with q | q
        · exact no (q ▸ .head _)
        · exact (List.nodup_cons.mp nd).1 (List.mem_append_right _ q)
    · refine List.nodup_append.mpr ⟨(List.nodup_append.mp (List.nodup_cons.mp nd).2).1, List.nodup_cons.mpr ⟨fun q => no (.tail _ (List.mem_append_right _ q)), (List.nodup_append.mp (List.nodup_cons.mp nd).2).2.1⟩, fun x hx y hy e => ?_⟩
      rcases List.mem_cons.mp hy with q | q
      · subst e; subst q; exact no (.tail _ (List.mem_append_left _ hx))
      · exact (List.nodup_append.mp (List.nodup_cons.mp nd).2).2.2 x hx y q e
  · have : x = a ∨ x ∈ owns env mu := by
      unfold owns at hx ⊢
      rcases List.mem_cons.mp hx with q | q
      · exact .inr (q ▸ .head _)
      · rcases List.mem_append.mp q with q | q
        · exact .inr (.tail _ (List.mem_append_left _ q))
        · rcases List.mem_cons.mp q with q | q
          · exact .inl q
          · exact .inr (.tail _ (List.mem_append_right _ q))
    rcases this with rfl | q
    · refine ⟨?_, .inl ?_⟩
      · cases q : g x with
        | none => rfl
        | some o' => rw [H.on _ _ q] at hf; cases hf
      · cases q : h0.get? x with
        | none => rfl
        | some o' => obtain ⟨o'', e⟩ := H.ev.live _ _ q; rw [hf] at e; cases e
    · exact H.own x q

/-- a new object that stands for good -/
theorem St.allocG (H : St b S g0 h0 env g m mc mu h) {a : Addr} {o : Obj} (hf : h.get? a = none) (ha : h'.get? a = some o) (k : ∀ a o, h.get? a = some o → h'.get? a = some o) :
    St b S g0 h0 env (g.put a o) m mc mu h' ∧ g.le (g.put a o) := by
  have ga : g a = none := by
    cases q : g a with
    | none => rfl
    | some o' => rw [H.on _ _ q] at hf; cases hf
  have le := FM.put_le (o := o) ga
  refine ⟨H.call0 ⟨le, fun x p e => ?_, fun x p _ e => k x p e, fun x p e => ⟨p, k x p e⟩, fun x p e => ?_⟩, le⟩
  · unfold FM.put at e
    by_cases q : x = a
    · subst q; exact .inr hf
    · rw [if_neg q] at e; exact .inl e
  · unfold FM.put at e
    by_cases q : x = a
    · subst q; rw [if_pos rfl] at e; exact ha.trans e
    · rw [if_neg q] at e; exact k _ _ (H.on _ _ e)

/-- a turned object turns no more -/
theorem St.freeze {a : Addr} {o : Obj} (H : St b S g0 h0 env g m mc ((a, o) :: mu) h) (h0a : h0.get? a = none) : St b S g0 h0 env (g.put a o) m mc mu h ∧ g.le (g.put a o) := by
  have ho : a ∈ owns env ((a, o) :: mu) := owns_mu (p := (a, o)) (.head _)
  have ga := (H.own a ho).1
  have le := FM.put_le (o := o) ga
  have sub : ∀ x ∈ owns env mu, x ∈ owns env ((a, o) :: mu) := fun x hx => by
    unfold owns at hx ⊢
    rcases List.mem_cons.mp hx with q | q
    · exact q ▸ .head _
    · rcases List.mem_append.mp q with q | q
      · exact .tail _ (List.mem_append_left _ q)
      · exact .tail _ (List.mem_append_right _ (.tail _ q))
  have nd := H.nd
  have na : a ∉ owns env mu := fun q => by
    unfold owns at nd q
    rw [List.map_cons] at nd
    rcases List.mem_cons.mp q with q | q
    · exact (List.nodup_cons.mp nd).1 (q ▸ List.mem_append_right _ (.head _))
    · have nd := List.nodup_append.mp (List.nodup_cons.mp nd).2
      rcases List.mem_append.mp q with q | q
      · exact nd.2.2 a q a (.head _) rfl
      · exact (List.nodup_cons.mp nd.2.1).1 q
  refine ⟨⟨H.ns, H.cell, fun x p e => le x p (H.bg x p e), H.lo, ⟨H.ev.gg.trans le, fun x p e => ?_, H.ev.keep, H.ev.live, fun x p e => ?_⟩, fun p hp => H.mus p (.tail _ hp), ?_, H.nn, fun x hx => ⟨?_, (H.own x (sub x hx)).2⟩⟩, le⟩
  · unfold FM.put at e
    by_cases q : x = a
    · subst q; exact .inr h0a
    · rw [if_neg q] at e; exact H.ev.new x p e
  · unfold FM.put at e
    by_cases q : x = a
    · subst q; rw [if_pos rfl] at e; cases e; exact H.mus (x, o) (.head _)
    · rw [if_neg q] at e; exact H.on x p e
  · unfold owns at nd ⊢
    rw [List.map_cons] at nd
    have nd' := List.nodup_append.mp (List.nodup_cons.mp nd).2
    refine List.nodup_cons.mpr ⟨fun q => (List.nodup_cons.mp nd).1 ?_, List.nodup_append.mpr ⟨nd'.1, (List.nodup_cons.mp nd'.2.1).2, fun x hx y hy => nd'.2.2 x hx y (.tail _ hy)⟩⟩
    rcases List.mem_append.mp q with q | q
    · exact List.mem_append_left _ q
    · exact List.mem_append_right _ (.tail _ q)
  · unfold FM.put
    rw [if_neg (fun q : x = a => na (by rw [← q]; exact hx))]
    exact (H.own x (sub x hx)).1

theorem St.perm (H : St b S g0 h0 env g m mc mu h) (p : mu.Perm mu') : St b S g0 h0 env g m mc mu' h := by
  have po : (owns env mu).Perm (owns env mu') := List.Perm.cons _ (List.Perm.append_left _ (p.map _))
  exact ⟨H.ns, H.cell, H.bg, H.lo, H.ev, fun q hq => H.mus q (p.mem_iff.mpr hq), po.nodup_iff.mp H.nd, H.nn, fun a ha => H.own a (po.mem_iff.mpr ha)⟩

/-- what is turned no more and read no more -/
theorem St.drop {p : Addr × Obj} (H : St b S g0 h0 env g m mc (p :: mu) h) : St b S g0 h0 env g m mc mu h := by
  have sub : (owns env mu).Sublist (owns env (p :: mu)) := List.Sublist.cons_cons _ (List.Sublist.append_left (List.sublist_cons_self _ _) _)
  exact ⟨H.ns, H.cell, H.bg, H.lo, H.ev, fun q hq => H.mus q (.tail _ hq), H.nd.sublist sub, H.nn, fun a ha => H.own a (sub.subset ha)⟩

/-- one turned object, at the head -/
theorem St.upd {a : Addr} {o o' : Obj} (H : St b S g0 h0 env g m mc ((a, o) :: mu) h) (ha : h'.get? a = some o') (hs : Heap.ExtBut a h h') : St b S g0 h0 env g m mc ((a, o') :: mu) h' := by
  have ho : a ∈ owns env ((a, o) :: mu) := owns_mu (p := (a, o)) (.head _)
  have nd := H.nd
  refine H.call (Sf := [a]) ⟨.refl g, fun _ _ e => .inl e, fun x p n e => hs x p (fun q => n (q ▸ .head _)) e, fun x p e => ?_, fun x p e => hs x p (fun q => by subst q; rw [(H.own _ ho).1] at e; cases e) (H.on x p e)⟩
    (fun x hx => by rw [List.mem_singleton.mp hx]; exact .head _) (fun p hp => ?_) rfl
  · by_cases q : x = a
    · subst q; exact ⟨o', ha⟩
    · exact ⟨p, hs x p q e⟩
  · rcases List.mem_cons.mp hp with rfl | hp
    · exact ha
    · refine hs _ _ (fun q => ?_) (H.mus p (.tail _ hp))
      unfold owns at nd
      rw [List.map_cons] at nd
      exact (List.nodup_cons.mp (List.nodup_append.mp (List.nodup_cons.mp nd).2).2.1).1 (q ▸ (List.mem_map_of_mem (f := (·.1)) hp : p.1 ∈ mu.map (·.1)))
end
end Mine
namespace Mine

/-- room for n more frames -/
structure Ao (n : Nat) (A : Around) : Prop where
  hh : A.handled = none
  dp : A.depth + 10 * n ≤ 990
  un : A.units + 100 * n ≤ 9800
theorem Ao.le {n k : Nat} {A : Around} (x : Ao n A) (h : k ≤ n) : Ao k A := ⟨x.hh, by have := x.dp; omega, by have := x.un; omega⟩
theorem Ao.deeper {n : Nat} {A : Around} {env : Env} (x : Ao (n + 1) A) : Ao n (A.deeper env) :=
  ⟨x.hh, by have := x.dp; rw [depth_deeper]; omega, by have := x.un; rw [units_deeper]; omega⟩
theorem Ao.in1 {n : Nat} {A : Around} (x : Ao (n + 1) A) : Ao n A.in1 := ⟨x.hh, by have := x.dp; rw [depth_in1]; omega, by have := x.un; rw [units_in1]; omega⟩
theorem Ao.make {n : Nat} {A : Around} {C : Addr} {vals : List Value} {kw : List (Str × Value)} (x : Ao (n + 1) A) : Ao n (A.under (.builtin "type.__call__" ⟨.ref C :: vals, kw⟩)) := by
  refine ⟨x.hh, by have := x.dp; rw [depth_under_kw]; omega, ?_⟩
  have := x.un
  have e : (Code.builtin "type.__call__" ⟨.ref C :: vals, kw⟩).cUnits ≤ 10 := Nat.le_of_ble_eq_true rfl
  show A.units + (Code.builtin "type.__call__" ⟨.ref C :: vals, kw⟩).cUnits + _ ≤ _
  omega
theorem Ao.room {n : Nat} {A : Around} (x : Ao n A) : A.depth < recursionLimit := by have := x.dp; unfold recursionLimit; omega
/-- the text's own part and the top's facts, at the base -/
structure Wd (K : Frag) (p : Program) (loose : List Str) (mean : ExcName → Option Value) (mg mb : Str → Option Value) (b : Heap) : Prop where
  X : K.In b
  T : TopRead p loose mg mb b
  M : ∃ bm ob, BMod b mainGlobals mg bm ob

section
variable {prog : Program} {w : World} {K : Frag} {p : Program} {loose : List Str} {mean : ExcName → Option Value} {mg mb : Str → Option Value} {b : Heap}
variable {S : List Addr} {g0 : FM} {h0 : Heap} {env : Env} {g : FM} {m mc : Str → Option Value} {mu : List (Addr × Obj)}
variable {M : Model} {A : Around} {s : Shared} {E : Value → Shared → Prop}

-- names
theorem ev_loc {x : Str} {pos : Pos} {v : Value} {Q : Value → Shared → Prop} (H : St b S g0 h0 env g m mc mu s.heap) (hv : m x = some v) (h : Q v s)
    (hk : env.scope.kind = .function := by with_unfolding_all rfl) (hl : env.kindOf x = some .local := by with_unfolding_all rfl) (hd : (x == ("__debug__" : Str)) = false := by decide) :
    wpAny M A (eval (.Name x pos) env) Q E s := wpAny_Name (wpAny_loadName_local hk hl H.ns hv h) hd
theorem ev_cell {x : Str} {pos : Pos} {c : Addr} {v : Value} {Q : Value → Shared → Prop} (H : St b S g0 h0 env g m mc mu s.heap) (hv : mc x = some v) (h : Q v s)
    (hk : env.scope.kind = .function := by with_unfolding_all rfl) (hl : env.kindOf x = some .cell := by with_unfolding_all rfl) (hc : env.cells.lookup x = some c := by with_unfolding_all rfl) (hd : (x == ("__debug__" : Str)) = false := by decide) :
    wpAny M A (eval (.Name x pos) env) Q E s := wpAny_Name (wpAny_loadName_cell hk hl hc (hv ▸ H.cell x c (mem_of_lookup hc)) h) hd
theorem ev_glob {x : Str} {pos : Pos} {v : Value} {Q : Value → Shared → Prop} (W : Wd K p loose mean mg mb b) (H : St b S g0 h0 env g m mc mu s.heap) (e : nsIn K mainGlobals x = some (some v)) (h : Q v s)
    (hg : env.globals = mainGlobals := by with_unfolding_all rfl) (hk : env.scope.kind = .function := by with_unfolding_all rfl) (hx : env.kindOf x = some .globalImplicit := by with_unfolding_all rfl) (hd : (x == ("__debug__" : Str)) = false := by decide) :
    wpAny M A (eval (.Name x pos) env) Q E s :=
  Name_function_global hk hx (loadGlobal_global (env := env) (by rw [hg]; exact W.T.g.keeps H.base) (mg_of W.X W.T.g e) h) hd
theorem ev_blt {x : Str} {pos : Pos} {v : Value} {Q : Value → Shared → Prop} (W : Wd K p loose mean mg mb b) (H : St b S g0 h0 env g m mc mu s.heap) (e : nsIn K mainGlobals x = some none) (hv : bootBuiltins x = some v) (h : Q v s)
    (hn : x ≠ "__name__" := by decide) (hg : env.globals = mainGlobals := by with_unfolding_all rfl) (hb : env.builtins = builtinsNs := by with_unfolding_all rfl) (hk : env.scope.kind = .function := by with_unfolding_all rfl) (hx : env.kindOf x = some .globalImplicit := by with_unfolding_all rfl)
    (hd : (x == ("__debug__" : Str)) = false := by decide) : wpAny M A (eval (.Name x pos) env) Q E s :=
  Name_function_global hk hx (loadGlobal_builtin (env := env) (by rw [hg]; exact W.T.g.keeps H.base) (mg_none_of W.X W.T.g e) (by rw [hb]; exact W.T.b.keeps H.base) ((W.T.builtins x hn).trans hv) h) hd

/-- a frame's names -/
def up (x : Str) (v : Value) (m : Str → Option Value) : Str → Option Value := fun y => if y = x then some v else m y
def no : Str → Option Value := fun _ => none

-- stores
theorem st_loc {x : Str} {v : Value} {Q : Unit → Shared → Prop} (H : St b S g0 h0 env g m mc mu s.heap)
    (h : ∀ h', St b S g0 h0 env g (up x v m) mc mu h' → Q () { s with heap := h', toks := s.toks + 1 })
    (hk : env.scope.kind = .function := by with_unfolding_all rfl) (hl : env.kindOf x = some .local := by with_unfolding_all rfl) : wpAny M A (storeName env x v) Q E s :=
  wpAny_storeName_local hl H.ns (fun h' hn hs => h h' (H.setL hn hs)) (by rw [hk]; rfl)
theorem st_cell {x : Str} {c : Addr} {v : Value} {Q : Unit → Shared → Prop} (H : St b S g0 h0 env g m mc mu s.heap)
    (h : ∀ h', St b S g0 h0 env g m (up x v mc) mu h' → Q () { s with heap := h' })
    (hk : env.scope.kind = .function := by with_unfolding_all rfl) (hl : env.kindOf x = some .cell := by with_unfolding_all rfl) (hc : env.cells.lookup x = some c := by with_unfolding_all rfl) : wpAny M A (storeName env x v) Q E s :=
  wpAny_storeName_cell hk hl hc (H.cell x c (mem_of_lookup hc)) fun h' hn hs => h h' (H.setC (mem_of_lookup hc) hn hs)

-- a def of the text's, called
theorem cells_nodup : ∀ (names : List (Str × NameKind)) (n : Nat) (acc : List (Str × Addr)), (acc.map (·.2)).Nodup → (∀ p ∈ acc, p.2 < n) → ((cellsFrom n names acc).map (·.2)).Nodup
  | [], _, _, h, _ => h
  | (x, k) :: r, n, acc, h, hb => by
    unfold cellsFrom
    split
    · refine cells_nodup r (n + 1) _ ?_ fun p hp => ?_
      · rw [List.map_cons]
        refine List.nodup_cons.mpr ⟨fun q => ?_, h⟩
        obtain ⟨p, hp, e⟩ := List.mem_map.mp q
        have := hb p hp
        exact absurd this (by rw [show p.2 = n from e]; exact Nat.lt_irrefl _)
      · rcases List.mem_cons.mp hp with rfl | hp
        · exact Nat.lt_succ_self _
        · exact Nat.lt_succ_of_lt (hb p hp)
    · exact cells_nodup r n acc h hb
theorem cells_ge : ∀ (names : List (Str × NameKind)) (n lo : Nat) (acc : List (Str × Addr)), lo ≤ n → (∀ p ∈ acc, lo ≤ p.2) → ∀ p ∈ cellsFrom n names acc, lo ≤ p.2
  | [], _, _, _, _, hb => hb
  | (x, k) :: r, n, lo, acc, hn, hb => by
    unfold cellsFrom
    split
    · refine cells_ge r (n + 1) lo _ (Nat.le_succ_of_le hn) fun p hp => ?_
      rcases List.mem_cons.mp hp with rfl | hp
      · exact hn
      · exact hb p hp
    · exact cells_ge r n lo acc hn hb
theorem cells_names : ∀ (names : List (Str × NameKind)) (n k : Nat) (acc acc' : List (Str × Addr)), acc.map (·.1) = acc'.map (·.1) → (cellsFrom n names acc).map (·.1) = (cellsFrom k names acc').map (·.1)
  | [], _, _, _, _, h => h
  | (x, kd) :: r, n, k, acc, acc', h => by
    unfold cellsFrom
    split
    · exact cells_names r _ _ _ _ (by rw [List.map_cons, List.map_cons, h])
    · exact cells_names r _ _ _ _ h

theorem enter {name qual : Str} {params : Arguments} {body : List Stmt} {scope : Scope} {dV kV doc pm cdv ct oc : Value} {an od : Option Addr} {osl : Array (Option Value)} {f : Addr} {pos : List Value} {kw : List (Str × Value)} {binds : List (Str × Value)} {n : Nat} {R : Result → Shared → Prop}
    (W : Wd K p loose mean mg mb b) (hB : Bg b g s.heap) (hA : Ao (n + 1) A)
    (ho : K.lookup f = some ⟨oc, od, .func (fnOf name qual params body scope dV kV doc pm an cdv ct), osl⟩) (hcd : codeIn K cdv qual = true)
    (hbind : BindsTo s (fnOf name qual params body scope dV kV doc pm an cdv ct) ⟨pos, kw⟩ binds)
    (hkind : (binds.all fun y => scope.names.lookup y.1 == some .local || scope.names.lookup y.1 == some .cell) = true)
    (hnd : ((cellsFrom 0 scope.names []).map (·.1)).Nodup)
    (hmu : ∀ q ∈ mu, s.heap.get? q.1 = some q.2 ∧ g q.1 = none) (ndm : (mu.map (·.1)).Nodup)
    (hm : ∀ L, bindL (envOfC qual scope L f cdv).kindOf binds (fun _ => none) = m) (hmc : ∀ L, bindC (envOfC qual scope L f cdv).kindOf binds (fun _ => none) = mc)
    (h : ∀ L h₁ tk E', Ao n (A.deeper (envOfC qual scope L f cdv)) → St b (mu.map (·.1)) g s.heap (envOfC qual scope L f cdv) g m mc mu h₁ →
      wpAny (model prog w) (A.deeper (envOfC qual scope L f cdv)) (execs body (envOfC qual scope L f cdv)) (fun fl s' => R (.ok (.ret (match fl with | .ret v => v | _ => .none))) s') E' { s with heap := h₁, toks := tk })
    (hco : scope.isCoroutine = false := by with_unfolding_all rfl) (hgen : scope.isGenerator = false := by with_unfolding_all rfl) (hk : scope.kind = .function := by with_unfolding_all rfl) :
    codeAny (model prog w) A (.call (.ref f) ⟨pos, kw⟩) R s := by
  obtain ⟨hbg, hlo, on⟩ := hB
  have up : ∀ a o, b.get? a = some o → s.heap.get? a = some o := fun a o e => on a o (hbg a o e)
  refine codeAny_call_function hA.room (up _ _ (W.X _ _ ho)) rfl hco hgen rfl (codeRec_of (W.X.keeps up) hcd) (hbind _ _ _ _ ?_)
  refine wpAny_newFunctionEnv_cells hk (kindsX hkind _) fun env' he s' x => ?_
  subst he
  refine ⟨(W.T.nolimit.keeps up).keeps x.toInCall.keep, codeAny_func ?_⟩
  obtain ⟨h₁, tk, rfl⟩ := x.toInCall.same
  have keep := x.toInCall.keep
  have fresh : ∀ (a : Addr) (o : Obj), s.heap.get? a = some o → a < s.heap.objs.size := fun a o e => Heap.lt_size e
  have cge := cells_ge scope.names (s.heap.objs.size + 1) (s.heap.objs.size + 1) [] (Nat.le_refl _) (fun _ q => nomatch q)
  have none_of : ∀ a, s.heap.objs.size ≤ a → s.heap.get? a = none := fun a ha => by
    cases q : s.heap.get? a with
    | none => rfl
    | some o => exact absurd (fresh a o q) (Nat.not_lt.mpr ha)
  have gnone : ∀ a, s.heap.get? a = none → g a = none := fun a ha => by
    cases q : g a with
    | none => rfl
    | some o => rw [on a o q] at ha; cases ha
  have H : St b (mu.map (·.1)) g s.heap (envOfC qual scope s.heap.objs.size f cdv) g (bindL (envOfC qual scope s.heap.objs.size f cdv).kindOf binds fun _ => none) (bindC (envOfC qual scope s.heap.objs.size f cdv).kindOf binds fun _ => none) mu h₁ := by
    refine ⟨x.toInCall.ns, fun y c hc => ?_, hbg, hlo, Ev.keeps on keep, fun q hq => keep _ _ (hmu q hq).1, ?_, ?_, fun a ha => ?_⟩
    · have nn : ((cellsFrom (s.heap.objs.size + 1) scope.names []).map (·.1)).Nodup := by rw [cells_names scope.names _ 0 [] [] rfl]; exact hnd
      have hl : (cellsFrom (s.heap.objs.size + 1) scope.names []).lookup y = some c := by
        cases q : (cellsFrom (s.heap.objs.size + 1) scope.names []).lookup y with
        | none => exact absurd (List.lookup_eq_none_iff.mp q _ hc) (by simp)
        | some d => rw [cell_fun nn (mem_of_lookup q) hc]
      exact x.cell y c hl
    · show (s.heap.objs.size :: ((cellsFrom (s.heap.objs.size + 1) scope.names []).map (·.2) ++ mu.map (·.1))).Nodup
      refine List.nodup_cons.mpr ⟨fun q => ?_, List.nodup_append.mpr ⟨cells_nodup _ _ _ List.nodup_nil (fun _ q => nomatch q), ndm, fun y hy z hz e => ?_⟩⟩
      · rcases List.mem_append.mp q with q | q
        · obtain ⟨pr, hp, e⟩ := List.mem_map.mp q
          have := cge pr hp
          omega
        · obtain ⟨pr, hp, e⟩ := List.mem_map.mp q
          have := fresh _ _ (hmu pr hp).1
          exact absurd this (by rw [show pr.1 = s.heap.objs.size from e]; exact Nat.lt_irrefl _)
      · obtain ⟨pr, hp, e1⟩ := List.mem_map.mp hy
        obtain ⟨pr', hp', e2⟩ := List.mem_map.mp hz
        have h1 := cge pr hp
        have h2 := fresh _ _ (hmu pr' hp').1
        have e3 : pr.2 = pr'.1 := by rw [show pr.2 = y from e1, show pr'.1 = z from e2]; exact e
        rw [← e3] at h2
        exact absurd h2 (Nat.not_lt.mpr (Nat.le_of_succ_le h1))
    · show ((cellsFrom (s.heap.objs.size + 1) scope.names []).map (·.1)).Nodup
      rw [cells_names scope.names _ 0 [] [] rfl]; exact hnd
    · rcases List.mem_cons.mp ha with rfl | ha
      · have := none_of _ (Nat.le_refl _)
        exact ⟨gnone _ this, .inl this⟩
      · rcases List.mem_append.mp ha with ha | ha
        · obtain ⟨pr, hp, rfl⟩ := List.mem_map.mp ha
          have := none_of pr.2 (Nat.le_of_succ_le (cge pr hp))
          exact ⟨gnone _ this, .inl this⟩
        · obtain ⟨pr, hp, rfl⟩ := List.mem_map.mp ha
          exact ⟨(hmu pr hp).2, .inr (List.mem_map_of_mem hp)⟩
  exact h _ h₁ tk _ hA.deeper (hm s.heap.objs.size ▸ hmc s.heap.objs.size ▸ H)

end
end Mine
namespace Mine

/-- all that a heap holds, but ex: so that the library's rules over a ledger keep it -/
def restOf (h : Heap) (ex : List Addr) : List (Addr × Obj) := (List.range h.objs.size).filterMap fun a => if ex.contains a then none else (h.get? a).map fun o => (a, o)
theorem mem_restOf {h : Heap} {ex : List Addr} {q : Addr × Obj} : q ∈ restOf h ex ↔ q.1 ∉ ex ∧ h.get? q.1 = some q.2 := by
  unfold restOf
  rw [List.mem_filterMap]
  constructor
  · rintro ⟨a, ha, e⟩
    split at e
    · cases e
    · rename_i n
      obtain ⟨o, ho, rfl⟩ := Option.map_eq_some_iff.mp e
      exact ⟨by simpa using n, ho⟩
  · rintro ⟨n, e⟩
    refine ⟨q.1, List.mem_range.mpr (Heap.lt_size e), ?_⟩
    rw [if_neg (by simpa using n), e]
    rfl

def noHeap : Heap := {}
theorem noHeap_get (a : Addr) : noHeap.get? a = none := rfl
theorem frame0 {h : Heap} {L : Addr} {m : Str → Option Value} (hn : h.Ns L m) : Fr noHeap L h m := ⟨hn, fun a o e => by rw [noHeap_get] at e; (cases e), Nat.zero_le _⟩
theorem news0 {h : Heap} {L : Addr} {ex : List Addr} (hL : L ∈ ex) : News noHeap L h (restOf h ex) := fun _ hq =>
  let ⟨n, e⟩ := mem_restOf.mp hq
  ⟨e, fun q => n (q ▸ hL), rfl⟩

def Inst (g : FM) (x C : Addr) (es : List DictEntry) : Prop := ∃ d n, g x = some (instObj C d) ∧ g d = some (dictOf es n)
theorem Inst.mono {g g' : FM} {x C : Addr} {es : List DictEntry} (I : Inst g x C es) (le : g.le g') : Inst g' x C es := let ⟨d, n, a, c⟩ := I; ⟨d, n, le _ _ a, le _ _ c⟩
theorem Inst.at_ {h : Heap} {x C : Addr} {es : List DictEntry} (I : Inst h.get? x C es) : ∃ d n, InstAt h x (instObj C d) C (some (dictOf es n)) := by
  obtain ⟨d, n, a, c⟩ := I
  exact ⟨d, n, a, rfl, rfl, c⟩
theorem FM.on.le {g : FM} {h : Heap} (x : g.on h) : g.le h.get? := x

section
variable {prog : Program} {w : World} {K : Frag} {p : Program} {loose : List Str} {mean : ExcName → Option Value} {mg mb : Str → Option Value} {b : Heap}
variable {S : List Addr} {g0 : FM} {h0 : Heap} {env : Env} {g : FM} {m mc : Str → Option Value} {mu : List (Addr × Obj)}
variable {A : Around} {s : Shared} {E : Value → Shared → Prop}

theorem St.X (H : St b S g0 h0 env g m mc mu s.heap) (W : Wd K p loose mean mg mb b) : K.In s.heap := W.X.keeps H.base

/-- what an object holds itself -/
theorem ga_own {x C : Addr} {name : Str} {es : List DictEntry} {v : Value} {attr : Option Value} {expr : Bool} {Q : Value → Shared → Prop} (X : K.In s.heap) (I : Inst s.heap.get? x C es)
    (hg : plainGet K C name = true) (hh : hasDictIn K C = true) (ha : findIn K (.ref C) name = some attr) (hn : noGet K attr = true) (hl : getL name es = some (some v)) (hv : handedIn v = true) (h : Q v { s with toks := s.toks + 1 }) :
    wpAny (model prog w) A (getAttr (.ref x) name expr) Q E s := by
  obtain ⟨d, n, J⟩ := I.at_
  exact get_value X J (plainGet_of hg).1 (findObj_own hh ha hn hl) hv h
/-- a method, looked up for a call -/
theorem gm_fn {x C : Addr} {name : Str} {es : List DictEntry} {f : Addr} {pl : Sem Bool} {Q : Value × List Value → Shared → Prop} (X : K.In s.heap) (I : Inst s.heap.get? x C es)
    (hg : plainGet K C name = true) (hf : findIn K (.ref C) name = some (some (.ref f))) (ht : isFn K (.ref f) = true) (hl : getL name es = some none) (h : Q (.ref f, [.ref x]) s) :
    wpAny (model prog w) A (getMethod (.ref x) name pl) Q E s := by
  obtain ⟨d, n, J⟩ := I.at_
  exact method_fn X J (plainGet_of hg).1 (plainGet_of hg).2 hf (beq_iff_eq.mp ht) (by show (lookIn name (dictOf es n)).map _ = _; rw [lookIn_dict, hl]; rfl) h
/-- a property -/
theorem ga_prop {x C : Addr} {name : Str} {es : List DictEntry} {pa fget : Addr} {rest : List Value} {expr : Bool} {Q : Value → Shared → Prop} (X : K.In s.heap) (I : Inst s.heap.get? x C es)
    (hg : plainGet K C name = true) (hh : hasDictIn K C = true) (ha : findIn K (.ref C) name = some (some (.ref pa))) (hn : specialIn K (.ref pa) "__get__" = some (some (.builtin "property.__get__"))) (ht : takesIn K (.ref pa) = some true)
    (hp : recIn K pa "property" = some (.ref fget :: rest))
    (h : codeAny (model prog w) A.in1 (.call (.ref fget) ⟨[.ref x], []⟩) (fun r s' => match r with | .ok (.ret v) => wpAny (model prog w) A (handedOut v) Q E s' | .ok _ => False | .error e => wpAny (model prog w) A (noteIf true (.ref x) (.str name s.toks) e) (fun _ s'' => E e s'') E s') { s with toks := s.toks + 1 }) :
    wpAny (model prog w) A (getAttr (.ref x) name expr) Q E s := by
  obtain ⟨d, n, J⟩ := I.at_
  exact get_bind X J (plainGet_of hg).1 (findObj_data (by obtain ⟨cd, hc, _⟩ := any_some hh; rw [hc]; rfl) ha hn ht) (plainGet_of hg).2 (wpAny_call (prop_get (s := { s with toks := s.toks + 1 }) X hp h))

/-- a store into an object that the frame made -/
theorem sa_own {x C dx : Addr} {name : Str} {es es' : List DictEntry} {n n' : Nat} {v : Value} {Q : Unit → Shared → Prop} (W : Wd K p loose mean mg mb b) (H : St b S g0 h0 env g m mc ((dx, dictOf es n) :: mu) s.heap)
    (hx : s.heap.get? x = some (instObj C dx)) (hs : findIn K (.ref C) "__setattr__" = some (some (.builtin "object.__setattr__"))) (hp : plainOver K C = true) (ht : takerIn K C name = some none) (hh : hasDictIn K C = true)
    (hl : (getL name es).isSome = true) (e : (putL name (PyData.keyHash w.params name) (.str name (s.toks + 1)) v es, putN name es n) = (es', n')) (hz : es'.length ≤ 1000)
    (h : ∀ h', St b S g0 h0 env g m mc ((dx, dictOf es' n') :: mu) h' → Q () { s with heap := h', toks := s.toks + 2 }) : wpAny (model prog w) A (setAttr (.ref x) name v) Q E s := by
  have hd : s.heap.get? dx = some (dictOf es n) := H.mus (dx, dictOf es n) (.head _)
  have hne : dx ≠ env.locals := fun q => by
    have := H.nd; unfold owns at this
    exact (List.nodup_cons.mp this).1 (List.mem_append_right _ (q ▸ .head _))
  have I : InstAt s.heap x (instObj C dx) C (some (dictOf es n)) := ⟨hx, rfl, rfl, hd⟩
  have X := H.X W
  obtain ⟨e1, e2⟩ := Prod.mk.inj e
  refine set_plain X I hs ?_
  refine osa_dict (s := { s with toks := s.toks + 1 }) (pre := []) (post := restOf s.heap [env.locals, dx]) (od' := dictOf es' n') (es := es') (n := n') (frame0 H.ns) (fun q hq => ?_) X I rfl hp ht hh hl (fun _ q => nomatch q) (fun q hq r => ?_) (by rw [putName_dict, e1, e2]) rfl hz fun h' F' N' => ?_
  · rcases List.mem_cons.mp hq with rfl | hq
    · exact ⟨hd, hne, rfl⟩
    · exact news0 (.head _) q hq
  · exact (mem_restOf.mp hq).1 (r ▸ .tail _ (.head _))
  · refine h h' ?_
    have hd' := (N' (dx, dictOf es' n') (.head _)).1
    have kp : ∀ a o, a ≠ env.locals → a ≠ dx → s.heap.get? a = some o → h'.get? a = some o := fun a o n1 n2 q =>
      (N' (a, o) (.tail _ (mem_restOf.mpr ⟨by simp [n1, n2], q⟩))).1
    have nd := H.nd
    have gdx := (H.own dx (owns_mu (p := (dx, dictOf es n)) (.head _))).1
    have gL := (H.own env.locals owns_L).1
    refine H.move (mu' := (dx, dictOf es' n') :: mu) ⟨.refl g, fun _ _ q => .inl q, fun a o na q => kp a o (fun r => na (r ▸ owns_L)) (fun r => na (by subst r; exact owns_mu (p := (a, dictOf es n)) (.head _))) q, fun a o q => ?_,
      fun a o q => kp a o (fun r => by subst r; rw [gL] at q; cases q) (fun r => by subst r; rw [gdx] at q; cases q) (H.on a o q)⟩ F'.ns (fun y c hc => ?_) (fun q hq => ?_) rfl
    · by_cases q1 : a = env.locals
      · subst q1; obtain ⟨o', _, _, e', _⟩ := F'.ns; exact ⟨o', e'⟩
      · by_cases q2 : a = dx
        · subst q2; exact ⟨_, hd'⟩
        · exact ⟨o, kp a o q1 q2 q⟩
    · obtain ⟨o, ho, hcd⟩ := H.cell y c hc
      unfold owns at nd
      rw [List.map_cons] at nd
      have hcm : c ∈ env.cells.map (·.2) := List.mem_map.mpr ⟨(y, c), hc, rfl⟩
      exact ⟨o, kp c o (fun r => (List.nodup_cons.mp nd).1 (r ▸ List.mem_append_left _ hcm)) (fun r => (List.nodup_append.mp (List.nodup_cons.mp nd).2).2.2 c hcm dx (.head _) r) ho, hcd⟩
    · rcases List.mem_cons.mp hq with rfl | hq
      · exact hd'
      · unfold owns at nd
        rw [List.map_cons] at nd
        refine kp q.1 q.2 (fun r => (List.nodup_cons.mp nd).1 (r ▸ List.mem_append_right _ (.tail _ (List.mem_map_of_mem hq)))) (fun r => ?_) (H.mus q (.tail _ hq))
        exact (List.nodup_cons.mp (List.nodup_append.mp (List.nodup_cons.mp nd).2).2.1).1 (r ▸ (List.mem_map_of_mem (f := (·.1)) hq : q.1 ∈ mu.map (·.1)))

/-- an object made -/
theorem mk_inst {C fI : Addr} {rest : List Value} {kw : List (Str × Value)} {Q : Value → Shared → Prop} (X : K.In s.heap) (on : g.on s.heap) (hm : makesIn K C = true) (hi : findIn K (.ref C) "__init__" = some (some (.ref fI))) (hf : isFn K (.ref fI) = true)
    (h : ∀ x dx h', s.heap.get? x = none → s.heap.get? dx = none → x ≠ dx → h'.get? x = some (instObj C dx) → h'.get? dx = some (dictOf [] 0) → (∀ a o, s.heap.get? a = some o → h'.get? a = some o) → s.heap.objs.size ≤ h'.objs.size →
      codeAny (model prog w) (A.under (.builtin "type.__call__" ⟨.ref C :: rest, kw⟩)) (.call (.ref fI) ⟨.ref x :: rest, kw⟩) (fun r s' => match r with | .ok (.ret v) => v = .none ∧ Q (.ref x) s' | .ok _ => False | .error e => E e s') { s with heap := h' }) :
    wpAny (model prog w) A (call (.ref C) rest kw) Q E s := by
  refine wpAny_call ?_
  obtain ⟨hh, gn, d, t, os⟩ := s
  have none_of : ∀ a, hh.objs.size ≤ a → hh.get? a = none := fun a ha => by
    cases q : hh.get? a with
    | none => rfl
    | some o => exact absurd (Heap.lt_size q) (Nat.not_lt.mpr ha)
  refine make_core (makes_of X hm) (looks_findIn X hi) (fun self => bind_fn X self (beq_iff_eq.mp hf)) (.inl rfl) (codeAny_mono (h (hh.objs.size + 1) hh.objs.size _ (none_of _ (Nat.le_succ _)) (none_of _ (Nat.le_refl _)) (Nat.succ_ne_self _) ?_ ?_ ?_ ?_) fun r s' z => z)
  · have := Heap.get?_push_size (hh.push emptyDict) (o := instObj C hh.objs.size) rfl
    rwa [Heap.size_push] at this
  · exact Heap.get?_push_of_some _ (Heap.get?_push_size _ rfl)
  · exact fun a o q => Heap.get?_push_of_some _ (Heap.get?_push_of_some _ q)
  · show hh.objs.size ≤ ((hh.push emptyDict).push _).objs.size
    rw [Heap.size_push, Heap.size_push]; exact Nat.le_add_right _ 2
end
end Mine
namespace Mine

section
variable {b : Heap} {S : List Addr} {g0 : FM} {h0 : Heap} {env : Env} {g : FM} {m mc : Str → Option Value} {mu : List (Addr × Obj)} {h h' : Heap}
theorem St.updAt {pre post : List (Addr × Obj)} {a : Addr} {o o' : Obj} (H : St b S g0 h0 env g m mc (pre ++ (a, o) :: post) h) (ha : h'.get? a = some o') (hs : Heap.ExtBut a h h') :
    St b S g0 h0 env g m mc (pre ++ (a, o') :: post) h' :=
  ((H.perm List.perm_middle).upd ha hs).perm List.perm_middle.symm
theorem St.muAt {pre post : List (Addr × Obj)} {a : Addr} {o : Obj} (H : St b S g0 h0 env g m mc (pre ++ (a, o) :: post) h) : h.get? a = some o := H.mus (a, o) (List.mem_append_right _ (.head _))
theorem St.ne_of_mu {a : Addr} {o : Obj} (H : St b S g0 h0 env g m mc ((a, o) :: mu) h) : ∀ x ∈ owns env mu, x ≠ a := by
  have nd := H.nd
  intro x hx q
  subst q
  unfold owns at nd hx
  rw [List.map_cons] at nd
  have nd2 := List.nodup_append.mp (List.nodup_cons.mp nd).2
  rcases List.mem_cons.mp hx with q | q
  · exact (List.nodup_cons.mp nd).1 (q ▸ List.mem_append_right _ (.head _))
  · rcases List.mem_append.mp q with q | q
    · exact nd2.2.2 x q x (.head _) rfl
    · exact (List.nodup_cons.mp nd2.2.1).1 q
/-- junk, turned or gone -/
theorem St.dropJunk {a : Addr} {o : Obj} (H : St b S g0 h0 env g m mc ((a, o) :: mu) h) (h0a : h0.get? a = none) (kp : ∀ x p, x ≠ a → h.get? x = some p → h'.get? x = some p) : St b S g0 h0 env g m mc mu h' := by
  have ne := H.ne_of_mu
  have ga := (H.own a (owns_mu (p := (a, o)) (.head _))).1
  have D := H.drop
  refine ⟨?_, fun x c hc => ?_, D.bg, D.lo, ⟨D.ev.gg, D.ev.new, fun x p n e => kp x p (fun q => by subst q; rw [h0a] at e; cases e) (D.ev.keep x p n e), fun x p e => ?_, fun x p e => kp x p (fun q => by subst q; rw [ga] at e; cases e) (D.on x p e)⟩,
    fun p hp => kp _ _ (ne _ (owns_mu hp)) (D.mus p hp), D.nd, D.nn, D.own⟩
  · obtain ⟨oL, es, ep, e, r⟩ := D.ns; exact ⟨oL, es, ep, kp _ _ (ne _ owns_L) e, r⟩
  · obtain ⟨oc, e, r⟩ := D.cell x c hc
    exact ⟨oc, kp _ _ (ne _ (.tail _ (List.mem_append_left _ (List.mem_map.mpr ⟨(x, c), hc, rfl⟩)))) e, r⟩
  · obtain ⟨p', e'⟩ := D.ev.live x p e
    exact ⟨p', kp x p' (fun q => by subst q; rw [h0a] at e; cases e) e'⟩
theorem St.adopt (H : St b S g0 h0 env g m mc mu h) {a : Addr} {o : Obj} (ha : h.get? a = some o) (na : a ∉ owns env mu) (ga : g a = none) (h0a : h0.get? a = none) : St b S g0 h0 env g m mc ((a, o) :: mu) h := by
  refine ⟨H.ns, H.cell, H.bg, H.lo, H.ev, fun p hp => ?_, ?_, H.nn, fun x hx => ?_⟩
  · rcases List.mem_cons.mp hp with rfl | hp
    · exact ha
    · exact H.mus p hp
  · have nd := H.nd
    unfold owns at nd na ⊢
    rw [List.map_cons]
    refine List.nodup_cons.mpr ⟨fun q => ?_, ?_⟩
    · rcases List.mem_append.mp q with q | q
      · exact (List.nodup_cons.mp nd).1 (List.mem_append_left _ q)
      · rcases List.mem_cons.mp q with q | q
        · exact na (q ▸ .head _)
        · exact (List.nodup_cons.mp nd).1 (List.mem_append_right _ q)
    · refine List.nodup_append.mpr ⟨(List.nodup_append.mp (List.nodup_cons.mp nd).2).1, List.nodup_cons.mpr ⟨fun q => na (.tail _ (List.mem_append_right _ q)), (List.nodup_append.mp (List.nodup_cons.mp nd).2).2.1⟩, fun x hx y hy e => ?_⟩
      rcases List.mem_cons.mp hy with q | q
      · subst e; subst q; exact na (.tail _ (List.mem_append_left _ hx))
      · exact (List.nodup_append.mp (List.nodup_cons.mp nd).2).2.2 x hx y q e
  · have : x = a ∨ x ∈ owns env mu := by
      unfold owns at hx ⊢
      rcases List.mem_cons.mp hx with q | q
      · exact .inr (q ▸ .head _)
      · rcases List.mem_append.mp q with q | q
        · exact .inr (.tail _ (List.mem_append_left _ q))
        · rcases List.mem_cons.mp q with q | q
          · exact .inl q
          · exact .inr (.tail _ (List.mem_append_right _ q))
    rcases this with rfl | q
    · exact ⟨ga, .inl h0a⟩
    · exact H.own x q
theorem none_of_ge {h : Heap} {a : Addr} (ha : h.objs.size ≤ a) : h.get? a = none := by
  cases q : h.get? a with
  | none => rfl
  | some o => exact absurd (Heap.lt_size q) (Nat.not_lt.mpr ha)
end

/-- what is iterated: n items, each as P says -/
def Src (prog : Program) (w : World) (A : Around) (n : Nat) (P : Nat → Value → Prop) (g : FM) (xv : Value) (h : Heap) : Prop :=
  ∀ (s : Shared) (Q : Value → Shared → Prop) (E : Value → Shared → Prop), s.heap = h →
    (∀ I fp Ws h', Walks prog w A I fp [I] n P Ws → Ws 0 h' → (∀ i h, Ws i h → ∃ o, h.get? I = some o) → h.get? I = none → (∀ a ∈ fp, a ≠ I → ∃ o, g a = some o) →
      (∀ a o, h.get? a = some o → h'.get? a = some o) → h.objs.size ≤ h'.objs.size → Q (.ref I) { s with heap := h' }) → wpAny (model prog w) A (pyIter xv) Q E s

section
variable {prog : Program} {w : World} {A : Around} {g : FM} {h : Heap}
theorem Src.range (hh : A.handled = none) {r : Addr} {a c : Int} {t u v : Tok} (hr : IsRange h r a c 1 t u v) (hsmall : Builtin.Range.small a c 1 = true) (hac : a ≤ c) :
    Src prog w A (c - a).toNat (fun i v => ∃ t, v = .int (a + i) t) g (.ref r) h := by
  intro s Q E hs k
  subst hs
  refine wpAny_pyIter_range hr hsmall ?_
  have hsz : Builtin.Range.rangeSize a c 1 = ((c - a).toNat : Int) := by
    rw [rangeSize_one]; split <;> omega
  have W := Walks.range (prog := prog) (w := w) hh s.heap.objs.size a 1 (c - a).toNat
  refine k s.heap.objs.size [s.heap.objs.size] _ _ ⟨W.sub, W.frame, fun i s Q E hi st hQ => W.item i s Q E hi st fun v h' tk hp => hQ v h' tk (by obtain ⟨t, e⟩ := hp; exact ⟨t, by rw [e, Int.mul_one]⟩), W.done, W.self⟩ ?_ (fun i h e => ⟨_, e⟩)
    (none_of_ge (Nat.le_refl _)) (fun x hx n => absurd (List.mem_singleton.mp hx) n) (fun _ _ e => Heap.get?_push_of_some _ e) (by rw [Heap.size_push]; exact Nat.le_succ _)
  have e1 : (a + ((0 : Nat) : Int) * 1) = a := by simp
  have e2 : (((c - a).toNat : Int) - ((0 : Nat) : Int)) = Builtin.Range.rangeSize a c 1 := by rw [hsz]; simp
  show IsRangeIter _ _ (a + ((0 : Nat) : Int) * 1) (((c - a).toNat : Int) - ((0 : Nat) : Int)) 1
  rw [e1, e2]
  exact Heap.get?_push_size _ rfl

/-- a list that stands for good -/
theorem Src.list (hh : A.handled = none) {l : Addr} {o : Obj} {vs : List Value} (hg : g l = some o) (on : g.on h) (hl : h.IsList l vs.toArray) : Src prog w A vs.length (fun i v => vs[i]? = some v) g (.ref l) h := by
  intro s Q E hs k
  subst hs
  refine wpAny_pyIter_list hl ?_
  have hlt : l < s.heap.objs.size := by obtain ⟨_, e, _⟩ := hl; exact Heap.lt_size e
  have W := Walks.list (prog := prog) (w := w) hh s.heap.objs.size l (Nat.ne_of_lt hlt) vs.toArray
  have e : vs.toArray.size = vs.length := List.size_toArray ..
  rw [e] at W
  have hW : Walks prog w A s.heap.objs.size [s.heap.objs.size, l] [s.heap.objs.size] vs.length (fun i v => vs[i]? = some v) (fun i h => h.IsListIter s.heap.objs.size l i ∧ h.IsList l vs.toArray) :=
    ⟨W.sub, W.frame, fun i s Q E hi st hQ => W.item i s Q E hi st fun v h' tk hp => hQ v h' tk (by simpa using hp), W.done, W.self⟩
  refine k s.heap.objs.size _ _ _ hW ⟨⟨_, Heap.get?_push_size _ rfl, rfl, rfl⟩, hl.push _⟩ (fun i h e => ⟨_, e.1.choose_spec.1⟩) (none_of_ge (Nat.le_refl _)) (fun x hx n => ?_) (fun _ _ e => Heap.get?_push_of_some _ e) (by rw [Heap.size_push]; exact Nat.le_succ _)
  rcases List.mem_cons.mp hx with rfl | hx
  · exact absurd rfl n
  · exact ⟨o, (List.mem_singleton.mp hx) ▸ hg⟩
end

section
variable {prog : Program} {w : World} {b : Heap}
variable {S : List Addr} {g0 : FM} {h0 : Heap} {env : Env} {g : FM} {m mc : Str → Option Value} {mu : List (Addr × Obj)}
variable {A : Around} {s : Shared} {E : Value → Shared → Prop}

abbrev Inv := FM → (Str → Option Value) → (Str → Option Value) → List (Addr × Obj) → Prop

def LoopEndG (GP : Array GenState → Prop) (b : Heap) (S : List Addr) (g0 : FM) (h0 : Heap) (env : Env) (s : Shared) (g₁ : FM) (q : Addr × Obj) (J : Inv) (Q : Flow → Shared → Prop) (f : Flow) (s' : Shared) : Prop :=
  match f with
  | .ret v => Q (.ret v) s'
  | .brk => Q .next s'
  | _ => ∃ g₂ m₂ mc₂ mu₂ h₂ tk₂ gs₂, s' = { s with heap := h₂, toks := tk₂, gens := gs₂ } ∧ GP gs₂ ∧ g₁.le g₂ ∧ St b S g0 h0 env g₂ m₂ mc₂ (q :: mu₂) h₂ ∧ J g₂ m₂ mc₂ mu₂
abbrev LoopEnd (b : Heap) (S : List Addr) (g0 : FM) (h0 : Heap) (env : Env) (s : Shared) (g₁ : FM) (q : Addr × Obj) (J : Inv) (Q : Flow → Shared → Prop) (f : Flow) (s' : Shared) : Prop :=
  LoopEndG (fun gs => gs = s.gens) b S g0 h0 env s g₁ q J Q f s'
theorem LoopEnd.mk {s : Shared} {g₁ g₂ : FM} {q : Addr × Obj} {J : Inv} {Q : Flow → Shared → Prop} {m₂ mc₂ : Str → Option Value} {mu₂ : List (Addr × Obj)} {h₂ : Heap} {tk₂ : Nat}
    (le : g₁.le g₂) (H : St b S g0 h0 env g₂ m₂ mc₂ (q :: mu₂) h₂) (j : J g₂ m₂ mc₂ mu₂) : LoopEnd b S g0 h0 env s g₁ q J Q .next { s with heap := h₂, toks := tk₂ } :=
  ⟨g₂, m₂, mc₂, mu₂, h₂, tk₂, s.gens, rfl, rfl, le, H, j⟩
theorem LoopEndG.mk {GP : Array GenState → Prop} {s : Shared} {g₁ g₂ : FM} {q : Addr × Obj} {J : Inv} {Q : Flow → Shared → Prop} {m₂ mc₂ : Str → Option Value} {mu₂ : List (Addr × Obj)} {h₂ : Heap} {tk₂ : Nat} {gs₂ : Array GenState}
    (gp : GP gs₂) (le : g₁.le g₂) (H : St b S g0 h0 env g₂ m₂ mc₂ (q :: mu₂) h₂) (j : J g₂ m₂ mc₂ mu₂) : LoopEndG GP b S g0 h0 env s g₁ q J Q .next { s with heap := h₂, toks := tk₂, gens := gs₂ } :=
  ⟨g₂, m₂, mc₂, mu₂, h₂, tk₂, gs₂, rfl, gp, le, H, j⟩

theorem loop_gen {target : Expr} {body : List Stmt} {n : Nat} {P : Nat → Value → Prop} {xv : Value} {Q : Flow → Shared → Prop} {pE : Value → Shared → Prop} {GP : Array GenState → Prop} (gp0 : GP s.gens) (am ac : Value → (Str → Option Value) → Str → Option Value)
    (asg : ∀ v g₁ m₁ mc₁ mu₁ (s₁ : Shared) (Q : Unit → Shared → Prop) (E : Value → Shared → Prop), St b S g0 h0 env g₁ m₁ mc₁ mu₁ s₁.heap → (∀ h' tk, St b S g0 h0 env g₁ (am v m₁) (ac v mc₁) mu₁ h' → Q () { s₁ with heap := h', toks := tk }) →
      wpAny (model prog w) A (assign target env v) Q E s₁) (ht : ∀ it v, letOwnedTupleGo target it v = pure ())
    (H : St b S g0 h0 env g m mc mu s.heap) (src : Src prog w A n P g xv s.heap) (J : Nat → Inv) (j0 : J 0 g m mc mu)
    (turn : ∀ i v I oI g₁ m₁ mc₁ mu₁ h₁ tk gs E', GP gs → i < n → P i v → g.le g₁ → J i g₁ m₁ mc₁ mu₁ → St b S g0 h0 env g₁ (am v m₁) (ac v mc₁) ((I, oI) :: mu₁) h₁ →
      wpAny (model prog w) A (execs body env) (LoopEndG GP b S g0 h0 env s g₁ (I, oI) (J (i + 1)) Q) E' { s with heap := h₁, toks := tk, gens := gs })
    (done : ∀ g₁ m₁ mc₁ mu₁ h₁ tk gs, GP gs → g.le g₁ → J n g₁ m₁ mc₁ mu₁ → St b S g0 h0 env g₁ m₁ mc₁ mu₁ h₁ → Q .next { s with heap := h₁, toks := tk, gens := gs }) :
    wpAny (model prog w) A (pyIter xv) (fun it s₂ => codeAny (model prog w) A (.forLoop target it body [] env) (fun r s' => match r with | .ok f => Q f s' | .error e => pE e s') s₂) E s := by
  refine src s _ _ rfl fun I fp Ws h' W w0 live fresh frz keep _ => ?_
  obtain ⟨oI, hI⟩ := live 0 h' w0
  have H' := H.alloc fresh hI keep
  refine codeAny_forLoop (fun k s' => ∃ i g₁ m₁ mc₁ mu₁ oI h₁ tk gs, s' = { s with heap := h₁, toks := tk, gens := gs } ∧ GP gs ∧ k = n - i ∧ i ≤ n ∧ Ws i h₁ ∧ g.le g₁ ∧ St b S g0 h0 env g₁ m₁ mc₁ ((I, oI) :: mu₁) h₁ ∧ J i g₁ m₁ mc₁ mu₁) ?_ n
    ⟨0, g, m, mc, mu, oI, h', s.toks, s.gens, rfl, gp0, rfl, Nat.zero_le _, w0, .refl g, H', j0⟩ (fun v => ht _ v)
  rintro k s' ⟨i, g₁, m₁, mc₁, mu₁, oI, h₁, tk, gs, rfl, gp, rfl, hi, w1, le1, H1, j1⟩
  have hIo : ∀ {p}, p ∈ [I] → p = I := fun hp => List.mem_singleton.mp hp
  by_cases hlt : i < n
  · refine W.item i _ _ _ hlt w1 fun v h₂ tk₂ hP w2 kp => ?_
    obtain ⟨oI', hI'⟩ := live _ _ w2
    have H2 : St b S g0 h0 env g₁ m₁ mc₁ ((I, oI') :: mu₁) h₂ := H1.upd hI' fun a o na e => kp a o (fun q => na (hIo q)) e
    refine asg v g₁ m₁ mc₁ _ _ _ _ H2 fun h₃ tk₃ H3 => ?_
    have w3 : Ws (i + 1) h₃ := W.frame _ _ _ w2 fun a ha o e => by
      by_cases q : a = I
      · subst q
        have := H3.mus (a, oI') (.head _)
        rw [hI'] at e; cases e; exact this
      · obtain ⟨o', hg⟩ := frz a ha q
        have e2 := H2.on a o' (le1 a o' hg)
        have e3 := H3.on a o' (le1 a o' hg)
        rw [e] at e2; cases e2; exact e3
    refine wpAny_mono (turn i v I oI' g₁ m₁ mc₁ mu₁ h₃ tk₃ gs _ gp hlt hP le1 j1 H3) (fun f s₃ z => ?_) fun _ _ z => z
    cases f with
    | ret v => exact z
    | brk => exact z
    | next | cont =>
      obtain ⟨g₂, m₂, mc₂, mu₂, h₄, tk₄, gs₄, rfl, gp₄, le2, H4, j2⟩ := z
      refine ⟨n - (i + 1), Nat.sub_lt_sub_left hlt (Nat.lt_succ_self i), i + 1, g₂, m₂, mc₂, mu₂, oI', h₄, tk₄, gs₄, rfl, gp₄, rfl, hlt, W.frame _ _ _ w3 fun a ha o e => ?_, le1.trans le2, H4, j2⟩
      by_cases q : a = I
      · subst q
        have e3 := H3.mus (a, oI') (.head _)
        have e4 := H4.mus (a, oI') (.head _)
        rw [e] at e3; cases e3; exact e4
      · obtain ⟨o', hg⟩ := frz a ha q
        have e3 := H3.on a o' (le1 a o' hg)
        have e4 := H4.on a o' (le2 _ _ (le1 a o' hg))
        rw [e] at e3; cases e3; exact e4
  · have hin : i = n := Nat.le_antisymm hi (Nat.not_lt.mp hlt)
    subst hin
    refine W.done _ _ _ w1 fun h₂ tk₂ kp => ?_
    refine wpAny_execs_nil ?_
    have h0I : h0.get? I = none := by
      cases q : h0.get? I with
      | none => rfl
      | some o => obtain ⟨o', e⟩ := H.ev.live _ _ q; rw [fresh] at e; cases e
    have H2 : St b S g0 h0 env g₁ m₁ mc₁ mu₁ h₂ := H1.dropJunk h0I fun a o na e => kp a o (fun q => na (hIo q)) e
    exact done g₁ m₁ mc₁ mu₁ h₂ tk₂ gs gp le1 j1 H2
end
end Mine
namespace Mine

/-- a list's object -/
def IsL (o : Obj) (ys : List Value) : Prop := o.cls = .type "list" ∧ ∃ k, o.data = .seq ys.toArray k ∧ o = { cls := .type "list", data := .seq ys.toArray k }
theorem IsL.at_ {o : Obj} {ys : List Value} (x : IsL o ys) {h : Heap} {a : Addr} (e : h.get? a = some o) : h.IsList a ys.toArray := let ⟨c, k, d, _⟩ := x; ⟨o, e, c, k, d⟩
theorem IsL.plain {o : Obj} {ys : List Value} (x : IsL o ys) {h : Heap} {a : Addr} (e : h.get? a = some o) : h.PlainList a ys.toArray := let ⟨_, k, _, q⟩ := x; ⟨k, q ▸ e⟩
theorem plain_isl {h : Heap} {a : Addr} {its : Array Value} {ys : List Value} (x : h.PlainList a its) (e : its = ys.toArray) : ∃ o, h.get? a = some o ∧ IsL o ys := by
  subst e
  obtain ⟨n, q⟩ := x
  exact ⟨_, q, rfl, n, rfl, rfl⟩

def cenvOf (scope : Scope) (cl : List (Str × Addr)) (C : Addr) (env : Env) : Env :=
  { scope := relabel scope env, locals := C, globals := env.globals, cells := cellsFrom (C + 1) scope.names cl, qual := env.qual, func := none, code := env.code, frame := env.frame, builtins := env.builtins }

def Caught (env : Env) : List (Str × Addr) → Prop
  | [] => True
  | p :: r => env.cells.lookup p.1 = some p.2 ∧ Caught env r
theorem Caught.all {env : Env} : ∀ {cl : List (Str × Addr)}, Caught env cl → ∀ p ∈ cl, env.cells.lookup p.1 = some p.2
  | _ :: _, ⟨h, _⟩, _, .head _ => h
  | _ :: _, ⟨_, r⟩, p, .tail _ hp => r.all p hp

theorem cells_new : ∀ (names : List (Str × NameKind)) (h : Heap) (acc : List (Str × Addr)) (q : Str × Addr), q ∈ cellsFrom h.objs.size names acc →
    q ∈ acc ∨ (h.objs.size ≤ q.2 ∧ (pushCells h names).IsCell q.2 none ∧ (q.1, NameKind.cell) ∈ names)
  | [], _, _, _, hq => .inl hq
  | (x, k) :: r, h, acc, q, hq => by
    unfold cellsFrom at hq
    unfold pushCells
    by_cases hk : (k == NameKind.cell) = true
    · rw [if_pos hk] at hq
      rw [if_pos hk]
      have e : (h.push { cls := .type "cell", data := .cell none }).objs.size = h.objs.size + 1 := Heap.size_push ..
      rw [← e] at hq
      rcases cells_new r _ _ q hq with hq | ⟨h1, h2, h3⟩
      · rcases List.mem_cons.mp hq with rfl | hq
        · exact .inr ⟨Nat.le_refl _, ⟨_, pushCells_keeps _ _ _ _ (Heap.get?_push_size _ rfl), rfl⟩, by rw [show k = NameKind.cell from beq_iff_eq.mp hk]; exact .head _⟩
        · exact .inl hq
      · exact .inr ⟨by rw [e] at h1; omega, h2, .tail _ h3⟩
    · rw [if_neg hk] at hq
      rw [if_neg hk]
      rcases cells_new r h acc q hq with hq | ⟨h1, h2, h3⟩
      · exact .inl hq
      · exact .inr ⟨h1, h2, .tail _ h3⟩
section
variable {prog : Program} {w : World} {b : Heap}
variable {S : List Addr} {g0 : FM} {h0 : Heap} {env : Env} {g g₂ : FM} {m mc m₂ mc₂ : Str → Option Value} {mu mu₂ : List (Addr × Obj)} {h h₂ : Heap}
variable {A : Around} {s : Shared} {E : Value → Shared → Prop}

theorem St.muE (_H : St b S g0 h0 env g m mc mu h) {a : Addr} (ha : a ∈ mu.map (·.1)) : a ∈ owns env mu := .tail _ (List.mem_append_right _ ha)
theorem St.not_owned (H : St b S g0 h0 env g m mc mu h) {a : Addr} (ha : h.get? a = none) : a ∉ owns env mu := fun q => by obtain ⟨o, e⟩ := H.liveO q; rw [ha] at e; cases e
theorem St.gfresh (H : St b S g0 h0 env g m mc mu h) {a : Addr} (ha : h.get? a = none) : g a = none := by
  cases q : g a with
  | none => rfl
  | some o => rw [H.on _ _ q] at ha; cases ha
theorem St.h0fresh (H : St b S g0 h0 env g m mc mu h) {a : Addr} (ha : h.get? a = none) : h0.get? a = none := by
  cases q : h0.get? a with
  | none => rfl
  | some o => obtain ⟨o', e⟩ := H.ev.live _ _ q; rw [ha] at e; cases e

/-- a block's frame, above its function's -/
theorem St.inner {scope : Scope} {cl : List (Str × Addr)} {cn : List Str} (H : St b S g0 h0 env g m mc mu h) (hcl : Caught env cl) (hcn : cl.map (·.1) = cn)
    (hnd : ((cellsFrom 0 scope.names (cn.map fun x => (x, 0))).map (·.1)).Nodup) {H₃ h₄ : Heap} (k3 : ∀ a o, h.get? a = some o → H₃.get? a = some o) (hle : h.objs.size ≤ H₃.objs.size)
    (h4 : h₄ = pushCells (H₃.push { cls := .type "dict", data := .dict #[] }) scope.names) {mc' : Str → Option Value} (hmc : ∀ p ∈ cl, mc' p.1 = mc p.1) (hown : ∀ x, (x, NameKind.cell) ∈ scope.names → mc' x = none) :
    St b (cl.map (·.2) ++ mu.map (·.1)) g h (cenvOf scope cl H₃.objs.size env) g no mc' mu h₄ ∧ ∀ a ∈ owns (cenvOf scope cl H₃.objs.size env) mu, (∃ o, h.get? a = some o) ∨ H₃.objs.size ≤ a := by
  subst h4
  have k4 : ∀ a o, h.get? a = some o → (pushCells (H₃.push { cls := .type "dict", data := .dict #[] }) scope.names).get? a = some o := fun a o e => pushCells_keeps _ _ _ _ (Heap.get?_push_of_some _ (k3 a o e))
  have sz : (H₃.push { cls := .type "dict", data := .dict #[] }).objs.size = H₃.objs.size + 1 := Heap.size_push ..
  have cn4 : ∀ q ∈ cellsFrom (H₃.objs.size + 1) scope.names cl, q ∈ cl ∨ (H₃.objs.size + 1 ≤ q.2 ∧ (pushCells (H₃.push { cls := .type "dict", data := .dict #[] }) scope.names).IsCell q.2 none ∧ (q.1, NameKind.cell) ∈ scope.names) := fun q hq => by
    rw [← sz] at hq ⊢; exact cells_new _ _ _ _ hq
  have lt : ∀ a ∈ owns env mu, a < h.objs.size := fun a ha => by obtain ⟨o, e⟩ := H.liveO ha; exact Heap.lt_size e
  have clE : ∀ p ∈ cl, p ∈ env.cells := fun p hp => mem_of_lookup (hcl.all p hp)
  have clO : ∀ p ∈ cl, p.2 ∈ owns env mu := fun p hp => .tail _ (List.mem_append_left _ (List.mem_map.mpr ⟨p, clE p hp, rfl⟩))
  have nd := H.nd
  unfold owns at nd
  have nd2 := List.nodup_append.mp (List.nodup_cons.mp nd).2
  have nn : ((cellsFrom (H₃.objs.size + 1) scope.names cl).map (·.1)).Nodup := by
    rw [cells_names scope.names _ 0 cl (cn.map fun x => (x, 0)) (by rw [hcn, List.map_map]; exact (List.map_id cn).symm)]; exact hnd
  have clN : (cl.map (·.1)).Nodup := by
    have : ∀ (names : List (Str × NameKind)) (n : Nat) (acc : List (Str × Addr)), ((cellsFrom n names acc).map (·.1)).Nodup → (acc.map (·.1)).Nodup := by
      intro names
      induction names with
      | nil => exact fun _ _ h => h
      | cons p r ih =>
        intro n acc h
        unfold cellsFrom at h
        split at h
        · have := ih _ _ h
          rw [List.map_cons] at this
          exact (List.nodup_cons.mp this).2
        · exact ih _ _ h
    exact this _ _ _ nn
  have clA : (cl.map (·.2)).Nodup := by
    have : ∀ l : List (Str × Addr), (l.map (·.1)).Nodup → (∀ p ∈ l, p ∈ env.cells) → (l.map (·.2)).Nodup := by
      intro l
      induction l with
      | nil => exact fun _ _ => List.nodup_nil
      | cons p r ih =>
        intro h1 h2
        rw [List.map_cons] at h1 ⊢
        obtain ⟨h3, h4⟩ := List.nodup_cons.mp h1
        refine List.nodup_cons.mpr ⟨fun q => ?_, ih h4 fun x hx => h2 x (.tail _ hx)⟩
        obtain ⟨x, hx, e⟩ := List.mem_map.mp q
        have : x.1 = p.1 := cell_inj nd2.1 (c := p.2) (e ▸ h2 x (.tail _ hx)) (h2 p (.head _))
        exact h3 (this ▸ List.mem_map_of_mem hx)
    exact this cl clN clE
  have ndc : ((cellsFrom (H₃.objs.size + 1) scope.names cl).map (·.2)).Nodup := cells_nodup _ _ _ clA fun p hp => Nat.lt_succ_of_lt (Nat.lt_of_lt_of_le (lt _ (clO p hp)) hle)
  have Cn : (cenvOf scope cl H₃.objs.size env).locals = H₃.objs.size := rfl
  refine ⟨⟨(Heap.Ns.new H₃ (.type "dict")).keeps (pushCells_keeps _ _), fun y c hc => ?_, H.bg, Nat.le_trans H.Bg.lo hle, Ev.keeps H.on k4, fun p hp => k4 _ _ (H.mus p hp), ?_, nn, fun a ha => ?_⟩, fun a ha => ?_⟩
  · rcases cn4 (y, c) hc with hc | ⟨_, hc, hn⟩
    · have := H.cell y c (clE _ hc)
      rw [show mc' y = mc y from hmc _ hc]
      exact this.keeps k4
    · rw [show mc' y = none from hown _ hn]; exact hc
  · show (H₃.objs.size :: ((cellsFrom (H₃.objs.size + 1) scope.names cl).map (·.2) ++ mu.map (·.1))).Nodup
    refine List.nodup_cons.mpr ⟨fun q => ?_, List.nodup_append.mpr ⟨ndc, nd2.2.1, fun y hy z hz e => ?_⟩⟩
    · rcases List.mem_append.mp q with q | q
      · obtain ⟨p, hp, e⟩ := List.mem_map.mp q
        have e : p.2 = H₃.objs.size := e
        rcases cn4 p hp with hp | ⟨hp, _⟩
        · have := Nat.lt_of_lt_of_le (lt _ (clO p hp)) hle
          rw [e] at this; exact Nat.lt_irrefl _ this
        · rw [e] at hp; exact Nat.lt_irrefl _ hp
      · have := Nat.lt_of_lt_of_le (lt _ (H.muE q)) hle
        exact Nat.lt_irrefl _ this
    · subst e
      obtain ⟨p, hp, rfl⟩ := List.mem_map.mp hy
      rcases cn4 p hp with hp | ⟨hp, _⟩
      · exact nd2.2.2 p.2 (List.mem_map.mpr ⟨p, clE p hp, rfl⟩) p.2 hz rfl
      · have := Nat.lt_of_lt_of_le (lt _ (H.muE hz)) hle
        have hp : H₃.objs.size + 1 ≤ p.2 := hp
        exact absurd (Nat.lt_of_lt_of_le this (Nat.le_of_succ_le hp)) (Nat.lt_irrefl _)
  · rcases List.mem_cons.mp ha with rfl | ha
    · have := none_of_ge (h := h) (a := H₃.objs.size) hle
      exact ⟨H.gfresh this, .inl this⟩
    · rcases List.mem_append.mp ha with ha | ha
      · obtain ⟨p, hp, rfl⟩ := List.mem_map.mp ha
        rcases cn4 p hp with hp | ⟨hp, _⟩
        · exact ⟨(H.own _ (clO p hp)).1, .inr (List.mem_append_left _ (List.mem_map_of_mem hp))⟩
        · have hp : H₃.objs.size + 1 ≤ p.2 := hp
          have := none_of_ge (h := h) (a := p.2) (Nat.le_trans hle (Nat.le_of_succ_le hp))
          exact ⟨H.gfresh this, .inl this⟩
      · exact ⟨(H.own a (H.muE ha)).1, .inr (List.mem_append_right _ ha)⟩
  · rcases List.mem_cons.mp ha with rfl | ha
    · exact .inr (Nat.le_refl _)
    · rcases List.mem_append.mp ha with ha | ha
      · obtain ⟨p, hp, rfl⟩ := List.mem_map.mp ha
        rcases cn4 p hp with hp | ⟨hp, _⟩
        · exact .inl (H.liveO (clO p hp))
        · exact .inr (Nat.le_of_succ_le hp)
      · exact .inl (H.liveO (H.muE ha))

/-- back to the function's frame -/
theorem St.outer {scope : Scope} {cl : List (Str × Addr)} {C : Addr} {m₂ mc₂ : Str → Option Value} (H : St b S g0 h0 env g m mc mu h) (hcl : Caught env cl)
    (Hi : St b (cl.map (·.2) ++ mu.map (·.1)) g h (cenvOf scope cl C env) g₂ m₂ mc₂ mu₂ h₂) (sub : ∀ p ∈ cl, p ∈ (cenvOf scope cl C env).cells) (hmc : ∀ p ∈ cl, mc₂ p.1 = mc p.1) {mu₃ : List (Addr × Obj)} (hmu : mu₃.map (·.1) = mu.map (·.1)) (hm3 : ∀ p ∈ mu₃, p ∈ mu₂) :
    St b S g0 h0 env g₂ m mc mu₃ h₂ := by
  have clE : ∀ p ∈ cl, p ∈ env.cells := fun p hp => mem_of_lookup (hcl.all p hp)
  have nd := H.nd
  unfold owns at nd
  have nd2 := List.nodup_append.mp (List.nodup_cons.mp nd).2
  have notS : ∀ a, a ∉ cl.map (·.2) → a ∉ mu.map (·.1) → a ∉ cl.map (·.2) ++ mu.map (·.1) := fun a h1 h2 q => (List.mem_append.mp q).elim h1 h2
  refine H.move (Hi.ev.mono fun a ha => ?_) ?_ (fun y c hc => ?_) (fun p hp => Hi.mus p (hm3 p hp)) hmu
  · rcases List.mem_append.mp ha with ha | ha
    · obtain ⟨p, hp, rfl⟩ := List.mem_map.mp ha
      exact .tail _ (List.mem_append_left _ (List.mem_map.mpr ⟨p, clE p hp, rfl⟩))
    · exact .tail _ (List.mem_append_right _ ha)
  · obtain ⟨o, es, ep, e, r⟩ := H.ns
    refine ⟨o, es, ep, Hi.ev.keep _ _ (notS _ (fun q => ?_) fun q => (List.nodup_cons.mp nd).1 (List.mem_append_right _ q)) e, r⟩
    obtain ⟨p, hp, e⟩ := List.mem_map.mp q
    exact (List.nodup_cons.mp nd).1 (List.mem_append_left _ (List.mem_map.mpr ⟨p, clE p hp, e⟩))
  · by_cases q : c ∈ cl.map (·.2)
    · obtain ⟨p, hp, rfl⟩ := List.mem_map.mp q
      have : p.1 = y := cell_inj nd2.1 (c := p.2) (clE p hp) hc
      have h1 := Hi.cell p.1 p.2 (sub p hp)
      rw [hmc p hp] at h1
      rw [← this]; exact h1
    · obtain ⟨o, e, r⟩ := H.cell y c hc
      exact ⟨o, Hi.ev.keep _ _ (notS _ q fun q' => nd2.2.2 c (List.mem_map.mpr ⟨(y, c), hc, rfl⟩) c q' rfl) e, r⟩
end
end Mine
namespace Mine

theorem cells_acc : ∀ (names : List (Str × NameKind)) (n : Nat) (acc : List (Str × Addr)) (p : Str × Addr), p ∈ acc → p ∈ cellsFrom n names acc
  | [], _, _, _, h => h
  | (x, k) :: r, n, acc, p, h => by
    unfold cellsFrom
    split
    · exact cells_acc r _ _ p (.tail _ h)
    · exact cells_acc r _ _ p h

/-- the target of a block: a name of its own, or one that an inner block takes -/
def tm (xc : Bool) (x : Str) (v : Value) : Str → Option Value := if xc then no else up x v no
def tc (xc : Bool) (x : Str) (v : Value) (mc : Str → Option Value) : Str → Option Value := if xc then up x v mc else mc

theorem up_up (x : Str) (u v : Value) (m : Str → Option Value) : up x v (up x u m) = up x v m := by
  funext y; unfold up; split <;> rfl

structure CompOk (env : Env) (scope : Scope) (cl : List (Str × Addr)) (cn : List Str) (x : Str) (xc : Bool) : Prop where
  clos : closureFor scope env = pure cl
  caught : Caught env cl
  names : cl.map (·.1) = cn
  nd : ((cellsFrom 0 scope.names (cn.map fun x => (x, 0))).map (·.1)).Nodup
  kind : scope.kind = .function
  loc : ∀ y ∈ scope.names, y.2 = .local → scope.names.lookup y.1 = some .local
  own : ∀ y ∈ scope.names, y.2 = .cell → xc = true ∧ y.1 = x
  tgt : (relabel scope env).names.lookup x = some (if xc then .cell else .local)
  has : xc = true → scope.names.lookup x = some .cell
  off : x ∉ cn

section
variable {prog : Program} {w : World} {b : Heap}
variable {S : List Addr} {g0 : FM} {h0 : Heap} {env : Env} {g : FM} {m mc : Str → Option Value} {mu : List (Addr × Obj)}
variable {A : Around} {s : Shared} {E : Value → Shared → Prop}

theorem St.muAddr {h : Heap} {mu₁ : List (Addr × Obj)} (H : St b S g0 h0 env g m mc mu h) (ha : mu₁.map (·.1) = mu.map (·.1)) {a : Addr} (f : h.get? a = none) : a ∉ owns env mu₁ := fun q =>
  H.not_owned f (by unfold owns at q ⊢; rw [← ha]; exact q)

def EltEndG (GP : Array GenState → Prop) (b : Heap) (S : List Addr) (g0 : FM) (h0 : Heap) (cenv : Env) (m mc : Str → Option Value) (s : Shared) (g₁ : FM) (q r : Addr × Obj) (adr : List Addr) (J : Value → FM → List (Addr × Obj) → Prop) (y : Value) (s' : Shared) : Prop :=
  ∃ g₂ mu₂ h₂ tk₂ gs₂, s' = { s with heap := h₂, toks := tk₂, gens := gs₂ } ∧ GP gs₂ ∧ g₁.le g₂ ∧ St b S g0 h0 cenv g₂ m mc (q :: r :: mu₂) h₂ ∧ mu₂.map (·.1) = adr ∧ J y g₂ mu₂
abbrev EltEnd (b : Heap) (S : List Addr) (g0 : FM) (h0 : Heap) (cenv : Env) (m mc : Str → Option Value) (s : Shared) (g₁ : FM) (q r : Addr × Obj) (adr : List Addr) (J : Value → FM → List (Addr × Obj) → Prop) (y : Value) (s' : Shared) : Prop :=
  EltEndG (fun gs => gs = s.gens) b S g0 h0 cenv m mc s g₁ q r adr J y s'
theorem EltEnd.mk {cenv : Env} {s : Shared} {g₁ g₂ : FM} {q r : Addr × Obj} {adr : List Addr} {J : Value → FM → List (Addr × Obj) → Prop} {y : Value} {mu₂ : List (Addr × Obj)} {h₂ : Heap} {tk₂ : Nat}
    (le : g₁.le g₂) (H : St b S g0 h0 cenv g₂ m mc (q :: r :: mu₂) h₂) (ha : mu₂.map (·.1) = adr) (j : J y g₂ mu₂) : EltEnd b S g0 h0 cenv m mc s g₁ q r adr J y { s with heap := h₂, toks := tk₂ } :=
  ⟨g₂, mu₂, h₂, tk₂, s.gens, rfl, rfl, le, H, ha, j⟩
theorem EltEndG.mk {GP : Array GenState → Prop} {cenv : Env} {s : Shared} {g₁ g₂ : FM} {q r : Addr × Obj} {adr : List Addr} {J : Value → FM → List (Addr × Obj) → Prop} {y : Value} {mu₂ : List (Addr × Obj)} {h₂ : Heap} {tk₂ : Nat} {gs₂ : Array GenState}
    (gp : GP gs₂) (le : g₁.le g₂) (H : St b S g0 h0 cenv g₂ m mc (q :: r :: mu₂) h₂) (ha : mu₂.map (·.1) = adr) (j : J y g₂ mu₂) : EltEndG GP b S g0 h0 cenv m mc s g₁ q r adr J y { s with heap := h₂, toks := tk₂, gens := gs₂ } :=
  ⟨g₂, mu₂, h₂, tk₂, gs₂, rfl, gp, le, H, ha, j⟩

theorem comp_core {elt iter : Expr} {x : Str} {px : Pos} {scope : Scope} {cl : List (Str × Addr)} {cn : List Str} {xc : Bool} {pos : Pos} {n : Nat} {P : Nat → Value → Prop} {xv : Value} {use : Option (Value → Sem Unit)} {Q : Value → Shared → Prop} {GP : Array GenState → Prop} (gp0 : GP s.gens)
    (ok : CompOk env scope cl cn x xc) (H : St b S g0 h0 env g m mc mu s.heap) (src : Src prog w A n P g xv s.heap) (hn : n ≤ sizeLine)
    (J : Nat → FM → List (Addr × Obj) → List Value → Prop) (j0 : J 0 g mu [])
    (turn : ∀ i v C D oD I oI g₁ mu₁ ys h₁ tk gs E', GP gs → i < n → P i v → g.le g₁ → mu₁.map (·.1) = mu.map (·.1) → J i g₁ mu₁ ys → ys.length = i →
      St b (cl.map (·.2) ++ mu.map (·.1)) g s.heap (cenvOf scope cl C env) g₁ (tm xc x v) (tc xc x v mc) ((D, oD) :: (I, oI) :: mu₁) h₁ →
      wpAny (model prog w) A (eval elt (cenvOf scope cl C env)) (EltEndG GP b (cl.map (·.2) ++ mu.map (·.1)) g s.heap (cenvOf scope cl C env) (tm xc x v) (tc xc x v mc) s g₁ (D, oD) (I, oI) (mu.map (·.1)) fun y g₂ mu₂ => J (i + 1) g₂ mu₂ (ys ++ [y])) E' { s with heap := h₁, toks := tk, gens := gs })
    (fin : ∀ g₁ mu₁ ys C oC D oD mC h₁ tk gs, GP gs → g.le g₁ → mu₁.map (·.1) = mu.map (·.1) → J n g₁ mu₁ ys → ys.length = n → IsL oD ys → h₁.Ns C mC → h0.get? C = none → h0.get? D = none → St b S g0 h0 env g₁ m mc ((C, oC) :: (D, oD) :: mu₁) h₁ →
      compPost (model prog w) A E use Q (.ref D) C (.ok .next) { s with heap := h₁, toks := tk, gens := gs }) :
    wpAny (model prog w) A (pyIter xv) (fun it s₂ => wpAny (model prog w) A (newList []) (fun acc s₃ => wpAny (model prog w) A (newFunctionEnv scope env.globals cl [] env.qual none .none (some env)) (fun cenv s₄ =>
      codeAny (model prog w) A (.compStart (.ListComp elt [⟨.Name x px, iter, [], 0⟩] scope pos) 0 it acc { cenv with scope := relabel scope env }) (compPost (model prog w) A E use Q acc cenv.locals) s₄) E s₃) E s₂) E s := by
  refine src s _ _ rfl fun I fp Ws h' W w0 live fresh frz keep hsz => wpAny_newList ?_
  simp only [newFunctionEnv, Option.isSome_some, if_true]
  refine wpAny_bind (wpAny_alloc ?_)
  refine wpAny_bind (wpAny_layCells _ (fun name kind cells => by cases kind == NameKind.cell <;> simp) _ _ _ _ ?_)
  refine wpAny_bind ?_
  rw [List.forIn_nil]
  refine wpAny_pure (wpAny_pure ?_)
  dsimp only
  generalize hH3 : h'.push { cls := .type "list", data := .seq ([] : List Value).toArray } = H₃
  have sz3 : H₃.objs.size = h'.objs.size + 1 := by rw [← hH3, Heap.size_push]
  have h'3 : ∀ a o, h'.get? a = some o → H₃.get? a = some o := fun a o e => hH3 ▸ Heap.get?_push_of_some _ e
  have k3 : ∀ a o, s.heap.get? a = some o → H₃.get? a = some o := fun a o e => h'3 a o (keep a o e)
  have hD3 : H₃.get? h'.objs.size = some { cls := .type "list", data := .seq ([] : List Value).toArray } := hH3 ▸ Heap.get?_push_size _ rfl
  have sz4 : (H₃.push { cls := .type "dict", data := .dict #[] }).objs.size = H₃.objs.size + 1 := Heap.size_push ..
  rw [sz4]
  generalize hH4 : pushCells (H₃.push { cls := .type "dict", data := .dict #[] }) scope.names = H₄
  have k4 : ∀ a o, H₃.get? a = some o → H₄.get? a = some o := fun a o e => hH4 ▸ pushCells_keeps _ _ _ _ (Heap.get?_push_of_some _ e)
  have hle : s.heap.objs.size ≤ H₃.objs.size := by rw [sz3]; exact Nat.le_succ_of_le hsz
  obtain ⟨oI, hI⟩ := live 0 h' w0
  have ltI : @LT.lt Nat _ I h'.objs.size := Heap.lt_size hI
  have hxcl : ∀ q ∈ cl, q.1 ≠ x := fun q hq e => ok.off (ok.names ▸ e ▸ List.mem_map_of_mem hq)
  obtain ⟨Hi0, ow⟩ := H.inner (mc' := if xc then (fun y => if y = x then none else mc y) else mc) ok.caught ok.names ok.nd k3 hle hH4.symm (fun q hq => by
      split
      · exact if_neg (hxcl q hq)
      · rfl) (fun y hy => by
      obtain ⟨h1, h2⟩ := ok.own (y, .cell) hy rfl
      rw [if_pos h1]; exact if_pos h2)
  have nI : I ∉ owns (cenvOf scope cl H₃.objs.size env) mu := fun q => by
    rcases ow _ q with ⟨o, e⟩ | q
    · rw [fresh] at e; cases e
    · omega
  have Hi1 := Hi0.adopt (k4 _ _ (h'3 _ _ hI)) nI (H.gfresh fresh) fresh
  have freshD : s.heap.get? h'.objs.size = none := none_of_ge hsz
  have nD : h'.objs.size ∉ owns (cenvOf scope cl H₃.objs.size env) ((I, oI) :: mu) := fun q => by
    have : h'.objs.size = I ∨ h'.objs.size ∈ owns (cenvOf scope cl H₃.objs.size env) mu := by
      unfold owns at q ⊢
      rcases List.mem_cons.mp q with q | q
      · exact .inr (q ▸ .head _)
      · rcases List.mem_append.mp q with q | q
        · exact .inr (.tail _ (List.mem_append_left _ q))
        · rcases List.mem_cons.mp q with q | q
          · exact .inl q
          · exact .inr (.tail _ (List.mem_append_right _ q))
    rcases this with q | q
    · rw [← q] at ltI; exact Nat.lt_irrefl _ ltI
    · rcases ow _ q with ⟨o, e⟩ | q
      · rw [freshD] at e; cases e
      · omega
  have Hi2 := Hi1.adopt (k4 _ _ hD3) nD (H.gfresh freshD) freshD
  generalize hDD : h'.objs.size = D at *
  generalize hCC : H₃.objs.size = C at *
  have w4 : Ws 0 H₄ := W.frame _ _ _ w0 fun a _ o e => k4 a o (h'3 a o e)
  have mIn : ∀ {a : Addr}, a ∈ [I] → a = I := fun hp => List.mem_singleton.mp hp
  have main : ∀ s₃ : Shared, s₃ = { s with heap := H₄ } → codeAny (model prog w) A (.compLoop (.ListComp elt [⟨.Name x px, iter, [], 0⟩] scope pos) 0 (.ref I) (.ref D) (cenvOf scope cl C env)) (compPost (model prog w) A E use Q (.ref D) C) s₃ := by
    rintro s₃ rfl
    refine codeAny_compLoop_list (fun k s' => ∃ i g₁ mu₁ ys m₁ mc₁ oD oI h₁ tk gs, s' = { s with heap := h₁, toks := tk, gens := gs } ∧ GP gs ∧ k = n - i ∧ i ≤ n ∧ Ws i h₁ ∧ g.le g₁ ∧ mu₁.map (·.1) = mu.map (·.1) ∧ J i g₁ mu₁ ys ∧ ys.length = i ∧ IsL oD ys ∧
      (∀ v, (if xc then m₁ else up x v m₁) = tm xc x v) ∧ (∀ v, (if xc then up x v mc₁ else mc₁) = tc xc x v mc) ∧
      St b (cl.map (·.2) ++ mu.map (·.1)) g s.heap (cenvOf scope cl C env) g₁ m₁ mc₁ ((D, oD) :: (I, oI) :: mu₁) h₁) ?_ n ?_
    · rintro k s' ⟨i, g₁, mu₁, ys, m₁, mc₁, oD, oI, h₁, tk, gs, rfl, gp, rfl, hi, w1, le1, ha1, j1, hl1, isl, e1, e2, H1⟩
      have neI : ∀ y ∈ owns (cenvOf scope cl C env) ((D, oD) :: mu₁), y ≠ I := (H1.perm (List.Perm.swap _ _ _)).ne_of_mu
      by_cases hlt : i < n
      · refine W.item i _ _ _ hlt w1 fun v h₂ tk₂ hP w2 kp => ?_
        obtain ⟨oI', hI'⟩ := live _ _ w2
        have H2 : St b (cl.map (·.2) ++ mu.map (·.1)) g s.heap (cenvOf scope cl C env) g₁ m₁ mc₁ ((D, oD) :: (I, oI') :: mu₁) h₂ :=
          ((H1.perm (List.Perm.swap _ _ _)).upd hI' fun a o na e => kp a o (fun q => na (mIn q)) e).perm (List.Perm.swap _ _ _)
        have go : ∀ h₃ tk₃, St b (cl.map (·.2) ++ mu.map (·.1)) g s.heap (cenvOf scope cl C env) g₁ (tm xc x v) (tc xc x v mc) ((D, oD) :: (I, oI') :: mu₁) h₃ →
            wpAny (model prog w) A (eval elt (cenvOf scope cl C env)) (fun y s₃ => wpAny (model prog w) A (call (.builtin "list.append") [.ref D, y]) (fun _ s₄ => ∃ m_1, m_1 < n - i ∧ ∃ i g₁ mu₁ ys m₁ mc₁ oD oI h₁ tk gs, s₄ = { s with heap := h₁, toks := tk, gens := gs } ∧ GP gs ∧ m_1 = n - i ∧ i ≤ n ∧ Ws i h₁ ∧ g.le g₁ ∧ mu₁.map (·.1) = mu.map (·.1) ∧ J i g₁ mu₁ ys ∧ ys.length = i ∧ IsL oD ys ∧
              (∀ v, (if xc then m₁ else up x v m₁) = tm xc x v) ∧ (∀ v, (if xc then up x v mc₁ else mc₁) = tc xc x v mc) ∧
              St b (cl.map (·.2) ++ mu.map (·.1)) g s.heap (cenvOf scope cl C env) g₁ m₁ mc₁ ((D, oD) :: (I, oI) :: mu₁) h₁)
              (notedBy (model prog w) A (cenvOf scope cl C env) fun e s' => compPost (model prog w) A E use Q (.ref D) C (.error e) s') s₃)
              (notedBy (model prog w) A (cenvOf scope cl C env) fun e s' => compPost (model prog w) A E use Q (.ref D) C (.error e) s') { s with heap := h₃, toks := tk₃, gens := gs } := by
          intro h₃ tk₃ H3
          have w3 : Ws (i + 1) h₃ := W.frame _ _ _ w2 fun a ha o e => by
            by_cases q : a = I
            · subst q
              rw [hI'] at e; cases e; exact H3.mus (a, oI') (.tail _ (.head _))
            · obtain ⟨o', hg⟩ := frz a ha q
              have q2 := H2.on a o' (le1 a o' hg)
              have q3 := H3.on a o' (le1 a o' hg)
              rw [e] at q2; cases q2; exact q3
          refine wpAny_mono (turn i v C D oD I oI' g₁ mu₁ ys h₃ tk₃ gs _ gp hlt hP le1 ha1 j1 hl1 H3) (fun y s₄ z => ?_) fun _ _ z => z
          obtain ⟨g₂, mu₂, h₄, tk₄, gs₄, rfl, gp₄, le2, H4, ha2, j2⟩ := z
          have w4 : Ws (i + 1) h₄ := W.frame _ _ _ w3 fun a ha o e => by
            by_cases q : a = I
            · subst q
              have q3 := H3.mus (a, oI') (.tail _ (.head _))
              rw [e] at q3; cases q3; exact H4.mus (a, oI') (.tail _ (.head _))
            · obtain ⟨o', hg⟩ := frz a ha q
              have q3 := H3.on a o' (le1 a o' hg)
              have q4 := H4.on a o' (le2 _ _ (le1 a o' hg))
              rw [e] at q3; cases q3; exact q4
          have hDl : h₄.get? D = some oD := H4.mus (D, oD) (.head _)
          refine wpAny_list_append_plain (isl.plain hDl) (fun h₅ hL5 hs5 => ?_) (by rw [List.size_toArray, hl1]; omega)
          obtain ⟨oD', hD5, isl5⟩ := plain_isl (ys := ys ++ [y]) hL5 (by simp)
          have H5 := H4.upd hD5 hs5.extBut
          have hDI : D ≠ I := neI _ (owns_mu (p := (D, oD)) (.head _))
          refine ⟨n - (i + 1), Nat.sub_lt_sub_left hlt (Nat.lt_succ_self i), i + 1, g₂, mu₂, ys ++ [y], _, _, oD', oI', h₅, tk₄, gs₄, rfl, gp₄, rfl, hlt, W.frame _ _ _ w4 fun a ha o e => hs5.extBut a o (fun q => ?_) e, le1.trans le2, ha2, j2, by rw [List.length_append, hl1]; rfl, isl5, fun v' => ?_, fun v' => ?_, H5⟩
          · subst q
            obtain ⟨o', hg⟩ := frz a ha hDI
            have := (H5.own a (owns_mu (p := (a, oD')) (.head _))).1
            rw [le2 _ _ (le1 _ _ hg)] at this; cases this
          · unfold tm; cases xc
            · exact up_up ..
            · rfl
          · unfold tc; cases xc
            · rfl
            · exact up_up ..
        have hk : (cenvOf scope cl C env).scope.kind = .function := ok.kind
        have ht := ok.tgt
        cases hxc : xc with
        | false =>
          rw [hxc] at ht
          refine wpAny_assign_Name (st_loc H2 (fun h₃ H3 => ?_) hk ht)
          have e1' := e1 v
          have e2' := e2 v
          rw [hxc] at e1' e2'
          simp only [Bool.false_eq_true, if_false] at e1' e2'
          rw [e1', e2'] at H3
          have := go h₃ (tk₂ + 1) (by rw [hxc]; exact H3)
          simp only [hxc] at this
          exact this
        | true =>
          rw [hxc] at ht
          obtain ⟨c, hc⟩ := Option.isSome_iff_exists.mp (cellsFrom_some scope.names (C + 1) cl (x := x) (.inl (ok.has hxc)))
          refine wpAny_assign_Name (st_cell H2 (fun h₃ H3 => ?_) hk ht hc)
          have e1' := e1 v
          have e2' := e2 v
          rw [hxc] at e1' e2'
          simp only [if_true] at e1' e2'
          rw [e1', e2'] at H3
          have := go h₃ tk₂ (by rw [hxc]; exact H3)
          simp only [hxc] at this
          exact this
      · have hin : i = n := Nat.le_antisymm hi (Nat.not_lt.mp hlt)
        subst hin
        refine W.done _ _ _ w1 fun h₂ tk₂ kp => ?_
        have H2 := (H1.perm (List.Perm.swap _ _ _)).dropJunk fresh fun a o na e => kp a o (fun q => na (mIn q)) e
        have hmc : ∀ q ∈ cl, mc₁ q.1 = mc q.1 := fun q hq => by
          have e2' := congrFun (e2 .none) q.1
          unfold tc at e2'
          cases hxc : xc with
          | false => rw [hxc] at e2'; exact e2'
          | true =>
            rw [hxc] at e2'
            simp only [if_true, up, if_neg (hxcl q hq)] at e2'
            exact e2'
        have Ho := H.outer ok.caught H2 (fun q hq => cells_acc _ _ _ _ hq) hmc ha1 fun q hq => .tail _ hq
        have CO := (H2.own C owns_L)
        have DO := (H2.own D (owns_mu (p := (D, oD)) (.head _)))
        obtain ⟨oC, esC, epC, hC2, rC⟩ := H2.ns
        have hC2 : h₂.get? C = some oC := hC2
        have hD2 := H2.mus (D, oD) (.head _)
        have freshC : s.heap.get? C = none := none_of_ge hle
        have Ho1 := Ho.adopt hD2 (H.muAddr ha1 freshD) DO.1 (H.h0fresh freshD)
        have hCD : C ≠ D := H2.ne_of_mu _ owns_L
        have Ho2 := Ho1.adopt hC2 (fun q => by
          have : C = D ∨ C ∈ owns env mu₁ := by
            unfold owns at q ⊢
            rcases List.mem_cons.mp q with q | q
            · exact .inr (q ▸ .head _)
            · rcases List.mem_append.mp q with q | q
              · exact .inr (.tail _ (List.mem_append_left _ q))
              · rcases List.mem_cons.mp q with q | q
                · exact .inl q
                · exact .inr (.tail _ (List.mem_append_right _ q))
          rcases this with q | q
          · exact hCD q
          · exact H.muAddr ha1 freshC q) CO.1 (H.h0fresh freshC)
        exact fin g₁ mu₁ ys C oC D oD m₁ h₂ tk₂ gs gp le1 ha1 j1 hl1 isl ⟨oC, esC, epC, hC2, rC⟩ (H.h0fresh freshC) (H.h0fresh freshD) Ho2
    · refine ⟨0, g, mu, [], no, _, _, oI, H₄, s.toks, s.gens, rfl, gp0, rfl, Nat.zero_le _, w4, .refl g, rfl, j0, rfl, ⟨rfl, 0, rfl, rfl⟩, fun v => ?_, fun v => ?_, Hi2⟩
      · unfold tm; cases xc <;> rfl
      · unfold tc; cases xc
        · rfl
        · simp only [if_true]
          funext y; unfold up; split
          · rfl
          · rename_i h; exact if_neg h
  exact codeAny_compStart_list (main _ rfl) (W.self 0 _ _ _ w4 (main _ rfl))
end
end Mine
namespace Mine
section
variable {prog : Program} {w : World} {b : Heap}
variable {S : List Addr} {g0 : FM} {h0 : Heap} {env : Env} {g : FM} {m mc : Str → Option Value} {mu : List (Addr × Obj)}
variable {A : Around} {s : Shared} {E : Value → Shared → Prop}

-- blocks
abbrev LcGo (prog : Program) (w : World) (A : Around) (E : Value → Shared → Prop) (env : Env) (scope : Scope) (cl : List (Str × Addr)) (e : Expr) (use : Option (Value → Sem Unit)) (Q : Value → Shared → Prop) (xv : Value) (s : Shared) : Prop :=
  wpAny (model prog w) A (pyIter xv) (fun it s₂ => wpAny (model prog w) A (newList []) (fun acc s₃ => wpAny (model prog w) A (newFunctionEnv scope env.globals cl [] env.qual none .none (some env)) (fun cenv s₄ =>
      codeAny (model prog w) A (.compStart e 0 it acc { cenv with scope := relabel scope env }) (compPost (model prog w) A E use Q acc cenv.locals) s₄) E s₃) E s₂) E s

theorem ev_lc {elt iter : Expr} {x : Str} {px : Pos} {scope : Scope} {cl : List (Str × Addr)} {cn : List Str} {xc : Bool} {pos : Pos} {Q : Value → Shared → Prop} (ok : CompOk env scope cl cn x xc)
    (h : CompOk env scope cl cn x xc → wpAny (model prog w) A (eval iter env) (LcGo prog w A E env scope cl (.ListComp elt [⟨.Name x px, iter, [], 0⟩] scope pos) none Q) E s) (hs : ∀ x, foldedSetIterable iter env x = pure x := by intro _; rfl) :
    wpAny (model prog w) A (eval (.ListComp elt [⟨.Name x px, iter, [], 0⟩] scope pos) env) Q E s := by
  rw [eval_ListComp]
  exact wpAny_comprehension_free (use := none) rfl hs ok.clos ok.kind ok.loc (h ok)

theorem as_lc {elt iter : Expr} {x y : Str} {px py : Pos} {scope : Scope} {cl : List (Str × Addr)} {cn : List Str} {xc : Bool} {pos spos : Pos} {Q : Flow → Shared → Prop} (ok : CompOk env scope cl cn x xc)
    (h : CompOk env scope cl cn x xc → wpAny (model prog w) A (eval iter env) (LcGo prog w A E env scope cl (.ListComp elt [⟨.Name x px, iter, [], 0⟩] scope pos) (some (assign (.Name y py) env)) (fun _ => Q .next)) E s)
    (hsw : swapsWith (.ListComp elt [⟨.Name x px, iter, [], 0⟩] scope pos) (some (.Name y py)) spos.line env = pure true := by with_unfolding_all rfl) (hs : ∀ x, foldedSetIterable iter env x = pure x := by intro _; rfl) :
    wpAny (model prog w) A (exec (.Assign [.Name y py] (.ListComp elt [⟨.Name x px, iter, [], 0⟩] scope pos) spos) env) Q E s := by
  rw [exec_Assign_Name_used _ _ _ _ hsw]
  refine wpAny_bind (wpAny_standAt (wpAny_bind ?_))
  show wpAny _ A (do let _ ← comprehension (.ListComp elt [⟨.Name x px, iter, [], 0⟩] scope pos) scope env _ (newList []) false (eval iter env) (some (assign (.Name y py) env))) _ _ s
  exact wpAny_bind (wpAny_mono (wpAny_comprehension_free (use := some (assign (.Name y py) env)) (Q := fun _ s' => Q .next s') rfl hs ok.clos ok.kind ok.loc (h ok)) (fun _ s' hq => wpAny_pure (wpAny_pure hq)) fun _ _ e => e)

theorem lc_runG {elt iter : Expr} {x : Str} {px : Pos} {scope : Scope} {cl : List (Str × Addr)} {cn : List Str} {xc : Bool} {pos : Pos} {n : Nat} {P : Nat → Value → Prop} {xv : Value} {Q : Value → Shared → Prop} {GP : Array GenState → Prop} (gp0 : GP s.gens)
    (ok : CompOk env scope cl cn x xc) (H : St b S g0 h0 env g m mc mu s.heap) (src : Src prog w A n P g xv s.heap) (hn : n ≤ sizeLine)
    (J : Nat → FM → List (Addr × Obj) → List Value → Prop) (j0 : J 0 g mu [])
    (turn : ∀ i v C D oD I oI g₁ mu₁ ys h₁ tk gs E', GP gs → i < n → P i v → g.le g₁ → mu₁.map (·.1) = mu.map (·.1) → J i g₁ mu₁ ys → ys.length = i →
      St b (cl.map (·.2) ++ mu.map (·.1)) g s.heap (cenvOf scope cl C env) g₁ (tm xc x v) (tc xc x v mc) ((D, oD) :: (I, oI) :: mu₁) h₁ →
      wpAny (model prog w) A (eval elt (cenvOf scope cl C env)) (EltEndG GP b (cl.map (·.2) ++ mu.map (·.1)) g s.heap (cenvOf scope cl C env) (tm xc x v) (tc xc x v mc) s g₁ (D, oD) (I, oI) (mu.map (·.1)) fun y g₂ mu₂ => J (i + 1) g₂ mu₂ (ys ++ [y])) E' { s with heap := h₁, toks := tk, gens := gs })
    (done : ∀ g₁ mu₁ ys D oD h₁ tk gs, GP gs → g.le g₁ → mu₁.map (·.1) = mu.map (·.1) → J n g₁ mu₁ ys → ys.length = n → IsL oD ys → h0.get? D = none → St b S g0 h0 env g₁ m mc ((D, oD) :: mu₁) h₁ → Q (.ref D) { s with heap := h₁, toks := tk, gens := gs }) :
    LcGo prog w A E env scope cl (.ListComp elt [⟨.Name x px, iter, [], 0⟩] scope pos) none Q xv s :=
  comp_core gp0 ok H src hn J j0 turn fun g₁ mu₁ ys C oC D oD mC h₁ tk gs gp le ha j hl isl nsC fC fD H1 =>
    ⟨mC, nsC, fun h' hs => done g₁ mu₁ ys D oD h' tk gs gp le ha j hl isl fD (H1.dropJunk fC fun a o na e => hs.extBut a o na e)⟩

theorem lc_run {elt iter : Expr} {x : Str} {px : Pos} {scope : Scope} {cl : List (Str × Addr)} {cn : List Str} {xc : Bool} {pos : Pos} {n : Nat} {P : Nat → Value → Prop} {xv : Value} {Q : Value → Shared → Prop}
    (ok : CompOk env scope cl cn x xc) (H : St b S g0 h0 env g m mc mu s.heap) (src : Src prog w A n P g xv s.heap) (hn : n ≤ sizeLine)
    (J : Nat → FM → List (Addr × Obj) → List Value → Prop) (j0 : J 0 g mu [])
    (turn : ∀ i v C D oD I oI g₁ mu₁ ys h₁ tk E', i < n → P i v → g.le g₁ → mu₁.map (·.1) = mu.map (·.1) → J i g₁ mu₁ ys → ys.length = i →
      St b (cl.map (·.2) ++ mu.map (·.1)) g s.heap (cenvOf scope cl C env) g₁ (tm xc x v) (tc xc x v mc) ((D, oD) :: (I, oI) :: mu₁) h₁ →
      wpAny (model prog w) A (eval elt (cenvOf scope cl C env)) (EltEnd b (cl.map (·.2) ++ mu.map (·.1)) g s.heap (cenvOf scope cl C env) (tm xc x v) (tc xc x v mc) s g₁ (D, oD) (I, oI) (mu.map (·.1)) fun y g₂ mu₂ => J (i + 1) g₂ mu₂ (ys ++ [y])) E' { s with heap := h₁, toks := tk })
    (done : ∀ g₁ mu₁ ys D oD h₁ tk, g.le g₁ → mu₁.map (·.1) = mu.map (·.1) → J n g₁ mu₁ ys → ys.length = n → IsL oD ys → h0.get? D = none → St b S g0 h0 env g₁ m mc ((D, oD) :: mu₁) h₁ → Q (.ref D) { s with heap := h₁, toks := tk }) :
    LcGo prog w A E env scope cl (.ListComp elt [⟨.Name x px, iter, [], 0⟩] scope pos) none Q xv s :=
  lc_runG (GP := fun gs => gs = s.gens) rfl ok H src hn J j0 (fun i v C D oD I oI g₁ mu₁ ys h₁ tk gs E' gp => by subst gp; exact turn i v C D oD I oI g₁ mu₁ ys h₁ tk E') (fun g₁ mu₁ ys D oD h₁ tk gs gp => by subst gp; exact done g₁ mu₁ ys D oD h₁ tk)

theorem lc_runAG {elt iter : Expr} {x y : Str} {px py : Pos} {scope : Scope} {cl : List (Str × Addr)} {cn : List Str} {xc : Bool} {pos : Pos} {n : Nat} {P : Nat → Value → Prop} {xv : Value} {Q : Value → Shared → Prop} {GP : Array GenState → Prop} (gp0 : GP s.gens)
    (ok : CompOk env scope cl cn x xc) (H : St b S g0 h0 env g m mc mu s.heap) (src : Src prog w A n P g xv s.heap) (hn : n ≤ sizeLine)
    (J : Nat → FM → List (Addr × Obj) → List Value → Prop) (j0 : J 0 g mu [])
    (turn : ∀ i v C D oD I oI g₁ mu₁ ys h₁ tk gs E', GP gs → i < n → P i v → g.le g₁ → mu₁.map (·.1) = mu.map (·.1) → J i g₁ mu₁ ys → ys.length = i →
      St b (cl.map (·.2) ++ mu.map (·.1)) g s.heap (cenvOf scope cl C env) g₁ (tm xc x v) (tc xc x v mc) ((D, oD) :: (I, oI) :: mu₁) h₁ →
      wpAny (model prog w) A (eval elt (cenvOf scope cl C env)) (EltEndG GP b (cl.map (·.2) ++ mu.map (·.1)) g s.heap (cenvOf scope cl C env) (tm xc x v) (tc xc x v mc) s g₁ (D, oD) (I, oI) (mu.map (·.1)) fun y g₂ mu₂ => J (i + 1) g₂ mu₂ (ys ++ [y])) E' { s with heap := h₁, toks := tk, gens := gs })
    (done : ∀ g₁ mu₁ ys D oD h₁ tk gs, GP gs → g.le g₁ → mu₁.map (·.1) = mu.map (·.1) → J n g₁ mu₁ ys → ys.length = n → IsL oD ys → h0.get? D = none → St b S g0 h0 env g₁ (up y (.ref D) m) mc ((D, oD) :: mu₁) h₁ → Q .none { s with heap := h₁, toks := tk, gens := gs })
    (hk : env.scope.kind = .function := by with_unfolding_all rfl) (hl : env.kindOf y = some .local := by with_unfolding_all rfl) :
    LcGo prog w A E env scope cl (.ListComp elt [⟨.Name x px, iter, [], 0⟩] scope pos) (some (assign (.Name y py) env)) Q xv s :=
  comp_core gp0 ok H src hn J j0 turn fun g₁ mu₁ ys C oC D oD mC h₁ tk gs gp le ha j hl' isl nsC fC fD H1 => by
    obtain ⟨oC', es, ep, hC, rC⟩ := nsC
    have hC0 : h₁.get? C = some oC := H1.mus (C, oC) (.head _)
    rw [hC0] at hC; cases hC
    refine wpAny_assign_Name (st_loc (s := { s with heap := h₁, toks := tk, gens := gs }) H1 (fun h₂ H2 => ?_) hk hl)
    exact ⟨mC, ⟨oC, es, ep, H2.mus (C, oC) (.head _), rC⟩, fun h' hs => done g₁ mu₁ ys D oD h' (tk + 1) gs gp le ha j hl' isl fD (H2.dropJunk fC fun a o na e => hs.extBut a o na e)⟩

theorem lc_runA {elt iter : Expr} {x y : Str} {px py : Pos} {scope : Scope} {cl : List (Str × Addr)} {cn : List Str} {xc : Bool} {pos : Pos} {n : Nat} {P : Nat → Value → Prop} {xv : Value} {Q : Value → Shared → Prop}
    (ok : CompOk env scope cl cn x xc) (H : St b S g0 h0 env g m mc mu s.heap) (src : Src prog w A n P g xv s.heap) (hn : n ≤ sizeLine)
    (J : Nat → FM → List (Addr × Obj) → List Value → Prop) (j0 : J 0 g mu [])
    (turn : ∀ i v C D oD I oI g₁ mu₁ ys h₁ tk E', i < n → P i v → g.le g₁ → mu₁.map (·.1) = mu.map (·.1) → J i g₁ mu₁ ys → ys.length = i →
      St b (cl.map (·.2) ++ mu.map (·.1)) g s.heap (cenvOf scope cl C env) g₁ (tm xc x v) (tc xc x v mc) ((D, oD) :: (I, oI) :: mu₁) h₁ →
      wpAny (model prog w) A (eval elt (cenvOf scope cl C env)) (EltEnd b (cl.map (·.2) ++ mu.map (·.1)) g s.heap (cenvOf scope cl C env) (tm xc x v) (tc xc x v mc) s g₁ (D, oD) (I, oI) (mu.map (·.1)) fun y g₂ mu₂ => J (i + 1) g₂ mu₂ (ys ++ [y])) E' { s with heap := h₁, toks := tk })
    (done : ∀ g₁ mu₁ ys D oD h₁ tk, g.le g₁ → mu₁.map (·.1) = mu.map (·.1) → J n g₁ mu₁ ys → ys.length = n → IsL oD ys → h0.get? D = none → St b S g0 h0 env g₁ (up y (.ref D) m) mc ((D, oD) :: mu₁) h₁ → Q .none { s with heap := h₁, toks := tk })
    (hk : env.scope.kind = .function := by with_unfolding_all rfl) (hl : env.kindOf y = some .local := by with_unfolding_all rfl) :
    LcGo prog w A E env scope cl (.ListComp elt [⟨.Name x px, iter, [], 0⟩] scope pos) (some (assign (.Name y py) env)) Q xv s :=
  lc_runAG (GP := fun gs => gs = s.gens) rfl ok H src hn J j0 (fun i v C D oD I oI g₁ mu₁ ys h₁ tk gs E' gp => by subst gp; exact turn i v C D oD I oI g₁ mu₁ ys h₁ tk E') (fun g₁ mu₁ ys D oD h₁ tk gs gp => by subst gp; exact done g₁ mu₁ ys D oD h₁ tk) hk hl

-- for
theorem loop_forG {x : Str} {px : Pos} {body : List Stmt} {n : Nat} {P : Nat → Value → Prop} {xv : Value} {Q : Flow → Shared → Prop} {pE : Value → Shared → Prop} {GP : Array GenState → Prop} (gp0 : GP s.gens)
    (H : St b S g0 h0 env g m mc mu s.heap) (src : Src prog w A n P g xv s.heap) (J : Nat → Inv) (j0 : J 0 g m mc mu)
    (turn : ∀ i v I oI g₁ m₁ mc₁ mu₁ h₁ tk gs E', GP gs → i < n → P i v → g.le g₁ → J i g₁ m₁ mc₁ mu₁ → St b S g0 h0 env g₁ (up x v m₁) mc₁ ((I, oI) :: mu₁) h₁ →
      wpAny (model prog w) A (execs body env) (LoopEndG GP b S g0 h0 env s g₁ (I, oI) (J (i + 1)) Q) E' { s with heap := h₁, toks := tk, gens := gs })
    (done : ∀ g₁ m₁ mc₁ mu₁ h₁ tk gs, GP gs → g.le g₁ → J n g₁ m₁ mc₁ mu₁ → St b S g0 h0 env g₁ m₁ mc₁ mu₁ h₁ → Q .next { s with heap := h₁, toks := tk, gens := gs })
    (hk : env.scope.kind = .function := by with_unfolding_all rfl) (hl : env.kindOf x = some .local := by with_unfolding_all rfl) :
    wpAny (model prog w) A (pyIter xv) (fun it s₂ => codeAny (model prog w) A (.forLoop (.Name x px) it body [] env) (fun r s' => match r with | .ok f => Q f s' | .error e => pE e s') s₂) E s :=
  loop_gen gp0 (up x) (fun _ mc => mc) (fun v g₁ m₁ mc₁ mu₁ s₁ Q E H k => wpAny_assign_Name (st_loc H (fun h' H' => k h' _ H') hk hl)) (fun _ _ => rfl) H src J j0 turn done
theorem loop_for {x : Str} {px : Pos} {body : List Stmt} {n : Nat} {P : Nat → Value → Prop} {xv : Value} {Q : Flow → Shared → Prop} {pE : Value → Shared → Prop}
    (H : St b S g0 h0 env g m mc mu s.heap) (src : Src prog w A n P g xv s.heap) (J : Nat → Inv) (j0 : J 0 g m mc mu)
    (turn : ∀ i v I oI g₁ m₁ mc₁ mu₁ h₁ tk E', i < n → P i v → g.le g₁ → J i g₁ m₁ mc₁ mu₁ → St b S g0 h0 env g₁ (up x v m₁) mc₁ ((I, oI) :: mu₁) h₁ →
      wpAny (model prog w) A (execs body env) (LoopEnd b S g0 h0 env s g₁ (I, oI) (J (i + 1)) Q) E' { s with heap := h₁, toks := tk })
    (done : ∀ g₁ m₁ mc₁ mu₁ h₁ tk, g.le g₁ → J n g₁ m₁ mc₁ mu₁ → St b S g0 h0 env g₁ m₁ mc₁ mu₁ h₁ → Q .next { s with heap := h₁, toks := tk })
    (hk : env.scope.kind = .function := by with_unfolding_all rfl) (hl : env.kindOf x = some .local := by with_unfolding_all rfl) :
    wpAny (model prog w) A (pyIter xv) (fun it s₂ => codeAny (model prog w) A (.forLoop (.Name x px) it body [] env) (fun r s' => match r with | .ok f => Q f s' | .error e => pE e s') s₂) E s :=
  loop_forG (GP := fun gs => gs = s.gens) rfl H src J j0 (fun i v I oI g₁ m₁ mc₁ mu₁ h₁ tk gs E' gp => by subst gp; exact turn i v I oI g₁ m₁ mc₁ mu₁ h₁ tk E') (fun g₁ m₁ mc₁ mu₁ h₁ tk gs gp => by subst gp; exact done g₁ m₁ mc₁ mu₁ h₁ tk) hk hl
-- range
theorem call_range1 {n : Int} {t : Tok} {Q : Value → Shared → Prop} (H : St b S g0 h0 env g m mc mu s.heap)
    (h : ∀ h' tk r t₁ u₁ v₁, IsRange h' r 0 n 1 t₁ u₁ v₁ → St b S g0 h0 env g m mc mu h' → Q (.ref r) { s with heap := h', toks := tk }) : wpAny (model prog w) A (call (.type "range") [.int n t]) Q E s :=
  range1_rows (news := []) (frame0 H.ns) (fun _ q => nomatch q) fun h' tk t₁ u₁ v₁ hr _ _ kp => h h' tk _ t₁ u₁ v₁ hr (H.keeps kp)
theorem call_range2 {a c : Int} {t u : Tok} {Q : Value → Shared → Prop} (H : St b S g0 h0 env g m mc mu s.heap)
    (h : ∀ h' tk r t₁ u₁ v₁, IsRange h' r a c 1 t₁ u₁ v₁ → St b S g0 h0 env g m mc mu h' → Q (.ref r) { s with heap := h', toks := tk }) : wpAny (model prog w) A (call (.type "range") [.int a t, .int c u]) Q E s :=
  range2_rows (news := []) (frame0 H.ns) (fun _ q => nomatch q) fun h' tk t₁ u₁ v₁ hr _ _ kp => h h' tk _ t₁ u₁ v₁ hr (H.keeps kp)
end
end Mine
namespace Mine
section
variable {prog : Program} {w : World} {b : Heap}
variable {S : List Addr} {g0 : FM} {h0 : Heap} {env : Env} {g : FM} {m mc : Str → Option Value} {mu pre post : List (Addr × Obj)} {h h' : Heap}
variable {A : Around} {s : Shared} {E : Value → Shared → Prop}

theorem St.keepsL (H : St b S g0 h0 env g m mc mu h) (ns : h'.Ns env.locals m) (k : ∀ a o, a ≠ env.locals → h.get? a = some o → h'.get? a = some o) : St b S g0 h0 env g m mc mu h' := by
  have nd := H.nd
  unfold owns at nd
  have nL := (List.nodup_cons.mp nd).1
  have gL := (H.own _ owns_L).1
  refine H.move ⟨.refl g, fun _ _ e => .inl e, fun a o n e => k a o (fun q => n (q ▸ owns_L)) e, fun a o e => ?_, fun a o e => k a o (fun q => by subst q; rw [gL] at e; cases e) (H.on a o e)⟩ ns
    (fun x c hc => ?_) (fun p hp => k _ _ (fun q => nL (q ▸ List.mem_append_right _ (List.mem_map_of_mem hp))) (H.mus p hp)) rfl
  · by_cases q : a = env.locals
    · subst q; obtain ⟨o', _, _, e', _⟩ := ns; exact ⟨o', e'⟩
    · exact ⟨o, k a o q e⟩
  · obtain ⟨o, e, r⟩ := H.cell x c hc
    exact ⟨o, k _ _ (fun q => nL (q ▸ List.mem_append_left _ (List.mem_map.mpr ⟨(x, c), hc, rfl⟩))) e, r⟩

/-- a new object by a rule over a ledger -/
theorem St.madeF {a : Addr} {o : Obj} (H : St b S g0 h0 env g m mc mu h) (fa : h.get? a = none) (F : Fr noHeap env.locals h' m) (N : News noHeap env.locals h' ((a, o) :: restOf h [env.locals])) :
    St b S g0 h0 env g m mc ((a, o) :: mu) h' ∧ h0.get? a = none := by
  have H' := H.keepsL F.ns fun x p n e => (N (x, p) (.tail _ (mem_restOf.mpr ⟨by simpa using n, e⟩))).1
  exact ⟨H'.adopt (N (a, o) (.head _)).1 (H.not_owned fa) (H.gfresh fa) (H.h0fresh fa), H.h0fresh fa⟩
theorem restN (h : Heap) (L : Addr) : News noHeap L h (restOf h [L]) := news0 (.head _)

-- lists
abbrev lst (vs : List Value) : Obj := { cls := .type "list", data := .seq vs.toArray }
theorem IsL.lst (vs : List Value) : IsL (Mine.lst vs) vs := ⟨rfl, 0, rfl, rfl⟩
theorem sub_list {value slice : Expr} {l : Addr} {vs : List Value} {k : Int} {t : Tok} {v : Value} {Q : Value → Shared → Prop} (hl : s.heap.IsList l vs.toArray) (h0 : 0 ≤ k) (hk : k < 2 ^ 63) (hx : vs[k.toNat]? = some v) (h : Q v s)
    (hs : subscripted slice false (.ref l) (.int k t) = operate [.ref l, .int k t] (getItem (.ref l) (.int k t)) := by with_unfolding_all rfl) :
    wpAny (model prog w) A (subscriptTail value slice (.ref l) (.int k t)) Q E s :=
  tail_any hl.typeIs slot_list_getitem.lookup (wpAny_getItem_list hl h0 hk (by simpa using hx) h) hs
theorem set_list {a : Addr} {o : Obj} {vs : List Value} {k : Int} {t : Tok} {v : Value} {Q : Unit → Shared → Prop} (H : St b S g0 h0 env g m mc (pre ++ (a, o) :: post) s.heap) (isl : IsL o vs) (hk0 : 0 ≤ k) (hk : k < 2 ^ 63) (hn : k.toNat < vs.length)
    (h : ∀ h' o', IsL o' (vs.set k.toNat v) → St b S g0 h0 env g m mc (pre ++ (a, o') :: post) h' → Q () { s with heap := h' }) : wpAny (model prog w) A (setItem (.ref a) (.int k t) v) Q E s := by
  obtain ⟨_, n, _, eo⟩ := isl
  subst eo
  have ho : PySem.IsL s.heap a vs.toArray n := H.muAt
  refine ki_setAt ho hk0 hk (by rw [List.size_toArray]; omega) ?_
  have q := PySem.IsL.update ho (fun xs => xs.setIfInBounds k.toNat v)
  have e : vs.toArray.setIfInBounds k.toNat v = (vs.set k.toNat v).toArray := by simp
  rw [e] at q
  exact h _ _ ⟨rfl, _, rfl, rfl⟩ (H.updAt q (Heap.SameBut.update ..).extBut)
theorem add_lists {l r : Addr} {vs us : List Value} {Q : Value → Shared → Prop} (H : St b S g0 h0 env g m mc mu s.heap) (hl : s.heap.IsList l vs.toArray) (hr : s.heap.IsList r us.toArray) (hsz : vs.length + us.length ≤ sizeLine)
    (h : ∀ a h', h0.get? a = none → s.heap.get? a = none → St b S g0 h0 env g m mc ((a, lst (vs ++ us)) :: mu) h' → Q (.ref a) { s with heap := h' }) : wpAny (model prog w) A (binaryOp .Add (.ref l) (.ref r)) Q E s := by
  refine add_arrays (frame0 H.ns) (restN _ _) hl hr (fun h' F N => ?_) (by rw [List.size_toArray, List.size_toArray]; exact hsz)
  have f := none_of_ge (h := s.heap) (Nat.le_refl _)
  obtain ⟨H', f0⟩ := H.madeF f F N
  exact h _ h' f0 f H'
theorem copy_list {l : Addr} {vs : List Value} {Q : Value → Shared → Prop} (H : St b S g0 h0 env g m mc mu s.heap) (hl : s.heap.IsList l vs.toArray) (hsz : vs.length ≤ sizeLine)
    (h : ∀ a o h', IsL o vs → h0.get? a = none → St b S g0 h0 env g m mc ((a, o) :: mu) h' → Q (.ref a) { s with heap := h' }) : wpAny (model prog w) A (call (.type "list") [.ref l]) Q E s := by
  refine list_copyK (frame0 H.ns) (restN _ _) hl (fun D c h' F N lt => ?_) (by rw [List.size_toArray]; exact hsz)
  have f : s.heap.get? D = none := by
    cases q : s.heap.get? D with
    | none => rfl
    | some o =>
      by_cases e : D = env.locals
      · exact absurd e (N _ (.head _)).2.1
      · exact absurd (lt (D, o) (mem_restOf.mpr ⟨by simpa using e, q⟩)) (Nat.lt_irrefl _)
  obtain ⟨H', f0⟩ := H.madeF f F N
  exact h _ _ h' ⟨rfl, c, rfl, rfl⟩ f0 H'
theorem len_list {l : Addr} {vs : List Value} {Q : Value → Shared → Prop} (hl : s.heap.IsList l vs.toArray) (hsz : vs.length ≤ 16777216) (h : Q (.int vs.length (s.toks + 1)) { s with toks := s.toks + 1 + 1 }) :
    wpAny (model prog w) A (call (.builtin "len") [.ref l]) Q E s :=
  call_len_list hl (by rw [List.size_toArray]; omega) (by rw [List.size_toArray]; exact h)
end
end Mine
namespace Mine
section
variable {b : Heap} {S : List Addr} {g0 : FM} {h0 : Heap} {env : Env} {g g' : FM} {m mc : Str → Option Value} {mu mu' pre : List (Addr × Obj)} {h h' : Heap}
theorem St.muFacts (H : St b S g0 h0 env g m mc (pre ++ mu) h) : (∀ q ∈ mu, h.get? q.1 = some q.2 ∧ g q.1 = none) ∧ (mu.map (·.1)).Nodup := by
  refine ⟨fun q hq => ⟨H.mus q (List.mem_append_right _ hq), (H.own _ (owns_mu (List.mem_append_right _ hq))).1⟩, ?_⟩
  have nd := H.nd
  unfold owns at nd
  rw [List.map_append] at nd
  exact (List.nodup_append.mp (List.nodup_append.mp (List.nodup_cons.mp nd).2).2.1).2.1
theorem St.callMu (H : St b S g0 h0 env g m mc (pre ++ mu) h) (e : Ev (mu.map (·.1)) g h g' h') (ad : mu'.map (·.1) = mu.map (·.1)) (mus : ∀ q ∈ mu', h'.get? q.1 = some q.2) : St b S g0 h0 env g' m mc (pre ++ mu') h' := by
  have nd := H.nd
  unfold owns at nd
  rw [List.map_append] at nd
  have nd2 := List.nodup_append.mp (List.nodup_append.mp (List.nodup_cons.mp nd).2).2.1
  refine H.call e (fun a ha => by rw [List.map_append]; exact List.mem_append_right _ ha) (fun q hq => ?_) (by rw [List.map_append, List.map_append, ad])
  rcases List.mem_append.mp hq with hq | hq
  · exact e.keep _ _ (fun z => nd2.2.2 q.1 (List.mem_map_of_mem hq) q.1 z rfl) (H.mus q (List.mem_append_left _ hq))
  · exact mus q hq
end

section
variable {prog : Program} {w : World} {b : Heap} {S : List Addr} {g0 : FM} {h0 : Heap} {env : Env} {g : FM} {m mc : Str → Option Value} {mu : List (Addr × Obj)} {A : Around} {s : Shared} {E : Value → Shared → Prop}
theorem sub_mu {value slice : Expr} {l : Addr} {o : Obj} {vs : List Value} {k : Int} {t : Tok} {v : Value} {Q : Value → Shared → Prop} (H : St b S g0 h0 env g m mc mu s.heap) (hm : (l, o) ∈ mu) (isl : IsL o vs) (h0 : 0 ≤ k) (hk : k < 2 ^ 63) (hx : vs[k.toNat]? = some v) (h : Q v s)
    (hs : subscripted slice false (.ref l) (.int k t) = operate [.ref l, .int k t] (getItem (.ref l) (.int k t)) := by with_unfolding_all rfl) :
    wpAny (model prog w) A (subscriptTail value slice (.ref l) (.int k t)) Q E s := sub_list (isl.at_ (H.mus _ hm)) h0 hk hx h hs
theorem mod_pos {a c : Int} {t u : Tok} {Q : Value → Shared → Prop} (hc : 0 < c) (h : Q (.int (a % c) s.toks) { s with toks := s.toks + 1 }) : wpAny (model prog w) A (binaryOp .Mod (.int a t) (.int c u)) Q E s :=
  PyProof.Rows.mod_int' (by omega) (by rw [Int.fmod_eq_emod_of_nonneg _ (by omega)]; exact h)
theorem mul_lit {a c : Int} {t u : Tok} {Q : Value → Shared → Prop} (hc : Builtin.Int.intBits c ≤ 64) (h : Q (.int (a * c) s.toks) { s with toks := s.toks + 1 }) : wpAny (model prog w) A (binaryOp .Mult (.int a t) (.int c u)) Q E s :=
  PyProof.Rows.mul_int h (IntMulOk.of_right hc)
end

end Mine
namespace Mine
-- the library's nodes, their side conditions shown by unfolding
section
variable {M : Model} {prog : Program} {w : World} {env : Env} {A : Around} {s : Shared} {E : Value → Shared → Prop}
theorem x_assign {x pos' value pos} {Q : Flow → Shared → Prop} (h : wpAny M A (eval value env) (fun v s₁ => wpAny M A (storeName env x v) (fun _ => Q .next) E s₁) E s)
    (hs : swapsWith value (some (.Name x pos')) pos.line env = pure false := by with_unfolding_all rfl) : wpAny M A (exec (.Assign [.Name x pos'] value pos) env) Q E s := wpAny_Assign_Name h hs
theorem x_assignSub {o i pos' value pos} {Q : Flow → Shared → Prop}
    (h : wpAny M A (eval value env) (fun v s₁ => wpAny M A (eval o env) (fun ov s₂ => wpAny M A (eval i env) (fun iv s₃ => wpAny M A (setItem ov iv v) (fun _ => Q .next) E s₃) E s₂) E s₁) E s)
    (hs : swapsWith value (some (.Subscript o i pos')) pos.line env = pure false := by with_unfolding_all rfl) : wpAny M A (exec (.Assign [.Subscript o i pos'] value pos) env) Q E s := wpAny_Assign_Subscript h hs
theorem x_builtin {pos : Pos} {id : String} {e : Expr} {rest : List Expr} {Q : Value → Shared → Prop}
    (h : wpAny M A (spliced (backTo pos (starEach (e :: rest) env))) (fun vs s₁ => wpAny M A (call (.builtin id) vs) Q E s₁) E s)
    (he : starEach (e :: rest) env = (false, eval e env) :: starEach rest env := by with_unfolding_all rfl) (hplain : (backTo pos (starEach rest env)).any (·.1) = false := by with_unfolding_all rfl) :
    wpAny M A (callWith pos (.builtin id) [] (backTo pos (starEach (e :: rest) env)) []) Q E s := PyProof.Rows.callWith_builtin1 h he hplain
theorem x_type {pos : Pos} {T : String} {e : Expr} {rest : List Expr} {Q : Value → Shared → Prop}
    (h : wpAny M A (spliced (backTo pos (starEach (e :: rest) env))) (fun vs s₁ => wpAny M A (call (.type T) vs) Q E s₁) E s)
    (he : starEach (e :: rest) env = (false, eval e env) :: starEach rest env := by with_unfolding_all rfl) (hplain : (backTo pos (starEach rest env)).any (·.1) = false := by with_unfolding_all rfl) :
    wpAny M A (callWith pos (.type T) [] (backTo pos (starEach (e :: rest) env)) []) Q E s := PyProof.Rows.callWith_type1 h he hplain
theorem x_arg {e : Expr} {rest : List Expr} {pos : Pos} {Q : List Value → Shared → Prop} (h : wpAny M A (eval e env) (fun v s₁ => wpAny M A (spliced (backTo pos (starEach rest env))) (fun vs s₂ => Q (v :: vs) s₂) E s₁) E s)
    (he : starEach (e :: rest) env = (false, eval e env) :: starEach rest env := by with_unfolding_all rfl) : wpAny M A (spliced (backTo pos (starEach (e :: rest) env))) Q E s := spliced_more h he
theorem x_attr {value : Expr} {attr : Str} {pos : Pos} {Q : Value → Shared → Prop} (h : wpAny (model prog w) A (eval value env) (fun o s₁ => wpAny (model prog w) A (getAttr o attr true) Q E s₁) E s)
    (he : eval (.Attribute value attr pos) env = (do
      let o ← eval value env
      standAt pos.atName
      let r ← holding [o] (getAttr o attr true)
      letTemporaryGo value o r
      pure r) := by with_unfolding_all rfl) : wpAny (model prog w) A (eval (.Attribute value attr pos) env) Q E s := Attribute_any_ h he
theorem x_meth {o : Expr} {name : Str} {apos pos : Pos} {args : List Expr} {pl : Sem Bool} {Q : Value → Shared → Prop}
    (h : wpAny M A (eval o env) (fun ov s₁ => wpAny M A (getMethod ov name pl) (fun fx s₂ => wpAny M A (callWith pos fx.1 fx.2 (backTo pos (starEach args env)) []) Q E s₂) E s₁) E s)
    (he : eval (.Call (.Attribute o name apos) args [] pos) env = (do
      let ov ← eval o env
      standAt apos.atName
      let (f, first) ← holding [ov] (getMethod ov name pl)
      callWith pos f first (backTo pos (starEach args env)) []) := by with_unfolding_all rfl) :
    wpAny M A (eval (.Call (.Attribute o name apos) args [] pos) env) Q E s := MethodCall_ h he
theorem x_cmp {l op r pos} {Q : Value → Shared → Prop} (h : wpAny M A (eval l env) (fun a s₁ => wpAny M A (eval r env) (fun b s₂ => wpAny M A (compareOp op a b) Q E s₂) E s₁) E s)
    (hm : behindInMarks op r = false := by with_unfolding_all rfl) : wpAny M A (eval (.Compare l [op] [r] pos) env) Q E s := wpAny_Compare1 h hm
theorem x_fn {K : Frag} {b : Heap} {p : Program} {loose : List Str} {mean : ExcName → Option Value} {mg mb : Str → Option Value} {f : Value} {first : List Value} {pos : Pos} {e : Expr} {rest : List Expr} {Q : Value → Shared → Prop}
    (W : Wd K p loose mean mg mb b) (hk : keepIn K f = true) (h : wpAny M A (spliced (backTo pos (starEach (e :: rest) env))) (fun vs s₁ => K.In s₁.heap ∧ wpAny M A (call f (first ++ vs)) Q E s₁) E s)
    (he : starEach (e :: rest) env = (false, eval e env) :: starEach rest env := by with_unfolding_all rfl) (hplain : (backTo pos (starEach rest env)).any (·.1) = false := by with_unfolding_all rfl) :
    wpAny M A (callWith pos f first (backTo pos (starEach (e :: rest) env)) []) Q E s := callWith_K (h₀ := b) W.X hk h he hplain
end
end Mine
namespace Mine
theorem ints_set {vs : List Value} {ns : List Int} (h : IntsAre vs ns) (i : Nat) (x : Int) (t : Tok) : IntsAre (vs.set i (.int x t)) (ns.set i x) := by
  induction h generalizing i with
  | nil => exact .nil
  | cons n t' h ih => cases i with
    | zero => exact .cons x t h
    | succ i => exact .cons n t' (ih i)
end Mine
namespace Mine
def IntL (g : FM) (a : Addr) (ns : List Int) : Prop := ∃ vs o k, g a = some o ∧ o.cls = .type "list" ∧ (o.data = .seq (List.toArray vs) k ∧ o = { cls := .type "list", data := .seq (List.toArray vs) k }) ∧ IntsAre vs ns
/-- the same, of a list that another made -/
def IntL0 (g : FM) (a : Addr) (ns : List Int) : Prop := ∃ vs o k, g a = some o ∧ o.cls = .type "list" ∧ o.data = .seq (List.toArray vs) k ∧ IntsAre vs ns
theorem IntL0.list {g : FM} {h : Heap} {a : Addr} {ns : List Int} (I : IntL0 g a ns) (on : g.le h.get?) : ∃ vs, h.IsList a vs.toArray ∧ IntsAre vs ns := let ⟨vs, o, k, e, c, d, i⟩ := I; ⟨vs, ⟨o, on _ _ e, c, k, d⟩, i⟩
theorem IntL.mono {g g' : FM} {a : Addr} {ns : List Int} (I : IntL g a ns) (le : g.le g') : IntL g' a ns := let ⟨vs, o, k, e, r⟩ := I; ⟨vs, o, k, le _ _ e, r⟩
def Ring (C : Addr) (g : FM) (x : Addr) (q n : Int) : Prop := ∃ h1 t1 u1 h2 t2 u2, Inst g x C [⟨h1, .str "q" t1, .int q u1⟩, ⟨h2, .str "n" t2, .int n u2⟩]
theorem Ring.mono {C : Addr} {g g' : FM} {x : Addr} {q n : Int} (I : Ring C g x q n) (le : g.le g') : Ring C g' x q n := let ⟨h1, t1, u1, h2, t2, u2, i⟩ := I; ⟨h1, t1, u1, h2, t2, u2, i.mono le⟩
def Poly (C : Addr) (g : FM) (x r : Addr) (cs : List Int) : Prop := ∃ h1 t1 h2 t2 l, Inst g x C [⟨h1, .str "parent" t1, .ref r⟩, ⟨h2, .str "coeffs" t2, .ref l⟩] ∧ IntL g l cs
theorem Poly.mono {C : Addr} {g g' : FM} {x r : Addr} {cs : List Int} (I : Poly C g x r cs) (le : g.le g') : Poly C g' x r cs := let ⟨h1, t1, h2, t2, l, i, j⟩ := I; ⟨h1, t1, h2, t2, l, i.mono le, j.mono le⟩
theorem IntL.list {g : FM} {h : Heap} {a : Addr} {ns : List Int} (I : IntL g a ns) (on : g.le h.get?) : ∃ vs, h.IsList a vs.toArray ∧ IntsAre vs ns := let ⟨vs, o, k, e, c, d, i⟩ := I; ⟨vs, ⟨o, on _ _ e, c, k, d.1⟩, i⟩
theorem IntL.mk {g : FM} {a : Addr} {o : Obj} {vs : List Value} {ns : List Int} (e : g a = some o) (isl : IsL o vs) (i : IntsAre vs ns) : IntL g a ns := let ⟨c, k, d⟩ := isl; ⟨vs, o, k, e, c, d, i⟩
end Mine
namespace Mine
section
variable {prog : Program} {w : World} {K : Frag} {p : Program} {loose : List Str} {mean : ExcName → Option Value} {mg mb : Str → Option Value} {b : Heap}
variable {S : List Addr} {g0 : FM} {h0 : Heap} {env : Env} {g : FM} {m mc : Str → Option Value} {mu : List (Addr × Obj)}
variable {A : Around} {s : Shared} {E : Value → Shared → Prop}

theorem St.F (H : St b S g0 h0 env g m mc mu s.heap) : Fr b env.locals s.heap m := ⟨H.ns, H.base, H.lo⟩

/-- its two objects told -/
structure At (g : FM) (x C d : Addr) (es : List DictEntry) (n : Nat) : Prop where
  x : g x = some (instObj C d)
  d : g d = some (dictOf es n)
theorem At.mono {g g' : FM} {x C d : Addr} {es : List DictEntry} {n : Nat} (I : At g x C d es n) (le : g.le g') : At g' x C d es n := ⟨le _ _ I.x, le _ _ I.d⟩
theorem At.I {h : Heap} {x C d : Addr} {es : List DictEntry} {n : Nat} (I : At h.get? x C d es n) : InstAt h x (instObj C d) C (some (dictOf es n)) := ⟨I.x, rfl, rfl, I.d⟩

-- an object called
theorem x_icall {pos : Pos} {x C d f : Addr} {es : List DictEntry} {n : Nat} {first : List Value} {e : Expr} {rest : List Expr} {Q : Value → Shared → Prop} (X : K.In s.heap) (I : At s.heap.get? x C d es n) (hs : findIn K (.ref C) "__call__" = some (some (.ref f)))
    (h : wpAny (model prog w) A (spliced (backTo pos (starEach (e :: rest) env))) (fun vs s₁ => (K.In s₁.heap ∧ At s₁.heap.get? x C d es n) ∧ wpAny (model prog w) A (call (.ref x) (first ++ vs)) Q E s₁) E s)
    (he : starEach (e :: rest) env = (false, eval e env) :: starEach rest env := by with_unfolding_all rfl) (hplain : (backTo pos (starEach rest env)).any (·.1) = false := by with_unfolding_all rfl) :
    wpAny (model prog w) A (callWith pos (.ref x) first (backTo pos (starEach (e :: rest) env)) []) Q E s :=
  kco_callWith X I.I rfl hs (wpAny_mono h (fun vs s₁ z => ⟨⟨z.1.1, z.1.2.I⟩, z.2⟩) fun _ _ z => z) he hplain
theorem icall {x C d f : Addr} {es : List DictEntry} {n : Nat} {vs : List Value} {Q : Value → Shared → Prop} (X : K.In s.heap) (I : At s.heap.get? x C d es n) (hs : findIn K (.ref C) "__call__" = some (some (.ref f))) (hf : isFn K (.ref f) = true) (hfn : fnIn K f = true)
    (h : codeAny (model prog w) A (.call (.ref f) ⟨.ref x :: vs, []⟩) (fun r s' => match r with | .ok (.ret v) => Q v s' | .ok _ => False | .error e => E e s') s) : wpAny (model prog w) A (call (.ref x) vs) Q E s :=
  wpAny_call (kco_code X I.I rfl hs hf hfn h)

-- operators of a class
theorem bin_same {op : Operator} {x y C f : Addr} {es es' : List DictEntry} {Q : Value → Shared → Prop} (W : Wd K p loose mean mg mb b) (H : St b S g0 h0 env g m mc mu s.heap) (I : Inst g x C es) (J : Inst g y C es') (hc : selfFirst K C = true)
    (hs : findIn K (.ref C) (PySem.dunder op.info.2) = some (some (.ref f))) (hf : isFn K (.ref f) = true) (h : wpAny (model prog w) A (call (.ref f) [.ref x, .ref y]) (PySem.W.CmpBack Q) E s) : wpAny (model prog w) A (binaryOp op (.ref x) (.ref y)) Q E s := by
  obtain ⟨d, n, i⟩ := (I.mono H.on).at_
  obtain ⟨d', n', j⟩ := (J.mono H.on).at_
  exact binop_K H.F W.X i j.type hc hs hf h
-- isinstance, type
theorem isi_list {l : Addr} {o : Obj} {c : Value} {r : Bool} {Q : Value → Shared → Prop} (X : K.In s.heap) (ho : s.heap.get? l = some o) (hc : o.cls = .type "list") (e : kitOne K (.type "list") c = some r) (h : ∀ tk, Q (.bool r) { s with toks := tk }) :
    wpAny (model prog w) A (call (.builtin "isinstance") [.ref l, c]) Q E s := kia_one kitx_list X ⟨o, ho, hc⟩ e (by intro q; cases q) h
theorem isi_int {k : Int} {t : Tok} {c : Value} {r : Bool} {Q : Value → Shared → Prop} (X : K.In s.heap) (e : kitOne K (.type "int") c = some r) (h : ∀ tk, Q (.bool r) { s with toks := tk }) :
    wpAny (model prog w) A (call (.builtin "isinstance") [.int k t, c]) Q E s := kia_one kitx_int X trivial e (by intro q; cases q) h
theorem isi_inst {x C : Addr} {es : List DictEntry} {c : Value} {r : Bool} {Q : Value → Shared → Prop} (X : K.In s.heap) (I : Inst s.heap.get? x C es) (e : kitOne K (.ref C) c = some r)
    (hg : plainGet K C "__class__" = true) (hdct : hasDictIn K C = true) (ha : findIn K (.ref C) "__class__" = some (some (.builtin "object.__class__")))
    (hn : specialIn K (.builtin "object.__class__") "__get__" = some (some (.builtin "getset_descriptor.__get__"))) (htk : takesIn K (.builtin "object.__class__") = some true) (hm : mroIn K C (.type "object") = some true)
    (h : ∀ tk, Q (.bool r) { s with toks := tk }) : wpAny (model prog w) A (call (.builtin "isinstance") [.ref x, c]) Q E s := by
  obtain ⟨d, n, i⟩ := I.at_
  exact kia_one (kitx_own hg hdct ha hn htk hm) X i e (by intro q; cases q) h
theorem type_inst {x C : Addr} {es : List DictEntry} {Q : Value → Shared → Prop} (I : Inst s.heap.get? x C es) (h : Q (.ref C) s) : wpAny (model prog w) A (call (.type "type") [.ref x]) Q E s := by
  obtain ⟨d, n, i⟩ := I.at_
  exact kto_own i h

-- a slice from the start
end
end Mine
namespace Mine

theorem codeAny_compLoop_own {prog : Program} {w : World} {A : Around} {R : Result → Shared → Prop} {s : Shared} {elt target iter : Expr} {scope : Scope} {pos : Pos} {it acc : Value} {env : Env} (I : Nat → Shared → Prop)
    (turn : ∀ n s, I n s → wpAny (model prog w) A (pyNext it) (fun r s₁ => match r with
      | none => R (.ok .next) s₁
      | some v => wpAny (model prog w) A (letOwnedTupleGo target it v) (fun _ s₁ => wpAny (model prog w) A (assign target env v) (fun _ s₂ => wpAny (model prog w) A (eval elt env) (fun x s₃ =>
          wpAny (model prog w) A (call (.builtin "list.append") [acc, x]) (fun _ s₄ => ∃ m, m < n ∧ I m s₄) (notedBy (model prog w) A env fun e s' => R (.error e) s') s₃)
          (notedBy (model prog w) A env fun e s' => R (.error e) s') s₂) (notedBy (model prog w) A env fun e s' => R (.error e) s') s₁) (notedBy (model prog w) A env fun e s' => R (.error e) s') s₁) (notedBy (model prog w) A env fun e s' => R (.error e) s') s)
    (n : Nat) (h : I n s) :
    codeAny (model prog w) A (.compLoop (.ListComp elt [⟨target, iter, [], 0⟩] scope pos) 0 it acc env) R s := by
  refine codeAny_loop rfl I (fun n s hI => ?_) n h
  show wpAny _ _ ((compTurn (.ListComp elt [⟨target, iter, [], 0⟩] scope pos) 0 it acc env).onRaise (fun x => do noteFrame x env; theTreesLotGoes x)) _ _ s
  refine wpAny_noted ?_
  rw [compTurn_list1]
  refine wpAny_bind (wpAny_standAt (wpAny_bind (wpAny_mono (turn n s hI) (fun r s₁ h₁ => ?_) fun _ _ h' => h')))
  cases r with
  | none => exact wpAny_pure h₁
  | some v =>
    exact wpAny_bind (wpAny_mono h₁ (fun _ s₁ h₁ => wpAny_bind (wpAny_mono h₁ (fun _ s₂ h₂ => wpAny_bind (wpAny_bind (wpAny_mono h₂ (fun x s₃ h₃ => wpAny_bind (wpAny_mono h₃
      (fun _ s₄ h₄ => wpAny_pure (wpAny_pure ⟨rfl, h₄⟩)) fun _ _ h' => h')) fun _ _ h' => h'))) fun _ _ h' => h')) fun _ _ h' => h')

section
variable {prog : Program} {w : World} {b : Heap}
variable {S : List Addr} {g0 : FM} {h0 : Heap} {env : Env} {g : FM} {m mc : Str → Option Value} {mu its : List (Addr × Obj)} {h hb : Heap}
variable {A : Around} {s : Shared} {E : Value → Shared → Prop}

theorem owns_append {a : Addr} (q : a ∈ owns env (its ++ mu)) : a ∈ its.map (·.1) ∨ a ∈ owns env mu := by
  unfold owns at q ⊢
  rcases List.mem_cons.mp q with q | q
  · exact .inr (q ▸ .head _)
  · rcases List.mem_append.mp q with q | q
    · exact .inr (.tail _ (List.mem_append_left _ q))
    · rw [List.map_append] at q
      rcases List.mem_append.mp q with q | q
      · exact .inl q
      · exact .inr (.tail _ (List.mem_append_right _ q))

theorem St.adopts : ∀ {its : List (Addr × Obj)}, St b S g0 h0 env g m mc mu h → (∀ q ∈ its, h.get? q.1 = some q.2 ∧ q.1 ∉ owns env mu ∧ g q.1 = none ∧ h0.get? q.1 = none) → (its.map (·.1)).Nodup → St b S g0 h0 env g m mc (its ++ mu) h
  | [], H, _, _ => H
  | q :: r, H, hq, nd => by
    rw [List.map_cons] at nd
    have ih := St.adopts (its := r) H (fun x hx => hq x (.tail _ hx)) (List.nodup_cons.mp nd).2
    obtain ⟨h1, h2, h3, h4⟩ := hq q (.head _)
    exact ih.adopt h1 (fun z => (owns_append z).elim (List.nodup_cons.mp nd).1 h2) h3 h4

theorem its_of {h : Heap} : ∀ (wr : List Addr), (∀ a ∈ wr, ∃ o, h.get? a = some o) → ∃ its : List (Addr × Obj), its.map (·.1) = wr ∧ ∀ q ∈ its, h.get? q.1 = some q.2
  | [], _ => ⟨[], rfl, fun _ q => nomatch q⟩
  | a :: r, hl => by
    obtain ⟨o, e⟩ := hl a (.head _)
    obtain ⟨its, e1, e2⟩ := its_of r fun x hx => hl x (.tail _ hx)
    refine ⟨(a, o) :: its, by rw [List.map_cons, e1], fun q hq => ?_⟩
    rcases List.mem_cons.mp hq with rfl | hq
    · exact e
    · exact e2 q hq

theorem St.dropJunks {h h' : Heap} : ∀ {its : List (Addr × Obj)}, St b S g0 h0 env g m mc (its ++ mu) h → (∀ q ∈ its, h0.get? q.1 = none) → (∀ x p, x ∉ its.map (·.1) → h.get? x = some p → h'.get? x = some p) → St b S g0 h0 env g m mc mu h' := by
  intro its H f kp
  have nd := H.nd
  have notin : ∀ x ∈ owns env mu, x ∉ its.map (·.1) := fun x hx q => by
    unfold owns at nd hx
    rw [List.map_append] at nd
    have n2 := List.nodup_append.mp (List.nodup_cons.mp nd).2
    have n3 := List.nodup_append.mp n2.2.1
    rcases List.mem_cons.mp hx with e | e
    · exact (List.nodup_cons.mp nd).1 (e ▸ List.mem_append_right _ (List.mem_append_left _ q))
    · rcases List.mem_append.mp e with e | e
      · exact n2.2.2 x e x (List.mem_append_left _ q) rfl
      · exact n3.2.2 x q x e rfl
  have gn : ∀ x ∈ its.map (·.1), g x = none := fun x hx => (H.own x (.tail _ (List.mem_append_right _ (by rw [List.map_append]; exact List.mem_append_left _ hx)))).1
  have h0n : ∀ x ∈ its.map (·.1), h0.get? x = none := fun x hx => by
    obtain ⟨q, hq, rfl⟩ := List.mem_map.mp hx
    exact f q hq
  have sub : (owns env mu).Sublist (owns env (its ++ mu)) := by
    unfold owns
    rw [List.map_append]
    exact List.Sublist.cons_cons _ (List.Sublist.append_left (List.sublist_append_right _ _) _)
  refine ⟨?_, fun x c hc => ?_, H.bg, H.lo, ⟨H.ev.gg, H.ev.new, fun x p n e => kp x p (fun q => by rw [h0n x q] at e; cases e) (H.ev.keep x p n e), fun x p e => ?_, fun x p e => kp x p (fun q => by rw [gn x q] at e; cases e) (H.on x p e)⟩,
    fun p hp => kp _ _ (notin _ (owns_mu hp)) (H.mus p (List.mem_append_right _ hp)), H.nd.sublist sub, H.nn, fun a ha => H.own a (sub.subset ha)⟩
  · obtain ⟨oL, es, ep, e, r⟩ := H.ns; exact ⟨oL, es, ep, kp _ _ (notin _ owns_L) e, r⟩
  · obtain ⟨oc, e, r⟩ := H.cell x c hc
    exact ⟨oc, kp _ _ (notin _ (.tail _ (List.mem_append_left _ (List.mem_map.mpr ⟨(x, c), hc, rfl⟩)))) e, r⟩
  · obtain ⟨p', e'⟩ := H.ev.live x p e
    exact ⟨p', kp x p' (fun q => by rw [h0n x q] at e; cases e) e'⟩

theorem St.callIts {h' : Heap} {g' : FM} {pre its its' : List (Addr × Obj)} (H : St b S g0 h0 env g m mc (pre ++ (its ++ mu)) h) (e : Ev (its.map (·.1)) g h g' h') (ad : its'.map (·.1) = its.map (·.1)) (mus : ∀ q ∈ its', h'.get? q.1 = some q.2) : St b S g0 h0 env g' m mc (pre ++ (its' ++ mu)) h' := by
  have nd := H.nd
  unfold owns at nd
  rw [List.map_append, List.map_append] at nd
  have n2 := List.nodup_append.mp (List.nodup_append.mp (List.nodup_cons.mp nd).2).2.1
  have n3 := List.nodup_append.mp n2.2.1
  refine H.call e (fun a ha => by rw [List.map_append, List.map_append]; exact List.mem_append_right _ (List.mem_append_left _ ha)) (fun q hq => ?_) (by rw [List.map_append, List.map_append, List.map_append, List.map_append, ad])
  rcases List.mem_append.mp hq with hq | hq
  · exact e.keep _ _ (fun z => n2.2.2 q.1 (List.mem_map_of_mem hq) q.1 (List.mem_append_left _ z) rfl) (H.mus q (List.mem_append_left _ hq))
  · rcases List.mem_append.mp hq with hq | hq
    · exact mus q hq
    · exact e.keep _ _ (fun z => n3.2.2 q.1 z q.1 (List.mem_map_of_mem hq) rfl) (H.mus q (List.mem_append_right _ (List.mem_append_right _ hq)))
end
end Mine
namespace Mine

structure CompZ (env : Env) (scope : Scope) (cl : List (Str × Addr)) (cn : List Str) (xa xb : Str) : Prop where
  clos : closureFor scope env = pure cl
  caught : Caught env cl
  names : cl.map (·.1) = cn
  nd : ((cellsFrom 0 scope.names (cn.map fun x => (x, 0))).map (·.1)).Nodup
  kind : scope.kind = .function
  loc : ∀ y ∈ scope.names, y.2 = .local → scope.names.lookup y.1 = some .local
  own : ∀ y ∈ scope.names, y.2 ≠ .cell
  ta : (relabel scope env).names.lookup xa = some .local
  tb : (relabel scope env).names.lookup xb = some .local

section
variable {prog : Program} {w : World} {b : Heap}
variable {S : List Addr} {g0 : FM} {h0 : Heap} {env : Env} {g : FM} {m mc : Str → Option Value} {mu : List (Addr × Obj)} {hb : Heap}
variable {A : Around} {s : Shared} {E : Value → Shared → Prop}

def ZipEnd (b : Heap) (S : List Addr) (g0 : FM) (h0 : Heap) (cenv : Env) (m mc : Str → Option Value) (s : Shared) (g₁ : FM) (q : Addr × Obj) (mu : List (Addr × Obj)) (J : Value → FM → Prop) (y : Value) (s' : Shared) : Prop :=
  ∃ g₂ h₂ tk₂, s' = { s with heap := h₂, toks := tk₂ } ∧ g₁.le g₂ ∧ St b S g0 h0 cenv g₂ m mc (q :: mu) h₂ ∧ J y g₂
theorem ZipEnd.mk {cenv : Env} {s : Shared} {g₁ g₂ : FM} {q : Addr × Obj} {J : Value → FM → Prop} {y : Value} {h₂ : Heap} {tk₂ : Nat}
    (le : g₁.le g₂) (H : St b S g0 h0 cenv g₂ m mc (q :: mu) h₂) (j : J y g₂) : ZipEnd b S g0 h0 cenv m mc s g₁ q mu J y { s with heap := h₂, toks := tk₂ } :=
  ⟨g₂, h₂, tk₂, rfl, le, H, j⟩

/-- what a zip's parts look like, i items in -/
def ZAt (h : Heap) (z TI TO i1 i2 l1 l2 : Addr) (i : Nat) (f0 : Value) : Prop :=
  IsZip h z TI TO f0 ∧ IsPair h TI (.ref i1) (.ref i2) ∧ (∃ a b, IsPair h TO a b) ∧ h.IsListIter i1 l1 i ∧ h.IsListIter i2 l2 i
theorem ZAt.kept {h h' : Heap} {z TI TO i1 i2 l1 l2 : Addr} {i : Nat} {f0 : Value} (x : ZAt h z TI TO i1 i2 l1 l2 i f0) (k : ∀ a ∈ [z, TI, TO, i1, i2], ∀ o, h.get? a = some o → h'.get? a = some o) : ZAt h' z TI TO i1 i2 l1 l2 i f0 := by
  obtain ⟨a1, a2, ⟨u, v, a3⟩, ⟨o4, a4, r4⟩, ⟨o5, a5, r5⟩⟩ := x
  exact ⟨k _ (.head _) _ a1, k _ (.tail _ (.head _)) _ a2, ⟨u, v, k _ (.tail _ (.tail _ (.head _))) _ a3⟩, ⟨o4, k _ (.tail _ (.tail _ (.tail _ (.head _)))) _ a4, r4⟩, ⟨o5, k _ (.tail _ (.tail _ (.tail _ (.tail _ (.head _))))) _ a5, r5⟩⟩
theorem ZAt.live {h : Heap} {z TI TO i1 i2 l1 l2 : Addr} {i : Nat} {f0 : Value} (x : ZAt h z TI TO i1 i2 l1 l2 i f0) : ∀ a ∈ [z, TI, TO, i1, i2], ∃ o, h.get? a = some o := by
  obtain ⟨a1, a2, ⟨u, v, a3⟩, ⟨o4, a4, r4⟩, ⟨o5, a5, r5⟩⟩ := x
  intro a ha
  simp only [List.mem_cons, List.not_mem_nil, or_false] at ha
  rcases ha with rfl | rfl | rfl | rfl | rfl
  · exact ⟨_, a1⟩
  · exact ⟨_, a2⟩
  · exact ⟨_, a3⟩
  · exact ⟨_, a4⟩
  · exact ⟨_, a5⟩

theorem comp_zip {elt iter : Expr} {xa xb : Str} {pa pb pt : Pos} {kt : Nat} {scope : Scope} {cl : List (Str × Addr)} {cn : List Str} {pos : Pos} {z TI TO i1 i2 l1 l2 : Addr} {vs1 vs2 : List Value} {use : Option (Value → Sem Unit)} {Q : Value → Shared → Prop}
    (hh : A.handled = none) (ok : CompZ env scope cl cn xa xb) (H : St b S g0 h0 env g m mc mu hb) (kb : ∀ a o, hb.get? a = some o → s.heap.get? a = some o) (hsz : hb.objs.size ≤ s.heap.objs.size)
    (D : ZipApart z TI TO i1 i2 l1 l2) (za : ZAt s.heap z TI TO i1 i2 l1 l2 0 .none) (fr : ∀ a ∈ [z, TI, TO, i1, i2], hb.get? a = none)
    {o1 o2 : Obj} (g1 : g l1 = some o1) (g2 : g l2 = some o2) (L1 : IsL o1 vs1) (L2 : IsL o2 vs2) (hl : vs1.length = vs2.length) (hn : vs1.length ≤ sizeLine)
    (J : Nat → FM → List Value → Prop) (j0 : J 0 g [])
    (turn : ∀ i v1 v2 C Dl oD mu' g₁ ys h₁ tk E', i < vs1.length → vs1[i]? = some v1 → vs2[i]? = some v2 → g.le g₁ → J i g₁ ys → ys.length = i →
      St b (cl.map (·.2) ++ mu.map (·.1)) g hb (cenvOf scope cl C env) g₁ (up xb v2 (up xa v1 no)) mc ((Dl, oD) :: mu') h₁ →
      wpAny (model prog w) A (eval elt (cenvOf scope cl C env)) (ZipEnd b (cl.map (·.2) ++ mu.map (·.1)) g hb (cenvOf scope cl C env) (up xb v2 (up xa v1 no)) mc s g₁ (Dl, oD) mu' fun y g₂ => J (i + 1) g₂ (ys ++ [y])) E' { s with heap := h₁, toks := tk })
    (fin : ∀ g₁ ys C oC Dl oD mC h₁ tk, g.le g₁ → J vs1.length g₁ ys → ys.length = vs1.length → IsL oD ys → h₁.Ns C mC → h0.get? C = none → h0.get? Dl = none → St b S g0 h0 env g₁ m mc ((C, oC) :: (Dl, oD) :: mu) h₁ →
      compPost (model prog w) A E use Q (.ref Dl) C (.ok .next) { s with heap := h₁, toks := tk }) :
    wpAny (model prog w) A (pyIter (.ref z)) (fun it s₂ => wpAny (model prog w) A (newList []) (fun acc s₃ => wpAny (model prog w) A (newFunctionEnv scope env.globals cl [] env.qual none .none (some env)) (fun cenv s₄ =>
      codeAny (model prog w) A (.compStart (.ListComp elt [⟨.Tuple [.Name xa pa, .Name xb pb] kt pt, iter, [], 0⟩] scope pos) 0 it acc { cenv with scope := relabel scope env }) (compPost (model prog w) A E use Q acc cenv.locals) s₄) E s₃) E s₂) E s := by
  refine wpAny_pyIter_zip za.1 (wpAny_newList ?_)
  simp only [newFunctionEnv, Option.isSome_some, if_true]
  refine wpAny_bind (wpAny_alloc ?_)
  refine wpAny_bind (wpAny_layCells _ (fun name kind cells => by cases kind == NameKind.cell <;> simp) _ _ _ _ ?_)
  refine wpAny_bind ?_
  rw [List.forIn_nil]
  refine wpAny_pure (wpAny_pure ?_)
  dsimp only
  generalize hH3 : s.heap.push { cls := .type "list", data := .seq ([] : List Value).toArray } = H₃
  have sz3 : H₃.objs.size = s.heap.objs.size + 1 := by rw [← hH3, Heap.size_push]
  have h'3 : ∀ a o, s.heap.get? a = some o → H₃.get? a = some o := fun a o e => hH3 ▸ Heap.get?_push_of_some _ e
  have k3 : ∀ a o, hb.get? a = some o → H₃.get? a = some o := fun a o e => h'3 a o (kb a o e)
  have hD3 : H₃.get? s.heap.objs.size = some { cls := .type "list", data := .seq ([] : List Value).toArray } := hH3 ▸ Heap.get?_push_size _ rfl
  have sz4 : (H₃.push { cls := .type "dict", data := .dict #[] }).objs.size = H₃.objs.size + 1 := Heap.size_push ..
  rw [sz4]
  generalize hH4 : pushCells (H₃.push { cls := .type "dict", data := .dict #[] }) scope.names = H₄
  have k4 : ∀ a o, H₃.get? a = some o → H₄.get? a = some o := fun a o e => hH4 ▸ pushCells_keeps _ _ _ _ (Heap.get?_push_of_some _ e)
  have hle : hb.objs.size ≤ H₃.objs.size := by rw [sz3]; exact Nat.le_succ_of_le hsz
  have zlt : ∀ a ∈ [z, TI, TO, i1, i2], @LT.lt Nat _ a s.heap.objs.size := fun a ha => by obtain ⟨o, e⟩ := za.live a ha; exact Heap.lt_size e
  obtain ⟨Hi0, ow⟩ := H.inner (mc' := mc) ok.caught ok.names ok.nd k3 hle hH4.symm (fun q hq => rfl) (fun y hy => absurd rfl (ok.own _ hy))
  have za4 : ZAt H₄ z TI TO i1 i2 l1 l2 0 .none := za.kept fun a _ o e => k4 _ _ (h'3 _ _ e)
  have znd : [z, TI, TO, i1, i2].Nodup := by
    simp only [List.nodup_cons, List.mem_cons, List.not_mem_nil, or_false, not_or, not_false_eq_true, List.nodup_nil, and_true]
    exact ⟨⟨D.TIz.symm, D.TOz.symm, D.i1z.symm, D.i2z.symm⟩, ⟨D.TITO, D.TIi1, D.TIi2⟩, ⟨D.TOi1, D.TOi2⟩, D.i12⟩
  obtain ⟨its0, hits, its4⟩ := its_of (h := H₄) [z, TI, TO, i1, i2] za4.live
  have Hi1 := Hi0.adopts (its := its0) (fun q hq => by
    have hm : q.1 ∈ [z, TI, TO, i1, i2] := hits ▸ List.mem_map_of_mem hq
    refine ⟨its4 q hq, fun n => ?_, H.gfresh (fr _ hm), fr _ hm⟩
    rcases ow _ n with ⟨o, e⟩ | n
    · rw [fr _ hm] at e; cases e
    · have := zlt _ hm
      rw [sz3] at n
      exact absurd (Nat.lt_of_lt_of_le this (Nat.le_of_succ_le n)) (Nat.lt_irrefl _)) (by rw [hits]; exact znd)
  have freshD : hb.get? s.heap.objs.size = none := none_of_ge hsz
  have nD : s.heap.objs.size ∉ owns (cenvOf scope cl H₃.objs.size env) (its0 ++ mu) := fun q => by
    rcases owns_append q with q | q
    · rw [hits] at q; exact Nat.lt_irrefl _ (zlt _ q)
    · rcases ow _ q with ⟨o, e⟩ | q
      · rw [freshD] at e; cases e
      · rw [sz3] at q; exact Nat.not_succ_le_self _ q
  have Hi2 := Hi1.adopt (k4 _ _ hD3) nD (H.gfresh freshD) freshD
  generalize hDD : s.heap.objs.size = Dl at *
  generalize hCC : H₃.objs.size = C at *
  have main : ∀ s₃ : Shared, s₃ = { s with heap := H₄ } → codeAny (model prog w) A (.compLoop (.ListComp elt [⟨.Tuple [.Name xa pa, .Name xb pb] kt pt, iter, [], 0⟩] scope pos) 0 (.ref z) (.ref Dl) (cenvOf scope cl C env)) (compPost (model prog w) A E use Q (.ref Dl) C) s₃ := by
    rintro s₃ rfl
    refine codeAny_compLoop_own (fun k s' => ∃ i g₁ its ys m₁ oD h₁ tk, s' = { s with heap := h₁, toks := tk } ∧ k = vs1.length - i ∧ i ≤ vs1.length ∧ ZAt h₁ z TI TO i1 i2 l1 l2 i .none ∧ g.le g₁ ∧ its.map (·.1) = [z, TI, TO, i1, i2] ∧ J i g₁ ys ∧ ys.length = i ∧ IsL oD ys ∧
      (∀ v1 v2, up xb v2 (up xa v1 m₁) = up xb v2 (up xa v1 no)) ∧
      St b (cl.map (·.2) ++ mu.map (·.1)) g hb (cenvOf scope cl C env) g₁ m₁ mc ((Dl, oD) :: (its ++ mu)) h₁) ?_ vs1.length ?_
    · rintro k s' ⟨i, g₁, its, ys, m₁, oD, h₁, tk, rfl, rfl, hi, w1, le1, ha1, j1, hl1, isl, e1, H1⟩
      have hlist1 : h₁.IsList l1 vs1.toArray := L1.at_ (H1.on _ _ (le1 _ _ g1))
      have hlist2 : h₁.IsList l2 vs2.toArray := L2.at_ (H1.on _ _ (le1 _ _ g2))
      obtain ⟨wz, wTI, ⟨oa, ob, wTO⟩, wi1, wi2⟩ := w1
      have inIts : ∀ x, x ∈ [z, TI, TO, i1, i2] → x ∈ its.map (·.1) := fun x hx => ha1 ▸ hx
      have gD : g₁ Dl = none := (H1.own Dl (owns_mu (p := (Dl, oD)) (.head _))).1
      have gI : ∀ x ∈ [z, TI, TO, i1, i2], g₁ x = none := fun x hx => (H1.own x (.tail _ (List.mem_append_right _ (by rw [List.map_cons, List.map_append]; exact .tail _ (List.mem_append_left _ (inIts x hx)))))).1
      have nDI : Dl ∉ [z, TI, TO, i1, i2] := fun q => by
        have nd := H1.nd
        unfold owns at nd
        rw [List.map_cons, List.map_append] at nd
        exact (List.nodup_cons.mp (List.nodup_append.mp (List.nodup_cons.mp nd).2).2.1).1 (List.mem_append_left _ (inIts _ q))
      by_cases hlt : i < vs1.length
      · obtain ⟨v1, hv1⟩ : ∃ v1, vs1[i]? = some v1 := ⟨_, List.getElem?_eq_getElem hlt⟩
        obtain ⟨v2, hv2⟩ : ∃ v2, vs2[i]? = some v2 := ⟨_, List.getElem?_eq_getElem (hl ▸ hlt)⟩
        refine wpAny_pyNext_zip_item D wz wTI wTO wi1 wi2 hlist1 hlist2 (by simpa using hv1) (by simpa using hv2) fun h₂ z2 TO2 i12 i22 T2 sz2 kp2 => ?_
        have TI2 : IsPair h₂ TI (.ref i1) (.ref i2) := kp2 _ _ D.TIz D.TITO D.TIi1 D.TIi2 wTI
        refine wpAny_letOwnedTupleGo_zip z2 fun h₃ z3 hs3 => ?_
        have w3 : ZAt h₃ z TI TO i1 i2 l1 l2 (i + 1) .none :=
          ⟨z3, hs3.extBut _ _ D.TIz TI2, ⟨_, _, hs3.extBut _ _ D.TOz TO2⟩, (let ⟨o, e, r⟩ := i12; ⟨o, hs3.extBut _ _ D.i1z e, r⟩), (let ⟨o, e, r⟩ := i22; ⟨o, hs3.extBut _ _ D.i2z e, r⟩)⟩
        obtain ⟨its3, hits3, its3m⟩ := its_of (h := h₃) [z, TI, TO, i1, i2] w3.live
        have keep3 : ∀ a o, a ∉ [z, TI, TO, i1, i2] → h₁.get? a = some o → h₃.get? a = some o := fun a o n e => by
          simp only [List.mem_cons, List.not_mem_nil, or_false, not_or] at n
          exact hs3.extBut _ _ n.1 (kp2 a o n.1 n.2.2.1 n.2.2.2.1 n.2.2.2.2 e)
        have H3 : St b (cl.map (·.2) ++ mu.map (·.1)) g hb (cenvOf scope cl C env) g₁ m₁ mc ((Dl, oD) :: (its3 ++ mu)) h₃ := by
          refine H1.callIts (pre := [(Dl, oD)]) (its' := its3) ⟨.refl _, fun _ _ e => .inl e, fun a o n e => keep3 a o (by rw [← ha1]; exact n) e, fun a o e => ?_, fun a o e => keep3 a o (fun q => by rw [gI a q] at e; cases e) (H1.on _ _ e)⟩ (by rw [hits3, ha1]) its3m
          by_cases q : a ∈ [z, TI, TO, i1, i2]
          · exact w3.live a q
          · exact ⟨o, keep3 a o q e⟩
        have hT3 : h₃.get? h₁.objs.size = some { cls := .type "tuple", data := .seq #[v1, v2] } := hs3.extBut _ _ (fun q => by
          have : h₁.get? z = some _ := wz
          have := Heap.lt_size this
          rw [← q] at this; exact Nat.lt_irrefl _ this) T2
        refine wpAny_assign_Tuple hh (items := #[v1, v2]) ⟨_, hT3, rfl, 0, rfl⟩ rfl rfl fun h₄ x4 => ?_
        have H4 : St b (cl.map (·.2) ++ mu.map (·.1)) g hb (cenvOf scope cl C env) g₁ m₁ mc ((Dl, oD) :: (its3 ++ mu)) h₄ := H3.keeps fun a o e => x4 a o (fun q => by rw [q] at e; exact absurd (Heap.lt_size e) (Nat.lt_irrefl _)) e
        have w4 : ZAt h₄ z TI TO i1 i2 l1 l2 (i + 1) .none := w3.kept fun a _ o e => x4 a o (fun q => by rw [q] at e; exact absurd (Heap.lt_size e) (Nat.lt_irrefl _)) e
        refine wpAny_assignInOrder_more (wpAny_assign_Name (st_loc H4 (fun h₅ H5 => ?_) ok.kind ok.ta))
        refine wpAny_assignInOrder_more (wpAny_assign_Name (st_loc H5 (fun h₆ H6 => ?_) ok.kind ok.tb))
        refine wpAny_pure ?_
        rw [e1] at H6
        have w6 : ZAt h₆ z TI TO i1 i2 l1 l2 (i + 1) .none := w4.kept fun a ha o e => by
          have ha : a ∈ its3.map (·.1) := hits3 ▸ ha
          obtain ⟨q, hq, rfl⟩ := List.mem_map.mp ha
          have hm : q ∈ (Dl, oD) :: (its3 ++ mu) := .tail _ (List.mem_append_left _ hq)
          have e4 := H4.mus q hm
          rw [e] at e4; cases e4
          exact H6.mus q hm
        refine wpAny_mono (turn i v1 v2 C Dl oD (its3 ++ mu) g₁ ys h₆ _ _ hlt hv1 hv2 le1 j1 hl1 H6) (fun y s₄ zz => ?_) fun _ _ zz => zz
        obtain ⟨g₂, h₇, tk₇, rfl, le2, H7, j2⟩ := zz
        have w7 : ZAt h₇ z TI TO i1 i2 l1 l2 (i + 1) .none := w6.kept fun a ha o e => by
          have ha : a ∈ its3.map (·.1) := hits3 ▸ ha
          obtain ⟨q, hq, rfl⟩ := List.mem_map.mp ha
          have hm : q ∈ (Dl, oD) :: (its3 ++ mu) := .tail _ (List.mem_append_left _ hq)
          have e4 := H6.mus q hm
          rw [e] at e4; cases e4
          exact H7.mus q hm
        have hDl : h₇.get? Dl = some oD := H7.mus (Dl, oD) (.head _)
        refine wpAny_list_append_plain (isl.plain hDl) (fun h₈ hL8 hs8 => ?_) (by rw [List.size_toArray, hl1]; omega)
        obtain ⟨oD', hD8, isl8⟩ := plain_isl (ys := ys ++ [y]) hL8 (by simp)
        have H8 := H7.upd hD8 hs8.extBut
        exact ⟨vs1.length - (i + 1), Nat.sub_lt_sub_left hlt (Nat.lt_succ_self i), i + 1, g₂, its3, ys ++ [y], _, oD', h₈, tk₇, rfl, rfl, hlt, w7.kept fun a ha o e => hs8.extBut a o (fun q => nDI (q ▸ ha)) e, le1.trans le2, hits3, j2, by rw [List.length_append, hl1]; rfl, isl8, fun v1' v2' => (by
          funext y
          unfold up no
          by_cases q1 : y = xb
          · simp [q1]
          · by_cases q2 : y = xa
            · simp [q2]
            · simp [q1, q2]), H8⟩
      · have hin : i = vs1.length := Nat.le_antisymm hi (Nat.not_lt.mp hlt)
        subst hin
        refine wpAny_pyNext_zip_end hh D wz wTI wTO wi1 wi2 hlist1 hlist2 (.inl (by simp)) fun h₂ kp => ?_
        have H2 : St b (cl.map (·.2) ++ mu.map (·.1)) g hb (cenvOf scope cl C env) g₁ m₁ mc ((Dl, oD) :: mu) h₂ := by
          refine St.dropJunks (its := its) (H1.perm (List.perm_middle (l₁ := its)).symm) (fun q hq => fr _ (ha1 ▸ List.mem_map_of_mem hq)) fun x p n e => ?_
          rw [ha1] at n
          simp only [List.mem_cons, List.not_mem_nil, or_false, not_or] at n
          exact kp x p n.1 n.2.2.1 n.2.2.2.1 n.2.2.2.2 e
        have Ho := H.outer ok.caught H2 (fun q hq => cells_acc _ _ _ _ hq) (fun _ _ => rfl) rfl fun q hq => .tail _ hq
        have CO := (H2.own C owns_L)
        have DO := (H2.own Dl (owns_mu (p := (Dl, oD)) (.head _)))
        obtain ⟨oC, esC, epC, hC2, rC⟩ := H2.ns
        have hC2 : h₂.get? C = some oC := hC2
        have hD2 := H2.mus (Dl, oD) (.head _)
        have freshC : hb.get? C = none := none_of_ge hle
        have Ho1 := Ho.adopt hD2 (H.not_owned freshD) DO.1 (H.h0fresh freshD)
        have hCD : C ≠ Dl := H2.ne_of_mu _ owns_L
        have Ho2 := Ho1.adopt hC2 (fun q => by
          rcases owns_append (its := [(Dl, oD)]) q with q | q
          · exact hCD (List.mem_singleton.mp q)
          · exact H.not_owned freshC q) CO.1 (H.h0fresh freshC)
        exact fin g₁ ys C oC Dl oD m₁ h₂ tk le1 j1 hl1 isl ⟨oC, esC, epC, hC2, rC⟩ (H.h0fresh freshC) (H.h0fresh freshD) Ho2
    · exact ⟨0, g, its0, [], no, _, H₄, s.toks, rfl, rfl, Nat.zero_le _, za4, .refl g, hits, j0, rfl, ⟨rfl, 0, rfl, rfl⟩, fun _ _ => rfl, Hi2⟩
  exact codeAny_compStart_list (main _ rfl) (wpAny_pyIter_zip za4.1 (main _ rfl))

theorem as_lcz {elt iter : Expr} {xa xb y : Str} {pa pb pt py : Pos} {kt : Nat} {scope : Scope} {cl : List (Str × Addr)} {cn : List Str} {pos spos : Pos} {Q : Flow → Shared → Prop} (ok : CompZ env scope cl cn xa xb)
    (h : CompZ env scope cl cn xa xb → wpAny (model prog w) A (eval iter env) (LcGo prog w A E env scope cl (.ListComp elt [⟨.Tuple [.Name xa pa, .Name xb pb] kt pt, iter, [], 0⟩] scope pos) (some (assign (.Name y py) env)) (fun _ => Q .next)) E s)
    (hsw : swapsWith (.ListComp elt [⟨.Tuple [.Name xa pa, .Name xb pb] kt pt, iter, [], 0⟩] scope pos) (some (.Name y py)) spos.line env = pure true := by with_unfolding_all rfl) (hs : ∀ x, foldedSetIterable iter env x = pure x := by intro _; rfl) :
    wpAny (model prog w) A (exec (.Assign [.Name y py] (.ListComp elt [⟨.Tuple [.Name xa pa, .Name xb pb] kt pt, iter, [], 0⟩] scope pos) spos) env) Q E s := by
  rw [exec_Assign_Name_used _ _ _ _ hsw]
  refine wpAny_bind (wpAny_standAt (wpAny_bind ?_))
  show wpAny _ A (do let _ ← comprehension (.ListComp elt [⟨.Tuple [.Name xa pa, .Name xb pb] kt pt, iter, [], 0⟩] scope pos) scope env _ (newList []) false (eval iter env) (some (assign (.Name y py) env))) _ _ s
  exact wpAny_bind (wpAny_mono (wpAny_comprehension_free (use := some (assign (.Name y py) env)) (Q := fun _ s' => Q .next s') rfl hs ok.clos ok.kind ok.loc (h ok)) (fun _ s' hq => wpAny_pure (wpAny_pure hq)) fun _ _ e => e)

/-- zip called on two lists that stand for good, and its block run, stored into a name -/
theorem zip_runA {elt iter : Expr} {xa xb y : Str} {pa pb pt py : Pos} {kt : Nat} {scope : Scope} {cl : List (Str × Addr)} {cn : List Str} {pos : Pos} {l1 l2 : Addr} {vs1 vs2 : List Value} {Q : Value → Shared → Prop}
    (hh : A.handled = none) (ok : CompZ env scope cl cn xa xb) (H : St b S g0 h0 env g m mc mu s.heap)
    {o1 o2 : Obj} (g1 : g l1 = some o1) (g2 : g l2 = some o2) (L1 : IsL o1 vs1) (L2 : IsL o2 vs2) (hl : vs1.length = vs2.length) (hn : vs1.length ≤ sizeLine)
    (J : Nat → FM → List Value → Prop) (j0 : J 0 g [])
    (turn : ∀ s' i v1 v2 C Dl oD mu' g₁ ys h₁ tk E', i < vs1.length → vs1[i]? = some v1 → vs2[i]? = some v2 → g.le g₁ → J i g₁ ys → ys.length = i →
      St b (cl.map (·.2) ++ mu.map (·.1)) g s.heap (cenvOf scope cl C env) g₁ (up xb v2 (up xa v1 no)) mc ((Dl, oD) :: mu') h₁ →
      wpAny (model prog w) A (eval elt (cenvOf scope cl C env)) (ZipEnd b (cl.map (·.2) ++ mu.map (·.1)) g s.heap (cenvOf scope cl C env) (up xb v2 (up xa v1 no)) mc s' g₁ (Dl, oD) mu' fun y g₂ => J (i + 1) g₂ (ys ++ [y])) E' { s' with heap := h₁, toks := tk })
    (done : ∀ g₁ ys D oD h₁ tk, g.le g₁ → J vs1.length g₁ ys → ys.length = vs1.length → IsL oD ys → h0.get? D = none → St b S g0 h0 env g₁ (up y (.ref D) m) mc ((D, oD) :: mu) h₁ → Q .none { s with heap := h₁, toks := tk })
    (hk : env.scope.kind = .function := by with_unfolding_all rfl) (hl' : env.kindOf y = some .local := by with_unfolding_all rfl) :
    wpAny (model prog w) A (call (.type "zip") [.ref l1, .ref l2]) (LcGo prog w A E env scope cl (.ListComp elt [⟨.Tuple [.Name xa pa, .Name xb pb] kt pt, iter, [], 0⟩] scope pos) (some (assign (.Name y py) env)) Q) E s := by
  have b1 : @LT.lt Nat _ l1 s.heap.objs.size := Heap.lt_size (H.on _ _ g1)
  have b2 : @LT.lt Nat _ l2 s.heap.objs.size := Heap.lt_size (H.on _ _ g2)
  refine call_zip_2 (L1.at_ (H.on _ _ g1)) (L2.at_ (H.on _ _ g2)) fun h' az aTI aTO ai1 ai2 sz kp => ?_
  refine comp_zip (s := { s with heap := h' }) hh ok H kp (by show s.heap.objs.size ≤ h'.objs.size; rw [sz]; exact Nat.le_add_right _ _) (zipApart_new b1 b2) ⟨az, aTI, ⟨_, _, aTO⟩, ai1, ai2⟩ (fun a ha => ?_) g1 g2 L1 L2 hl hn J j0 (turn _) ?_
  · simp only [List.mem_cons, List.not_mem_nil, or_false] at ha
    rcases ha with rfl | rfl | rfl | rfl | rfl <;> exact none_of_ge (by first | exact Nat.le_refl _ | exact Nat.le_add_right _ _)
  · intro g₁ ys C oC Dl oD mC h₁ tk le j hl'' isl nsC fC fD H1
    obtain ⟨oC', es, ep, hC, rC⟩ := nsC
    have hC0 : h₁.get? C = some oC := H1.mus (C, oC) (.head _)
    rw [hC0] at hC; cases hC
    refine wpAny_assign_Name (st_loc (s := { s with heap := h₁, toks := tk }) H1 (fun h₂ H2 => ?_) hk hl')
    exact ⟨mC, ⟨oC, es, ep, H2.mus (C, oC) (.head _), rC⟩, fun h' hs => done g₁ ys Dl oD h' (tk + 1) le j hl'' isl fD (H2.dropJunk fC fun a o na e => hs.extBut a o na e)⟩
end
end Mine
namespace Mine

/-- an object made and filled: nothing of the old is turned -/
theorem Ev.made {g g2 : FM} {h h1 h2 : Heap} {x dx : Addr} {o od od2 : Obj} (on : g.on h) (fx : h.get? x = none) (fd : h.get? dx = none) (ne : x ≠ dx) (k1 : ∀ a p, h.get? a = some p → h1.get? a = some p)
    (hd1 : h1.get? dx = some od) (e : Ev [dx] (g.put x o) h1 g2 h2) (hd : h2.get? dx = some od2) : Ev [] g h (g2.put dx od2) h2 ∧ g2.le (g2.put dx od2) := by
  have gx : g x = none := by
    cases q : g x with
    | none => rfl
    | some o' => rw [on _ _ q] at fx; cases fx
  have gd : g dx = none := by
    cases q : g dx with
    | none => rfl
    | some o' => rw [on _ _ q] at fd; cases fd
  have g2d : g2 dx = none := by
    cases q : g2 dx with
    | none => rfl
    | some o' =>
      rcases e.new _ _ q with q | q
      · unfold FM.put at q; rw [if_neg ne.symm, gd] at q; cases q
      · rw [hd1] at q; cases q
  have le := FM.put_le (o := od2) g2d
  refine ⟨⟨((FM.put_le gx).trans e.gg).trans le, fun a p q => ?_, fun a p _ q => e.keep a p (fun r => by rw [List.mem_singleton.mp r] at q; rw [fd] at q; cases q) (k1 a p q), fun a p q => ⟨p, e.keep a p (fun r => by rw [List.mem_singleton.mp r] at q; rw [fd] at q; cases q) (k1 a p q)⟩, fun a p q => ?_⟩, le⟩
  · unfold FM.put at q
    by_cases r : a = dx
    · subst r; exact .inr fd
    · rw [if_neg r] at q
      rcases e.new a p q with q | q
      · unfold FM.put at q
        by_cases r' : a = x
        · subst r'; exact .inr fx
        · rw [if_neg r'] at q; exact .inl q
      · refine .inr ?_
        cases z : h.get? a with
        | none => rfl
        | some o' => rw [k1 _ _ z] at q; cases q
  · unfold FM.put at q
    by_cases r : a = dx
    · subst r; rw [if_pos rfl] at q; exact hd.trans q
    · rw [if_neg r] at q; exact e.on a p q

theorem Bg.put {b : Heap} {g : FM} {h h1 : Heap} {x : Addr} {o : Obj} (B : Bg b g h) (fx : h.get? x = none) (hx : h1.get? x = some o) (k1 : ∀ a p, h.get? a = some p → h1.get? a = some p) (sz : h.objs.size ≤ h1.objs.size) : Bg b (g.put x o) h1 := by
  have gx : g x = none := by
    cases q : g x with
    | none => rfl
    | some o' => rw [B.on _ _ q] at fx; cases fx
  refine ⟨fun a p e => FM.put_le gx _ _ (B.bg a p e), Nat.le_trans B.lo sz, fun a p q => ?_⟩
  unfold FM.put at q
  by_cases r : a = x
  · subst r; rw [if_pos rfl] at q; exact hx.trans q
  · rw [if_neg r] at q; exact k1 _ _ (B.on _ _ q)

section
variable {M : Model} {prog : Program} {w : World} {env : Env} {A : Around} {s : Shared} {E : Value → Shared → Prop}
theorem x_assignAttr {o attr pos' value pos} {Q : Flow → Shared → Prop}
    (h : wpAny M A (eval value env) (fun v s₁ => wpAny M A (eval o env) (fun ov s₂ => wpAny M A (setAttr ov attr v) (fun _ => Q .next) E s₂) E s₁) E s)
    (hs : swapsWith value (some (.Attribute o attr pos')) pos.line env = pure false := by with_unfolding_all rfl) : wpAny M A (exec (.Assign [.Attribute o attr pos'] value pos) env) Q E s := plainObj_wpAny_Assign_Attribute h hs
theorem x_assignTup {elts k tpos value pos} {Q : Flow → Shared → Prop}
    (h : wpAny M A (eval value env) (fun v s₁ => wpAny M A (assign (.Tuple elts k tpos) env v) (fun _ => Q .next) E s₁) E s)
    (hs : swapsWithSole [.Tuple elts k tpos] value pos.line env = pure false := by with_unfolding_all rfl)
    (hw : swappedStores [.Tuple elts k tpos] value env = pure none := by with_unfolding_all rfl) :
    wpAny M A (exec (.Assign [.Tuple elts k tpos] value pos) env) Q E s := Assign_Tuple h hs hw
theorem x_isTrue {e : Expr} {whole : Sem Value} {Q : Bool → Shared → Prop} (h : wpAny M A whole (fun v s₁ => wpAny M A (truthy v) Q E s₁) E s)
    (he : isTrue e env whole = (do let v ← whole; standAt e.pos; holding [v] (truthy v)) := by with_unfolding_all rfl) : wpAny M A (isTrue e env whole) Q E s := wpAny_isTrue_value h he
theorem if_t {P P' : Prop} (h : P) : (if true = true then P else P') := by rw [if_pos rfl]; exact h
theorem if_f {P P' : Prop} (h : P') : (if false = true then P else P') := by rw [if_neg Bool.false_ne_true]; exact h
theorem if_nt {P P' : Prop} (h : P') : (if (!true) = true then P else P') := by rw [if_neg (by decide)]; exact h
theorem if_nf {P P' : Prop} (h : P) : (if (!false) = true then P else P') := h
theorem if_d {P P' : Prop} {c : Prop} [Decidable c] (h1 : c → P) (h2 : ¬ c → P') : (if decide c = true then P else P') := by
  split
  · exact h1 (of_decide_eq_true (by assumption))
  · exact h2 (fun z => by simp_all)
theorem x_list {elts : List Expr} {pos : Pos} {Q : Value → Shared → Prop}
    (h : wpAny M A (spliced (backTo pos (starEach elts env))) (fun vs s₁ => vs.length ≤ sizeLine ∧ ∀ a h', a = s₁.heap.objs.size → h' = s₁.heap.push (lst vs) → Q (.ref a) { s₁ with heap := h' }) E s) : wpAny M A (eval (.List elts pos) env) Q E s :=
  wpAny_List (wpAny_mono h (fun vs s₁ z => ⟨z.1, z.2 _ _ rfl rfl⟩) fun _ _ z => z)
theorem x_tuple {elts : List Expr} {k : Nat} {pos : Pos} {Q : Value → Shared → Prop}
    (h : wpAny M A (spliced (backTo pos (starEach elts env))) (fun vs s₁ => vs.length ≤ sizeLine ∧ ∀ a h', a = s₁.heap.objs.size → h' = s₁.heap.push { cls := .type "tuple", data := .seq vs.toArray } → Q (.ref a) { s₁ with heap := h' }) E s) : wpAny M A (eval (.Tuple elts k pos) env) Q E s :=
  wpAny_Tuple (wpAny_mono h (fun vs s₁ z => ⟨z.1, z.2 _ _ rfl rfl⟩) fun _ _ z => z)
theorem x_for {target iter body orelse pos} {Q : Flow → Shared → Prop}
    (h : wpAny M A (eval iter env) (fun x s₁ => wpAny M A (pyIter x) (fun it s₂ =>
      codeAny M A (.forLoop target it body orelse env) (fun r s' => match r with | .ok f => Q f s' | .error e => cameBackBy M A env E e s') s₂) E s₁) E s)
    (hs : ∀ x, foldedSetIterable iter env x = pure x := by intro _; with_unfolding_all rfl) :
    wpAny M A (exec (.For target iter body orelse pos) env) Q E s := wpAny_For h hs
theorem x_augSub {o i value : Expr} {tpos pos : Pos} {op : Operator} {Q : Flow → Shared → Prop}
    (h : wpAny M A (eval o env) (fun ov s₁ => wpAny M A (eval i env) (fun iv s₂ => wpAny M A (getItem ov iv) (fun old s₃ =>
          wpAny M A (eval value env) (fun v s₄ => wpAny M A (inplaceOp op old v) (fun new s₅ =>
            wpAny M A (setItem ov iv new) (fun _ => Q .next) E s₅) E s₄) E s₃) E s₂) E s₁) E s)
    (hi : ∀ ov iv new, augStore i ov iv new = (do holding [new, ov, iv] (setItem ov iv new); release [new, ov, iv] []; pure .next) := by intros; with_unfolding_all rfl) :
    wpAny M A (exec (.AugAssign (.Subscript o i tpos) op value pos) env) Q E s := wpAny_AugAssign_SubscriptAny h hi
theorem x_order {t : Value → Sem Unit} {ts : List (Value → Sem Unit)} {x : Value} {xs : List Value} {Q : Unit → Shared → Prop}
    (h : wpAny M A (t x) (fun _ s₁ => wpAny M A (assignInOrder ts xs) Q E s₁) E s) : wpAny M A (assignInOrder (t :: ts) (x :: xs)) Q E s := wpAny_assignInOrder_more h
theorem x_order0 {Q : Unit → Shared → Prop} (h : Q () s) : wpAny M A (assignInOrder [] []) Q E s := wpAny_pure h
end
section
variable {prog : Program} {w : World} {b : Heap} {S : List Addr} {g0 : FM} {h0 : Heap} {env : Env} {g : FM} {m mc : Str → Option Value} {mu : List (Addr × Obj)} {A : Around} {s : Shared} {E : Value → Shared → Prop}
theorem St.mkL {vs : List Value} {a : Addr} {h h' : Heap} (H : St b S g0 h0 env g m mc mu h) (ea : a = h.objs.size) (eh : h' = h.push (lst vs)) : h0.get? a = none ∧ St b S g0 h0 env g m mc ((a, lst vs) :: mu) h' := by
  subst ea; subst eh
  have f := none_of_ge (h := h) (Nat.le_refl _)
  exact ⟨H.h0fresh f, H.alloc f (Heap.get?_push_size _ rfl) fun _ _ e => Heap.get?_push_of_some _ e⟩
theorem St.mkT {vs : List Value} {a : Addr} {h h' : Heap} (H : St b S g0 h0 env g m mc mu h) (ea : a = h.objs.size) (eh : h' = h.push { cls := .type "tuple", data := .seq vs.toArray }) :
    ∃ g', g.le g' ∧ IsTup h' a vs.toArray ∧ (∃ o, g' a = some o ∧ o.cls = .type "tuple" ∧ ∃ k, o.data = .seq vs.toArray k) ∧ St b S g0 h0 env g' m mc mu h' := by
  subst ea; subst eh
  have f := none_of_ge (h := h) (Nat.le_refl _)
  have e := Heap.get?_push_size h (o := { cls := .type "tuple", data := .seq vs.toArray }) rfl
  have K := H.allocG f e fun _ _ e => Heap.get?_push_of_some _ e
  exact ⟨_, K.2, ⟨_, e, rfl, 0, rfl⟩, ⟨_, FM.put_self .., rfl, 0, rfl⟩, K.1⟩
theorem tup_assign {elts : List Expr} {x1} {pos : Pos} {t : Addr} {items : Array Value} {Q : Unit → Shared → Prop} (hh : A.handled = none) (H : St b S g0 h0 env g m mc mu s.heap) (ht : IsTup s.heap t items)
    (h : ∀ h', St b S g0 h0 env g m mc mu h' → wpAny (model prog w) A (assignInOrder ((assignEach elts env).map (·.2)) items.toList) Q E { s with heap := h' })
    (hn : (assignEach elts env).length = items.size := by with_unfolding_all rfl) (hstar : (assignEach elts env).findIdx? (·.1) = none := by with_unfolding_all rfl) :
    wpAny (model prog w) A (assign (.Tuple elts x1 pos) env (.ref t)) Q E s :=
  wpAny_assign_Tuple hh ht hn hstar fun h' x => h h' (H.keeps fun a o e => x a o (fun q => by rw [q] at e; exact absurd (Heap.lt_size e) (Nat.lt_irrefl _)) e)
theorem imul_ok {a c : Int} {t u : Tok} {Q : Value → Shared → Prop} (hm : IntMulOk a c) (h : Q (.int (a * c) s.toks) { s with toks := s.toks + 1 }) : wpAny (model prog w) A (binaryOp .Mult (.int a t) (.int c u)) Q E s :=
  PyProof.Rows.mul_int h hm
theorem get_mu {l : Addr} {o : Obj} {vs : List Value} {k : Int} {t : Tok} {v : Value} {Q : Value → Shared → Prop} (H : St b S g0 h0 env g m mc mu s.heap) (hm : (l, o) ∈ mu) (isl : IsL o vs) (h0 : 0 ≤ k) (hk : k < 2 ^ 63) (hx : vs[k.toNat]? = some v) (h : Q v s) :
    wpAny (model prog w) A (getItem (.ref l) (.int k t)) Q E s := wpAny_getItem_list (isl.at_ (H.mus _ hm)) h0 hk (by simpa using hx) h
/-- a list of ints that stands for good, read at a place -/
theorem sub_il {value slice : Expr} {l : Addr} {ns : List Int} {k : Int} {t : Tok} {x : Int} {Q : Value → Shared → Prop} (H : St b S g0 h0 env g m mc mu s.heap) (I : IntL g l ns) (h0 : 0 ≤ k) (hk : k < 2 ^ 63) (hx : ns[k.toNat]? = some x) (h : ∀ u, Q (.int x u) s)
    (hs : subscripted slice false (.ref l) (.int k t) = operate [.ref l, .int k t] (getItem (.ref l) (.int k t)) := by with_unfolding_all rfl) :
    wpAny (model prog w) A (subscriptTail value slice (.ref l) (.int k t)) Q E s := by
  obtain ⟨vs, hl, hi⟩ := (I.mono H.on).list (.refl _)
  obtain ⟨u, hu⟩ := hi.get k.toNat x hx
  exact sub_list hl h0 hk hu (h u) hs
theorem len_il {l : Addr} {ns : List Int} {Q : Value → Shared → Prop} (H : St b S g0 h0 env g m mc mu s.heap) (I : IntL g l ns) (hsz : ns.length ≤ 16777216) (h : Q (.int ns.length (s.toks + 1)) { s with toks := s.toks + 1 + 1 }) :
    wpAny (model prog w) A (call (.builtin "len") [.ref l]) Q E s := by
  obtain ⟨vs, hl, hi⟩ := (I.mono H.on).list (.refl _)
  have := hi.length
  exact len_list hl (by omega) (by rw [this]; exact h)
end
end Mine
namespace Mine
/-- a finite sum -/
def sm : Nat → (Nat → Int) → Int
  | 0, _ => 0
  | n + 1, f => sm n f + f n
theorem sm_succ (n : Nat) (f : Nat → Int) : sm (n + 1) f = sm n f + f n := rfl
theorem sm_congr {n : Nat} {f g : Nat → Int} (h : ∀ i, i < n → f i = g i) : sm n f = sm n g := by
  induction n with
  | zero => rfl
  | succ n ih => rw [sm_succ, sm_succ, ih fun i hi => h i (Nat.lt_succ_of_lt hi), h n (Nat.lt_succ_self n)]
theorem sm_zero (n : Nat) : sm n (fun _ => 0) = 0 := by
  induction n with
  | zero => rfl
  | succ n ih => rw [sm_succ, ih]; rfl
theorem sm_zero' {n : Nat} {f : Nat → Int} (h : ∀ i, i < n → f i = 0) : sm n f = 0 := by rw [sm_congr h, sm_zero]
theorem sm_add (n : Nat) (f g : Nat → Int) : sm n (fun i => f i + g i) = sm n f + sm n g := by
  induction n with
  | zero => rfl
  | succ n ih => rw [sm_succ, sm_succ, sm_succ, ih]; omega
theorem sm_sub (n : Nat) (f g : Nat → Int) : sm n (fun i => f i - g i) = sm n f - sm n g := by
  induction n with
  | zero => rfl
  | succ n ih => rw [sm_succ, sm_succ, sm_succ, ih]; omega
theorem sm_mul (n : Nat) (c : Int) (f : Nat → Int) : sm n (fun i => c * f i) = c * sm n f := by
  induction n with
  | zero => exact (Int.mul_zero _).symm
  | succ n ih => rw [sm_succ, sm_succ, ih, Int.mul_add]
theorem sm_mul_r (n : Nat) (c : Int) (f : Nat → Int) : sm n (fun i => f i * c) = sm n f * c := by
  rw [Int.mul_comm, ← sm_mul]; exact sm_congr fun i _ => Int.mul_comm ..
theorem sm_swap (n k : Nat) (f : Nat → Nat → Int) : sm n (fun i => sm k (fun j => f i j)) = sm k (fun j => sm n (fun i => f i j)) := by
  induction n with
  | zero => exact (sm_zero k).symm
  | succ n ih => rw [sm_succ, ih, ← sm_add]; rfl
theorem sm_one {n : Nat} {p : Nat} (F : Nat → Int) (h : p < n) : sm n (fun k => if p = k then F k else 0) = F p := by
  induction n with
  | zero => omega
  | succ n ih =>
    rw [sm_succ]
    by_cases q : p = n
    · rw [if_pos q, sm_zero' fun i hi => if_neg (by omega), q]; omega
    · rw [if_neg q, ih (by omega)]; omega
/-- X^i X^j at the place k, X^n being -1 -/
def cf (n i j k : Nat) : Int := if i + j = k then 1 else if i + j = k + n then -1 else 0
/-- the product of two rows, X^n being -1 -/
def nc (n : Nat) (a b : Nat → Int) (k : Nat) : Int := sm n fun i => sm n fun j => cf n i j k * (a i * b j)

theorem cf_sum {n i j : Nat} (F : Nat → Int) (hi : i < n) (hj : j < n) : sm n (fun k => cf n i j k * F k) = if i + j < n then F (i + j) else - F (i + j - n) := by
  by_cases h : i + j < n
  · rw [if_pos h, ← sm_one F h]
    refine sm_congr fun k hk => ?_
    unfold cf
    by_cases q : i + j = k
    · rw [if_pos q, if_pos q]; omega
    · rw [if_neg q, if_neg q, if_neg (by omega)]; omega
  · rw [if_neg h]
    have e : sm n (fun k => cf n i j k * F k) = sm n fun k => -1 * (if i + j - n = k then F k else 0) := by
      refine sm_congr fun k hk => ?_
      unfold cf
      by_cases q : i + j - n = k
      · rw [if_neg (by omega), if_pos (by omega), if_pos q]
      · rw [if_neg (by omega), if_neg (by omega), if_neg q]; omega
    rw [e, sm_mul, sm_one F (by omega)]; omega

-- modulo q
theorem sm_mod {n : Nat} {q : Int} {f g : Nat → Int} (h : ∀ i, i < n → f i % q = g i % q) : sm n f % q = sm n g % q := by
  induction n with
  | zero => rfl
  | succ n ih =>
    rw [sm_succ, sm_succ, Int.add_emod, ih fun i hi => h i (Nat.lt_succ_of_lt hi), h n (Nat.lt_succ_self n), ← Int.add_emod]
-- rows
def lf (n : Nat) (f : Nat → Int) : List Int := (List.range n).map f
theorem lf_length (n : Nat) (f : Nat → Int) : (lf n f).length = n := by unfold lf; simp
theorem lf_get {n i : Nat} (f : Nat → Int) (h : i < n) : (lf n f)[i]? = some (f i) := by unfold lf; simp [h]
theorem lf_none {n i : Nat} (f : Nat → Int) (h : n ≤ i) : (lf n f)[i]? = none := by unfold lf; simp [h]
theorem lf_ext {n : Nat} {f g : Nat → Int} (h : ∀ i, i < n → f i = g i) : lf n f = lf n g := by
  unfold lf; exact List.map_congr_left fun i hi => h i (List.mem_range.mp hi)
theorem lf_set (n i : Nat) (f : Nat → Int) (x : Int) : (lf n f).set i x = lf n fun k => if i = k then x else f k := by
  refine List.ext_getElem? fun k => ?_
  by_cases q : k < n
  · rw [lf_get _ q, List.getElem?_set]
    by_cases r : i = k
    · rw [if_pos r, if_pos r, if_pos (by rw [lf_length]; omega)]
    · rw [if_neg r, if_neg r, lf_get _ q]
  · rw [lf_none _ (by omega)]; exact List.getElem?_eq_none (by rw [List.length_set, lf_length]; omega)
theorem lf_succ (n : Nat) (f : Nat → Int) : lf (n + 1) f = lf n f ++ [f n] := by unfold lf; rw [List.range_succ, List.map_append]; rfl
end Mine
namespace Mine
theorem sm_split (m k : Nat) (f : Nat → Int) : sm (m + k) f = sm m f + sm k fun u => f (m + u) := by
  induction k with
  | zero => show sm m f = sm m f + 0; omega
  | succ k ih => rw [← Nat.add_assoc, sm_succ, sm_succ, ih]; omega
theorem sm_trunc {m n : Nat} {f : Nat → Int} (h : m ≤ n) (z : ∀ j, m ≤ j → j < n → f j = 0) : sm n f = sm m f := by
  obtain ⟨k, rfl⟩ := Nat.exists_eq_add_of_le h
  rw [sm_split, sm_zero' (n := k) fun i hi => z _ (Nat.le_add_right _ _) (by omega)]; omega

/-- the two runs of the schoolbook product, i rows in, j places in -/
def sA (n : Nat) (a b : Nat → Int) (i k : Nat) : Int := sm i fun i' => sm (n - i') fun j => if i' + j = k then a i' * b j else 0
def sB (n : Nat) (a b : Nat → Int) (t k : Nat) : Int := sm t fun t' => sm (t' + 1) fun u => if u = k then a (n - (1 + t') + u) * b (1 + t') else 0

theorem school_eq {n k : Nat} (a b : Nat → Int) (hk : k < n) : sA n a b n k - sB n a b (n - 1) k = nc n a b k := by
  have e : nc n a b k = (sm n fun i => sm n fun j => if i + j = k then a i * b j else 0) - (sm n fun j => sm n fun i => if i + j = k + n then a i * b j else 0) := by
    rw [sm_swap n n fun j i => if i + j = k + n then a i * b j else 0, ← sm_sub]
    refine sm_congr fun i hi => ?_
    rw [← sm_sub]
    refine sm_congr fun j hj => ?_
    unfold cf
    by_cases q : i + j = k
    · rw [if_pos q, if_pos q, if_neg (by omega)]; omega
    · rw [if_neg q, if_neg q]
      by_cases q' : i + j = k + n
      · rw [if_pos q', if_pos q']; omega
      · rw [if_neg q', if_neg q']; omega
  rw [e]
  have e1 : sA n a b n k = sm n fun i => sm n fun j => if i + j = k then a i * b j else 0 :=
    sm_congr fun i hi => (sm_trunc (Nat.sub_le _ _) fun j hj hj' => if_neg fun (z : i + j = k) => Nat.lt_irrefl k (Nat.lt_of_lt_of_le hk (z ▸ Nat.sub_le_iff_le_add'.mp hj))).symm
  have e2 : sB n a b (n - 1) k = sm n fun j => sm n fun i => if i + j = k + n then a i * b j else 0 := by
    obtain ⟨r, rfl⟩ : ∃ r, n = 1 + r := ⟨n - 1, (Nat.add_sub_of_le (Nat.succ_le_of_lt (Nat.lt_of_le_of_lt (Nat.zero_le k) hk))).symm⟩
    rw [sm_split 1 r]
    have z : (sm 1 fun j => sm (1 + r) fun i => if i + j = k + (1 + r) then a i * b j else 0) = 0 := by
      refine sm_zero' fun j hj => sm_zero' fun i hi => if_neg ?_
      obtain rfl : j = 0 := Nat.lt_one_iff.mp hj
      exact Nat.ne_of_lt (Nat.lt_of_lt_of_le hi (Nat.le_add_left (1 + r) k))
    rw [z, Nat.add_sub_cancel_left]
    unfold sB
    rw [Int.zero_add]
    refine sm_congr fun t ht => ?_
    have sp := sm_split (1 + r - (1 + t)) (t + 1) (fun i => if i + (1 + t) = k + (1 + r) then a i * b (1 + t) else 0)
    have hM : 1 + r - (1 + t) + (1 + t) = 1 + r := Nat.sub_add_cancel (Nat.add_le_add_left (Nat.le_of_lt ht) 1)
    rw [Nat.add_comm t 1, hM] at sp
    rw [Nat.add_comm t 1, sp, sm_zero' (n := 1 + r - (1 + t)) fun i hi => if_neg (Nat.ne_of_lt (Nat.lt_of_lt_of_le (Nat.add_lt_of_lt_sub hi) (Nat.le_add_left (1 + r) k))), Int.zero_add]
    refine sm_congr fun u hu => ?_
    have key : 1 + r - (1 + t) + u + (1 + t) = u + (1 + r) := (Nat.add_right_comm _ u (1 + t)).trans (by rw [hM]; exact Nat.add_comm _ _)
    by_cases q : u = k
    · rw [if_pos q, if_pos (key.trans (by rw [q]))]
    · rw [if_neg q, if_neg fun z => q (Nat.add_right_cancel (key.symm.trans z))]
  rw [e1, e2]

end Mine
namespace Mine
end Mine
namespace Mine
theorem ints_ext {ys : List Value} {n : Nat} {f f' : Nat → Int} (h : IntsAre ys (lf n f)) (e : ∀ k, k < n → f k = f' k) : IntsAre ys (lf n f') := lf_ext e ▸ h
theorem ints_push {ys : List Value} {n : Nat} {f : Nat → Int} {x : Int} {t : Tok} (h : IntsAre ys (lf n f)) (e : x = f n) : IntsAre (ys ++ [.int x t]) (lf (n + 1) f) := by
  rw [lf_succ, ← e]; exact h.append (.cons _ _ .nil)
theorem ints_put {ys : List Value} {n i : Nat} {f f' : Nat → Int} {x : Int} {t : Tok} (h : IntsAre ys (lf n f)) (e : ∀ k, k < n → (if i = k then x else f k) = f' k) : IntsAre (ys.set i (.int x t)) (lf n f') := by
  have := ints_set h i x t
  rw [lf_set] at this
  exact ints_ext this e
theorem ints_at {ys : List Value} {n i : Nat} {f : Nat → Int} (h : IntsAre ys (lf n f)) (hi : i < n) : ∃ t, ys[i]? = some (.int (f i) t) := h.get i (f i) (lf_get f hi)
theorem ints_len {ys : List Value} {n : Nat} {f : Nat → Int} (h : IntsAre ys (lf n f)) : ys.length = n := by rw [h.length, lf_length]
section
variable {prog : Program} {w : World} {b : Heap} {S : List Addr} {g0 : FM} {h0 : Heap} {env : Env} {g : FM} {m mc : Str → Option Value} {mu pre post : List (Addr × Obj)} {A : Around} {s : Shared} {E : Value → Shared → Prop}
/-- a row that is turned, read at a place; and written -/
theorem row_get {l : Addr} {o : Obj} {ys : List Value} {n i : Nat} {f : Nat → Int} {k : Int} {t : Tok} {Q : Value → Shared → Prop} (H : St b S g0 h0 env g m mc mu s.heap) (hm : (l, o) ∈ mu) (isl : IsL o ys) (hf : IntsAre ys (lf n f)) (hk : k = i) (hi : i < n) (hn : n ≤ 1000) (h : ∀ u, Q (.int (f i) u) s) :
    wpAny (model prog w) A (getItem (.ref l) (.int k t)) Q E s := by
  obtain ⟨u, hu⟩ := ints_at hf hi
  subst hk
  exact get_mu H hm isl (by omega) (by omega) hu (h u)
theorem row_sub {value slice : Expr} {l : Addr} {o : Obj} {ys : List Value} {n i : Nat} {f : Nat → Int} {k : Int} {t : Tok} {Q : Value → Shared → Prop} (H : St b S g0 h0 env g m mc mu s.heap) (hm : (l, o) ∈ mu) (isl : IsL o ys) (hf : IntsAre ys (lf n f)) (hk : k = i) (hi : i < n) (hn : n ≤ 1000) (h : ∀ u, Q (.int (f i) u) s)
    (hs : subscripted slice false (.ref l) (.int k t) = operate [.ref l, .int k t] (getItem (.ref l) (.int k t)) := by with_unfolding_all rfl) :
    wpAny (model prog w) A (subscriptTail value slice (.ref l) (.int k t)) Q E s := by
  obtain ⟨u, hu⟩ := ints_at hf hi
  subst hk
  exact sub_mu H hm isl (by omega) (by omega) hu (h u) hs
theorem row_set {a : Addr} {o : Obj} {ys : List Value} {n i : Nat} {f : Nat → Int} {k x : Int} {t u : Tok} {Q : Unit → Shared → Prop} (H : St b S g0 h0 env g m mc (pre ++ (a, o) :: post) s.heap) (isl : IsL o ys) (hf : IntsAre ys (lf n f)) (hk : k = i) (hi : i < n) (hn : n ≤ 1000)
    (h : ∀ h' o' ys', IsL o' ys' → (∀ f' : Nat → Int, (∀ k, k < n → (if i = k then x else f k) = f' k) → IntsAre ys' (lf n f')) → St b S g0 h0 env g m mc (pre ++ (a, o') :: post) h' → Q () { s with heap := h' }) : wpAny (model prog w) A (setItem (.ref a) (.int k t) (.int x u)) Q E s := by
  have hl := ints_len hf
  subst hk
  refine set_list H isl (by omega) (by omega) (by omega) fun h' o' isl' H' => ?_
  exact h h' o' _ isl' (fun f' e => by
    have := ints_put (i := i) (x := x) (t := u) hf e
    rwa [show ((i : Int)).toNat = i by omega]) H'
/-- a row that stands for good, read at a place -/
theorem row_il {value slice : Expr} {l : Addr} {n i : Nat} {f : Nat → Int} {k : Int} {t : Tok} {Q : Value → Shared → Prop} (H : St b S g0 h0 env g m mc mu s.heap) (I : IntL g l (lf n f)) (hk : k = i) (hi : i < n) (hn : n ≤ 1000) (h : ∀ u, Q (.int (f i) u) s)
    (hs : subscripted slice false (.ref l) (.int k t) = operate [.ref l, .int k t] (getItem (.ref l) (.int k t)) := by with_unfolding_all rfl) :
    wpAny (model prog w) A (subscriptTail value slice (.ref l) (.int k t)) Q E s := by
  subst hk
  exact sub_il H I (by omega) (by omega) (by rw [show ((i : Int)).toNat = i by omega]; exact lf_get f hi) h hs
theorem x_fn0 {K : Frag} {p : Program} {loose : List Str} {mean : ExcName → Option Value} {mg mb : Str → Option Value} {f : Value} {first : List Value} {pos : Pos} {Q : Value → Shared → Prop}
    (W : Wd K p loose mean mg mb b) (H : St b S g0 h0 env g m mc mu s.heap) (hk : keepIn K f = true) (h : wpAny (model prog w) A (call f (first ++ [])) Q E s) :
    wpAny (model prog w) A (callWith pos f first (backTo pos (starEach [] env)) []) Q E s := callWith_K0 (H.X W) hk h
theorem ne_il {l l' : Addr} {ns ms : List Int} {Q : Value → Shared → Prop} {n : Nat} (H : St b S g0 h0 env g m mc mu s.heap) (hA : Ao n A) (I : IntL g l ns) (J : IntL g l' ms) (h : Q (.bool (!decide (ns = ms))) s) : wpAny (model prog w) A (compareOp .NotEq (.ref l) (.ref l')) Q E s := by
  obtain ⟨vs, hl, hi⟩ := (I.mono H.on).list (.refl _)
  obtain ⟨us, hl', hi'⟩ := (J.mono H.on).list (.refl _)
  exact ne_intsK hl hi hl' hi' (by have := hA.un; unfold cLine; omega) h
/-- list(row), of a row that stands for good -/
theorem copy_il {l : Addr} {ns : List Int} {Q : Value → Shared → Prop} (H : St b S g0 h0 env g m mc mu s.heap) (I : IntL g l ns) (hz : ns.length ≤ 1000000)
    (h : ∀ l' g' h', g.le g' → IntL g' l' ns → St b S g0 h0 env g' m mc mu h' → Q (.ref l') { s with heap := h' }) : wpAny (model prog w) A (call (.type "list") [.ref l]) Q E s := by
  obtain ⟨vs, hl, hi⟩ := (I.mono H.on).list (.refl _)
  refine copy_list H hl (by rw [hi.length, sizeLine_eq]; omega) fun a o h' isl fa H' => ?_
  obtain ⟨H2, le⟩ := H'.freeze fa
  exact h a _ h' le (IntL.mk (FM.put_self ..) isl hi) H2
theorem tup_assign2 {x y : Str} {px py pos : Pos} {x1} {t : Addr} {u v : Value} {Q : Unit → Shared → Prop} (hh : A.handled = none) (H : St b S g0 h0 env g m mc mu s.heap) (ht : IsTup s.heap t [u, v].toArray)
    (h : ∀ h', St b S g0 h0 env g m mc mu h' → wpAny (model prog w) A (storeName env x u) (fun _ s₁ => wpAny (model prog w) A (storeName env y v) Q E s₁) E { s with heap := h' }) :
    wpAny (model prog w) A (assign (.Tuple [.Name x px, .Name y py] x1 pos) env (.ref t)) Q E s :=
  tup_assign hh H ht fun h' H' => x_order (wpAny_assign_Name (wpAny_mono (h h' H') (fun _ s₁ z => x_order (wpAny_assign_Name (wpAny_mono z (fun _ _ z => x_order0 z) fun _ _ z => z))) fun _ _ z => z))
theorem tup_assign3 {x y r : Str} {px py pr pos : Pos} {x1} {t : Addr} {u v k : Value} {Q : Unit → Shared → Prop} (hh : A.handled = none) (H : St b S g0 h0 env g m mc mu s.heap) (ht : IsTup s.heap t [u, v, k].toArray)
    (h : ∀ h', St b S g0 h0 env g m mc mu h' → wpAny (model prog w) A (storeName env x u) (fun _ s₀ => wpAny (model prog w) A (storeName env y v) (fun _ s₁ => wpAny (model prog w) A (storeName env r k) Q E s₁) E s₀) E { s with heap := h' }) :
    wpAny (model prog w) A (assign (.Tuple [.Name x px, .Name y py, .Name r pr] x1 pos) env (.ref t)) Q E s :=
  tup_assign hh H ht fun h' H' => x_order (wpAny_assign_Name (wpAny_mono (h h' H') (fun _ s₁ z => x_order (wpAny_assign_Name (wpAny_mono z (fun _ _ z => x_order (wpAny_assign_Name (wpAny_mono z (fun _ _ z => x_order0 z) fun _ _ z => z))) fun _ _ z => z))) fun _ _ z => z))
theorem rng {n : Nat} (h : n ≤ 100000) : Builtin.Range.small 0 (n : Int) 1 = true := small_one (by decide) (by decide) (by omega) (by omega)
theorem rngN {n : Nat} (h : n ≤ 1000) : Builtin.Range.small 0 (n : Int) 1 = true := rng (Nat.le_trans h (by decide))
theorem lfl {n k : Nat} {f : Nat → Int} (h : n ≤ 1000) (hk : 1000 ≤ k := by decide) : (lf n f).length ≤ k := by rw [lf_length]; exact Nat.le_trans h hk
theorem add_sz {a c h w : Nat} (e1 : a = h) (e2 : c = w) (h1 : h ≤ 1000) (h2 : w ≤ 1000) : a + c ≤ 16777216 := by omega
theorem add_sz2 {a c h w : Nat} (e1 : a = h) (e2 : c = w) (h1 : h ≤ 1000) (h2 : w ≤ 1000) : a + c ≤ 16777214 := by omega
theorem tot3 {h w : Nat} (h1 : h ≤ 3) (h2 : w ≤ 3) : h + w + 2 ≤ 1000 := by omega
theorem dim3 (v : Int) : ∃ k : Nat, 1 + v % 3 = (k : Int) ∧ 1 ≤ k ∧ k ≤ 3 ∧ k ≤ 1000 := ⟨(1 + v % 3).toNat, by omega⟩
theorem rng2 {a c : Int} (h1 : 0 ≤ a) (h2 : a ≤ 1000) (h3 : 0 ≤ c) (h4 : c ≤ 1000) : Builtin.Range.small a c 1 = true := small_one (by omega) (by omega) (by omega) (by omega)
theorem nat0 (n : Nat) : (0 : Int) ≤ (n : Int) := Int.natCast_nonneg n
theorem to_nat0 (n : Nat) : ((n : Int) - 0).toNat = n := by omega
theorem szl {n : Nat} (h : n ≤ 1000) : n ≤ sizeLine := by rw [sizeLine_eq]; omega
theorem sz1 {n : Nat} (h : n.ble 10 = true) : n ≤ sizeLine := by rw [sizeLine_eq]; have := Nat.le_of_ble_eq_true h; omega
end
end Mine
namespace Mine
section
variable {prog : Program} {w : World} {b : Heap} {S : List Addr} {g0 : FM} {h0 : Heap} {env : Env} {g : FM} {m mc : Str → Option Value} {mu pre post : List (Addr × Obj)} {A : Around} {s : Shared} {E : Value → Shared → Prop}
theorem St.Xh {K : Frag} {p : Program} {loose : List Str} {mean : ExcName → Option Value} {mg mb : Str → Option Value} {h : Heap} (H : St b S g0 h0 env g m mc mu h) (W : Wd K p loose mean mg mb b) : K.In h := W.X.keeps H.base
theorem ne_same {l l' : Addr} {ns ms : List Int} {Q : Value → Shared → Prop} {n : Nat} (H : St b S g0 h0 env g m mc mu s.heap) (hA : Ao n A) (I : IntL g l ns) (J : IntL g l' ms) (e : ns = ms) (h : Q (.bool false) s) : wpAny (model prog w) A (compareOp .NotEq (.ref l) (.ref l')) Q E s :=
  ne_il H hA I J (by rw [decide_eq_true e]; exact h)
/-- a turned object turns no more, its maker's word apart -/
theorem St.freeze' {a : Addr} {o : Obj} {h : Heap} (H : St b S g0 h0 env g m mc ((a, o) :: mu) h) (h0a : h0.get? a = none) : ∃ g', g.le g' ∧ g' a = some o ∧ St b S g0 h0 env g' m mc mu h :=
  ⟨_, (H.freeze h0a).2, FM.put_self .., (H.freeze h0a).1⟩
end
end Mine
namespace Mine
-- a generator's block: what stands, and what it turns
/-- the frozen part, and all that was made since h₁, but Z -/
def gh (g : FM) (h₁ : Heap) (Z : Addr) (h : Heap) : FM := fun a => match g a with
  | some o => some o
  | none => if (h₁.get? a).isNone && a != Z then h.get? a else none
section
variable {g : FM} {h₁ h h' : Heap} {Z : Addr}
theorem gh_le : g.le (gh g h₁ Z h) := fun a o e => by unfold gh; rw [e]
theorem gh_cases {a : Addr} {o : Obj} (e : gh g h₁ Z h a = some o) : g a = some o ∨ (g a = none ∧ h₁.get? a = none ∧ a ≠ Z ∧ h.get? a = some o) := by
  unfold gh at e
  cases q : g a with
  | some o' => rw [q] at e; exact .inl e
  | none =>
    rw [q] at e
    dsimp only at e
    split at e
    · rename_i c
      simp only [Bool.and_eq_true, Option.isNone_iff_eq_none, bne_iff_ne] at c
      exact .inr ⟨rfl, c.1, c.2, e⟩
    · cases e
theorem gh_new {a : Addr} {o : Obj} (hg : g a = none) (h1 : h₁.get? a = none) (hz : a ≠ Z) (e : h.get? a = some o) : gh g h₁ Z h a = some o := by
  unfold gh
  rw [hg]
  dsimp only
  rw [if_pos (by simp [h1, hz]), e]
theorem gh_on (on : g.on h) : (gh g h₁ Z h).on h := fun a o e => (gh_cases e).elim (fun e => on a o e) fun e => e.2.2.2
theorem gh_step {S : List Addr} {g₃ : FM} (on : g.on h) (lv : ∀ a o, h₁.get? a = some o → ∃ o', h.get? a = some o') (z : ∃ o, h.get? Z = some o) (e : Ev S (gh g h₁ Z h) h g₃ h') : g₃.le (gh g h₁ Z h') := fun a o q => by
  have q' := e.on a o q
  rcases e.new a o q with r | r
  · rcases gh_cases r with r | ⟨r1, r2, r3, _⟩
    · exact gh_le a o r
    · exact gh_new r1 r2 r3 q'
  · refine gh_new ?_ ?_ ?_ q'
    · cases s : g a with
      | none => rfl
      | some o' => rw [on a o' s] at r; cases r
    · cases s : h₁.get? a with
      | none => rfl
      | some o' => obtain ⟨o'', s'⟩ := lv a o' s; rw [r] at s'; cases s'
    · rintro rfl; obtain ⟨o', z⟩ := z; rw [r] at z; cases z
theorem gh_mono (k : ∀ a o, h₁.get? a = none → a ≠ Z → h.get? a = some o → h'.get? a = some o) : (gh g h₁ Z h).le (gh g h₁ Z h') := fun a o e => by
  rcases gh_cases e with r | ⟨r1, r2, r3, r4⟩
  · exact gh_le a o r
  · exact gh_new r1 r2 r3 (k a o r2 r3 r4)
end

section
variable {prog : Program} {w : World} {b : Heap} {S : List Addr} {g0 : FM} {h0 : Heap} {env : Env} {g : FM} {m mc : Str → Option Value} {mu : List (Addr × Obj)} {A : Around} {s : Shared} {E : Value → Shared → Prop}
theorem ev_free {x : Str} {pos : Pos} {c : Addr} {v : Value} {Q : Value → Shared → Prop} {M : Model} (H : St b S g0 h0 env g m mc mu s.heap) (hv : mc x = some v) (h : Q v s)
    (hk : env.scope.kind = .function := by with_unfolding_all rfl) (hl : env.kindOf x = some .free := by with_unfolding_all rfl) (hc : env.cells.lookup x = some c := by with_unfolding_all rfl) (hd : (x == ("__debug__" : Str)) = false := by decide) (hn : (x == ("__classdict__" : Str)) = false := by decide) :
    wpAny M A (eval (.Name x pos) env) Q E s := wpAny_Name (wpAny_loadName_free hk hl hc (hv ▸ H.cell x c (mem_of_lookup hc)) h hn) hd

/-- a generator's frame, as it stands between its turns -/
structure GI (h₁ : Heap) (C I Z : Addr) (cl : List (Str × Addr)) (mc : Str → Option Value) (Ws : Nat → Heap → Prop) (i : Nat) (h : Heap) : Prop where
  it : Ws i h
  ns : ∃ m, h.Ns C m
  cell : ∀ q ∈ cl, h.IsCell q.2 (mc q.1)
  keep : ∀ a o, a ∉ C :: I :: cl.map (·.2) → h₁.get? a = some o → h.get? a = some o
  z : ∃ o, h.get? Z = some o
theorem GI.live {h₁ h : Heap} {C I Z : Addr} {cl : List (Str × Addr)} {Ws : Nat → Heap → Prop} {i : Nat} (x : GI h₁ C I Z cl mc Ws i h) (lv : ∀ i h, Ws i h → ∃ o, h.get? I = some o) : ∀ a o, h₁.get? a = some o → ∃ o', h.get? a = some o' := fun a o e => by
  by_cases q : a ∈ C :: I :: cl.map (·.2)
  · rcases List.mem_cons.mp q with rfl | q
    · obtain ⟨_, o', _, _, e', _⟩ := x.ns; exact ⟨o', e'⟩
    · rcases List.mem_cons.mp q with rfl | q
      · exact lv _ _ x.it
      · obtain ⟨p, hp, rfl⟩ := List.mem_map.mp q
        obtain ⟨o', e', _⟩ := x.cell p hp; exact ⟨o', e'⟩
  · exact ⟨o, x.keep a o q e⟩

/-- what stays the same while a generator goes -/
structure GBase (b : Heap) (g : FM) (h₁ : Heap) (C I Z : Addr) (cl : List (Str × Addr)) (fp : List Addr) (Ws : Nat → Heap → Prop) : Prop where
  bg : ∀ a o, b.get? a = some o → g a = some o
  lo : b.objs.size ≤ C
  on : g.on h₁
  gC : g C = none
  gI : g I = none
  gc : ∀ q ∈ cl, g q.2 = none
  hC : ∃ o, h₁.get? C = some o
  hI : ∃ o, h₁.get? I = some o
  hc : ∀ q ∈ cl, ∃ o, h₁.get? q.2 = some o
  nd : (C :: I :: cl.map (·.2)).Nodup
  nn : (cl.map (·.1)).Nodup
  lv : ∀ i h, Ws i h → ∃ o, h.get? I = some o
  frz : ∀ a ∈ fp, a ≠ I → ∃ o, g a = some o

theorem GBase.onh {h₁ h : Heap} {C I Z : Addr} {cl : List (Str × Addr)} {fp : List Addr} {Ws : Nat → Heap → Prop} {i : Nat} (B : GBase b g h₁ C I Z cl fp Ws) (x : GI h₁ C I Z cl mc Ws i h) : g.on h := fun a o e => by
  refine x.keep a o (fun q => ?_) (B.on a o e)
  rcases List.mem_cons.mp q with rfl | q
  · rw [B.gC] at e; cases e
  · rcases List.mem_cons.mp q with rfl | q
    · rw [B.gI] at e; cases e
    · obtain ⟨p, hp, rfl⟩ := List.mem_map.mp q
      rw [B.gc p hp] at e; cases e

/-- the frame of a turn, once its target is stored -/
theorem GBase.st {h₁ h : Heap} {C I Z : Addr} {cl : List (Str × Addr)} {fp : List Addr} {Ws : Nat → Heap → Prop} {cenv : Env} (B : GBase b g h₁ C I Z cl fp Ws) (eL : cenv.locals = C) (eC : cenv.cells = cl) (on : g.on h) (hn : h.Ns C m) (hc : ∀ q ∈ cl, h.IsCell q.2 (mc q.1)) :
    St b (C :: cl.map (·.2)) (gh g h₁ Z h) h cenv (gh g h₁ Z h) m mc [] h := by
  have nd := B.nd
  have ng : ∀ a, g a = none → (∃ o, h₁.get? a = some o) → gh g h₁ Z h a = none := fun a e1 ⟨o, e2⟩ => by
    cases q : gh g h₁ Z h a with
    | none => rfl
    | some o' =>
      rcases gh_cases q with r | ⟨_, r, _⟩
      · rw [e1] at r; cases r
      · rw [e2] at r; cases r
  refine ⟨(by rw [eL]; exact hn), (fun x c q => hc (x, c) (by rw [eC] at q; exact q)), (fun a o e => gh_le a o (B.bg a o e)), (by rw [eL]; exact B.lo), Ev.refl (gh_on on), (fun _ q => (nomatch q)), ?_, (by rw [eC]; exact B.nn), fun a ha => ?_⟩
  · unfold owns
    rw [eL, eC, List.map_nil, List.append_nil]
    obtain ⟨n1, n2⟩ := List.nodup_cons.mp nd
    exact List.nodup_cons.mpr ⟨fun q => n1 (.tail _ q), (List.nodup_cons.mp n2).2⟩
  · unfold owns at ha
    rw [eL, eC, List.map_nil, List.append_nil] at ha
    refine ⟨?_, .inr ha⟩
    rcases List.mem_cons.mp ha with rfl | q
    · exact ng _ B.gC B.hC
    · obtain ⟨p, hp, rfl⟩ := List.mem_map.mp q
      exact ng _ (B.gc p hp) (B.hc p hp)

def YP (g : FM) (h₁ : Heap) (C I Z : Addr) (cl : List (Str × Addr)) (mc : Str → Option Value) (Ws : Nat → Heap → Prop) (n : Nat) (J : Nat → FM → Value → Prop) : Protocol := fun k s₀ v s kap =>
  (∃ h tk, s = { s₀ with heap := h, toks := tk }) ∧ (∀ a o, a ∉ C :: I :: cl.map (·.2) → s₀.heap.get? a = some o → s.heap.get? a = some o) ∧
    ∃ i, k + i + 1 = n ∧ GI h₁ C I Z cl mc Ws (i + 1) s.heap ∧ J i (gh g h₁ Z s.heap) v ∧ ∀ s'' : Shared, GI h₁ C I Z cl mc Ws (i + 1) s''.heap → kap (.send .none) s''
def RP (I : Addr) (n : Nat) (s₀ : Shared) (r : Result) (s : Shared) : Prop :=
  r = .ok .next ∧ n = 0 ∧ (∃ h tk, s = { s₀ with heap := h, toks := tk }) ∧ ∀ a o, a ≠ I → s₀.heap.get? a = some o → s.heap.get? a = some o

theorem seg_gen {elt iter : Expr} {x : Str} {px : Pos} {scope : Scope} {pos : Pos} {C I Z : Addr} {cl : List (Str × Addr)} {fp : List Addr} {n : Nat} {P : Nat → Value → Prop} {Ws : Nat → Heap → Prop} {cenv : Env} {h₁ : Heap} {J : Nat → FM → Value → Prop} {k : Nat}
    (hA : Ao (k + 1) A) (W₀ : ∀ A' : Around, A'.handled = none → Walks prog w A' I fp [I] n P Ws) (B : GBase b g h₁ C I Z cl fp Ws) (Jm : ∀ i g g' v, J i g v → g.le g' → J i g' v)
    (eL : cenv.locals = C) (eC : cenv.cells = cl) (hx : cenv.kindOf x = some .local) (hk : cenv.scope.kind = .function) (hco : cenv.scope.isCoroutine = false)
    (elt_ : ∀ (A' : Around) E' i v (s₂ : Shared) g₂ m', Ao k A' → i < n → P i v → g.le g₂ → St b (C :: cl.map (·.2)) g₂ s₂.heap cenv g₂ (up x v m') mc [] s₂.heap →
      wpAny (model prog w) A' (eval elt cenv) (fun y s₃ => ∃ g₃ h₃ tk₃, s₃ = { s₂ with heap := h₃, toks := tk₃ } ∧ St b (C :: cl.map (·.2)) g₂ s₂.heap cenv g₃ (up x v m') mc [] h₃ ∧ J i g₃ y) E' s₂) :
    ∀ (r i : Nat) (s : Shared), n - i = r → i ≤ n → GI h₁ C I Z cl mc Ws i s.heap →
      Seg (model prog w) A (RP I) (YP g h₁ C I Z cl mc Ws n J) (n - i) s (.compLoop (.GeneratorExp elt [⟨.Name x px, iter, [], 0⟩] scope pos) 0 (.ref I) .none cenv)
        ((model prog w).den (.compLoop (.GeneratorExp elt [⟨.Name x px, iter, [], 0⟩] scope pos) 0 (.ref I) .none cenv)) [] s := by
  have hA' : Ao k (A.over (.compLoop (.GeneratorExp elt [⟨.Name x px, iter, [], 0⟩] scope pos) 0 (.ref I) .none cenv) []) := by
    refine ⟨hA.hh, ?_, ?_⟩
    · have := hA.dp
      show A.depth + 1 + 10 * k ≤ 990
      omega
    · have := hA.un
      show A.units + 3 + 100 * k ≤ 9800
      omega
  have nI : I ∉ C :: cl.map (·.2) := fun q => by
    obtain ⟨n1, n2⟩ := List.nodup_cons.mp B.nd
    rcases List.mem_cons.mp q with q | q
    · exact n1 (q ▸ .head _)
    · exact (List.nodup_cons.mp n2).1 q
  have nC : C ∉ I :: cl.map (·.2) := (List.nodup_cons.mp B.nd).1
  have cf : ∀ a ∈ fp, a ≠ I → a ∉ C :: cl.map (·.2) := fun a ha n q => by
    obtain ⟨o, e⟩ := B.frz a ha n
    rcases List.mem_cons.mp q with rfl | q
    · rw [B.gC] at e; cases e
    · obtain ⟨p, hp, rfl⟩ := List.mem_map.mp q
      rw [B.gc p hp] at e; cases e
  intro r
  induction r with
  | zero =>
    intro i s hr hi G
    obtain rfl : i = n := rm_done hr hi
    rw [Nat.sub_self]
    show Seg _ A _ _ _ s _ ((compTurn (.GeneratorExp elt [⟨.Name x px, iter, [], 0⟩] scope pos) 0 (.ref I) .none cenv).onRaise (leaving cenv)) [] s
    rw [compTurn_gen, Sem.onRaise_eq_wrap]
    refine seg_bind_wrap (wpAny_standAt ?_)
    refine seg_bind_wrap ((W₀ _ hA'.hh).done s _ _ G.it fun h' tk hk' => ?_)
    exact seg_end (.ok .next) ⟨rfl, rfl, ⟨_, _, rfl⟩, fun a o ha e => hk' a o (fun q => ha (List.mem_singleton.mp q)) e⟩
  | succ r ih =>
    intro i s hr hi G
    have hlt : i < n := rm_lt hr
    rw [rm_succ hlt]
    show Seg _ A _ _ _ s _ ((compTurn (.GeneratorExp elt [⟨.Name x px, iter, [], 0⟩] scope pos) 0 (.ref I) .none cenv).onRaise (leaving cenv)) [] s
    rw [compTurn_gen, Sem.onRaise_eq_wrap]
    refine seg_bind_wrap (wpAny_standAt ?_)
    refine seg_bind_wrap ((W₀ _ hA'.hh).item i s _ _ hlt G.it fun v h₂ tk₂ hP w2 kp => ?_)
    have kp : ∀ a o, a ≠ I → s.heap.get? a = some o → h₂.get? a = some o := fun a o ha e => kp a o (fun q => ha (List.mem_singleton.mp q)) e
    refine seg_bind_wrap (wpAny_of_eq (rfl : letOwnedTupleGo (.Name x px) (.ref I) v = pure ()) ?_)
    obtain ⟨m', hns⟩ := G.ns
    have hns2 : h₂.Ns C m' := hns.at' fun o e => kp C o (fun q => nC (q ▸ .head _)) e
    refine seg_bind_wrap (wpAny_assign_Name (wpAny_storeName_local (m := m') hx (eL.symm ▸ hns2) (fun h₃ hn₃ hs₃ => ?_) (by rw [hk]; rfl)))
    rw [eL] at hn₃ hs₃
    have k3 : ∀ a o, a ≠ C → a ≠ I → s.heap.get? a = some o → h₃.get? a = some o := fun a o n1 n2 e => hs₃.extBut a o n1 (kp a o n2 e)
    have w3 : Ws (i + 1) h₃ := (W₀ A hA.hh).frame _ _ _ w2 fun a ha o e => hs₃.extBut a o (fun q => by
      by_cases z : a = I
      · exact nC (q ▸ z ▸ .head _)
      · exact cf a ha z (q ▸ .head _)) e
    have c3 : ∀ q ∈ cl, h₃.IsCell q.2 (mc q.1) := fun q hq => by
      obtain ⟨o, e, d⟩ := G.cell q hq
      have hm : q.2 ∈ cl.map (·.2) := List.mem_map_of_mem hq
      exact ⟨o, k3 _ _ (fun z => nC (z ▸ .tail _ hm)) (fun z => nI (z ▸ .tail _ hm)) e, d⟩
    have on3 : g.on h₃ := fun a o e => k3 a o (fun q => by subst q; rw [B.gC] at e; cases e) (fun q => by subst q; rw [B.gI] at e; cases e) (B.onh G a o e)
    have z3 : ∃ o, h₃.get? Z = some o := by
      obtain ⟨o, e⟩ := G.z
      by_cases q1 : Z = C
      · rw [q1]; obtain ⟨o', _, _, e', _⟩ := hn₃; exact ⟨o', e'⟩
      · by_cases q2 : Z = I
        · rw [q2]; exact B.lv _ _ w3
        · exact ⟨o, k3 _ _ q1 q2 e⟩
    have lv3 : ∀ a o, h₁.get? a = some o → ∃ o', h₃.get? a = some o' := fun a o e => by
      by_cases q1 : a = C
      · rw [q1]; obtain ⟨o', _, _, e', _⟩ := hn₃; exact ⟨o', e'⟩
      · by_cases q2 : a = I
        · rw [q2]; exact B.lv _ _ w3
        · obtain ⟨o', e'⟩ := G.live B.lv a o e; exact ⟨o', k3 _ _ q1 q2 e'⟩
    have H3 : St b (C :: cl.map (·.2)) (gh g h₁ Z h₃) h₃ cenv (gh g h₁ Z h₃) (up x v m') mc [] h₃ := B.st eL eC on3 hn₃ c3
    simp only [List.forIn_nil]
    refine seg_bind_wrap (wpAny_pure ?_)
    simp only [if_true]
    have hy : ∀ v, yieldOut cenv v = yieldValue v := fun v => by simp only [yieldOut, hco, Bool.false_eq_true, if_false]
    simp only [hy]
    rw [Sem.bind_eq_wrap', Sem.bind_eq_wrap', Sem.wrap_wrap, Sem.wrap_wrap]
    refine seg_wrap (wpAny_mono (elt_ _ _ i v _ _ m' hA' hlt hP gh_le H3) (fun y s₄ zz => ?_) fun _ _ e => e)
    obtain ⟨g₄, h₄, tk₄, rfl, H4, jy⟩ := zz
    have k4 : ∀ a o, a ∉ C :: cl.map (·.2) → h₃.get? a = some o → h₄.get? a = some o := fun a o n e => H4.ev.keep a o n e
    have G4 : GI h₁ C I Z cl mc Ws (i + 1) h₄ := by
      refine ⟨(W₀ A hA.hh).frame _ _ _ w3 fun a ha o e => ?_, ⟨_, eL ▸ H4.ns⟩, fun q hq => H4.cell q.1 q.2 (eC.symm ▸ hq), fun a o ha e => ?_, ?_⟩
      · by_cases z : a = I
        · subst z; exact k4 a o nI e
        · exact k4 a o (cf a ha z) e
      · have h1 : a ≠ C := fun q => ha (q ▸ .head _)
        have h2 : a ≠ I := fun q => ha (q ▸ .tail _ (.head _))
        have h3 : a ∉ C :: cl.map (·.2) := fun q => by
          rcases List.mem_cons.mp q with q | q
          · exact h1 q
          · exact ha (.tail _ (.tail _ q))
        exact k4 a o h3 (k3 a o h1 h2 (G.keep a o ha e))
      · obtain ⟨o, e⟩ := z3
        obtain ⟨o', e'⟩ := H4.ev.live Z o e
        exact ⟨o', e'⟩
    refine seg_at (seg_yield rfl rfl rfl ⟨⟨_, _, rfl⟩, fun a o ha e => ?_, i, by omega, G4, Jm _ _ _ _ jy (gh_step on3 lv3 z3 H4.ev), fun s'' G'' => ?_⟩)
    · have h1 : a ≠ C := fun q => ha (q ▸ .head _)
      have h2 : a ≠ I := fun q => ha (q ▸ .tail _ (.head _))
      exact k4 a o (fun q => by
        rcases List.mem_cons.mp q with q | q
        · exact h1 q
        · exact ha (.tail _ (.tail _ q))) (k3 a o h1 h2 e)
    · exact seg_again rfl (ih (i + 1) s'' (rm_next hr) hlt G'')
end
end Mine
set_option maxRecDepth 100000
namespace Mine
/-- what is iterated, whoever asks for its items -/
def SrcA (prog : Program) (w : World) (A : Around) (n : Nat) (P : Nat → Value → Prop) (g : FM) (xv : Value) (h : Heap) : Prop :=
  ∀ (s : Shared) (Q : Value → Shared → Prop) (E : Value → Shared → Prop), s.heap = h →
    (∀ I fp Ws h', (∀ A' : Around, A'.handled = none → Walks prog w A' I fp [I] n P Ws) → Ws 0 h' → (∀ i h, Ws i h → ∃ o, h.get? I = some o) → h.get? I = none → (∀ a ∈ fp, a ≠ I → ∃ o, g a = some o) →
      (∀ a o, h.get? a = some o → h'.get? a = some o) → h.objs.size ≤ h'.objs.size → Q (.ref I) { s with heap := h' }) → wpAny (model prog w) A (pyIter xv) Q E s
theorem SrcA.range {prog : Program} {w : World} {A : Around} {g : FM} {h : Heap} {r : Addr} {a c : Int} {t u v : Tok} (hr : IsRange h r a c 1 t u v) (hsmall : Builtin.Range.small a c 1 = true) (hac : a ≤ c) :
    SrcA prog w A (c - a).toNat (fun i v => ∃ t, v = .int (a + i) t) g (.ref r) h := by
  intro s Q E hs k
  subst hs
  refine wpAny_pyIter_range hr hsmall ?_
  have hsz : Builtin.Range.rangeSize a c 1 = ((c - a).toNat : Int) := by
    rw [rangeSize_one]; split <;> omega
  have W := fun (A' : Around) (hh : A'.handled = none) => Walks.range (prog := prog) (w := w) hh s.heap.objs.size a 1 (c - a).toNat
  refine k s.heap.objs.size [s.heap.objs.size] _ _ (fun A' hh => ⟨(W A' hh).sub, (W A' hh).frame, fun i s Q E hi st hQ => (W A' hh).item i s Q E hi st fun v h' tk hp => hQ v h' tk (by obtain ⟨t, e⟩ := hp; exact ⟨t, by rw [e, Int.mul_one]⟩), (W A' hh).done, (W A' hh).self⟩) ?_ (fun i h e => ⟨_, e⟩)
    (none_of_ge (Nat.le_refl _)) (fun x hx n => absurd (List.mem_singleton.mp hx) n) (fun _ _ e => Heap.get?_push_of_some _ e) (by rw [Heap.size_push]; exact Nat.le_succ _)
  · have e1 : (a + ((0 : Nat) : Int) * 1) = a := by simp
    have e2 : (((c - a).toNat : Int) - ((0 : Nat) : Int)) = Builtin.Range.rangeSize a c 1 := by rw [hsz]; simp
    show IsRangeIter _ _ (a + ((0 : Nat) : Int) * 1) (((c - a).toNat : Int) - ((0 : Nat) : Int)) 1
    rw [e1, e2]
    exact Heap.get?_push_size _ rfl

section
variable {b : Heap} {S : List Addr} {g0 : FM} {h0 : Heap} {env : Env} {g : FM} {m mc : Str → Option Value} {mu : List (Addr × Obj)} {h₁ h' : Heap} {C I Z : Addr} {cl : List (Str × Addr)}
/-- the frame outside, after a generator went -/
theorem St.after (H : St b S g0 h0 env g m mc mu h₁) (nC : C ∉ owns env mu) (nI : I ∉ owns env mu) (fC : h0.get? C = none) (fI : h0.get? I = none) (gC : g C = none) (gI : g I = none) (hcl : ∀ q ∈ cl, q ∈ env.cells)
    (keep : ∀ a o, a ∉ C :: I :: cl.map (·.2) → h₁.get? a = some o → h'.get? a = some o) (cell : ∀ q ∈ cl, h'.IsCell q.2 (mc q.1)) (lv : ∀ a o, a ≠ I → h₁.get? a = some o → ∃ o', h'.get? a = some o') : St b S g0 h0 env (gh g h₁ Z h') m mc mu h' := by
  have nd := H.nd
  unfold owns at nd
  obtain ⟨nd1, nd2⟩ := List.nodup_cons.mp nd
  obtain ⟨nd3, nd4, nd5⟩ := List.nodup_append.mp nd2
  have inO : ∀ q ∈ cl, q.2 ∈ owns env mu := fun q hq => .tail _ (List.mem_append_left _ (List.mem_map_of_mem (hcl q hq)))
  have nin : ∀ a ∈ owns env mu, a ∉ cl.map (·.2) → a ∉ C :: I :: cl.map (·.2) := fun a ha n q => by
    rcases List.mem_cons.mp q with rfl | q
    · exact nC ha
    · rcases List.mem_cons.mp q with rfl | q
      · exact nI ha
      · exact n q
  have gn : ∀ a o, g a = some o → a ∉ C :: I :: cl.map (·.2) := fun a o e q => by
    rcases List.mem_cons.mp q with rfl | q
    · rw [gC] at e; cases e
    · rcases List.mem_cons.mp q with rfl | q
      · rw [gI] at e; cases e
      · obtain ⟨p, hp, rfl⟩ := List.mem_map.mp q
        rw [(H.own _ (inO p hp)).1] at e; cases e
  have on' : g.on h' := fun a o e => keep a o (gn a o e) (H.on a o e)
  have cm : ∀ q ∈ cl, q.2 ∈ env.cells.map (·.2) := fun q hq => List.mem_map_of_mem (hcl q hq)
  refine ⟨?_, fun x c hc => ?_, fun a o e => gh_le a o (H.bg a o e), H.lo, ⟨H.ev.gg.trans gh_le, fun a o e => ?_, fun a o n e => ?_, fun a o e => ?_, gh_on on'⟩, fun p hp => ?_, H.nd, H.nn, fun a ha => ⟨?_, (H.own a ha).2⟩⟩
  · obtain ⟨o, es, ep, e, r⟩ := H.ns
    refine ⟨o, es, ep, keep _ _ (nin _ owns_L fun q => ?_) e, r⟩
    obtain ⟨p, hp, e⟩ := List.mem_map.mp q
    exact nd1 (List.mem_append_left _ (e ▸ cm p hp))
  · by_cases q : c ∈ cl.map (·.2)
    · obtain ⟨p, hp, rfl⟩ := List.mem_map.mp q
      have : x = p.1 := cell_inj nd3 hc (hcl p hp)
      rw [this]; exact cell p hp
    · obtain ⟨o, e, d⟩ := H.cell x c hc
      exact ⟨o, keep _ _ (nin _ (.tail _ (List.mem_append_left _ (List.mem_map.mpr ⟨(x, c), hc, rfl⟩))) q) e, d⟩
  · rcases gh_cases e with e | ⟨_, e, _⟩
    · exact H.ev.new a o e
    · cases r : h0.get? a with
      | none => exact .inr rfl
      | some o' => obtain ⟨o'', r'⟩ := H.ev.live a o' r; rw [e] at r'; cases r'
  · refine keep a o (fun q => ?_) (H.ev.keep a o n e)
    rcases List.mem_cons.mp q with rfl | q
    · rw [fC] at e; cases e
    · rcases List.mem_cons.mp q with rfl | q
      · rw [fI] at e; cases e
      · obtain ⟨p, hp, rfl⟩ := List.mem_map.mp q
        rcases (H.own _ (inO p hp)).2 with r | r
        · rw [e] at r; cases r
        · exact n r
  · obtain ⟨o', e'⟩ := H.ev.live a o e; exact lv a o' (fun q => by rw [q, fI] at e; cases e) e'
  · refine keep _ _ (nin _ (owns_mu hp) fun q => ?_) (H.mus p hp)
    obtain ⟨r, hr, e⟩ := List.mem_map.mp q
    exact nd5 _ (e ▸ cm r hr) _ (List.mem_map_of_mem hp) rfl
  · cases q : gh g h₁ Z h' a with
    | none => rfl
    | some o =>
      rcases gh_cases q with r | ⟨_, r, _⟩
      · rw [(H.own a ha).1] at r; cases r
      · obtain ⟨o', e⟩ := H.liveO ha; rw [r] at e; cases e
end

section
variable {prog : Program} {w : World} {b : Heap} {S : List Addr} {g0 : FM} {h0 : Heap} {env : Env} {g : FM} {m mc : Str → Option Value} {mu : List (Addr × Obj)} {A : Around} {s : Shared} {E : Value → Shared → Prop}

/-- a generator, made and not yet asked -/
structure GenOf (prog : Program) (w : World) (b : Heap) (h0 : Heap) (env : Env) (g : FM) (mc : Str → Option Value) (mu : List (Addr × Obj)) (n : Nat) (J : Nat → FM → Value → Prop) (k : Nat) (a gi C I : Addr) (cl : List (Str × Addr)) (fp : List Addr) (P : Nat → Value → Prop) (Ws : Nat → Heap → Prop) (s : Shared) : Prop where
  isg : s.heap.IsGen a gi
  gs : ∃ gs, s.gens[gi]? = some gs ∧ ∀ Z A1, Ao (k + 2) A1 → ∀ s'' : Shared, GI s.heap C I Z cl mc Ws 0 s''.heap → gs.Goes (model prog w) A1.in1 (RP I) (YP g s.heap C I Z cl mc Ws n J) n (.send .none) s''
  base : ∀ Z, GBase b g s.heap C I Z cl fp Ws
  wk : ∀ A' : Around, A'.handled = none → Walks prog w A' I fp [I] n P Ws
  w0 : Ws 0 s.heap
  ns : ∃ m, s.heap.Ns C m
  nC : C ∉ owns env mu
  nI : I ∉ owns env mu
  fC : h0.get? C = none
  fI : h0.get? I = none
  aC : a ∉ C :: I :: cl.map (·.2)
  cls : ∀ q ∈ cl, q ∈ env.cells
  bare : AllBare s.gens

def GRdy (prog : Program) (w : World) (A1 : Around) (g : FM) (h₁ : Heap) (C I Z a gi : Addr) (cl : List (Str × Addr)) (mc : Str → Option Value) (Ws : Nat → Heap → Prop) (n : Nat) (J : Nat → FM → Value → Prop) (i : Nat) (s : Shared) : Prop :=
  s.heap.IsGen a gi ∧ ∃ gs, s.gens[gi]? = some gs ∧ ∀ s'' : Shared, GI h₁ C I Z cl mc Ws i s''.heap → gs.Goes (model prog w) A1.in1 (RP I) (YP g h₁ C I Z cl mc Ws n J) (n - i) (.send .none) s''

theorem bare_set {s : Shared} {gi : Nat} {x : GenState} (h : AllBare s.gens) (hx : x.bare = true) : AllBare (s.setGen gi x).gens := by
  intro y hy
  obtain ⟨i, hi, e⟩ := Array.mem_iff_getElem.mp hy
  have hi' : i < s.gens.size := by simpa [Shared.setGen] using hi
  have e2 : (s.setGen gi x).gens[i]'hi = if gi = i then x else s.gens[i]'hi' := by simp only [Shared.setGen]; rw [Array.getElem_setIfInBounds]
  rw [e2] at e
  split at e
  · exact e ▸ hx
  · exact e ▸ h _ (Array.getElem_mem hi')

theorem next_item {C I Z a gi : Addr} {cl : List (Str × Addr)} {h₁ : Heap} {Ws : Nat → Heap → Prop} {n i : Nat} {J : Nat → FM → Value → Prop} {Q : Option Value → Shared → Prop} {k : Nat} (hA : Ao (k + 2) A) (nl : s.heap.NoLimit) (hi : i < n) (R : GRdy prog w A g h₁ C I Z a gi cl mc Ws n J i s) (G : GI h₁ C I Z cl mc Ws i s.heap) (hb : AllBare s.gens) (aC : a ∉ C :: I :: cl.map (·.2))
    (h : ∀ v h' tk gs', AllBare gs' → (∀ a o, a ∉ C :: I :: cl.map (·.2) → s.heap.get? a = some o → h'.get? a = some o) → GI h₁ C I Z cl mc Ws (i + 1) h' → J i (gh g h₁ Z h') v → GRdy prog w A g h₁ C I Z a gi cl mc Ws n J (i + 1) { s with heap := h', toks := tk, gens := gs' } →
      Q (some v) { s with heap := h', toks := tk, gens := gs' }) : wpAny (model prog w) A (pyNext (.ref a)) Q E s := by
  obtain ⟨hg, gs, hgs, hgo⟩ := R
  obtain ⟨r, hr⟩ : ∃ r, n - i = r + 1 := ⟨n - (i + 1), rm_succ hi⟩
  rw [hr] at hgo
  refine wpAny_pyNext_genexpQ (n := r + 1) (P := fun n s₀ s => n = 0 ∧ (∃ h tk, s = { s₀ with heap := h, toks := tk }) ∧ ∀ a o, a ≠ I → s₀.heap.get? a = some o → s.heap.get? a = some o) (Y := YP g h₁ C I Z cl mc Ws n J) hA.hh nl hA.room hg hgs (hgo (s.setGen gi .running) G) (fun v s₁ gs' hb' hv => ?_) (fun s₁ hp h' hk => ?_)
  · obtain ⟨⟨h', tk, rfl⟩, kp, i', ei, G', j, kap⟩ := hv
    obtain rfl : i' = i := by omega
    refine h v h' tk ((s.setGen gi .running).gens.setIfInBounds gi gs') (bare_set (s := { s.setGen gi .running with heap := h', toks := tk }) (bare_set (s := s) hb rfl) hb') kp G' j ⟨?_, gs', ?_, fun s'' G'' => ?_⟩
    · obtain ⟨o, nm, qn, e, r⟩ := hg; exact ⟨o, nm, qn, kp a o aC e, r⟩
    · exact setGen_self (s := { s.setGen gi .running with heap := h', toks := tk }) (gs := .running) (setGen_self (s := s) hgs)
    · rw [rm_next hr]
      exact kap s'' G''
  · exact absurd hp.1 (Nat.succ_ne_zero r)

theorem next_done {C I Z a gi : Addr} {cl : List (Str × Addr)} {h₁ : Heap} {Ws : Nat → Heap → Prop} {n : Nat} {J : Nat → FM → Value → Prop} {Q : Option Value → Shared → Prop} {k : Nat} (hA : Ao (k + 2) A) (nl : s.heap.NoLimit) (R : GRdy prog w A g h₁ C I Z a gi cl mc Ws n J n s) (G : GI h₁ C I Z cl mc Ws n s.heap) (hb : AllBare s.gens)
    (h : ∀ h' tk gs', AllBare gs' → (∀ a o, a ≠ I → s.heap.get? a = some o → h'.get? a = some o) → Q none { s with heap := h', toks := tk, gens := gs' }) : wpAny (model prog w) A (pyNext (.ref a)) Q E s := by
  obtain ⟨hg, gs, hgs, hgo⟩ := R
  rw [Nat.sub_self] at hgo
  refine wpAny_pyNext_genexpQ (n := 0) (P := fun n s₀ s => n = 0 ∧ (∃ h tk, s = { s₀ with heap := h, toks := tk }) ∧ ∀ a o, a ≠ I → s₀.heap.get? a = some o → s.heap.get? a = some o) (Y := YP g h₁ C I Z cl mc Ws n J) hA.hh nl hA.room hg hgs (hgo (s.setGen gi .running) G) (fun v s₁ gs' hb' hv => ?_) (fun s₁ hp h' hk => ?_)
  · obtain ⟨_, _, i', ei, G', _, kap⟩ := hv
    exact False.elim (kap s₁ G')
  · obtain ⟨_, ⟨h2, tk, rfl⟩, kp⟩ := hp
    exact h h' tk ((s.setGen gi .running).gens.setIfInBounds gi .finished) (bare_set (s := { s.setGen gi .running with heap := h2, toks := tk }) (bare_set (s := s) hb rfl) rfl) fun a o n e => hk a o (kp a o n e)
end
end Mine
set_option maxRecDepth 100000
namespace Mine
section
variable {prog : Program} {w : World} {b : Heap} {S : List Addr} {g0 : FM} {h0 : Heap} {env : Env} {g : FM} {m mc : Str → Option Value} {mu : List (Addr × Obj)} {A : Around} {s : Shared} {E : Value → Shared → Prop}

theorem GI.keeps {h₁ h h' : Heap} {C I Z : Addr} {cl : List (Str × Addr)} {fp : List Addr} {P : Nat → Value → Prop} {Ws : Nat → Heap → Prop} {i n : Nat} {A' : Around} (x : GI h₁ C I Z cl mc Ws i h) (W : Walks prog w A' I fp [I] n P Ws) (hz : Z ∉ fp) (zC : Z ∉ C :: I :: cl.map (·.2)) (z1 : h₁.get? Z = none)
    (k : ∀ a o, a ≠ Z → h.get? a = some o → h'.get? a = some o) (z' : ∃ o, h'.get? Z = some o) : GI h₁ C I Z cl mc Ws i h' := by
  refine ⟨W.frame _ _ _ x.it fun a ha o e => k a o (fun q => hz (q ▸ ha)) e, ?_, fun q hq => ?_, fun a o n e => k a o (fun q => by rw [q, z1] at e; cases e) (x.keep a o n e), z'⟩
  · obtain ⟨m', hm⟩ := x.ns
    exact ⟨m', hm.at' fun o e => k C o (fun q => zC (q ▸ .head _)) e⟩
  · obtain ⟨o, e, d⟩ := x.cell q hq
    exact ⟨o, k _ _ (fun z => zC (z ▸ .tail _ (.tail _ (List.mem_map_of_mem hq)))) e, d⟩

theorem sum_loop {C I Z a gi : Addr} {cl : List (Str × Addr)} {h₁ : Heap} {fp : List Addr} {P : Nat → Value → Prop} {Ws : Nat → Heap → Prop} {n : Nat} {J Acc : Nat → FM → Value → Prop} {k : Nat} {R : Result → Shared → Prop} {cenv : Env}
    (hA : Ao (k + 3) A) (nl : ∀ h : Heap, (∀ a o, b.get? a = some o → h.get? a = some o) → h.NoLimit) (B : GBase b g h₁ C I Z cl fp Ws) (W₀ : ∀ A' : Around, A'.handled = none → Walks prog w A' I fp [I] n P Ws)
    (aC : a ∉ C :: I :: cl.map (·.2)) (aZ : a ≠ Z) (zf : Z ∉ fp) (zC : Z ∉ C :: I :: cl.map (·.2)) (z1 : h₁.get? Z = none) (eL : cenv.locals = C) (eC : cenv.cells = cl)
    (jr : ∀ i g v, J i g v → ∃ y, v = .ref y) (ar : ∀ i g v, 0 < i → Acc i g v → ∃ y, v = .ref y) (Am : ∀ i g g' v, Acc i g v → g.le g' → Acc i g' v) (Jm : ∀ i g g' v, J i g v → g.le g' → J i g' v)
    (add : ∀ (A' : Around) E' i acc v (s₂ : Shared) S' g₂ m', Ao (k + 2) A' → i < n → g.le g₂ → Acc i g₂ acc → J i g₂ v → St b S' g₂ s₂.heap cenv g₂ m' mc [] s₂.heap →
      wpAny (model prog w) A' (binaryOp .Add acc v) (fun z s₃ => ∃ g₃ h₃ tk₃, s₃ = { s₂ with heap := h₃, toks := tk₃ } ∧ Ev [] g₂ s₂.heap g₃ h₃ ∧ Acc (i + 1) g₃ z) E' s₂) :
    ∀ (r i : Nat) (s : Shared) (acc : Value) (c : Nat) (st : Int), ((i = 0 ∧ st = 0 ∧ ∃ t, acc = .int 0 t) ∨ (0 < i ∧ st = 2)) → n - i = r → i ≤ n → GI h₁ C I Z cl mc Ws i s.heap → GRdy prog w A.in1 g h₁ C I Z a gi cl mc Ws n J i s → AllBare s.gens →
      s.heap.get? Z = some { cls := .type "list", dict := none, data := .seq #[acc] c, slots := #[] } → Acc i (gh g h₁ Z s.heap) acc →
      (∀ h' tk gs' acc', AllBare gs' → (∀ a o, a ∉ C :: I :: cl.map (·.2) → h₁.get? a = some o → h'.get? a = some o) → (∀ q ∈ cl, h'.IsCell q.2 (mc q.1)) → (∀ a o, a ≠ I → h₁.get? a = some o → ∃ o', h'.get? a = some o') → Acc n (gh g h₁ Z h') acc' → R (.ok (.ret acc')) { s with heap := h', toks := tk, gens := gs' }) →
      codeAny (model prog w) A (.builtin "sum.loop" ⟨[.ref a, .ref Z, rawInt st, rawInt 0], []⟩) R s := by
  have hA1 : Ao (k + 2) A.in1 := hA.in1
  have fin : ∀ (E : Value → Shared → Prop) (s : Shared) (acc : Value), GI h₁ C I Z cl mc Ws n s.heap → GRdy prog w A.in1 g h₁ C I Z a gi cl mc Ws n J n s → AllBare s.gens → Acc n (gh g h₁ Z s.heap) acc →
      (∀ h' tk gs' acc', AllBare gs' → (∀ a o, a ∉ C :: I :: cl.map (·.2) → h₁.get? a = some o → h'.get? a = some o) → (∀ q ∈ cl, h'.IsCell q.2 (mc q.1)) → (∀ a o, a ≠ I → h₁.get? a = some o → ∃ o', h'.get? a = some o') → Acc n (gh g h₁ Z h') acc' → R (.ok (.ret acc')) { s with heap := h', toks := tk, gens := gs' }) →
      wpAny (model prog w) A.in1 (pyNext (.ref a)) (fun v s' => v = none ∧ R (.ok (.ret acc)) s') E s := by
    intro E s acc G Rd hb ha hR
    refine next_done hA1 (nl _ fun a o e => B.onh G a o (B.bg a o e)) Rd G hb fun h' tk gs' hb' kp => ⟨rfl, hR h' tk gs' acc hb' (fun a o n e => kp a o (fun q => n (q ▸ .tail _ (.head _))) (G.keep a o n e)) (fun q hq => ?_) (fun a o q e => ?_) (Am _ _ _ _ ha (gh_mono fun a o n1 n2 e => kp a o (fun q => ?_) e))⟩
    · obtain ⟨o, e, d⟩ := G.cell q hq
      refine ⟨o, kp _ _ (fun z => ?_) e, d⟩
      have nd := B.nd
      rw [List.nodup_cons, List.nodup_cons] at nd
      exact nd.2.1 (z ▸ List.mem_map_of_mem hq)
    · obtain ⟨o', e'⟩ := G.live B.lv a o e
      exact ⟨o', kp _ _ q e'⟩
    · obtain ⟨o', e'⟩ := B.hI
      rw [q, e'] at n1; cases n1
  -- a turn: the item asked for, added, and the sum put back
  have turn : ∀ (Rr : Result → Shared → Prop) (i : Nat) (s' : Shared) (acc v : Value) (c : Nat), i < n → GI h₁ C I Z cl mc Ws (i + 1) s'.heap → GRdy prog w A.in1 g h₁ C I Z a gi cl mc Ws n J (i + 1) s' → AllBare s'.gens →
      s'.heap.get? Z = some { cls := .type "list", dict := none, data := .seq #[acc] c, slots := #[] } → Acc i (gh g h₁ Z s'.heap) acc → J i (gh g h₁ Z s'.heap) v → (next : Value → Int) → (∀ x, next (.ref x) = 2) →
      (∀ (s'' : Shared) z c', (∃ h tk, s'' = { s' with heap := h, toks := tk }) → GI h₁ C I Z cl mc Ws (i + 1) s''.heap → GRdy prog w A.in1 g h₁ C I Z a gi cl mc Ws n J (i + 1) s'' → s''.heap.get? Z = some { cls := .type "list", dict := none, data := .seq #[z] c', slots := #[] } → Acc (i + 1) (gh g h₁ Z s''.heap) z →
        codeAny (model prog w) A (.builtin "sum.loop" ⟨[.ref a, .ref Z, rawInt 2, rawInt 0], []⟩) Rr s'') →
      wpAny (model prog w) A.in1 (do
        match ← (holding [v] (binaryOp .Add acc v)).attempt with
        | .ok r => updateSeq Z fun _ => #[r]; letGo [acc, v]; (do updateSeq Z fun _ => #[r]; again (.builtin "sum.loop" ⟨[.ref a, .ref Z, rawInt (next r), rawInt 0], []⟩) : Sem Fin)
        | .error e => updateSeq Z fun _ => #[]; letGo [acc, v] [e]; throw e) (fun fin s' => match fin with | .done f => Rr (.ok f) s' | .again c' => c'.quiet = true ∧ codeAny (model prog w) A c' Rr s') (fun e s' => Rr (.error e) s') s' := by
    intro Rr i s' acc v c hi G Rd hb hZ ha hj next hnext go
    have onG := B.onh G
    have H := B.st (Z := Z) (cenv := cenv) (m := G.ns.choose) (mc := mc) eL eC onG G.ns.choose_spec G.cell
    refine wpAny_bind (wpAny_attempt (wpAny_holding (wpAny_mono (add _ _ i acc v s' _ _ _ hA1 hi gh_le ha hj H) (fun z s₃ hz => ?_) fun _ _ e => e)))
    · obtain ⟨g₃, h₃, tk₃, rfl, ev, az⟩ := hz
      obtain ⟨y, rfl⟩ := ar (i + 1) _ _ (Nat.succ_pos _) az
      have lv1 := G.live B.lv
      have az' := Am _ _ _ _ az (gh_step onG lv1 G.z ev)
      have hZ3 := ev.keep _ _ (fun q => nomatch q) hZ
      have k3 : ∀ a o, s'.heap.get? a = some o → h₃.get? a = some o := fun a o e => ev.keep a o (fun q => nomatch q) e
      refine wpAny_bind (wpAny_updateSeq hZ3 rfl ?_)
      have hZ4 := Heap.get?_update_self (Obj.mapSeq fun _ => #[Value.ref y]) hZ3 rfl
      refine wpAny_bind (wpAny_letGo ?_)
      refine wpAny_bind (wpAny_updateSeq hZ4 rfl ?_)
      have hZ5 := Heap.get?_update_self (Obj.mapSeq fun _ => #[Value.ref y]) hZ4 rfl
      have k5 : ∀ a o, a ≠ Z → s'.heap.get? a = some o → ((h₃.update Z (Obj.mapSeq fun _ => #[Value.ref y])).update Z (Obj.mapSeq fun _ => #[Value.ref y])).get? a = some o := fun a o n e =>
        (Heap.get?_update_other _ _ (Ne.symm n)).trans ((Heap.get?_update_other _ _ (Ne.symm n)).trans (k3 a o e))
      refine wpAny_pure ⟨plainId_quiet F.plain_sum_loop _, ?_⟩
      rw [hnext y]
      refine go { s' with heap := (h₃.update Z (Obj.mapSeq fun _ => #[Value.ref y])).update Z (Obj.mapSeq fun _ => #[Value.ref y]), toks := tk₃ } (.ref y) _ ⟨_, _, rfl⟩ (G.keeps (W₀ _ hA.hh) zf zC z1 k5 ⟨_, hZ5⟩) ⟨?_, Rd.2⟩ hZ5 (Am _ _ _ _ az' (gh_mono fun a o n1 n2 e => ?_))
      · obtain ⟨o, nm, qn, e, r⟩ := Rd.1; exact ⟨o, nm, qn, k5 a o aZ e, r⟩
      · exact (Heap.get?_update_other _ _ (Ne.symm n2)).trans ((Heap.get?_update_other _ _ (Ne.symm n2)).trans e)
  intro r
  induction r with
  | zero =>
    intro i s acc c st hst hr hi G Rd hb hZ ha hR
    obtain rfl : i = n := rm_done hr hi
    refine codeAny_builtin F.entry_sum_loop ?_
    rw [Around.under_plainId F.plain_sum_loop _]
    show wpAny _ A.in1 (seqItems? (.ref Z) >>= _) _ _ s
    refine wpAny_bind (wpAny_seqItems hZ rfl ?_)
    show wpAny _ A.in1 (tryCatch (pyNext (.ref a)) _ >>= _) _ _ s
    refine wpAny_bind (wpAny_tryCatch (wpAny_mono (fin _ s acc G Rd hb ha hR) (fun v s' hv => ?_) fun _ _ e => e))
    obtain ⟨rfl, hv⟩ := hv
    rcases hst with ⟨rfl, rfl, t, rfl⟩ | ⟨hi0, rfl⟩
    · exact wpAny_pure hv
    · obtain ⟨y, rfl⟩ := ar _ _ _ hi0 ha
      exact wpAny_pure hv
  | succ r ih =>
    intro i s acc c st hst hr hi G Rd hb hZ ha hR
    have hlt : i < n := rm_lt hr
    refine codeAny_builtin F.entry_sum_loop ?_
    rw [Around.under_plainId F.plain_sum_loop _]
    show wpAny _ A.in1 (seqItems? (.ref Z) >>= _) _ _ s
    refine wpAny_bind (wpAny_seqItems hZ rfl ?_)
    show wpAny _ A.in1 (tryCatch (pyNext (.ref a)) _ >>= _) _ _ s
    refine wpAny_bind (wpAny_tryCatch (next_item hA1 (nl _ fun a o e => B.onh G a o (B.bg a o e)) hlt Rd G hb aC fun v h' tk gs' hb' kp G' hj Rd' => ?_))
    obtain ⟨y, rfl⟩ := jr _ _ _ hj
    have hZ' := kp Z _ zC hZ
    have ha' := Am _ _ _ _ ha (gh_mono (g := g) (h₁ := h₁) (Z := Z) (h := s.heap) (h' := h') fun a o n1 n2 e => kp a o (fun q => by
      rcases List.mem_cons.mp q with rfl | q
      · obtain ⟨o', e'⟩ := B.hC; rw [e'] at n1; cases n1
      · rcases List.mem_cons.mp q with rfl | q
        · obtain ⟨o', e'⟩ := B.hI; rw [e'] at n1; cases n1
        · obtain ⟨p, hp, rfl⟩ := List.mem_map.mp q
          obtain ⟨o', e'⟩ := B.hc p hp; rw [e'] at n1; cases n1) e)
    have go : ∀ (s'' : Shared) z c', (∃ h tk, s'' = { s with heap := h, toks := tk, gens := gs' }) → GI h₁ C I Z cl mc Ws (i + 1) s''.heap → GRdy prog w A.in1 g h₁ C I Z a gi cl mc Ws n J (i + 1) s'' → s''.heap.get? Z = some { cls := .type "list", dict := none, data := .seq #[z] c', slots := #[] } → Acc (i + 1) (gh g h₁ Z s''.heap) z →
        codeAny (model prog w) A (.builtin "sum.loop" ⟨[.ref a, .ref Z, rawInt 2, rawInt 0], []⟩) R s'' := by
      rintro s'' z c' ⟨h2, tk2, rfl⟩ G2 Rd2 hZ2 az
      exact ih (i + 1) { s with heap := h2, toks := tk2, gens := gs' } z c' 2 (.inr ⟨Nat.succ_pos _, rfl⟩) (rm_next hr) hlt G2 Rd2 hb' hZ2 az fun h3 tk3 gs3 acc3 => hR h3 tk3 gs3 acc3
    rcases hst with ⟨rfl, rfl, t, rfl⟩ | ⟨hi0, rfl⟩
    · show wpAny _ A.in1 (rule _ >>= _) _ _ _
      refine wpAny_bind (wpAny_rule ?_)
      exact turn R 0 { s with heap := h', toks := tk, gens := gs' } _ _ c hlt G' Rd' hb' hZ' ha' hj (fun | .float .. => 1 | _ => 2) (fun _ => rfl) fun s'' z c' ⟨h2, tk2, e⟩ => go s'' z c' ⟨h2, tk2, e⟩
    · obtain ⟨x, rfl⟩ := ar _ _ _ hi0 ha
      exact turn R i { s with heap := h', toks := tk, gens := gs' } _ _ c hlt G' Rd' hb' hZ' ha' hj (fun _ => 2) (fun _ => rfl) fun s'' z c' ⟨h2, tk2, e⟩ => go s'' z c' ⟨h2, tk2, e⟩
end
end Mine
set_option maxRecDepth 100000
namespace Mine
section
variable {prog : Program} {w : World} {K : Frag} {p : Program} {loose : List Str} {mean : ExcName → Option Value} {mg mb : Str → Option Value} {b : Heap} {S : List Addr} {g0 : FM} {h0 : Heap} {env : Env} {g : FM} {m mc : Str → Option Value} {mu : List (Addr × Obj)} {A : Around} {s : Shared} {E : Value → Shared → Prop}

theorem call_sum {C I a gi : Addr} {cl : List (Str × Addr)} {fp : List Addr} {P : Nat → Value → Prop} {Ws : Nat → Heap → Prop} {n : Nat} {J Acc : Nat → FM → Value → Prop} {k : Nat} {Q : Value → Shared → Prop}
    (W : Wd K p loose mean mg mb b) (hA : Ao (k + 3) A) (H : St b S g0 h0 env g m mc mu s.heap) (G : GenOf prog w b h0 env g mc mu n J k a gi C I cl fp P Ws s)
    (jr : ∀ i g v, J i g v → ∃ y, v = .ref y) (ar : ∀ i g v, 0 < i → Acc i g v → ∃ y, v = .ref y) (Am : ∀ i g g' v, Acc i g v → g.le g' → Acc i g' v) (Jm : ∀ i g g' v, J i g v → g.le g' → J i g' v) (a0 : ∀ g t, Acc 0 g (.int 0 t))
    (add : ∀ (A' : Around) E' i acc v (s₂ : Shared) S' env' g₂ m', Ao (k + 2) A' → i < n → g.le g₂ → Acc i g₂ acc → J i g₂ v → St b S' g₂ s₂.heap env' g₂ m' mc [] s₂.heap →
      wpAny (model prog w) A' (binaryOp .Add acc v) (fun z s₃ => ∃ g₃ h₃ tk₃, s₃ = { s₂ with heap := h₃, toks := tk₃ } ∧ Ev [] g₂ s₂.heap g₃ h₃ ∧ Acc (i + 1) g₃ z) E' s₂)
    (done : ∀ h' tk gs' acc g', g.le g' → AllBare gs' → St b S g0 h0 env g' m mc mu h' → Acc n g' acc → Q acc { s with heap := h', toks := tk, gens := gs' }) :
    wpAny (model prog w) A (call (.builtin "sum") [.ref a]) Q E s := by
  have B := G.base s.heap.objs.size
  have liveLt : ∀ x : Addr, (∃ o, s.heap.get? x = some o) → x ≠ s.heap.objs.size := fun x ⟨o, e⟩ q => absurd (q ▸ Heap.lt_size e) (Nat.lt_irrefl _)
  have z1 : s.heap.get? s.heap.objs.size = none := none_of_ge (Nat.le_refl _)
  have zf : s.heap.objs.size ∉ fp := fun q => by
    by_cases e : s.heap.objs.size = I
    · exact liveLt I B.hI e.symm
    · obtain ⟨o, e'⟩ := B.frz _ q e
      exact liveLt _ ⟨o, H.on _ _ e'⟩ rfl
  have zC : s.heap.objs.size ∉ C :: I :: cl.map (·.2) := fun q => by
    rcases List.mem_cons.mp q with q | q
    · exact liveLt C B.hC q.symm
    · rcases List.mem_cons.mp q with q | q
      · exact liveLt I B.hI q.symm
      · obtain ⟨p, hp, e⟩ := List.mem_map.mp q
        exact liveLt _ (B.hc p hp) e
  have aL : ∃ o, s.heap.get? a = some o := by obtain ⟨o, nm, qn, e, _⟩ := G.isg; exact ⟨o, e⟩
  obtain ⟨gs, hgs, hgo⟩ := G.gs
  refine call_function_tree F.kind_sum F.plain_sum F.entry_sum (F.args_sum1 _) ?_
  unfold Builtin.«sum»
  simp only [List.length_cons, List.length_nil]
  rw [if_neg (by decide)]
  refine wpAny_bind (wpAny_of_eq (show Builtin.Builtins.bindParams "sum" ["start"] 0 { } = pure [none] from rfl) ?_)
  refine wpAny_bind (wpAny_pyIter_gen G.isg ?_)
  refine wpAny_bind (wpAny_mkInt ?_)
  refine wpAny_bind (wpAny_pure ?_)
  simp only [List.forIn_cons, List.forIn_nil]
  refine wpAny_bind (wpAny_bind (wpAny_bind (wpAny_isInstance (T := "int") (b := false) (typeIs_int _ _ _) PySem.sub_int_str ?_)))
  simp only [Bool.false_eq_true, if_false]
  refine wpAny_pure (wpAny_bind (wpAny_bind (wpAny_isInstance (T := "int") (b := false) (typeIs_int _ _ _) PySem.sub_int_bytes ?_)))
  simp only [Bool.false_eq_true, if_false]
  refine wpAny_pure (wpAny_bind (wpAny_bind (wpAny_isInstance (T := "int") (b := false) (typeIs_int _ _ _) PySem.sub_int_bytearray ?_)))
  simp only [Bool.false_eq_true, if_false]
  refine wpAny_pure (wpAny_pure ?_)
  refine wpAny_bind (wpAny_newObj_type ?_)
  refine wpAny_pure ⟨plainId_quiet F.plain_sum_loop _, ?_⟩
  have kp : ∀ x o (o' : Obj), s.heap.get? x = some o → (s.heap.push o').get? x = some o := fun x o o' e => Heap.get?_push_of_some _ e
  have G0 : GI s.heap C I s.heap.objs.size cl mc Ws 0 (s.heap.push { cls := .type "list", dict := none, data := .seq #[.int 0 s.toks] 0, slots := #[] }) := by
    refine ⟨(G.wk _ hA.hh).frame _ _ _ G.w0 fun x _ o e => kp x o _ e, ?_, fun q hq => ?_, fun x o _ e => kp x o _ e, ⟨_, Heap.get?_push_size _ rfl⟩⟩
    · obtain ⟨m', hm⟩ := G.ns
      exact ⟨m', hm.at' fun o e => kp _ o _ e⟩
    · obtain ⟨o, e, d⟩ := H.cell q.1 q.2 (G.cls q hq)
      exact ⟨o, kp _ _ _ e, d⟩
  refine sum_loop (cenv := { env with locals := C, cells := cl }) hA (fun h hb => W.T.nolimit.keeps hb) B G.wk G.aC (liveLt a aL) zf zC z1 rfl rfl jr ar Am Jm (fun A' E' i acc v s₂ S' g₂ m' => add A' E' i acc v s₂ S' _ g₂ m') n 0 _ (.int 0 s.toks) 0 0 (.inl ⟨rfl, rfl, _, rfl⟩) rfl (Nat.zero_le _) G0 ⟨?_, gs, hgs, fun s'' G'' => hgo _ _ hA.in1 s'' G''⟩ G.bare (Heap.get?_push_size _ rfl) (a0 _ _) fun h' tk gs' acc hb' k1 k2 k3 ha => ?_
  · obtain ⟨o, nm, qn, e, r⟩ := G.isg; exact ⟨o, nm, qn, kp _ _ _ e, r⟩
  · exact done h' tk gs' acc _ gh_le hb' (H.after G.nC G.nI G.fC G.fI B.gC B.gI G.cls k1 k2 k3) ha
end
end Mine
set_option maxRecDepth 100000
namespace Mine
section
variable {prog : Program} {w : World} {K : Frag} {p : Program} {loose : List Str} {mean : ExcName → Option Value} {mg mb : Str → Option Value} {b : Heap} {S : List Addr} {g0 : FM} {h0 : Heap} {env : Env} {g : FM} {m mc : Str → Option Value} {mu pre post : List (Addr × Obj)} {A : Around} {s : Shared} {E : Value → Shared → Prop}

theorem seg_start {elt iter : Expr} {x : Str} {px : Pos} {scope : Scope} {pos : Pos} {C I Z : Addr} {cl : List (Str × Addr)} {fp : List Addr} {n : Nat} {P : Nat → Value → Prop} {Ws : Nat → Heap → Prop} {cenv : Env} {h₁ : Heap} {J : Nat → FM → Value → Prop} {k : Nat}
    (hA : Ao (k + 1) A) (W₀ : ∀ A' : Around, A'.handled = none → Walks prog w A' I fp [I] n P Ws) (G : GI h₁ C I Z cl mc Ws 0 s.heap)
    (loop : Seg (model prog w) A (RP I) (YP g h₁ C I Z cl mc Ws n J) n s (.compLoop (.GeneratorExp elt [⟨.Name x px, iter, [], 0⟩] scope pos) 0 (.ref I) .none cenv)
        ((model prog w).den (.compLoop (.GeneratorExp elt [⟨.Name x px, iter, [], 0⟩] scope pos) 0 (.ref I) .none cenv)) [] s) :
    Seg (model prog w) A (RP I) (YP g h₁ C I Z cl mc Ws n J) n s (.compStart (.GeneratorExp elt [⟨.Name x px, iter, [], 0⟩] scope pos) 0 (.ref I) .none cenv)
        ((model prog w).den (.compStart (.GeneratorExp elt [⟨.Name x px, iter, [], 0⟩] scope pos) 0 (.ref I) .none cenv)) [] s := by
  have hA' : (A.over (.compStart (.GeneratorExp elt [⟨.Name x px, iter, [], 0⟩] scope pos) 0 (.ref I) .none cenv) []).handled = none := hA.hh
  show Seg _ A _ _ _ s _ ((compStart (.GeneratorExp elt [⟨.Name x px, iter, [], 0⟩] scope pos) 0 (.ref I) .none cenv).onRaise (leaving cenv)) [] s
  unfold compStart
  rw [Sem.onRaise_eq_wrap]
  show Seg _ A _ _ _ s _ ((ask >>= _).wrap _ _ _ _) [] s
  refine seg_bind_wrap (wpAny_askSetting ?_)
  split
  · exact seg_again rfl loop
  · refine seg_bind_wrap (wpAny_rule ?_)
    show Seg _ A _ _ _ s _ ((standAt iter.pos >>= _).wrap _ _ _ _) [] s
    exact seg_bind_wrap (wpAny_standAt (seg_bind_wrap ((W₀ _ hA').self 0 s _ _ G.it (seg_again rfl loop))))

structure GeOk (env : Env) (scope : Scope) (cl : List (Str × Addr)) (x : Str) : Prop where
  co : scope.isCoroutine = false
  clos : closureFor scope env = pure cl
  caught : Caught env cl
  cell : ∀ y ∈ scope.names, y.2 ≠ .cell
  l0 : scope.names.lookup (".0" : Str) = some NameKind.local
  lx : scope.names.lookup x = some .local
  kind : scope.kind = .function
  nn : (cl.map (·.1)).Nodup

abbrev GenGo (prog : Program) (w : World) (A : Around) (E : Value → Shared → Prop) (env : Env) (scope : Scope) (cl : List (Str × Addr)) (elt iter : Expr) (x : Str) (px pos : Pos) (Q : Value → Shared → Prop) (xv : Value) (s : Shared) : Prop :=
  wpAny (model prog w) A (pyIter xv) (fun it s₂ => s₂.heap.NoLimit ∧
      wpAny (model prog w) A (genexprCode env pos (env.qual ++ "<genexpr>") scope) (fun code s₃ => wpAny (model prog w) A (builtinsFor env.globals env.builtins) (fun bi s₄ =>
        ∀ h', h'.Ns s₄.heap.objs.size (fun y => if y = ".0" then some it else none) → Heap.SameBut s₄.heap.objs.size (s₄.heap.push { cls := .type "frame", data := .dict #[] }) h' →
          Q (.ref h'.objs.size) { s₄ with
            gens := s₄.gens.push (.fresh (.compStart (.GeneratorExp elt [⟨.Name x px, iter, [], 0⟩] scope pos) 0 it .none (genEnv scope cl s₄.heap.objs.size code bi env))),
            toks := s₄.toks + 1 + 1 + 1,
            heap := h'.push { cls := .type "generator", data := .fields #[.int s₄.gens.size 0, .str "<genexpr>" (s₄.toks + 1), .str (env.qual ++ "<genexpr>") (s₄.toks + 1 + 1)] } }) E s₃) E s₂) E s

theorem ev_ge {elt iter : Expr} {x : Str} {px pos : Pos} {scope : Scope} {cl : List (Str × Addr)} {Q : Value → Shared → Prop} {n : Nat} (hA : Ao n A) (ok : GeOk env scope cl x)
    (h : GeOk env scope cl x → wpAny (model prog w) A (eval iter env) (GenGo prog w A E env scope cl elt iter x px pos Q) E s) (hs : ∀ x, genFold iter env x = pure x := by intro _; rfl) :
    wpAny (model prog w) A (eval (.GeneratorExp elt [⟨.Name x px, iter, [], 0⟩] scope pos) env) Q E s :=
  wpAny_GeneratorExp_make ok.co ok.clos ok.cell ok.l0 ok.kind hA.room (h ok) hs

theorem gen_run {elt iter : Expr} {x : Str} {px pos : Pos} {scope : Scope} {cl : List (Str × Addr)} {Q : Value → Shared → Prop} {n : Nat} {P : Nat → Value → Prop} {xv : Value} {J : Nat → FM → Value → Prop} {k : Nat} {T c : Addr} {ps : Array Value}
    (W : Wd K p loose mean mg mb b) (ok : GeOk env scope cl x) (H : St b S g0 h0 env g m mc (pre ++ (T, tabObj ps) :: post) s.heap) (ht : TriplesOk ps.toList) (hcd : codeHdIn K c T = true) (hb : AllBare s.gens) (src : SrcA prog w A n P g xv s.heap) (Jm : ∀ i g g' v, J i g v → g.le g' → J i g' v)
    (elt_ : ∀ (C : Addr) (code : Value) (A' : Around) E' i v (s₂ : Shared) g₂ m', Ao k A' → i < n → P i v → g.le g₂ → St b (C :: cl.map (·.2)) g₂ s₂.heap (genEnv scope cl C code builtinsNs env) g₂ (up x v m') mc [] s₂.heap →
      wpAny (model prog w) A' (eval elt (genEnv scope cl C code builtinsNs env)) (fun y s₃ => ∃ g₃ h₃ tk₃, s₃ = { s₂ with heap := h₃, toks := tk₃ } ∧ St b (C :: cl.map (·.2)) g₂ s₂.heap (genEnv scope cl C code builtinsNs env) g₃ (up x v m') mc [] h₃ ∧ J i g₃ y) E' s₂)
    (done : ∀ a gi C I fp Ws ps' h₁ tk gs, TriplesOk ps'.toList → St b S g0 h0 env g m mc (pre ++ (T, tabObj ps') :: post) h₁ → GenOf prog w b h0 env g mc (pre ++ (T, tabObj ps') :: post) n J k a gi C I cl fp P Ws { s with heap := h₁, toks := tk, gens := gs } → Q (.ref a) { s with heap := h₁, toks := tk, gens := gs })
    (hc : env.code = .ref c := by with_unfolding_all rfl) (hg : env.globals = mainGlobals := by with_unfolding_all rfl) :
    GenGo prog w A E env scope cl elt iter x px pos Q xv s := by
  refine src s _ _ rfl fun I fp Ws h' Wk w0 live fresh frz keep hsz => ?_
  have H' := H.keeps keep
  have hT' := H'.muAt
  have hd := codeHd_of_K (H'.Xh W) hcd
  have gT : g T = none := (H'.own T (owns_mu (p := (T, tabObj ps)) (List.mem_append_right _ (.head _)))).1
  have IT : I ≠ T := fun q => by
    have := H.muAt
    rw [← q, fresh] at this; cases this
  refine ⟨W.T.nolimit.keeps H'.base, ?_⟩
  have rest : ∀ (code : Value) (ps' : Array Value) (h₃ : Heap) (tk₃ : Nat), TriplesOk ps'.toList → Heap.ExtBut T h' h₃ → h'.objs.size ≤ h₃.objs.size → St b S g0 h0 env g m mc (pre ++ (T, tabObj ps') :: post) h₃ →
      wpAny (model prog w) A (builtinsFor env.globals env.builtins) (fun bi s₄ =>
        ∀ h', h'.Ns s₄.heap.objs.size (fun y => if y = ".0" then some (.ref I) else none) → Heap.SameBut s₄.heap.objs.size (s₄.heap.push { cls := .type "frame", data := .dict #[] }) h' →
          Q (.ref h'.objs.size) { s₄ with
            gens := s₄.gens.push (.fresh (.compStart (.GeneratorExp elt [⟨.Name x px, iter, [], 0⟩] scope pos) 0 (.ref I) .none (genEnv scope cl s₄.heap.objs.size code bi env))),
            toks := s₄.toks + 1 + 1 + 1,
            heap := h'.push { cls := .type "generator", data := .fields #[.int s₄.gens.size 0, .str "<genexpr>" (s₄.toks + 1), .str (env.qual ++ "<genexpr>") (s₄.toks + 1 + 1)] } }) E { s with heap := h₃, toks := tk₃ } := by
    intro code ps' h₃ tk₃ ht' hx₃ hs₃ H3
    obtain ⟨bm, ob, M0⟩ := W.M
    have M := M0.keeps H3.base
    refine wpAny_builtinsFor (m := mg) (by rw [hg]; exact M.ns) M.name M.ne M.obj M.cls M.dict M.data ?_
    intro h4 hns hsb
    have sz4 : h4.objs.size = h₃.objs.size + 1 := by have := hsb.1; rw [this, Heap.size_push]
    have kp4 : ∀ a o, h₃.get? a = some o → h4.get? a = some o := fun a o e => hsb.extBut a o (fun q => absurd (q ▸ Heap.lt_size e) (Nat.lt_irrefl _)) (Heap.get?_push_of_some _ e)
    have kp1 : ∀ a o (o' : Obj), h₃.get? a = some o → (h4.push o').get? a = some o := fun a o o' e => Heap.get?_push_of_some _ (kp4 a o e)
    have fC : h₃.get? h₃.objs.size = none := none_of_ge (Nat.le_refl _)
    have w3 : Ws 0 h₃ := (Wk callerA rfl).frame _ _ _ w0 fun a ha o e => hx₃ a o (fun q => by
      by_cases z : a = I
      · exact IT (z ▸ q)
      · obtain ⟨o', e'⟩ := frz a ha z
        rw [q, gT] at e'; cases e') e
    obtain ⟨oI, hI⟩ := live 0 _ w3
    have lt3 : ∀ a, (∃ o, h₃.get? a = some o) → a < h₃.objs.size := fun a ⟨o, e⟩ => Heap.lt_size e
    have clE : ∀ q ∈ cl, q ∈ env.cells := fun q hq => mem_of_lookup (ok.caught.all q hq)
    have cL : ∀ q ∈ cl, ∃ o, h₃.get? q.2 = some o := fun q hq => by obtain ⟨o, e, _⟩ := H3.cell q.1 q.2 (clE q hq); exact ⟨o, e⟩
    have nI : I ∉ owns env (pre ++ (T, tabObj ps') :: post) := fun q => by
      have : I ∉ owns env (pre ++ (T, tabObj ps) :: post) := H.not_owned fresh
      refine this ?_
      unfold owns at q ⊢
      rw [List.map_append, List.map_cons] at q ⊢
      exact q
    have cIn : ∀ q ∈ cl, q.2 ∈ owns env (pre ++ (T, tabObj ps') :: post) := fun q hq => .tail _ (List.mem_append_left _ (List.mem_map_of_mem (clE q hq)))
    have nd3 := H3.nd
    unfold owns at nd3
    have ndc : (env.cells.map (·.2)).Nodup := (List.nodup_append.mp (List.nodup_cons.mp nd3).2).1
    have clA : (cl.map (·.2)).Nodup := by
      have : ∀ l : List (Str × Addr), (l.map (·.1)).Nodup → (∀ p ∈ l, p ∈ env.cells) → (l.map (·.2)).Nodup := by
        intro l
        induction l with
        | nil => exact fun _ _ => List.nodup_nil
        | cons p r ih =>
          intro h1 h2
          rw [List.map_cons] at h1 ⊢
          obtain ⟨h3, h4⟩ := List.nodup_cons.mp h1
          refine List.nodup_cons.mpr ⟨fun q => ?_, ih h4 fun x hx => h2 x (.tail _ hx)⟩
          obtain ⟨x, hx, e⟩ := List.mem_map.mp q
          have : x.1 = p.1 := cell_inj ndc (c := p.2) (e ▸ h2 x (.tail _ hx)) (h2 p (.head _))
          exact h3 (this ▸ List.mem_map_of_mem hx)
      exact this cl ok.nn clE
    have H1 := fun (o' : Obj) => H3.keeps (fun a o e => kp1 a o o' e)
    have hCn : ∀ q ∈ I :: cl.map (·.2), h₃.objs.size ≠ q := fun q hq e => by
      rcases List.mem_cons.mp hq with r | r
      · exact absurd (e ▸ r ▸ lt3 I ⟨oI, hI⟩) (Nat.lt_irrefl _)
      · obtain ⟨p, hp, r⟩ := List.mem_map.mp r
        exact absurd (e ▸ r ▸ lt3 p.2 (cL p hp)) (Nat.lt_irrefl _)
    refine done h4.objs.size s.gens.size h₃.objs.size I fp Ws ps' _ _ _ ht' (H1 _) ?_
    have base : ∀ (o' : Obj) (Z : Addr), GBase b g (h4.push o') h₃.objs.size I Z cl fp Ws := fun o' Z =>
      { bg := H3.bg
        lo := H3.Bg.lo
        on := (H1 o').on
        gC := H3.gfresh fC
        gI := H.gfresh fresh
        gc := fun q hq => (H3.own _ (cIn q hq)).1
        hC := by obtain ⟨o, _, _, e, _⟩ := hns; exact ⟨o, Heap.get?_push_of_some _ e⟩
        hI := ⟨_, kp1 _ _ _ hI⟩
        hc := fun q hq => by obtain ⟨o, e⟩ := cL q hq; exact ⟨o, kp1 _ _ _ e⟩
        nd := List.nodup_cons.mpr ⟨fun q => hCn _ q rfl, List.nodup_cons.mpr ⟨fun q => by
          obtain ⟨p, hp, e⟩ := List.mem_map.mp q
          exact nI (e ▸ cIn p hp), clA⟩⟩
        nn := ok.nn
        lv := live
        frz := frz }
    exact
      { isg := ⟨_, _, _, Heap.get?_push_size _ rfl, rfl, rfl, rfl⟩
        gs := ⟨_, Array.getElem?_push_size .., fun Z A1 hA1 s'' G'' => ⟨rfl, by
          have B := base { cls := .type "generator", data := .fields #[.int s.gens.size 0, .str "<genexpr>" (tk₃ + 1), .str (env.qual ++ "<genexpr>") (tk₃ + 1 + 1)] } Z
          refine seg_start (k := k) hA1.in1 Wk G'' ?_
          have := seg_gen (iter := iter) (px := px) (scope := scope) (pos := pos) (cenv := genEnv scope cl h₃.objs.size code builtinsNs env) hA1.in1 Wk B Jm rfl rfl ok.lx ok.kind ok.co (fun A' E' i v s₂ g₂ m' => elt_ _ code A' E' i v s₂ g₂ m') n 0 s'' rfl (Nat.zero_le _) G''
          exact this⟩⟩
        base := base _
        wk := Wk
        w0 := (Wk callerA rfl).frame _ _ _ w3 fun a _ o e => kp1 a o _ e
        ns := ⟨_, hns.push _⟩
        nC := fun q => H3.not_owned fC q
        nI := nI
        fC := H3.h0fresh fC
        fI := H.h0fresh fresh
        aC := fun q => by
          rcases List.mem_cons.mp q with r | r
          · rw [sz4] at r; exact absurd r (Nat.succ_ne_self _)
          · have l : ∀ q ∈ I :: cl.map (·.2), @LT.lt Nat _ q h₃.objs.size := fun q hq => by
              rcases List.mem_cons.mp hq with e | e
              · exact e ▸ lt3 I ⟨oI, hI⟩
              · obtain ⟨p, hp, e⟩ := List.mem_map.mp e
                exact e ▸ lt3 p.2 (cL p hp)
            have := l _ r
            rw [sz4] at this
            exact absurd this (by exact Nat.not_lt.mpr (Nat.le_succ _))
        cls := clE
        bare := hb.push rfl }
  cases hq : codeAmong pos ps.toList with
  | some c' => exact wpAny_genexprCode_hit hc (hd.code hT' ht) hq (rest c' ps h' _ ht (fun _ _ _ e => e) (Nat.le_refl _) H')
  | none =>
    refine wpAny_genexprCodeX hc (hd.code hT' ht) (hd.tab hT') hq fun c' h₃ tk₃ hx₃ hge hlt hcode₃ _ htab₃ _ => ?_
    refine rest (.ref c') _ h₃ tk₃ ?_ hx₃ (Nat.le_trans hge (Nat.le_of_lt hlt)) (H'.updAt htab₃.2 hx₃)
    obtain ⟨_, _, _, _, _, _, _, _, _, op, _, _, _, _, _, _, _, hop, hpd, htr, _⟩ := hcode₃
    exact htr
end
end Mine
set_option maxRecDepth 100000
namespace Mine
theorem SrcA.list {prog : Program} {w : World} {A : Around} {g : FM} {h : Heap} {l : Addr} {o : Obj} {vs : List Value} (hg : g l = some o) (on : g.on h) (hl : h.IsList l vs.toArray) : SrcA prog w A vs.length (fun i v => vs[i]? = some v) g (.ref l) h := by
  intro s Q E hs k
  subst hs
  refine wpAny_pyIter_list hl ?_
  have hlt : l < s.heap.objs.size := by obtain ⟨_, e, _⟩ := hl; exact Heap.lt_size e
  have W := fun (A' : Around) (hh : A'.handled = none) => Walks.list (prog := prog) (w := w) hh s.heap.objs.size l (Nat.ne_of_lt hlt) vs.toArray
  have e : vs.toArray.size = vs.length := List.size_toArray ..
  rw [e] at W
  refine k s.heap.objs.size [s.heap.objs.size, l] (fun i h => h.IsListIter s.heap.objs.size l i ∧ h.IsList l vs.toArray) _ (fun A' hh => ⟨(W A' hh).sub, (W A' hh).frame, fun i s Q E hi st hQ => (W A' hh).item i s Q E hi st fun v h' tk hp => hQ v h' tk (by simpa using hp), (W A' hh).done, (W A' hh).self⟩)
    ⟨⟨_, Heap.get?_push_size _ rfl, rfl, rfl⟩, hl.push _⟩ (fun i h e => ⟨_, e.1.choose_spec.1⟩) (none_of_ge (Nat.le_refl _)) (fun x hx n => ?_) (fun _ _ e => Heap.get?_push_of_some _ e) (by rw [Heap.size_push]; exact Nat.le_succ _)
  rcases List.mem_cons.mp hx with rfl | hx
  · exact absurd rfl n
  · exact ⟨o, (List.mem_singleton.mp hx) ▸ hg⟩

section
variable {prog : Program} {w : World} {K : Frag} {p : Program} {loose : List Str} {mean : ExcName → Option Value} {mg mb : Str → Option Value} {b : Heap} {S : List Addr} {g0 : FM} {h0 : Heap} {env : Env} {g : FM} {m mc : Str → Option Value} {mu : List (Addr × Obj)} {A : Around} {s : Shared} {E : Value → Shared → Prop}

theorem all_loop {C I a gi : Addr} {cl : List (Str × Addr)} {h₁ : Heap} {fp : List Addr} {Ws : Nat → Heap → Prop} {n : Nat} {J : Nat → FM → Value → Prop} {k : Nat} {R : Result → Shared → Prop}
    (hA : Ao (k + 3) A) (nl : ∀ h : Heap, (∀ a o, b.get? a = some o → h.get? a = some o) → h.NoLimit) (B : GBase b g h₁ C I C cl fp Ws) (aC : a ∉ C :: I :: cl.map (·.2)) (jt : ∀ i g v, J i g v → v = .bool true) :
    ∀ (r i : Nat) (s : Shared), n - i = r → i ≤ n → GI h₁ C I C cl mc Ws i s.heap → GRdy prog w A.in1 g h₁ C I C a gi cl mc Ws n J i s → AllBare s.gens →
      (∀ h' tk gs', AllBare gs' → (∀ a o, a ∉ C :: I :: cl.map (·.2) → h₁.get? a = some o → h'.get? a = some o) → (∀ q ∈ cl, h'.IsCell q.2 (mc q.1)) → (∀ a o, a ≠ I → h₁.get? a = some o → ∃ o', h'.get? a = some o') → R (.ok (.ret (.bool true))) { s with heap := h', toks := tk, gens := gs' }) →
      codeAny (model prog w) A (.builtin "all.loop" ⟨[.ref a], []⟩) R s := by
  have hA1 : Ao (k + 2) A.in1 := hA.in1
  intro r
  induction r with
  | zero =>
    intro i s hr hi G Rd hb hR
    obtain rfl : i = n := rm_done hr hi
    refine codeAny_builtin F.entry_all_loop ?_
    rw [Around.under_plainId F.plain_all_loop _]
    show wpAny _ A.in1 (pyNext (.ref a) >>= _) _ _ s
    refine wpAny_bind (next_done hA1 (nl _ fun a o e => B.onh G a o (B.bg a o e)) Rd G hb fun h' tk gs' hb' kp => ?_)
    refine wpAny_bind (wpAny_rule (wpAny_pure (hR h' tk gs' hb' (fun a o n e => kp a o (fun q => n (q ▸ .tail _ (.head _))) (G.keep a o n e)) (fun q hq => ?_) fun a o q e => ?_)))
    · obtain ⟨o, e, d⟩ := G.cell q hq
      refine ⟨o, kp _ _ (fun z => ?_) e, d⟩
      have nd := B.nd
      rw [List.nodup_cons, List.nodup_cons] at nd
      exact nd.2.1 (z ▸ List.mem_map_of_mem hq)
    · obtain ⟨o', e'⟩ := G.live B.lv a o e
      exact ⟨o', kp _ _ q e'⟩
  | succ r ih =>
    intro i s hr hi G Rd hb hR
    refine codeAny_builtin F.entry_all_loop ?_
    rw [Around.under_plainId F.plain_all_loop _]
    show wpAny _ A.in1 (pyNext (.ref a) >>= _) _ _ s
    refine wpAny_bind (next_item hA1 (nl _ fun a o e => B.onh G a o (B.bg a o e)) (rm_lt hr) Rd G hb aC fun v h' tk gs' hb' kp G' hj Rd' => ?_)
    obtain rfl := jt _ _ _ hj
    refine wpAny_bind (wpAny_holding (wpAny_truthy_bool ?_))
    refine wpAny_bind (wpAny_letGo ?_)
    simp only [if_true]
    exact wpAny_pure ⟨plainId_quiet F.plain_all_loop _, ih (i + 1) { s with heap := h', toks := tk, gens := gs' } (rm_next hr) (rm_lt hr) G' Rd' hb' fun h2 tk2 gs2 => hR h2 tk2 gs2⟩

theorem call_all {C I a gi : Addr} {cl : List (Str × Addr)} {fp : List Addr} {P : Nat → Value → Prop} {Ws : Nat → Heap → Prop} {n : Nat} {J : Nat → FM → Value → Prop} {k : Nat} {Q : Value → Shared → Prop}
    (W : Wd K p loose mean mg mb b) (hA : Ao (k + 3) A) (H : St b S g0 h0 env g m mc mu s.heap) (G : GenOf prog w b h0 env g mc mu n J k a gi C I cl fp P Ws s) (jt : ∀ i g v, J i g v → v = .bool true)
    (done : ∀ h' tk gs' g', g.le g' → AllBare gs' → St b S g0 h0 env g' m mc mu h' → Q (.bool true) { s with heap := h', toks := tk, gens := gs' }) :
    wpAny (model prog w) A (call (.builtin "all") [.ref a]) Q E s := by
  have B := G.base C
  obtain ⟨gs, hgs, hgo⟩ := G.gs
  refine call_function_tree F.kind_all F.plain_all F.entry_all (F.args_all1 _) ?_
  unfold Builtin.«all»
  refine wpAny_bind (m := oneArg "all" _) (wpAny_pure ?_)
  refine wpAny_bind (wpAny_pyIter_gen G.isg ?_)
  have G0 : GI s.heap C I C cl mc Ws 0 s.heap := ⟨G.w0, G.ns, fun q hq => H.cell q.1 q.2 (G.cls q hq), fun _ _ _ e => e, B.hC⟩
  refine wpAny_pure ⟨plainId_quiet F.plain_all_loop _, all_loop hA (fun h hb => W.T.nolimit.keeps hb) B G.aC jt n 0 s rfl (Nat.zero_le _) G0 ⟨G.isg, gs, hgs, fun s'' G'' => hgo _ _ hA.in1 s'' G''⟩ G.bare fun h' tk gs' hb' k1 k2 k3 => ?_⟩
  exact done h' tk gs' _ (gh_le (g := g) (h₁ := s.heap) (Z := C)) hb' (H.after G.nC G.nI G.fC G.fI B.gC B.gI G.cls k1 k2 k3)
end

-- lists of things
def Refs (P : Nat → Addr → Prop) (ys : List Value) : Prop := ∀ k v, ys[k]? = some v → ∃ x, v = .ref x ∧ P k x
theorem Refs.nil {P : Nat → Addr → Prop} : Refs P [] := fun k v e => by cases e
theorem Refs.push {P : Nat → Addr → Prop} {ys : List Value} {x : Addr} {n : Nat} (h : Refs P ys) (e : ys.length = n) (hx : P n x) : Refs P (ys ++ [.ref x]) := fun k v q => by
  subst e
  by_cases l : k < ys.length
  · rw [List.getElem?_append_left l] at q; exact h k v q
  · rw [List.getElem?_append_right (by omega)] at q
    have : k - ys.length = 0 := by
      rcases Nat.eq_zero_or_pos (k - ys.length) with r | r
      · exact r
      · rw [List.getElem?_eq_none (by simp; omega)] at q; cases q
    rw [this] at q
    have e : k = ys.length := by omega
    subst e
    exact ⟨x, (Option.some.inj q).symm, hx⟩
theorem Refs.mono {P P' : Nat → Addr → Prop} {ys : List Value} (h : Refs P ys) (i : ∀ k x, P k x → P' k x) : Refs P' ys := fun k v e => let ⟨x, r, p⟩ := h k v e; ⟨x, r, i k x p⟩
/-- a list of n things that stand for good -/
def LsOf (g : FM) (l : Addr) (n : Nat) (P : Nat → Addr → Prop) : Prop := ∃ vs o, g l = some o ∧ IsL o vs ∧ vs.length = n ∧ Refs P vs
theorem LsOf.mono {g g' : FM} {l : Addr} {n : Nat} {P P' : Nat → Addr → Prop} (h : LsOf g l n P) (le : g.le g') (i : ∀ k x, P k x → P' k x) : LsOf g' l n P' := let ⟨vs, o, e, a, b, c⟩ := h; ⟨vs, o, le _ _ e, a, b, c.mono i⟩
theorem LsOf.at {g : FM} {l : Addr} {n i : Nat} {P : Nat → Addr → Prop} (h : LsOf g l n P) (hi : i < n) : ∃ x, P i x := by
  obtain ⟨vs, o, e, a, rfl, c⟩ := h
  obtain ⟨x, _, p⟩ := c i _ (List.getElem?_eq_getElem hi)
  exact ⟨x, p⟩
section
variable {prog : Program} {w : World} {b : Heap} {S : List Addr} {g0 : FM} {h0 : Heap} {env : Env} {g : FM} {m mc : Str → Option Value} {mu : List (Addr × Obj)} {A : Around} {s : Shared} {E : Value → Shared → Prop}
theorem LsOf.isl {l : Addr} {n : Nat} {P : Nat → Addr → Prop} {h : Heap} (x : LsOf g l n P) (on : g.on h) : ∃ vs, h.IsList l vs.toArray ∧ vs.length = n ∧ Refs P vs := let ⟨vs, o, e, a, b, c⟩ := x; ⟨vs, a.at_ (on _ _ e), b, c⟩
theorem ls_sub {value slice : Expr} {l : Addr} {n i : Nat} {P : Nat → Addr → Prop} {k : Int} {t : Tok} {Q : Value → Shared → Prop} (H : St b S g0 h0 env g m mc mu s.heap) (I : LsOf g l n P) (hk : k = i) (hi : i < n) (hn : n ≤ 1000) (h : ∀ x, P i x → Q (.ref x) s)
    (hs : subscripted slice false (.ref l) (.int k t) = operate [.ref l, .int k t] (getItem (.ref l) (.int k t)) := by with_unfolding_all rfl) :
    wpAny (model prog w) A (subscriptTail value slice (.ref l) (.int k t)) Q E s := by
  subst hk
  obtain ⟨vs, hl, e, r⟩ := I.isl H.on
  obtain ⟨x, rx, px⟩ := r i _ (List.getElem?_eq_getElem (e ▸ hi))
  exact sub_list hl (by omega) (by omega) (v := .ref x) (by rw [show ((i : Int)).toNat = i by omega, List.getElem?_eq_getElem (e ▸ hi), rx]) (h x px) hs
theorem ls_len {l : Addr} {n : Nat} {P : Nat → Addr → Prop} {Q : Value → Shared → Prop} (H : St b S g0 h0 env g m mc mu s.heap) (I : LsOf g l n P) (hn : n ≤ 1000) (h : Q (.int n (s.toks + 1)) { s with toks := s.toks + 1 + 1 }) :
    wpAny (model prog w) A (call (.builtin "len") [.ref l]) Q E s := by
  obtain ⟨vs, hl, e, r⟩ := I.isl H.on
  exact len_list hl (by omega) (by rw [e]; exact h)
theorem ls_src {l : Addr} {n : Nat} {P : Nat → Addr → Prop} {h : Heap} (hh : A.handled = none) (I : LsOf g l n P) (on : g.on h) : Src prog w A n (fun i v => ∃ x, v = .ref x ∧ P i x) g (.ref l) h := by
  obtain ⟨vs, o, e, a, rfl, c⟩ := I
  intro s Q E hs k
  refine Src.list hh e on (a.at_ (on _ _ e)) s Q E hs fun I fp Ws h' W => k I fp Ws h' ⟨W.sub, W.frame, fun i s Q E hi st hQ => W.item i s Q E hi st fun v h' tk hp => hQ v h' tk (c i v hp), W.done, W.self⟩
theorem ls_srcA {l : Addr} {n : Nat} {P : Nat → Addr → Prop} {h : Heap} (I : LsOf g l n P) (on : g.on h) : SrcA prog w A n (fun i v => ∃ x, v = .ref x ∧ P i x) g (.ref l) h := by
  obtain ⟨vs, o, e, a, rfl, c⟩ := I
  intro s Q E hs k
  refine SrcA.list e on (a.at_ (on _ _ e)) s Q E hs fun I fp Ws h' W => k I fp Ws h' fun A' hh => ⟨(W A' hh).sub, (W A' hh).frame, fun i s Q E hi st hQ => (W A' hh).item i s Q E hi st fun v h' tk hp => hQ v h' tk (c i v hp), (W A' hh).done, (W A' hh).self⟩
/-- a list just made, put away for good -/
theorem St.freezeLs {a : Addr} {o : Obj} {vs : List Value} {n : Nat} {P : Nat → Addr → Prop} {h : Heap} (H : St b S g0 h0 env g m mc ((a, o) :: mu) h) (h0a : h0.get? a = none) (isl : IsL o vs) (e : vs.length = n) (r : Refs P vs) :
    ∃ g', g.le g' ∧ LsOf g' a n P ∧ St b S g0 h0 env g' m mc mu h :=
  ⟨_, (H.freeze h0a).2, ⟨vs, o, FM.put_self .., isl, e, r⟩, (H.freeze h0a).1⟩
end
end Mine
set_option maxRecDepth 100000
namespace Mine
section
variable {prog : Program} {w : World} {K : Frag} {A : Around} {E : Value → Shared → Prop} {s : Shared} {x C f : Addr} {ox : Obj} {od : Option Obj}
theorem ifBound_slot {M : Model} {T n id : String} {name : Str} {args : List Value} {Q : Option Value → Shared → Prop} (X : K.In s.heap) (I : InstAt s.heap x ox C od) (hs : findIn K (.ref C) name = some (some (.builtin id))) (hb : ∀ self, bindSpecial (.builtin id) self = pure (.builtin id, [self]))
    (h : wpAny M A (call (.builtin id) (.ref x :: args)) (fun v => Q (some v)) E s) : wpAny M A (callSpecialIfBound? (.ref x) name args) Q E s := by
  simp only [callSpecialIfBound?, bindSpecialIfBound?]
  refine wpAny_holding (wpAny_bind (wpAny_bind (wpAny_bind (I.type.here ((looks_findIn X hs).here ?_)))))
  refine wpAny_bind (wpAny_askSetting (wpAny_ite ?_))
  have fin : wpAny M A (call (.builtin id) ([.ref x] ++ args) >>= fun v => pure (some v)) Q E s := wpAny_bind (wpAny_mono h (fun v s' h' => wpAny_pure h') fun _ _ h' => h')
  have B : Looks M s.heap (bindSpecial (.builtin id) (.ref x)) (.builtin id, [.ref x]) := Looks.of_pure (hb _)
  split
  · exact wpAny_bind (B.here (wpAny_pure (by exact fin)))
  · exact wpAny_tryCatch (wpAny_bind (B.here (wpAny_pure (by exact fin))))

/-- an object told from itself: no -/
theorem ne_self {Q : Value → Shared → Prop} (X : K.In s.heap) (I : InstAt s.heap x ox C od) (hs : findIn K (.ref C) "__ne__" = some (some (.builtin "object.__ne__"))) (he : findIn K (.ref C) "__eq__" = some (some (.builtin "object.__eq__")))
    (hm : mroIn K C (.type "object") = some true) (hu : A.units + 1 < cLine) (h : Q (.bool false) s) : wpAny (model prog w) A (compareOp .NotEq (.ref x) (.ref x)) Q E s := by
  have hu0 : A.units < cLine := Nat.lt_of_succ_lt hu
  have sub : Looks (model prog w) s.heap (isInstance (.ref x) (.type "object")) true := I.type.andThen (looks_mroIn X hm)
  have ceq : ∀ {A : Around} {E : Value → Shared → Prop} {Q : Option Value → Shared → Prop}, Q (some (.bool true)) s → wpAny (model prog w) A (callSpecialIfBound? (.ref x) "__eq__" [.ref x]) Q E s := fun {A E Q} hq =>
    ifBound_slot (T := "object") (n := "__eq__") X I he PySem.F.cmp_object.eq.bind (wpAny_call (codeAny_call_builtin PySem.F.cmp_object.eq.plain PySem.F.cmpEntry_eq
      (@check_slot (model prog w) _ _ s "object.__eq__" "object" "__eq__" (.ref x) [.ref x] [] _ PySem.F.cmpKind_eq PySem.F.cmpSplit_eq sub (PySem.F.cmpArgs_eq _ _) (objEq_entry_same hq))))
  show wpAny (model prog w) A (richCompare .NotEq (.ref x) (.ref x)) Q E s
  unfold richCompare
  simp only [oneThing_ref, cmpInfo_NotEq]
  refine wpAny_holding (wpAny_bind (wpAny_cRoomFor hu0 ?_))
  refine wpAny_bind (I.type.here (wpAny_bind (I.type.here ?_)))
  simp only [bne_self_eq_false, Bool.false_eq_true, if_false]
  refine wpAny_bind (wpAny_pure ?_)
  simp only [Bool.false_eq_true, if_false]
  refine wpAny_bind ?_
  unfold tryCompare
  refine wpAny_bind (ifBound_slot (T := "object") (n := "__ne__") X I hs PySem.F.cmp_object.ne.bind (wpAny_call (codeAny_call_builtin PySem.F.cmp_object.ne.plain PySem.F.cmpEntry_ne
      (@check_slot (model prog w) _ _ s "object.__ne__" "object" "__ne__" (.ref x) [.ref x] [] _ PySem.F.cmpKind_ne PySem.F.cmpSplit_ne sub (PySem.F.cmpArgs_ne _ _) ?_))))
  unfold Builtin.«object.__ne__»
  repeat (first | with_reducible refine wpAny_cRoomFor (A := A.in1) hu ?_ | with_reducible refine ceq ?_ | wp_step)
  exact h

theorem int_add_ref {y : Addr} {o : Obj} {a : Int} {t : Tok} {Q : Value → Shared → Prop} (ho : s.heap.get? y = some o) (hd : o.data = .plain) (h : Q .notImplemented s) :
    wpAny (model prog w) A (call (.builtin "int.__add__") [.int a t, .ref y]) Q E s := by
  refine wpAny_call_entry PySem.F.slot_int_add (typeIs_int s a t) PySem.F.entry_int_add ?_ (PySem.F.args_int_add_2 _ _)
  unfold Builtin.«int.__add__» Builtin.Int.intBinary
  refine wpAny_bind (wpAny_pure ?_)
  refine wpAny_bind (wpAny_pure ?_)
  refine wpAny_bind (wpAny_bind (wpAny_load ho ?_))
  rw [hd]
  exact wpAny_pure (wpAny_bind (wpAny_rule (wpAny_pure ⟨_, rfl, h⟩)))

set_option maxHeartbeats 1000000 in
/-- a whole number and an object: the object's own word from the right -/
theorem bin_rint {L y : Addr} {h₀ : Heap} {m : Str → Option Value} {oy : Obj} {k : Int} {t : Tok} {fi : Addr} {Q : Value → Shared → Prop} (F : Fr h₀ L s.heap m) (X₀ : K.In h₀) (I : InstAt s.heap y oy C od) (hpl : oy.data = .plain) (hc : selfFirst K C = true)
    (hs : findIn K (.ref C) (PySem.dunder "add") = some (some (.ref fi))) (hr : findIn K (.ref C) (dunderR "add") = some (some (.ref f))) (hf : isFn K (.ref f) = true)
    (h2 : findIn K (.type "int") (dunderR "add") = some (some (.builtin "int.__radd__"))) (h1 : findIn K (.type "int") (PySem.dunder "add") = some (some (.builtin "int.__add__"))) (hsub : subIn K (.ref C) (.type "int") = some false)
    (h : wpAny (model prog w) A (call (.ref f) [.ref y, .int k t]) (PySem.W.CmpBack Q) E s) : wpAny (model prog w) A (binaryOp .Add (.int k t) (.ref y)) Q E s := by
  have X := X₀.keeps F.keep
  obtain ⟨cd, rest, hcd, hm⟩ := ksp_first hc
  have two := ksp_try X I hr hf h
  have one : ∀ {Q : Option Value → Shared → Prop}, Q none s → wpAny (model prog w) A (tryMethod (.int k t) (PySem.dunder "add") (.ref y)) Q E s := fun {Q} hq => by
    unfold tryMethod
    refine wpAny_bind (wpAny_callSpecial?_slot (typeIs_int s k t) PySem.F.slot_int_add (int_add_ref I.1 hpl ?_))
    exact wpAny_pure hq
  obtain ⟨hh, g, d, tt, os⟩ := s
  have L1 : Looks (model prog w) hh (typeOf (.ref y)) (.ref C) := I.type
  have L2 : Looks (model prog w) hh (typeOf (.int k t)) (.type "int") := Looks.of_pure rfl
  have L3 : Looks (model prog w) hh (fillsNumberSlot (.ref C) "add") true := fills_K X hcd hm hs
  have L4 : Looks (model prog w) hh (fillsNumberSlot (.type "int") "add") true := ksp_fillsT X h1 h2
  have L5 : Looks (model prog w) hh (isSubtype (.ref C) (.type "int")) false := looks_subIn X hsub
  have L7 : Looks (model prog w) hh (numberSlotInPython (.type "int") "add") false := Looks.of_pure rfl
  have hne : (Value.type "int" == Value.ref C) = false := Bool.eq_false_iff.mpr fun q => by cases beq_iff_eq.mp q
  simp only [binaryOp, show Operator.info .Add = ("+", "add") from rfl]
  refine wpAny_holding (wpAny_bind ?_)
  unfold binaryOp1
  refine wpAny_bind (L2.at (wpAny_bind (L1.at (wpAny_bind (L4.at ?_)))))
  simp only [hne, Bool.false_eq_true, if_false]
  repeat ((fail_if_success (with_reducible show wpAny _ _ (tryMethod _ _ _) _ _ _)); lk)
  refine one ?_
  repeat ((fail_if_success (with_reducible show wpAny _ _ (tryMethod _ _ _) _ _ _)); lk)
  refine wpAny_mono two (fun r s' hr' => ?_) fun _ _ e => e
  obtain ⟨v, rfl, hq⟩ := hr'
  repeat lk
  exact hq
end
end Mine
set_option maxRecDepth 100000
namespace Mine
section
variable {b : Heap} {S : List Addr} {g0 : FM} {h0 : Heap} {env : Env} {g g' : FM} {m mc : Str → Option Value} {mu mu' pre post : List (Addr × Obj)} {h h' : Heap}
theorem St.muFactsM (H : St b S g0 h0 env g m mc (pre ++ (mu ++ post)) h) : (∀ q ∈ mu, h.get? q.1 = some q.2 ∧ g q.1 = none) ∧ (mu.map (·.1)).Nodup := by
  refine ⟨fun q hq => ⟨H.mus q (List.mem_append_right _ (List.mem_append_left _ hq)), (H.own _ (owns_mu (List.mem_append_right _ (List.mem_append_left _ hq)))).1⟩, ?_⟩
  have nd := H.nd
  unfold owns at nd
  rw [List.map_append, List.map_append] at nd
  exact (List.nodup_append.mp (List.nodup_append.mp (List.nodup_append.mp (List.nodup_cons.mp nd).2).2.1).2.1).1
theorem St.callMid (H : St b S g0 h0 env g m mc (pre ++ (mu ++ post)) h) (e : Ev (mu.map (·.1)) g h g' h') (ad : mu'.map (·.1) = mu.map (·.1)) (mus : ∀ q ∈ mu', h'.get? q.1 = some q.2) : St b S g0 h0 env g' m mc (pre ++ (mu' ++ post)) h' := H.callIts e ad mus
end
/-- the two part tables that generators turn -/
def Tb (c d : Addr) (mu : List (Addr × Obj)) : Prop := ∃ p q, mu = [(c, tabObj p), (d, tabObj q)] ∧ TriplesOk p.toList ∧ TriplesOk q.toList
theorem Tb.adr {c d : Addr} {mu : List (Addr × Obj)} (x : Tb c d mu) : mu.map (·.1) = [c, d] := by obtain ⟨_, _, rfl, _⟩ := x; rfl
/-- a tuple that stands for good -/
def TupL (g : FM) (t : Addr) (vs : List Value) : Prop := ∃ o k, g t = some o ∧ o.cls = .type "tuple" ∧ o.data = .seq vs.toArray k
theorem TupL.mono {g g' : FM} {t : Addr} {vs : List Value} (x : TupL g t vs) (le : g.le g') : TupL g' t vs := let ⟨o, k, e, r⟩ := x; ⟨o, k, le _ _ e, r⟩
theorem TupL.tup {g : FM} {h : Heap} {t : Addr} {vs : List Value} (x : TupL g t vs) (on : g.on h) : IsTup h t vs.toArray := let ⟨o, k, e, c, d⟩ := x; ⟨o, on _ _ e, c, k, d⟩
section
variable {prog : Program} {w : World} {K : Frag} {p : Program} {loose : List Str} {mean : ExcName → Option Value} {mg mb : Str → Option Value} {b : Heap}
variable {S : List Addr} {g0 : FM} {h0 : Heap} {env : Env} {g : FM} {m mc : Str → Option Value} {mu pre post : List (Addr × Obj)} {A : Around} {s : Shared} {E : Value → Shared → Prop}
theorem St.mkTup {vs : List Value} {a : Addr} {h h' : Heap} (H : St b S g0 h0 env g m mc mu h) (ea : a = h.objs.size) (eh : h' = h.push { cls := .type "tuple", data := .seq vs.toArray }) :
    ∃ g', g.le g' ∧ TupL g' a vs ∧ St b S g0 h0 env g' m mc mu h' := by
  obtain ⟨g', le, _, ⟨o, e, c, k, d⟩, H'⟩ := H.mkT ea eh
  exact ⟨g', le, ⟨o, k, e, c, d⟩, H'⟩
theorem isi_tuple {t : Addr} {vs : List Value} {c : Value} {r : Bool} {Q : Value → Shared → Prop} (X : K.In s.heap) (H : St b S g0 h0 env g m mc mu s.heap) (I : TupL g t vs) (e : kitOne K (.type "tuple") c = some r) (h : ∀ tk, Q (.bool r) { s with toks := tk }) :
    wpAny (model prog w) A (call (.builtin "isinstance") [.ref t, c]) Q E s := by
  obtain ⟨o, k, eo, c, d⟩ := I
  exact kia_one kitx_tuple X ⟨o, H.on _ _ eo, c⟩ e (by intro q; cases q) h
theorem len_tup {t : Addr} {vs : List Value} {Q : Value → Shared → Prop} (H : St b S g0 h0 env g m mc mu s.heap) (I : TupL g t vs) (hz : vs.length ≤ 1000) (h : Q (.int vs.length (s.toks + 1)) { s with toks := s.toks + 1 + 1 }) :
    wpAny (model prog w) A (call (.builtin "len") [.ref t]) Q E s := by
  refine PyProof.Rows.len_tuple (I.tup H.on) (by rw [List.size_toArray]; omega) (by rw [List.size_toArray]; exact h)
theorem get_tup {t : Addr} {vs : List Value} {k : Int} {u : Tok} {v : Value} {Q : Value → Shared → Prop} (H : St b S g0 h0 env g m mc mu s.heap) (I : TupL g t vs) (h0 : 0 ≤ k) (hk : k ≤ 1000) (hx : vs[k.toNat]? = some v) (h : Q v s) :
    wpAny (model prog w) A (getItem (.ref t) (.int k u)) Q E s := by
  have hlt : k.toNat < vs.length := by
    rcases Nat.lt_or_ge k.toNat vs.length with q | q
    · exact q
    · rw [List.getElem?_eq_none q] at hx; cases hx
  refine getItem_tuple (I.tup H.on) (by omega) (by omega) (PySem.seqIndex_of h0 (by rw [List.size_toArray]; omega)) (by rw [List.getElem?_toArray]; exact hx) h
theorem sub_tup {value slice : Expr} {t : Addr} {vs : List Value} {k : Int} {u : Tok} {v : Value} {Q : Value → Shared → Prop} (H : St b S g0 h0 env g m mc mu s.heap) (I : TupL g t vs) (h0 : 0 ≤ k) (hk : k ≤ 1000) (hx : vs[k.toNat]? = some v) (h : Q v s)
    (hs : subscripted slice false (.ref t) (.int k u) = operate [.ref t, .int k u] (getItem (.ref t) (.int k u)) := by with_unfolding_all rfl) :
    wpAny (model prog w) A (subscriptTail value slice (.ref t) (.int k u)) Q E s := by
  exact tail_any (I.tup H.on).typeIs slot_tuple_getitem.lookup (get_tup H I h0 hk hx h) hs
theorem tl_assign2 {x y : Str} {px py pos : Pos} {x1} {t : Addr} {u v : Value} {Q : Unit → Shared → Prop} (hh : A.handled = none) (H : St b S g0 h0 env g m mc mu s.heap) (I : TupL g t [u, v])
    (h : ∀ h', St b S g0 h0 env g m mc mu h' → wpAny (model prog w) A (storeName env x u) (fun _ s₁ => wpAny (model prog w) A (storeName env y v) Q E s₁) E { s with heap := h' }) :
    wpAny (model prog w) A (assign (.Tuple [.Name x px, .Name y py] x1 pos) env (.ref t)) Q E s := tup_assign2 hh H (I.tup H.on) h
theorem gm_copy {l : Addr} {ns : List Int} {pl : Sem Bool} {Q : Value × List Value → Shared → Prop} (H : St b S g0 h0 env g m mc mu s.heap) (I : IntL g l ns) (h : Q (.builtin "list.copy", [.ref l]) s) :
    wpAny (model prog w) A (getMethod (.ref l) "copy" pl) Q E s := by
  obtain ⟨vs, o, k, e, c, ⟨d, eo⟩, i⟩ := I
  exact getMethod_builtin ⟨o, H.on _ _ e, c⟩ PySem.F.plainAttrs_list PySem.F.slot_list_copy PySem.F.type_list_copy (fun a e' => by cases e'; exact ⟨o, H.on _ _ e, by rw [eo]⟩) h
theorem do_copy {l : Addr} {ns : List Int} {Q : Value → Shared → Prop} (H : St b S g0 h0 env g m mc mu s.heap) (I : IntL g l ns) (hz : ns.length ≤ 1000000)
    (h : ∀ a vs h', IntsAre vs ns → h0.get? a = none → St b S g0 h0 env g m mc ((a, lst vs) :: mu) h' → Q (.ref a) { s with heap := h' }) : wpAny (model prog w) A (call (.builtin "list.copy") [.ref l]) Q E s := by
  obtain ⟨vs, o, k, e, c, ⟨d, eo⟩, i⟩ := I
  refine PyProof.Rows.copy_list (frame0 H.ns) (restN _ _) (l := l) (vs := vs) ⟨o, H.on _ _ e, c, k, d⟩ (fun h' F N => ?_) (by rw [i.length, sizeLine_eq]; omega)
  obtain ⟨H', f0⟩ := H.madeF (none_of_ge (Nat.le_refl _)) F N
  exact h _ vs h' i f0 H'
end
section
variable {M : Model} {env : Env} {A : Around} {s : Shared} {E : Value → Shared → Prop}
theorem x_bm0 {pos : Pos} {id : String} {a : Value} {Q : Value → Shared → Prop} (h : wpAny M A (call (.builtin id) [a]) Q E s) :
    wpAny M A (callWith pos (.builtin id) [a] (backTo pos (starEach [] env)) []) Q E s := callWith_builtin rfl (evalArgs_nil3 h)
theorem x_assert {test : Expr} {msg : Option Expr} {pos : Pos} {Q : Flow → Shared → Prop} (h : wpAny M A (isTrue test env (eval test env)) (fun b s₁ => b = true ∧ Q .next s₁) E s) : wpAny M A (exec (.Assert test msg pos) env) Q E s := wpAny_Assert_holds h
end
end Mine
set_option maxRecDepth 100000
namespace Mine
/-- a grid of rows of ints, standing for good -/
def Grid (g : FM) (l : Addr) (n h w : Nat) (F : Nat → Nat → Nat → Int) : Prop := LsOf g l h fun i x => LsOf g x w fun j y => IntL g y (lf n (F i j))
theorem Grid.mono {g g' : FM} {l : Addr} {n h w : Nat} {F : Nat → Nat → Nat → Int} (I : Grid g l n h w F) (le : g.le g') : Grid g' l n h w F :=
  LsOf.mono I le fun _ _ p => LsOf.mono p le fun _ _ q => q.mono le
section
variable {prog : Program} {w : World} {b : Heap} {S : List Addr} {g0 : FM} {h0 : Heap} {env : Env} {g : FM} {m mc : Str → Option Value} {mu : List (Addr × Obj)} {A : Around} {s : Shared} {E : Value → Shared → Prop}
end
end Mine
set_option maxRecDepth 100000
namespace Mine
/-- a module over a ring -/
def Mod (C : Addr) (g : FM) (x r : Addr) : Prop := ∃ h1 t1, Inst g x C [⟨h1, .str "ring" t1, .ref r⟩]
theorem Mod.mono {C : Addr} {g g' : FM} {x r : Addr} (I : Mod C g x r) (le : g.le g') : Mod C g' x r := let ⟨h1, t1, i⟩ := I; ⟨h1, t1, i.mono le⟩
theorem Mod.at {C : Addr} {g : FM} {x r : Addr} (I : Mod C g x r) : ∃ d es k, At g x C d es k := let ⟨_, _, d, k, e1, e2⟩ := I; ⟨d, _, k, e1, e2⟩
/-- rows of polynomials -/
def Rows (C : Addr) (g : FM) (l r : Addr) (n h w : Nat) (F : Nat → Nat → Nat → Int) : Prop := LsOf g l h fun i x => LsOf g x w fun j y => Poly C g y r (lf n (F i j))
theorem Rows.mono {C : Addr} {g g' : FM} {l r : Addr} {n h w : Nat} {F : Nat → Nat → Nat → Int} (I : Rows C g l r n h w F) (le : g.le g') : Rows C g' l r n h w F :=
  LsOf.mono I le fun _ _ p => LsOf.mono p le fun _ _ q => q.mono le
/-- the rows as a matrix keeps them -/
def Stored (C : Addr) (g : FM) (l r : Addr) (n : Nat) (t : Bool) (h w : Nat) (F : Nat → Nat → Nat → Int) : Prop := match t with
  | false => Rows C g l r n h w F
  | true => Rows C g l r n w h fun i j => F j i
theorem Stored.mono {C : Addr} {g g' : FM} {l r : Addr} {n : Nat} {t : Bool} {h w : Nat} {F : Nat → Nat → Nat → Int} (I : Stored C g l r n t h w F) (le : g.le g') : Stored C g' l r n t h w F := by
  cases t
  · exact Rows.mono I le
  · exact Rows.mono I le
theorem Stored.turn {C : Addr} {g : FM} {l r : Addr} {n : Nat} {t : Bool} {h w : Nat} {F : Nat → Nat → Nat → Int} (I : Stored C g l r n t h w F) : Stored C g l r n (!t) w h fun i j => F j i := by
  cases t
  · exact I
  · exact I
theorem Stored.rows {C : Addr} {g : FM} {l r : Addr} {n : Nat} {t : Bool} {h w : Nat} {F : Nat → Nat → Nat → Int} (I : Stored C g l r n t h w F) : ∃ a c F', Rows C g l r n a c F' ∧ (h ≤ 1000 → w ≤ 1000 → a ≤ 1000 ∧ c ≤ 1000) ∧ (1 ≤ h → 1 ≤ w → 1 ≤ a ∧ 1 ≤ c) := by
  cases t
  · exact ⟨h, w, F, I, fun a b => ⟨a, b⟩, fun a b => ⟨a, b⟩⟩
  · exact ⟨w, h, _, I, fun a b => ⟨b, a⟩, fun a b => ⟨b, a⟩⟩
abbrev matD (h1 : Int) (t1 : Tok) (v : Addr) (h2 : Int) (t2 : Tok) (l : Addr) (h3 : Int) (t3 : Tok) (t : Bool) : List DictEntry := [⟨h1, .str "parent" t1, .ref v⟩, ⟨h2, .str "_data" t2, .ref l⟩, ⟨h3, .str "_transpose" t3, .bool t⟩]
/-- a matrix of h by w polynomials -/
def Mat (C CP : Addr) (g : FM) (x v r : Addr) (n h w : Nat) (F : Nat → Nat → Nat → Int) : Prop := ∃ h1 t1 h2 t2 h3 t3 l t, Inst g x C (matD h1 t1 v h2 t2 l h3 t3 t) ∧ Stored CP g l r n t h w F
theorem Mat.mono {C CP : Addr} {g g' : FM} {x v r : Addr} {n h w : Nat} {F : Nat → Nat → Nat → Int} (I : Mat C CP g x v r n h w F) (le : g.le g') : Mat C CP g' x v r n h w F :=
  let ⟨h1, t1, h2, t2, h3, t3, l, t, i, j⟩ := I; ⟨h1, t1, h2, t2, h3, t3, l, t, i.mono le, j.mono le⟩
theorem Mat.inst {C CP : Addr} {g : FM} {x v r : Addr} {n h w : Nat} {F : Nat → Nat → Nat → Int} (I : Mat C CP g x v r n h w F) : ∃ es, Inst g x C es := let ⟨_, _, _, _, _, _, _, _, i, _⟩ := I; ⟨_, i⟩
theorem LsOf.ext {g : FM} {l : Addr} {n : Nat} {P P' : Nat → Addr → Prop} (h : LsOf g l n P) (i : ∀ k x, k < n → P k x → P' k x) : LsOf g l n P' := by
  obtain ⟨vs, o, e, a, rfl, c⟩ := h
  refine ⟨vs, o, e, a, rfl, fun k v ev => ?_⟩
  obtain ⟨x, rfl, p⟩ := c k v ev
  refine ⟨x, rfl, i k x ?_ p⟩
  rcases Nat.lt_or_ge k vs.length with q | q
  · exact q
  · rw [List.getElem?_eq_none q] at ev; cases ev
theorem Rows.ext {C : Addr} {g : FM} {l r : Addr} {n h w : Nat} {F F' : Nat → Nat → Nat → Int} (I : Rows C g l r n h w F) (e : ∀ i j k, i < h → j < w → k < n → F i j k = F' i j k) : Rows C g l r n h w F' :=
  LsOf.ext I fun i x hi p => LsOf.ext p fun j y hj q => by rw [← lf_ext fun k hk => e i j k hi hj hk]; exact q
theorem Stored.ext {C : Addr} {g : FM} {l r : Addr} {n : Nat} {t : Bool} {h w : Nat} {F F' : Nat → Nat → Nat → Int} (I : Stored C g l r n t h w F) (e : ∀ i j k, i < h → j < w → k < n → F i j k = F' i j k) : Stored C g l r n t h w F' := by
  cases t
  · exact Rows.ext I e
  · exact Rows.ext I fun i j k hi hj hk => e j i k hj hi hk
theorem Mat.ext {C CP : Addr} {g : FM} {x v r : Addr} {n h w : Nat} {F F' : Nat → Nat → Nat → Int} (I : Mat C CP g x v r n h w F) (e : ∀ i j k, i < h → j < w → k < n → F i j k = F' i j k) : Mat C CP g x v r n h w F' :=
  let ⟨h1, t1, h2, t2, h3, t3, l, t, i, j⟩ := I; ⟨h1, t1, h2, t2, h3, t3, l, t, i, j.ext e⟩
end Mine
set_option maxRecDepth 100000
namespace Mine
theorem LsOf.pick {α : Type} [Inhabited α] {g : FM} {l : Addr} {n : Nat} {Q : α → Addr → Prop} (h : LsOf g l n fun _ x => ∃ a, Q a x) : ∃ f : Nat → α, LsOf g l n fun i x => Q (f i) x := by
  classical
  obtain ⟨vs, o, e, a, rfl, c⟩ := h
  refine ⟨fun i => if z : ∃ a : α, ∀ x, vs[i]? = some (.ref x) → Q a x then z.choose else default, vs, o, e, a, rfl, fun k v ev => ?_⟩
  obtain ⟨x, rfl, a, q⟩ := c k v ev
  have z : ∃ a : α, ∀ x, vs[k]? = some (.ref x) → Q a x := ⟨a, fun y ey => by rw [ev] at ey; cases ey; exact q⟩
  refine ⟨x, rfl, ?_⟩
  dsimp only
  rw [dif_pos z]
  exact z.choose_spec x ev
theorem LsOf.and {g : FM} {l : Addr} {n : Nat} {P : Nat → Addr → Prop} {R : Nat → Prop} (h : LsOf g l n fun i x => P i x ∧ R i) : LsOf g l n P ∧ ∀ i, i < n → R i := by
  refine ⟨LsOf.ext h fun _ _ _ p => p.1, fun i hi => ?_⟩
  obtain ⟨x, p⟩ := h.at hi
  exact p.2
section
variable {prog : Program} {w : World} {A : Around} {s : Shared} {E : Value → Shared → Prop} {env : Env}
end
section
variable {prog : Program} {w : World} {b : Heap} {S : List Addr} {g0 : FM} {h0 : Heap} {env : Env} {g : FM} {m mc : Str → Option Value} {mu pre post : List (Addr × Obj)} {A : Around} {s : Shared} {E : Value → Shared → Prop}
end
end Mine
set_option maxRecDepth 100000
namespace Mine
section
variable {h : Heap} {ts : List Addr}
theorem hide_get {a : Addr} {o : Obj} (T : ∀ P ∈ ts, h.get? P = some (tabObj #[])) (e : h.get? a = some o) (n : o ≠ tabObj #[]) : (hideAll h ts).get? a = some o :=
  hideAll_get ts e fun q => n (Option.some.inj (e.symm.trans (T a q)))
theorem hide_ns {a : Addr} {m : Str → Option Value} (T : ∀ P ∈ ts, h.get? P = some (tabObj #[])) (x : h.Ns a m) : (hideAll h ts).Ns a m := by
  obtain ⟨o, es, ep, e, d, r⟩ := x
  exact ⟨o, es, ep, hide_get T e (fun q => by rw [q] at d; cases d), d, r⟩
theorem hide_read {p : Program} {loose : List Str} {mg mb : Str → Option Value} (T : ∀ P ∈ ts, h.get? P = some (tabObj #[])) (x : TopRead p loose mg mb h) : TopRead p loose mg mb (hideAll h ts) := by
  obtain ⟨mc, h1, h2⟩ := x.nolimit
  exact ⟨hide_ns T x.g, hide_ns T x.b, ⟨mc, hide_ns T h1, h2⟩, x.builtins, x.free⟩
theorem hide_mod {g bm : Addr} {mg : Str → Option Value} {ob : Obj} (T : ∀ P ∈ ts, h.get? P = some (tabObj #[])) (x : BMod h g mg bm ob) : BMod (hideAll h ts) g mg bm ob :=
  ⟨hide_ns T x.ns, x.name, x.ne, hide_get T x.obj (fun q => by have := x.cls; rw [q] at this; cases this), x.cls, x.dict, x.data⟩
theorem hide_in {K : Frag} (X : K.In h) (n : ∀ P ∈ ts, K.lookup P = none) : K.In (hideAll h ts) := fun a o e => hideAll_get ts (X a o e) fun q => by rw [n a q] at e; cases e
theorem code_tab {K : Frag} {c P : Addr} (X : K.In h) (e : codeHdIn K c P = true) : isCodeTable h P := by
  obtain ⟨o, vs, _, _, _, _, _, _, _, a, b, d, f, _⟩ := codeHd_of_K X e
  exact ⟨c, o, vs, a, b, d, f⟩
theorem old_tabs {g g' : FM} {h' : Heap} (T : ∀ P ∈ ts, h.get? P = some (tabObj #[])) (C : ∀ P ∈ ts, isCodeTable h P) (ev : Ev ts g h g' h') (L : ∀ P ∈ ts, ∃ ps, h'.get? P = some (tabObj ps)) : OldK h h' := by
  refine ⟨fun a o e => ?_, ev.live⟩
  by_cases q : a ∈ ts
  · obtain ⟨ps, e'⟩ := L a q
    obtain rfl := Option.some.inj (e.symm.trans (T a q))
    exact .inr (.inl ⟨C a q, rfl, #[], ps, rfl, by rw [e']; simp⟩)
  · exact .inl (ev.keep a o q e)
end
theorem good_true {s s' : Shared} {cl : Str → Option Addr} {mean : ExcName → Option Value} {args : List WData} {c : ClaimW} (hr : ∀ k, c.raises args k = false) (hp : c.post args (.bool true) args = true)
    (k : OldK s.heap s'.heap) (os : s'.os = s.os) (gs : AllBare s'.gens) : GoodWG c cl mean args s (.ok (.ret (.bool true))) s' :=
  ⟨.inl ⟨_, _, [], rfl, hr, .bool true, hp, fun _ => ⟨.nil, fun _ q => nomatch q⟩⟩, k, os, gs⟩
theorem room_caller : Ao 12 callerA := ⟨rfl, by decide, by decide⟩
end Mine
set_option maxRecDepth 100000
namespace Mine
def tupD (a c : Int) : PyData := .tuple [.int a, .int c]
theorem tup_shaped (a c : Int) : PySem.SeqAt.shaped (tupD a c) = true := by
  simp [PySem.SeqAt.shaped, tupD, PyData.canLay0, PyData.canLayAll0, PyData.depth, PyData.depthAll]
theorem tup_noMix (a c a' c' : Int) : PySem.SeqAt.noMix (tupD a c) (tupD a' c') = true := by simp [tupD, PySem.SeqAt.noMix, PySem.SeqAt.noMixAll]
theorem tup_same (a c a' c' : Int) : PySem.Spec.same (tupD a c) (tupD a' c') = decide (a = a' ∧ c = c') := by
  by_cases x : a = a' <;> by_cases y : c = c' <;> simp [tupD, PySem.Spec.same, PySem.Spec.sameAll, x, y]
theorem TupL.reads {h : Heap} {t : Addr} {a c : Int} {ta tc : Tok} (I : TupL h.get? t [.int a ta, .int c tc]) : ∃ as, Reads h (.ref t) (tupD a c) as := by
  obtain ⟨o, k, e, cl, d⟩ := I
  exact ⟨_, .tuple e cl d (.cons (.int _ _) (.cons (.int _ _) .nil))⟩
section
variable {prog : Program} {w : World} {b : Heap} {S : List Addr} {g0 : FM} {h0 : Heap} {env : Env} {g : FM} {m mc : Str → Option Value} {mu : List (Addr × Obj)} {A : Around} {s : Shared} {E : Value → Shared → Prop}
theorem ne_tup {t t' : Addr} {a c a' c' : Int} {ta tc ta' tc' : Tok} {r : Bool} {k : Nat} {Q : Value → Shared → Prop} (H : St b S g0 h0 env g m mc mu s.heap) (hA : Ao k A) (I : TupL g t [.int a ta, .int c tc]) (I' : TupL g t' [.int a' ta', .int c' tc']) (e : r = !decide (a = a' ∧ c = c')) (h : Q (.bool r) s) :
    wpAny (model prog w) A (compareOp .NotEq (.ref t) (.ref t')) Q E s := by
  obtain ⟨as, ra⟩ := (I.mono H.on.le).reads
  obtain ⟨bs, rb⟩ := (I'.mono H.on.le).reads
  refine ne_dataH_same ra rb (tup_shaped ..) (tup_shaped ..) (by have := hA.un; unfold cLine; omega) (tup_noMix ..) ?_
  rw [tup_same, ← e]; exact h
theorem eq_tup {t t' : Addr} {a c a' c' : Int} {ta tc ta' tc' : Tok} {r : Bool} {k : Nat} {Q : Value → Shared → Prop} (H : St b S g0 h0 env g m mc mu s.heap) (hA : Ao k A) (I : TupL g t [.int a ta, .int c tc]) (I' : TupL g t' [.int a' ta', .int c' tc']) (e : r = decide (a = a' ∧ c = c')) (h : Q (.bool r) s) :
    wpAny (model prog w) A (compareOp .Eq (.ref t) (.ref t')) Q E s := by
  obtain ⟨as, ra⟩ := (I.mono H.on.le).reads
  obtain ⟨bs, rb⟩ := (I'.mono H.on.le).reads
  refine eq_dataH_same ra rb (tup_shaped ..) (tup_shaped ..) (by have := hA.un; unfold cLine; omega) (tup_noMix ..) ?_
  rw [tup_same, ← e]; exact h
end
end Mine
set_option maxRecDepth 100000
namespace Mine
/-- a number that the model lays out -/
def Bd (x : Int) : Prop := Builtin.Int.intBits x ≤ 2 ^ 20
theorem Bd.mul {x y : Int} (a : Bd x) (b : Bd y) : IntMulOk x y := IntMulOk.of_bits a b
theorem Bd.small {x : Int} (h1 : -1000000 ≤ x) (h2 : x ≤ 1000000) : Bd x := Nat.le_trans (intBits_le_64 (by omega) (by omega)) (by decide)
theorem Bd.mod {x q : Int} (h1 : 0 < q) (h2 : q ≤ 1000000) : Bd (x % q) := by
  have a := Int.emod_nonneg x (show q ≠ 0 by omega)
  have c := Int.emod_lt_of_pos x h1
  exact .small (by omega) (by omega)
section
variable {prog : Program} {w : World} {K : Frag} {p : Program} {loose : List Str} {mean : ExcName → Option Value} {mg mb : Str → Option Value} {b : Heap}
variable {S : List Addr} {g0 : FM} {h0 : Heap} {env : Env} {g : FM} {m mc : Str → Option Value} {mu pre post : List (Addr × Obj)} {A : Around} {s : Shared} {E : Value → Shared → Prop}
/-- a range that stands for good -/
def RngL (g : FM) (r : Addr) (n : Nat) : Prop := ∃ o, g r = some o ∧ ∀ h : Heap, h.get? r = some o → ∃ t u v, IsRange h r 0 n 1 t u v
theorem RngL.mono {g g' : FM} {r : Addr} {n : Nat} (x : RngL g r n) (le : g.le g') : RngL g' r n := let ⟨o, e, k⟩ := x; ⟨o, le _ _ e, k⟩
theorem RngL.src {r : Addr} {n : Nat} {h : Heap} (hh : A.handled = none) (x : RngL g r n) (on : g.on h) (hn : n ≤ 1000) : Src prog w A n (fun i v => ∃ t, v = .int (i : Int) t) g (.ref r) h := by
  obtain ⟨o, e, k⟩ := x
  obtain ⟨t, u, v, hr⟩ := k h (on _ _ e)
  have S := Src.range (prog := prog) (w := w) (g := g) hh hr (rng (by omega)) (nat0 n)
  rw [to_nat0] at S
  intro s Q E hs kk
  refine S s Q E hs fun I fp Ws h' W => kk I fp Ws h' ⟨W.sub, W.frame, fun i s Q E hi st hQ => W.item i s Q E hi st fun v h' tk hp => hQ v h' tk (by obtain ⟨t, e⟩ := hp; exact ⟨t, by rw [e, Int.zero_add]⟩), W.done, W.self⟩
theorem call_rangeG {n : Nat} {t : Tok} {Q : Value → Shared → Prop} (H : St b S g0 h0 env g m mc mu s.heap)
    (h : ∀ h' tk r g', g.le g' → RngL g' r n → St b S g0 h0 env g' m mc mu h' → Q (.ref r) { s with heap := h', toks := tk }) : wpAny (model prog w) A (call (.type "range") [.int n t]) Q E s :=
  range1_rows (news := []) (frame0 H.ns) (fun _ q => nomatch q) fun h' tk t₁ u₁ v₁ hr _ _ kp => by
    have f := none_of_ge (h := s.heap) (Nat.le_refl _)
    have hr' : h'.get? s.heap.objs.size = some _ := hr
    obtain ⟨H', le⟩ := H.allocG f hr' kp
    exact h h' tk _ _ le ⟨_, FM.put_self .., fun h₂ e => ⟨t₁, u₁, v₁, e⟩⟩ H'
/-- the sum of ints, of a list just made -/
theorem sum_mu {l : Addr} {o : Obj} {vs : List Value} {ns : List Int} {Q : Value → Shared → Prop} (hh : A.handled = none) (H : St b S g0 h0 env g m mc ((l, o) :: mu) s.heap) (isl : IsL o vs) (hi : IntsAre vs ns)
    (h : ∀ h' tk t', St b S g0 h0 env g m mc mu h' → Q (.int ns.sum t') { s with heap := h', toks := tk }) : wpAny (model prog w) A (call (.builtin "sum") [.ref l]) Q E s := by
  refine PyProof.Rows.LSm.sum_ints (frame0 H.ns) (restN _ _) hh (isl.at_ (H.mus _ (.head _))) hi fun h' tk t' F N => ?_
  have k : ∀ a o, a ≠ env.locals → s.heap.get? a = some o → h'.get? a = some o := fun a o ne e => (N (a, o) (mem_restOf.mpr ⟨by simpa using ne, e⟩)).1
  exact h h' tk t' (H.drop.keepsL F.ns fun a o ne e => k a o ne e)
theorem ints_pos {g : FM} {l : Addr} {ns : List Int} {h : Heap} (I : IntL g l ns) (on : g.on h) : ∃ vs, h.IsList l vs.toArray ∧ IntsAre vs ns := (I.mono on.le).list (.refl _)
theorem St.ofFN {h' : Heap} (H : St b S g0 h0 env g m mc mu s.heap) (F : Fr noHeap env.locals h' m) (N : News noHeap env.locals h' (restOf s.heap [env.locals])) : St b S g0 h0 env g m mc mu h' :=
  H.keepsL F.ns fun a o ne e => (N (a, o) (mem_restOf.mpr ⟨by simpa using ne, e⟩)).1
theorem min_il {l : Addr} {ns : List Int} {Q : Value → Shared → Prop} (hh : A.handled = none) (H : St b S g0 h0 env g m mc mu s.heap) (I : IntL g l ns) (hne : 0 < ns.length)
    (h : ∀ h' M t tk, M ∈ ns → St b S g0 h0 env g m mc mu h' → Q (.int M t) { s with heap := h', toks := tk }) : wpAny (model prog w) A (call (.builtin "min") [.ref l]) Q E s := by
  obtain ⟨vs, hl, hi⟩ := ints_pos I H.on
  exact min_list_N hh (frame0 H.ns) (restN _ _) hl hi hne fun h' M t tk F N hm _ => h h' M t tk hm (H.ofFN F N)
theorem max_il {l : Addr} {ns : List Int} {Q : Value → Shared → Prop} (hh : A.handled = none) (H : St b S g0 h0 env g m mc mu s.heap) (I : IntL g l ns) (hne : 0 < ns.length)
    (h : ∀ h' M t tk, M ∈ ns → St b S g0 h0 env g m mc mu h' → Q (.int M t) { s with heap := h', toks := tk }) : wpAny (model prog w) A (call (.builtin "max") [.ref l]) Q E s := by
  obtain ⟨vs, hl, hi⟩ := ints_pos I H.on
  exact max_list_N hh (frame0 H.ns) (restN _ _) hl hi hne fun h' M t tk F N hm _ => h h' M t tk hm (H.ofFN F N)
/-- a tuple that stands for good, walked -/
theorem TupL.src {t : Addr} {vs : List Value} {h : Heap} (hh : A.handled = none) (I : TupL g t vs) (on : g.on h) : Src prog w A vs.length (fun i v => vs[i]? = some v) g (.ref t) h := by
  intro s Q E hs k
  subst hs
  obtain ⟨o, n, e, c, d⟩ := I
  have hl : s.heap.IsTuple t vs.toArray := ⟨o, on _ _ e, c, n, d⟩
  have hlt : t < s.heap.objs.size := Heap.lt_size (on _ _ e)
  refine wpAny_pyIter_tuple hl ?_
  have W := Walks.tuple (prog := prog) (w := w) hh s.heap.objs.size t (Nat.ne_of_lt hlt) vs.toArray
  have e2 : vs.toArray.size = vs.length := List.size_toArray ..
  rw [e2] at W
  refine k s.heap.objs.size _ _ _ ⟨W.sub, W.frame, fun i s Q E hi st hQ => W.item i s Q E hi st fun v h' tk hp => hQ v h' tk (by simpa using hp), W.done, W.self⟩ ⟨⟨_, Heap.get?_push_size _ rfl, rfl, rfl⟩, hl.at fun o e => Heap.get?_push_of_some _ e⟩ (fun i h e => ⟨_, e.1.choose_spec.1⟩) (none_of_ge (Nat.le_refl _)) (fun x hx n => ?_) (fun _ _ e => Heap.get?_push_of_some _ e) (by rw [Heap.size_push]; exact Nat.le_succ _)
  rcases List.mem_cons.mp hx with rfl | hx
  · exact absurd rfl n
  · exact ⟨o, (List.mem_singleton.mp hx) ▸ e⟩
theorem x_icallK {pos : Pos} {x C d f : Addr} {es : List DictEntry} {n : Nat} {first : List Value} {e : Expr} {rest : List Expr} {kws : List Keyword} {Q : Value → Shared → Prop} (I : At s.heap.get? x C d es n) (hs : findIn K (.ref C) "__call__" = some (some (.ref f)))
    (hall : (backToKw pos (keywordEach kws env)).all (·.1.isSome) = true)
    (h : wpAny (model prog w) A (spliced (backTo pos (starEach (e :: rest) env))) (fun vs s₁ => wpAny (model prog w) A (evalAll ((backToKw pos (keywordEach kws env)).map (·.2)))
      (fun ks s₂ => (K.In s₂.heap ∧ At s₂.heap.get? x C d es n) ∧ wpAny (model prog w) A (call (.ref x) (first ++ vs) (((backToKw pos (keywordEach kws env)).filterMap (·.1)).zip ks)) Q E s₂) E s₁) E s)
    (hplain : ((backTo pos (starEach (e :: rest) env)).any (·.1) || (backToKw pos (keywordEach kws env)).any (·.1.isNone)) = false) (he : starEach (e :: rest) env = (false, eval e env) :: starEach rest env) :
    wpAny (model prog w) A (callWith pos (.ref x) first (backTo pos (starEach (e :: rest) env)) (backToKw pos (keywordEach kws env))) Q E s :=
  kco_callWith_of (K := K) (C := C) (ox := instObj C d) (od := some (dictOf es n)) hplain rfl (evalArgs_kw2 hall (wpAny_mono h (fun vs s₁ z => wpAny_mono z (fun ks s₂ z => ⟨⟨z.1.1, z.1.2.I⟩, z.2⟩) fun _ _ z => z) fun _ _ z => z) he)
theorem icallK {x C d f : Addr} {es : List DictEntry} {n : Nat} {vs : List Value} {kw : List (Str × Value)} {Q : Value → Shared → Prop} (X : K.In s.heap) (I : At s.heap.get? x C d es n) (hs : findIn K (.ref C) "__call__" = some (some (.ref f))) (hf : isFn K (.ref f) = true) (hfn : fnIn K f = true)
    (h : codeAny (model prog w) A (.call (.ref f) ⟨.ref x :: vs, kw⟩) (fun r s' => match r with | .ok (.ret v) => Q v s' | .ok _ => False | .error e => E e s') s) : wpAny (model prog w) A (call (.ref x) vs kw) Q E s :=
  wpAny_call (kco_code X I.I rfl hs hf hfn h)
end
end Mine
set_option maxRecDepth 100000
namespace Mine
/-- the draws' state, the script with a place in it, at most N -/
def StD (st l : Addr) (N : Int) (mu : List (Addr × Obj)) : Prop := ∃ oS k tk, mu = [(st, oS)] ∧ IsL oS [.ref l, .int k tk] ∧ 0 ≤ k ∧ k ≤ N
theorem StD.adr {st l : Addr} {N : Int} {mu : List (Addr × Obj)} (x : StD st l N mu) : mu.map (·.1) = [st] := by obtain ⟨_, _, _, rfl, _⟩ := x; rfl
theorem StD.le {st l : Addr} {N N' : Int} {mu : List (Addr × Obj)} (x : StD st l N mu) (h : N ≤ N') : StD st l N' mu := by
  obtain ⟨o, k, tk, e, i, a, c⟩ := x
  exact ⟨o, k, tk, e, i, a, Int.le_trans c h⟩
/-- the script, whose numbers the model lays out -/
def Script (g : FM) (l : Addr) : Prop := ∃ ns, IntL0 g l ns ∧ ns.length ≤ 63 ∧ ∀ x ∈ ns, Bd x
theorem IntL0.mono {g g' : FM} {a : Addr} {ns : List Int} (I : IntL0 g a ns) (le : g.le g') : IntL0 g' a ns := let ⟨vs, o, k, e, r⟩ := I; ⟨vs, o, k, le _ _ e, r⟩
theorem Script.mono {g g' : FM} {l : Addr} (x : Script g l) (le : g.le g') : Script g' l := let ⟨ns, i, r⟩ := x; ⟨ns, i.mono le, r⟩
theorem Grid.pickP {g : FM} {l : Addr} {n h w : Nat} {Pr : Int → Prop} (I : LsOf g l h fun _ x => LsOf g x w fun _ y => ∃ a : Nat → Int, IntL g y (lf n a) ∧ ∀ k, k < n → Pr (a k)) :
    ∃ F, Grid g l n h w F ∧ ∀ i j k, i < h → j < w → k < n → Pr (F i j k) := by
  have I2 : LsOf g l h fun _ x => ∃ f : Nat → Nat → Int, LsOf g x w fun j y => IntL g y (lf n (f j)) ∧ ∀ k, k < n → Pr (f j k) := LsOf.ext I fun _ _ _ p => LsOf.pick (Q := fun a y => IntL g y (lf n a) ∧ ∀ k, k < n → Pr (a k)) p
  obtain ⟨F, hF⟩ := LsOf.pick (Q := fun (f : Nat → Nat → Int) x => LsOf g x w fun j y => IntL g y (lf n (f j)) ∧ ∀ k, k < n → Pr (f j k)) I2
  have h2 : LsOf g l h fun i x => (LsOf g x w fun j y => IntL g y (lf n (F i j))) ∧ ∀ j, j < w → ∀ k, k < n → Pr (F i j k) := LsOf.ext hF fun _ _ _ p => LsOf.and p
  obtain ⟨a, b⟩ := LsOf.and h2
  exact ⟨F, a, fun i j k hi hj hk => b i hi j hj k hk⟩
/-- rows of ints that stand for good -/
def RowsI (g : FM) (l : Addr) (n h : Nat) (F : Nat → Nat → Int) : Prop := LsOf g l h fun i x => IntL g x (lf n (F i))
theorem RowsI.mono {g g' : FM} {l : Addr} {n h : Nat} {F : Nat → Nat → Int} (I : RowsI g l n h F) (le : g.le g') : RowsI g' l n h F := LsOf.mono I le fun _ _ q => q.mono le
theorem RowsI.pickP {g : FM} {l : Addr} {n h : Nat} {Pr : Int → Prop} (I : LsOf g l h fun _ y => ∃ a : Nat → Int, IntL g y (lf n a) ∧ ∀ k, k < n → Pr (a k)) :
    ∃ F, RowsI g l n h F ∧ ∀ i k, i < h → k < n → Pr (F i k) := by
  obtain ⟨F, hF⟩ := LsOf.pick (Q := fun (a : Nat → Int) y => IntL g y (lf n a) ∧ ∀ k, k < n → Pr (a k)) I
  obtain ⟨a, b⟩ := LsOf.and hF
  exact ⟨F, a, fun i k hi hk => b i hi k hk⟩
/-- a run of powers, each reduced -/
def pw (r q : Int) : Nat → Int
  | 0 => 1
  | i + 1 => pw r q i * r % q
/-- a row's value at a root -/
def ev (n : Nat) (r q : Int) (a : Nat → Int) : Int := sm n (fun i => a i * pw r q i) % q
theorem ints_sum : ∀ (n : Nat) (f : Nat → Int), (lf n f).sum = sm n f
  | 0, _ => rfl
  | n + 1, f => by rw [lf_succ, List.sum_append, ints_sum n f, sm_succ]; simp
section
variable {prog : Program} {w : World} {b : Heap} {S : List Addr} {g0 : FM} {h0 : Heap} {env : Env} {g : FM} {m mc : Str → Option Value} {mu pre post : List (Addr × Obj)} {A : Around} {s : Shared} {E : Value → Shared → Prop}
theorem x_augName {M : Model} {x : Str} {pos' : Pos} {op : Operator} {value : Expr} {pos : Pos} {v0 : Value} {Q : Flow → Shared → Prop} (H : St b S g0 h0 env g m mc mu s.heap) (hv : m x = some v0)
    (h : wpAny M A (eval value env) (fun v s₂ => wpAny M A (inplaceOp op v0 v) (fun new s₃ => wpAny M A (storeName env x new) (fun _ => Q .next) E s₃) E s₂) E s)
    (hk : env.scope.kind = .function := by with_unfolding_all rfl) (hl : env.kindOf x = some .local := by with_unfolding_all rfl) :
    wpAny M A (exec (.AugAssign (.Name x pos') op value pos) env) Q E s := wpAny_AugAssign_Name (wpAny_loadName_local hk hl H.ns hv h)
/-- a list of ints just made, put away for good -/
theorem St.freezeI {a : Addr} {o : Obj} {vs : List Value} {ns : List Int} {h : Heap} (H : St b S g0 h0 env g m mc ((a, o) :: mu) h) (h0a : h0.get? a = none) (isl : IsL o vs) (hi : IntsAre vs ns) :
    ∃ g', g.le g' ∧ IntL g' a ns ∧ St b S g0 h0 env g' m mc mu h :=
  ⟨_, (H.freeze h0a).2, IntL.mk (FM.put_self ..) isl hi, (H.freeze h0a).1⟩
end
end Mine
namespace Mine
end Mine
namespace Mine
theorem mod_self (x q : Int) : x % q % q = x % q := Int.emod_emod_of_dvd _ (Int.dvd_refl _)
theorem add_mod2 {a b a' b' q : Int} (h : a % q = a' % q) (h' : b % q = b' % q) : (a + b) % q = (a' + b') % q := by
  rw [Int.add_emod, h, h', ← Int.add_emod]
theorem sub_mod2 {a b a' b' q : Int} (h : a % q = a' % q) (h' : b % q = b' % q) : (a - b) % q = (a' - b') % q := by
  rw [Int.sub_emod, h, h', ← Int.sub_emod]
theorem mul_mod2 {a b a' b' q : Int} (h : a % q = a' % q) (h' : b % q = b' % q) : a * b % q = a' * b' % q := by
  rw [Int.mul_emod, h, h', ← Int.mul_emod]
def pow (r : Int) : Nat → Int
  | 0 => 1
  | i + 1 => pow r i * r
theorem pow_add (r : Int) (i : Nat) : ∀ j, pow r (i + j) = pow r i * pow r j
  | 0 => by show pow r i = pow r i * 1; rw [Int.mul_one]
  | j + 1 => by
    show pow r (i + j) * r = pow r i * (pow r j * r)
    rw [pow_add r i j, Int.mul_assoc]
theorem pw_pow (r q : Int) : ∀ i, pw r q i % q = pow r i % q
  | 0 => rfl
  | i + 1 => by
    show pw r q i * r % q % q = pow r i * r % q
    rw [mod_self]
    exact mul_mod2 (pw_pow r q i) rfl
/-- a row's value at a root, its powers not reduced -/
def at_ (n : Nat) (r : Int) (a : Nat → Int) : Int := sm n fun i => a i * pow r i
theorem ev_at (n : Nat) (r q : Int) (a : Nat → Int) : ev n r q a = at_ n r a % q := sm_mod fun i _ => mul_mod2 rfl (pw_pow r q i)
theorem at_nc {n : Nat} {r q : Int} (hr : (pow r n + 1) % q = 0) (a b : Nat → Int) : at_ n r (nc n a b) % q = at_ n r a * at_ n r b % q := by
  have e1 : at_ n r (nc n a b) = sm n fun i => sm n fun j => a i * b j * sm n fun k => cf n i j k * pow r k := by
    have : at_ n r (nc n a b) = sm n fun k => sm n fun i => sm n fun j => a i * b j * (cf n i j k * pow r k) := sm_congr fun k _ => by
      unfold nc
      rw [← sm_mul_r]
      refine sm_congr fun i _ => ?_
      rw [← sm_mul_r]
      refine sm_congr fun j _ => ?_
      rw [Int.mul_comm (cf n i j k), Int.mul_assoc]
    rw [this, sm_swap]
    refine sm_congr fun i _ => ?_
    rw [sm_swap]
    refine sm_congr fun j _ => ?_
    rw [sm_mul]
  have e2 : at_ n r a * at_ n r b = sm n fun i => sm n fun j => a i * b j * pow r (i + j) := by
    unfold at_
    rw [← sm_mul_r]
    refine sm_congr fun i _ => ?_
    rw [← sm_mul]
    refine sm_congr fun j _ => ?_
    rw [pow_add, Int.mul_assoc, Int.mul_assoc, Int.mul_left_comm (pow r i)]
  rw [e1, e2]
  refine sm_mod fun i hi => sm_mod fun j hj => mul_mod2 rfl ?_
  rw [cf_sum (pow r) hi hj]
  split
  · rfl
  · rename_i h
    have e : pow r (i + j) = pow r n * pow r (i + j - n) := by rw [← pow_add]; congr 1; omega
    rw [e]
    have e3 : pow r n % q = (-1) % q := by
      have : pow r n = (pow r n + 1) + (-1) := by omega
      rw [this, Int.add_emod, hr, Int.zero_add, mod_self]
    have e4 : pow r n * pow r (i + j - n) % q = (-1) * pow r (i + j - n) % q := mul_mod2 e3 rfl
    rw [e4]
    congr 1
    omega
theorem at_add (n : Nat) (r : Int) (a b : Nat → Int) : at_ n r (fun k => a k + b k) = at_ n r a + at_ n r b := by
  unfold at_
  rw [← sm_add]
  exact sm_congr fun i _ => Int.add_mul ..
theorem at_sub (n : Nat) (r : Int) (a b : Nat → Int) : at_ n r (fun k => a k - b k) = at_ n r a - at_ n r b := by
  unfold at_
  rw [← sm_sub]
  exact sm_congr fun i _ => Int.sub_mul ..
theorem at_mod (n : Nat) (r q : Int) (a : Nat → Int) : at_ n r (fun k => a k % q) % q = at_ n r a % q := sm_mod fun i _ => mul_mod2 (mod_self _ _) rfl
theorem at_sm (n m : Nat) (r : Int) (f : Nat → Nat → Int) : at_ n r (fun k => sm m fun j => f j k) = sm m fun j => at_ n r (f j) := by
  unfold at_
  rw [sm_swap]
  refine sm_congr fun k _ => ?_
  rw [sm_mul_r]
/-- a sum of products and a row, at a root -/
theorem ev_row {n m : Nat} {r q : Int} (hr : (pow r n + 1) % q = 0) (A B : Nat → Nat → Int) (c : Nat → Int) :
    ev n r q (fun k => (sm m (fun j => nc n (A j) (B j) k) % q + c k) % q) = (sm m (fun j => ev n r q (A j) * ev n r q (B j)) + ev n r q c) % q := by
  rw [ev_at, at_mod, at_add]
  refine add_mod2 ?_ ?_
  · rw [at_mod, at_sm]
    refine sm_mod fun j _ => ?_
    rw [at_nc hr]
    refine mul_mod2 ?_ ?_
    · rw [ev_at, mod_self]
    · rw [ev_at, mod_self]
  · rw [ev_at, mod_self]
/-- a row less a sum of products, at a root -/
theorem ev_less {n m : Nat} {r q : Int} (hr : (pow r n + 1) % q = 0) (A B : Nat → Nat → Int) (c : Nat → Int) :
    ev n r q (fun k => (c k - sm m (fun j => nc n (A j) (B j) k) % q) % q) = (ev n r q c - sm m (fun j => ev n r q (A j) * ev n r q (B j))) % q := by
  rw [ev_at, at_mod, at_sub]
  refine sub_mod2 ?_ ?_
  · rw [ev_at, mod_self]
  · rw [at_mod, at_sm]
    refine sm_mod fun j _ => ?_
    rw [at_nc hr]
    refine mul_mod2 ?_ ?_
    · rw [ev_at, mod_self]
    · rw [ev_at, mod_self]
/-- the noise, reckoned without the matrix -/
theorem noise {hh ww : Nat} {q : Int} (A : Nat → Nat → Int) (S Y E F : Nat → Int) (M : Int) :
    ((sm hh (fun i => (sm ww (fun j => A i j * S j) + E i) % q * Y i) + M) % q - sm ww (fun j => S j * ((sm hh (fun i => A i j * Y i) + F j) % q))) % q =
      (M + (sm hh (fun i => E i * Y i) - sm ww (fun j => S j * F j))) % q := by
  have e1 : sm hh (fun i => (sm ww (fun j => A i j * S j) + E i) % q * Y i) % q = (sm hh (fun i => sm ww (fun j => A i j * S j * Y i)) + sm hh (fun i => E i * Y i)) % q := by
    rw [← sm_add]
    refine sm_mod fun i _ => ?_
    rw [sm_mul_r, ← Int.add_mul]
    exact mul_mod2 (mod_self _ _) rfl
  have e2 : sm ww (fun j => S j * ((sm hh (fun i => A i j * Y i) + F j) % q)) % q = (sm hh (fun i => sm ww (fun j => A i j * S j * Y i)) + sm ww (fun j => S j * F j)) % q := by
    rw [sm_swap hh ww, ← sm_add]
    refine sm_mod fun j _ => ?_
    have : sm hh (fun i => A i j * S j * Y i) = S j * sm hh (fun i => A i j * Y i) := by
      rw [← sm_mul]
      refine sm_congr fun i _ => ?_
      rw [Int.mul_comm (A i j), Int.mul_assoc]
    rw [this, ← Int.mul_add]
    exact mul_mod2 rfl (mod_self _ _)
  have e3 : ((sm hh (fun i => (sm ww (fun j => A i j * S j) + E i) % q * Y i) + M) % q - sm ww (fun j => S j * ((sm hh (fun i => A i j * Y i) + F j) % q))) % q =
      ((sm hh (fun i => sm ww (fun j => A i j * S j * Y i)) + sm hh (fun i => E i * Y i) + M) - (sm hh (fun i => sm ww (fun j => A i j * S j * Y i)) + sm ww (fun j => S j * F j))) % q :=
    sub_mod2 (by rw [mod_self]; exact add_mod2 e1 rfl) e2
  rw [e3]
  congr 1
  omega
theorem lf_add (a : Nat) (f : Nat → Int) : ∀ b, lf (a + b) f = lf a f ++ lf b fun i => f (a + i)
  | 0 => by show lf a f = lf a f ++ []; rw [List.append_nil]
  | b + 1 => by
    show lf (a + b + 1) f = _
    rw [lf_succ, lf_add a f b, lf_succ, List.append_assoc]
theorem lf_two (f : Nat → Int) : lf 2 f = [f 0, f 1] := rfl
theorem mem_lf {n : Nat} {f : Nat → Int} {x : Int} (h : x ∈ lf n f) : ∃ k, k < n ∧ x = f k := by
  obtain ⟨k, hk, e⟩ := List.mem_map.mp h
  exact ⟨k, List.mem_range.mp hk, e.symm⟩
/-- what the law tells of the four, at a root -/
theorem told_eq {hh ww n : Nat} {q r : Int} (hr : (pow r n + 1) % q = 0) (Af : Nat → Nat → Nat → Int) (Sf Ef Yf Ff : Nat → Nat → Int) (Mf : Nat → Int) (Tf : Nat → Nat → Int)
    (h1 : ∀ i, i < hh → Tf i = fun k => (sm ww (fun j => nc n (Af i j) (Sf j) k) % q + Ef i k) % q)
    (h2 : ∀ j, j < ww → Tf (hh + j) = fun k => (sm hh (fun i => nc n (Af i j) (Yf i) k) % q + Ff j k) % q)
    (h3 : Tf (hh + ww) = fun k => (sm hh (fun i => nc n (Tf i) (Yf i) k) % q + Mf k) % q)
    (h4 : Tf (hh + ww + 1) = fun k => (Tf (hh + ww) k - sm ww (fun j => nc n (Sf j) (Tf (hh + j)) k) % q) % q) :
    lf (hh + ww + 2) (fun i => ev n r q (Tf i)) = lf hh (fun i => (sm ww (fun j => ev n r q (Af i j) * ev n r q (Sf j)) + ev n r q (Ef i)) % q) ++ lf ww (fun j => (sm hh (fun i => ev n r q (Af i j) * ev n r q (Yf i)) + ev n r q (Ff j)) % q) ++
      [(sm hh (fun i => (sm ww (fun j => ev n r q (Af i j) * ev n r q (Sf j)) + ev n r q (Ef i)) % q * ev n r q (Yf i)) + ev n r q Mf) % q, (ev n r q Mf + (sm hh (fun i => ev n r q (Ef i) * ev n r q (Yf i)) - sm ww (fun j => ev n r q (Sf j) * ev n r q (Ff j)))) % q] := by
  have e1 : ∀ i, i < hh → ev n r q (Tf i) = (sm ww (fun j => ev n r q (Af i j) * ev n r q (Sf j)) + ev n r q (Ef i)) % q := fun i hi => by rw [h1 i hi, ev_row hr (fun j => Af i j) Sf (Ef i)]
  have e2 : ∀ j, j < ww → ev n r q (Tf (hh + j)) = (sm hh (fun i => ev n r q (Af i j) * ev n r q (Yf i)) + ev n r q (Ff j)) % q := fun j hj => by rw [h2 j hj, ev_row hr (fun i => Af i j) Yf (Ff j)]
  have e3 : ev n r q (Tf (hh + ww)) = (sm hh (fun i => (sm ww (fun j => ev n r q (Af i j) * ev n r q (Sf j)) + ev n r q (Ef i)) % q * ev n r q (Yf i)) + ev n r q Mf) % q := by
    rw [h3, ev_row hr Tf Yf Mf, sm_congr fun i hi => by rw [e1 i hi]]
  have e4 : ev n r q (Tf (hh + ww + 1)) = (ev n r q Mf + (sm hh (fun i => ev n r q (Ef i) * ev n r q (Yf i)) - sm ww (fun j => ev n r q (Sf j) * ev n r q (Ff j)))) % q := by
    have es : sm ww (fun j => ev n r q (Sf j) * ev n r q (Tf (hh + j))) = sm ww (fun j => ev n r q (Sf j) * ((sm hh (fun i => ev n r q (Af i j) * ev n r q (Yf i)) + ev n r q (Ff j)) % q)) := sm_congr fun j hj => by rw [e2 j hj]
    rw [h4, ev_less hr Sf (fun j => Tf (hh + j)) (Tf (hh + ww)), es, e3]
    exact noise (fun i j => ev n r q (Af i j)) (fun j => ev n r q (Sf j)) (fun i => ev n r q (Yf i)) (fun i => ev n r q (Ef i)) (fun j => ev n r q (Ff j)) (ev n r q Mf)
  rw [lf_add (hh + ww) _ 2, lf_add hh _ ww, lf_two]
  rw [Nat.add_zero, e3, e4, lf_ext e1, lf_ext e2]
/-- the four, told in one row -/
theorem told_fn {hh ww : Nat} (T U : Nat → Nat → Int) (V W : Nat → Int) : ∃ Tf : Nat → Nat → Int, (∀ i, i < hh → Tf i = T i) ∧ (∀ j, j < ww → Tf (hh + j) = U j) ∧ Tf (hh + ww) = V ∧ Tf (hh + ww + 1) = W := by
  refine ⟨fun i => if i < hh then T i else if i < hh + ww then U (i - hh) else if i = hh + ww then V else W, fun i hi => if_pos hi, fun j hj => ?_, ?_, ?_⟩
  · dsimp only
    rw [if_neg (by omega), if_pos (by omega), Nat.add_sub_cancel_left]
  · dsimp only
    rw [if_neg (by omega), if_neg (by omega), if_pos rfl]
  · dsimp only
    rw [if_neg (by omega), if_neg (by omega), if_neg (by omega)]
theorem told_refs {g : FM} {n hh ww : Nat} {T U Tf : Nat → Nat → Int} {ys zs : List PySem.Value} {lV lW : PySem.Addr} (h1 : Refs (fun i x => IntL g x (lf n (T i))) ys) (e1 : ys.length = hh) (h2 : Refs (fun i x => IntL g x (lf n (U i))) zs) (e2 : zs.length = ww)
    (t1 : ∀ i, i < hh → Tf i = T i) (t2 : ∀ j, j < ww → Tf (hh + j) = U j) (h3 : IntL g lV (lf n (Tf (hh + ww)))) (h4 : IntL g lW (lf n (Tf (hh + ww + 1)))) :
    Refs (fun i x => IntL g x (lf n (Tf i))) ((ys ++ zs) ++ [.ref lV, .ref lW]) := by
  have a : Refs (fun i x => IntL g x (lf n (Tf i))) (ys ++ zs) := fun k v e => by
    rcases Nat.lt_or_ge k ys.length with q | q
    · rw [List.getElem?_append_left q] at e
      obtain ⟨x, rfl, p⟩ := h1 k v e
      exact ⟨x, rfl, by dsimp only; rw [t1 k (by omega)]; exact p⟩
    · rw [List.getElem?_append_right q] at e
      obtain ⟨x, rfl, p⟩ := h2 _ v e
      have hk : k - ys.length < zs.length := by
        rcases Nat.lt_or_ge (k - ys.length) zs.length with z | z
        · exact z
        · rw [List.getElem?_eq_none z] at e; cases e
      refine ⟨x, rfl, ?_⟩
      have := t2 (k - ys.length) (by omega)
      rw [show hh + (k - ys.length) = k by omega] at this
      dsimp only
      rw [this]; rw [e1] at p; rw [e1]; exact p
  have b := a.push (n := hh + ww) (x := lV) (by rw [List.length_append]; omega) h3
  have c := b.push (n := hh + ww + 1) (x := lW) (by rw [List.length_append, List.length_append]; simp; omega) h4
  rw [List.append_assoc] at c
  exact c
theorem told_bd {hh ww : Nat} {q : Int} {T U Tf F G : Nat → Nat → Int} {V W v w : Nat → Int} (hq : 0 < q) (t1 : ∀ i, i < hh → Tf i = T i) (t2 : ∀ j, j < ww → Tf (hh + j) = U j) (t3 : Tf (hh + ww) = V) (t4 : Tf (hh + ww + 1) = W)
    (eT : T = fun i k => F i k % q) (eU : U = fun i k => G i k % q) (eV : V = fun k => v k % q) (eW : W = fun k => w k % q) : ∀ i k, i < hh + ww + 2 → 0 ≤ Tf i k ∧ Tf i k < q := by
  intro i k hi
  have z : ∀ x : Int, 0 ≤ x % q ∧ x % q < q := fun x => ⟨Int.emod_nonneg _ (by omega), Int.emod_lt_of_pos _ hq⟩
  rcases Nat.lt_or_ge i hh with a | a
  · rw [t1 i a, eT]; exact z _
  · rcases Nat.lt_or_ge i (hh + ww) with b | b
    · have := t2 (i - hh) (by omega)
      rw [show hh + (i - hh) = i by omega] at this
      rw [this, eU]; exact z _
    · rcases Nat.lt_or_ge i (hh + ww + 1) with c | c
      · obtain rfl : i = hh + ww := by omega
        rw [t3, eV]; exact z _
      · obtain rfl : i = hh + ww + 1 := by omega
        rw [t4, eW]; exact z _
theorem sm_ext3 {hh n : Nat} {q : Int} {T Tf Y : Nat → Nat → Int} {M : Nat → Int} (t1 : ∀ i, i < hh → Tf i = T i) : (fun k => (sm hh (fun i => nc n (T i) (Y i) k) % q + M k) % q) = fun k => (sm hh (fun i => nc n (Tf i) (Y i) k) % q + M k) % q := by
  funext k
  rw [sm_congr (g := fun i => nc n (Tf i) (Y i) k) fun i hi => by rw [t1 i hi]]
theorem sm_ext4 {hh ww n : Nat} {q : Int} {U Tf S : Nat → Nat → Int} {V : Nat → Int} (t2 : ∀ j, j < ww → Tf (hh + j) = U j) : (fun k => (V k - sm ww (fun j => nc n (S j) (U j) k) % q) % q) = fun k => (V k - sm ww (fun j => nc n (S j) (Tf (hh + j)) k) % q) % q := by
  funext k
  rw [sm_congr (g := fun j => nc n (S j) (Tf (hh + j)) k) fun j hj => by rw [t2 j hj]]
end Mine
open PySem PySem.W PyProof.Rows PySem.Calls Mine
set_option hygiene false in
local macro_rules | `(tactic| walk_at "M1") => `(tactic| with_reducible first
  | ((guard_target = wpAny _ _ (eval _ _) _ _ _); first
    | refine ev_loc (by assumption) (by with_unfolding_all rfl) ?_
    | refine ev_cell (by assumption) (by with_unfolding_all rfl) ?_
    | refine ev_free (by assumption) (by with_unfolding_all rfl) ?_
    | refine ev_loc (by assumption) (by with_unfolding_all assumption) ?_
    | refine ev_cell (by assumption) (by with_unfolding_all assumption) ?_
    | (refine ev_blt (by assumption) (by assumption) (by with_unfolding_all k_is) (by with_unfolding_all boot_by_name) ?_)
    | (refine ev_glob (by assumption) (by assumption) (by with_unfolding_all k_is) ?_)
    | refine wpAny_Constant_int ?_
    | refine wpAny_Constant_bool ?_
    | refine wpAny_BinOp ?_
    | refine Subscript_ ?_
    | refine x_meth ?_
    | refine x_attr ?_
    | refine x_list ?_
    | refine x_tuple ?_
    | refine wpAny_UnaryOp ?_
    | refine wpAny_Call_NameR ?_
    | refine x_cmp ?_)
  | ((guard_target = wpAny _ _ (execs _ _) _ _ _); first
    | refine wpAny_execs_nil ?_
    | (refine wpAny_execs_cons ?_; try dsimp only))
  | ((guard_target = wpAny _ _ (exec _ _) _ _ _); first
    | refine wpAny_Return_some ?_
    | refine wpAny_If ?_
    | refine x_assign ?_
    | refine x_assignSub ?_
    | refine x_assignAttr ?_
    | refine x_assignTup ?_
    | refine x_assignSwap (by with_unfolding_all rfl) ?_
    | refine x_for ?_
    | refine x_assert ?_
    | refine x_expr ?_
    | refine x_augSub ?_)
  | ((guard_target = wpAny _ _ (isTrue _ _ _) _ _ _); first
    | refine wpAny_isTrue_Compare1 ?_
    | refine wpAny_isTrue_Not ?_
    | refine PyProof.Rows.isTrue_and ?_
    | refine PyProof.Rows.isTrue_or ?_
    | refine PyProof.Rows.isTrue_and_nil ?_
    | refine PyProof.Rows.isTrue_or_nil ?_
    | refine x_isTrue ?_)
  | refine wpAny_truthy_bool ?_
  | refine if_t ?_
  | refine if_f ?_
  | refine if_nt ?_
  | refine if_nf ?_
  | ((guard_target = wpAny _ _ (storeName _ _ _) _ _ _); first
    | (refine st_loc (by assumption) ?_; intro _ _)
    | (refine st_cell (by assumption) ?_; intro _ _))
  | ((guard_target = wpAny _ _ (callWith _ _ _ _ _) _ _ _); first
    | refine x_builtin ?_
    | refine x_type ?_
    | refine x_bm ?_
    | refine x_bm0 ?_
    | refine x_fn (by assumption) (by with_unfolding_all k_is) ?_)
  | ((show Frag.In _ _ ∧ _); refine ⟨St.X (by assumption) (by assumption), ?_⟩)
  | ((guard_target = wpAny _ _ (spliced _) _ _ _); first
    | refine spliced_none ?_
    | refine x_arg ?_)
  | ((guard_target = wpAny _ _ (binaryOp _ (Value.int _ _) _) _ _ _); first
    | refine PyProof.Rows.add_int ?_
    | refine PyProof.Rows.sub_int ?_
    | (refine mul_lit (by with_unfolding_all decide) ?_)
    | (refine mod_pos (by first | decide | assumption) ?_)
    | (refine div_pos (by first | decide | assumption) (by first | decide | omega) ?_))
  | ((guard_target = wpAny _ _ (compareOp _ (Value.int _ _) _) _ _ _); first
    | refine ge_int ?_
    | refine PyProof.Rows.gt_int ?_
    | refine PyProof.Rows.lt_int ?_
    | refine PyProof.Rows.eq_int ?_
    | refine PyProof.Rows.ne_int ?_)
  | refine PyProof.Rows.neg_int ?_
  | refine PyProof.Rows.not_of ?_
  | refine PyProof.Rows.iadd_int ?_
  | refine PyProof.Rows.isub_int ?_
  | refine call_int_int ?_
  | (refine sub_mu (by assumption) (by walk_at "mem") (by assumption) (by decide) (by decide) (by with_unfolding_all rfl) ?_)
  | (refine len_mu (by assumption) (by walk_at "mem") (by assumption) (by omega) ?_))
set_option hygiene false in
local macro_rules | `(tactic| walk_at "mem") => `(tactic| with_unfolding_all first | exact List.Mem.head _ | exact List.Mem.tail _ (List.Mem.head _) | exact List.Mem.tail _ (List.Mem.tail _ (List.Mem.head _)) | exact List.Mem.tail _ (List.Mem.tail _ (List.Mem.tail _ (List.Mem.head _))))
set_option hygiene false in
local macro_rules | `(tactic| walk_at "M") => `(tactic| repeat (walk_at "M1"))
set_option hygiene false in
local macro_rules | `(tactic| walk_at "ok") => `(tactic| exact ⟨by with_unfolding_all rfl, by repeat (first | exact trivial | refine ⟨by with_unfolding_all rfl, ?_⟩), by rfl, by decide, by rfl, by decide, by decide, by with_unfolding_all rfl, by first | decide | (intro _; rfl), by decide⟩)
set_option hygiene false in
local macro_rules | `(tactic| walk_at "okz") => `(tactic| exact ⟨by with_unfolding_all rfl, by repeat (first | exact trivial | refine ⟨by with_unfolding_all rfl, ?_⟩), by rfl, by decide, by rfl, by decide, by decide, by with_unfolding_all rfl, by with_unfolding_all rfl⟩)
set_option hygiene false in
local macro_rules | `(tactic| walk_at "okg") => `(tactic| exact ⟨by rfl, by with_unfolding_all rfl, by repeat (first | exact trivial | refine ⟨by with_unfolding_all rfl, ?_⟩), by decide, by decide, by decide, by rfl, by first | decide | (simp only [List.map_cons, List.map_nil]; decide)⟩)
namespace Mine
section
variable {prog : Program} {w : World} {p : Program} {loose : List Str} {mean : ExcName → Option Value} {mg mb : Str → Option Value} {b : Heap}
variable {S : List Addr} {g0 : FM} {h0 : Heap} {env : Env} {g : FM} {m mc : Str → Option Value} {mu : List (Addr × Obj)}
variable {A : Around} {s : Shared} {E : Value → Shared → Prop} {R : Result → Shared → Prop}

theorem ga_q {x : Addr} {q n : Int} {expr : Bool} {Q : Value → Shared → Prop} (W : Wd (Mine.hd.heap_39 w.params) p loose mean mg mb b) (H : St b S g0 h0 env g m mc mu s.heap) (I : Ring 59 g x q n)
    (h : ∀ t, Q (.int q t) { s with toks := s.toks + 1 }) : wpAny (model prog w) A (getAttr (.ref x) "q" expr) Q E s := by
  obtain ⟨h1, t1, u1, h2, t2, u2, i⟩ := I
  refine ga_own (attr := none) (H.X W) (i.mono H.on) ?a ?b ?c ?d rfl rfl (h _)
  case a => k_is
  case b => k_is
  case c => k_is
  case d => k_is
theorem ga_n {x : Addr} {q n : Int} {expr : Bool} {Q : Value → Shared → Prop} (W : Wd (Mine.hd.heap_39 w.params) p loose mean mg mb b) (H : St b S g0 h0 env g m mc mu s.heap) (I : Ring 59 g x q n)
    (h : ∀ t, Q (.int n t) { s with toks := s.toks + 1 }) : wpAny (model prog w) A (getAttr (.ref x) "n" expr) Q E s := by
  obtain ⟨h1, t1, u1, h2, t2, u2, i⟩ := I
  refine ga_own (attr := none) (H.X W) (i.mono H.on) ?a ?b ?c ?d rfl rfl (h _)
  case a => k_is
  case b => k_is
  case c => k_is
  case d => k_is
theorem ga_parent {x r : Addr} {cs : List Int} {expr : Bool} {Q : Value → Shared → Prop} (W : Wd (Mine.hd.heap_39 w.params) p loose mean mg mb b) (H : St b S g0 h0 env g m mc mu s.heap) (I : Poly 222 g x r cs)
    (h : Q (.ref r) { s with toks := s.toks + 1 }) : wpAny (model prog w) A (getAttr (.ref x) "parent" expr) Q E s := by
  obtain ⟨h1, t1, h2, t2, l, i, j⟩ := I
  refine ga_own (attr := none) (H.X W) (i.mono H.on) ?a ?b ?c ?d rfl rfl h
  case a => k_is
  case b => k_is
  case c => k_is
  case d => k_is
theorem ga_coeffs {x r : Addr} {cs : List Int} {expr : Bool} {Q : Value → Shared → Prop} (W : Wd (Mine.hd.heap_39 w.params) p loose mean mg mb b) (H : St b S g0 h0 env g m mc mu s.heap) (I : Poly 222 g x r cs)
    (h : ∀ l, IntL g l cs → Q (.ref l) { s with toks := s.toks + 1 }) : wpAny (model prog w) A (getAttr (.ref x) "coeffs" expr) Q E s := by
  obtain ⟨h1, t1, h2, t2, l, i, j⟩ := I
  refine ga_own (attr := none) (H.X W) (i.mono H.on) ?a ?b ?c ?d rfl rfl (h l j)
  case a => k_is
  case b => k_is
  case c => k_is
  case d => k_is

theorem add_mod_q (W : Wd (Mine.hd.heap_39 w.params) p loose mean mg mb b) (hB : Bg b g s.heap) (hA : Ao 2 A)
    {self r : Addr} {cs : List Int} {q n x y : Int} {tx ty : Tok} (hp : Poly 222 g self r cs) (hr : Ring 59 g r q n) (hq : q ≠ 0)
    (ret : ∀ t g' h' tk, Ev [] g s.heap g' h' → R (.ok (.ret (.int ((x + y).fmod q) t))) { s with heap := h', toks := tk }) :
    codeAny (model prog w) A (.call (.ref 110) ⟨[.ref self, .int x tx, .int y ty], []⟩) R s := by
  refine enter (mu := []) (binds := [("self", .ref self), ("x", .int x tx), ("y", .int y ty)]) (m := up "y" (.int y ty) (up "x" (.int x tx) (up "self" (.ref self) no))) (mc := no)
    W hB hA (by k_is) (by k_is) (BindsTo.of_eq rfl) rfl (by decide) (fun _ q => nomatch q) .nil (fun _ => rfl) (fun _ => rfl) ?_
  intro L h₁ tk E' hA' H
  refine wpAny_execs_cons (wpAny_Return_some (wpAny_BinOp (wpAny_BinOp ?_)))
  refine ev_loc H rfl ?_
  refine ev_loc H rfl ?_
  refine PyProof.Rows.add_int ?_
  refine Attribute_any_ (Attribute_any_ ?_)
  refine ev_loc H rfl ?_
  refine ga_parent W H hp ?_
  refine ga_q W H hr ?_
  intro t1
  refine PyProof.Rows.mod_int' hq ?_
  exact ret _ _ _ _ H.ev
end
end Mine
namespace Mine
section
variable {prog : Program} {w : World} {p : Program} {loose : List Str} {mean : ExcName → Option Value} {mg mb : Str → Option Value} {b : Heap}
variable {S : List Addr} {g0 : FM} {h0 : Heap} {env : Env} {g : FM} {m mc : Str → Option Value} {mu : List (Addr × Obj)}
variable {A : Around} {s : Shared} {E : Value → Shared → Prop} {R : Result → Shared → Prop}

theorem ga_parent0 {x dx r : Addr} {h1 : Int} {t1 : Tok} {nn : Nat} {expr : Bool} {Q : Value → Shared → Prop} (W : Wd (Mine.hd.heap_39 w.params) p loose mean mg mb b) (H : St b S g0 h0 env g m mc mu s.heap) (hx : g x = some (instObj 222 dx)) (hm : (dx, dictOf [⟨h1, .str "parent" t1, .ref r⟩] nn) ∈ mu)
    (h : Q (.ref r) { s with toks := s.toks + 1 }) : wpAny (model prog w) A (getAttr (.ref x) "parent" expr) Q E s := by
  refine ga_own (attr := none) (H.X W) ⟨dx, nn, H.on _ _ hx, H.mus _ hm⟩ ?a ?b ?c ?d rfl rfl h
  case a => k_is
  case b => k_is
  case c => k_is
  case d => k_is

theorem pi_a {n c : Nat} (h : c < n) (hn : n ≤ 1000) : 0 ≤ (n : Int) - c ∧ -2 ^ 62 ≤ (n : Int) - c ∧ (n : Int) - c < 2 ^ 62 ∧ ((n : Int) - c - 0).toNat = n - c ∧ c + (n - c) ≤ 16777216 := by omega
set_option maxHeartbeats 400000 in
theorem parse_spec (W : Wd (Mine.hd.heap_39 w.params) p loose mean mg mb b) (hB : Bg b g s.heap) (hA : Ao 2 A)
    {x dx r l : Addr} {cs : List Int} {q : Int} {n : Nat} {h1 : Int} {t1 : Tok} {nn : Nat} (hx : g x = some (instObj 222 dx)) (hd : s.heap.get? dx = some (dictOf [⟨h1, .str "parent" t1, .ref r⟩] nn)) (gd : g dx = none)
    (hr : Ring 59 g r q n) (hl : IntL g l cs) (hn : n ≤ 1000) (hc : cs.length ≤ n)
    (ret : ∀ l' g' h' tk, Ev [dx] g s.heap g' h' → h'.get? dx = some (dictOf [⟨h1, .str "parent" t1, .ref r⟩] nn) → IntL g' l' (cs ++ List.replicate (n - cs.length) 0) → R (.ok (.ret (.ref l'))) { s with heap := h', toks := tk }) :
    codeAny (model prog w) A (.call (.ref 96) ⟨[.ref x, .ref l], []⟩) R s := by
  refine enter (mu := [(dx, dictOf [⟨h1, .str "parent" t1, .ref r⟩] nn)]) (binds := [("self", .ref x), ("coefficients", .ref l)]) (m := up "coefficients" (.ref l) (up "self" (.ref x) no)) (mc := no)
    W hB hA (by k_is) (by k_is) (BindsTo.of_eq rfl) rfl (by decide) (fun q hq => by rw [List.mem_singleton.mp hq]; exact ⟨hd, gd⟩) (by simp) (fun _ => rfl) (fun _ => rfl) ?_
  intro L h₁ tk E' hA' H
  walk_at "M"
  refine len_il H hl (by omega) ?_
  walk_at "M"
  rename St _ _ _ _ _ _ _ _ _ _ => H1
  refine ga_parent0 W H1 hx (.head _) ?_
  refine ga_n W H1 hr ?_
  intro t2
  walk_at "M"
  split
  · rename_i hh
    have := of_decide_eq_true hh
    omega
  · walk_at "M"
    refine ga_parent0 W H1 hx (.head _) ?_
    refine ga_n W H1 hr ?_
    intro t3
    walk_at "M"
    split
    · rename_i hlt
      have hlt := of_decide_eq_true hlt
      obtain ⟨q1, q2, q3, hk, q5⟩ := pi_a (Int.ofNat_lt.mp hlt) hn
      walk_at "M"
      refine ev_lc (cl := []) (cn := []) (xc := false) (by walk_at "ok") fun ok => ?_
      walk_at "M"
      refine ga_parent0 W H1 hx (.head _) ?_
      refine ga_n W H1 hr ?_
      intro t4
      walk_at "M"
      refine call_range1 H1 ?_
      intro h2 tk2 rr t5 u5 v5 hrr H2
      refine lc_run ok H2 (Src.range hA'.hh hrr (small_one (by decide) (by decide) q2 q3) q1) (by rw [sizeLine_eq, hk]; exact Nat.le_trans (Nat.sub_le _ _) (Nat.le_trans hn (by decide))) (fun i g₁ mu₁ ys => mu₁ = [(dx, dictOf [⟨h1, .str "parent" t1, .ref r⟩] nn)] ∧ IntsAre ys (List.replicate i 0)) ⟨rfl, .nil⟩ ?_ ?_
      · rintro i v C D oD I oI g₁ mu₁ ys h₁ tk E' hi hP le ha ⟨rfl, hns⟩ hl H3
        walk_at "M"
        exact EltEnd.mk (.refl _) H3 rfl ⟨rfl, by rw [List.replicate_succ']; exact hns.append (.cons _ _ .nil)⟩
      · rintro g₁ mu₁ ys D oD h₁ tk le ha ⟨rfl, hns⟩ hl2 isl fD H3
        obtain ⟨vs, hvl, hvi⟩ := ((hl.mono le).mono H3.on).list (.refl _)
        have e1 := hvi.length
        refine add_lists H3 hvl (isl.at_ (H3.mus _ (.head _))) (by rw [sizeLine_eq, e1, hl2, hk]; exact q5) ?_
        intro a h3 fa _ H4
        walk_at "M"
        rename St _ _ _ _ _ _ _ _ _ _ => H5
        obtain ⟨H6, le6⟩ := H5.freeze fa
        rw [hk] at hns
        exact ret _ _ _ _ H6.ev (H6.mus _ (.tail _ (.head _))) (IntL.mk (FM.put_self ..) (IsL.lst _) (hvi.append hns))
    · rename_i hlt
      have hlt : ¬ ((cs.length : Int) < n) := fun z => hlt (decide_eq_true z)
      walk_at "M"
      rw [show n - cs.length = 0 by omega] at ret
      exact ret _ _ _ _ H1.ev (H1.mus _ (.head _)) (by simpa using hl)
end
end Mine
namespace Mine
section
variable {prog : Program} {w : World} {p : Program} {loose : List Str} {mean : ExcName → Option Value} {mg mb : Str → Option Value} {b : Heap}
variable {S : List Addr} {g0 : FM} {h0 : Heap} {env : Env} {g : FM} {m mc : Str → Option Value} {mu : List (Addr × Obj)}
variable {A : Around} {s : Shared} {E : Value → Shared → Prop} {R : Result → Shared → Prop}

set_option maxHeartbeats 400000 in
theorem poly_init (W : Wd (Mine.hd.heap_39 w.params) p loose mean mg mb b) (hB : Bg b g s.heap) (hA : Ao 3 A)
    {x dx r l : Addr} {cs : List Int} {q : Int} {n : Nat} (hx : g x = some (instObj 222 dx)) (hd : s.heap.get? dx = some (dictOf [] 0)) (gd : g dx = none)
    (hr : Ring 59 g r q n) (hl : IntL g l cs) (hn : n ≤ 1000) (hc : cs.length ≤ n)
    (ret : ∀ l' h1 t1 h2 t2 nn g' h' tk, Ev [dx] g s.heap g' h' → h'.get? dx = some (dictOf [⟨h1, .str "parent" t1, .ref r⟩, ⟨h2, .str "coeffs" t2, .ref l'⟩] nn) → IntL g' l' (cs ++ List.replicate (n - cs.length) 0) → R (.ok (.ret .none)) { s with heap := h', toks := tk }) :
    codeAny (model prog w) A (.call (.ref 77) ⟨[.ref x, .ref r, .ref l], []⟩) R s := by
  refine enter (mu := [(dx, dictOf [] 0)]) (binds := [("self", .ref x), ("parent", .ref r), ("coefficients", .ref l)]) (m := up "coefficients" (.ref l) (up "parent" (.ref r) (up "self" (.ref x) no))) (mc := no)
    W hB hA (by k_is) (by k_is) (BindsTo.of_eq rfl) rfl (by decide) (fun q hq => by rw [List.mem_singleton.mp hq]; exact ⟨hd, gd⟩) (by simp) (fun _ => rfl) (fun _ => rfl) ?_
  intro L h₁ tk E' hA' H
  walk_at "M"
  refine sa_own W H (H.on _ _ hx) (by k_is) (by k_is) (by k_is) (by k_is) (by rfl) (by rfl) (Nat.le_of_ble_eq_true rfl) ?_
  intro h2 H2
  walk_at "M"
  refine gm_fn (f := 96) (H2.X W) ⟨dx, _, H2.on _ _ hx, H2.mus _ (.head _)⟩ (by k_is) (by k_is) (by k_is) rfl ?_
  walk_at "M"
  refine wpAny_call (parse_spec W H2.Bg (hA'.le (by decide)) hx (H2.mus _ (.head _)) (H2.own _ (owns_mu (.head _))).1 hr hl hn hc ?_)
  intro l' g' h' tk' ev hd' hl'
  have H3 := H2.callMu (pre := []) (mu' := [(dx, _)]) ev rfl (fun q hq => by rw [List.mem_singleton.mp hq]; exact hd')
  walk_at "M"
  refine sa_own W H3 (H3.on _ _ (ev.gg _ _ hx)) (by k_is) (by k_is) (by k_is) (by k_is) (by rfl) (by rfl) (Nat.le_of_ble_eq_true rfl) ?_
  intro h4 H4
  walk_at "M"
  exact ret _ _ _ _ _ _ _ _ _ H4.ev (H4.mus _ (.head _)) hl'

theorem poly_make (W : Wd (Mine.hd.heap_39 w.params) p loose mean mg mb b) (hB : Bg b g s.heap) (hA : Ao 4 A)
    {r l : Addr} {cs : List Int} {q : Int} {n : Nat} {Q : Value → Shared → Prop} (hr : Ring 59 g r q n) (hl : IntL g l cs) (hn : n ≤ 1000) (hc : cs.length ≤ n)
    (ret : ∀ x g' h' tk, Ev [] g s.heap g' h' → Poly 222 g' x r (cs ++ List.replicate (n - cs.length) 0) → Q (.ref x) { s with heap := h', toks := tk }) :
    wpAny (model prog w) A (call (.ref 222) [.ref r, .ref l]) Q E s := by
  refine mk_inst (kw := []) (W.X.keeps fun a o e => hB.on _ _ (hB.bg a o e)) hB.on (by k_is) (by k_is) (by k_is) ?_
  intro x dx h1 fx fd ne hx hd k1 sz
  have gx : g x = none := by
    cases q : g x with
    | none => rfl
    | some o' => have := hB.on _ _ q; rw [fx] at this; cases this
  have le0 := FM.put_le (o := instObj 222 dx) gx
  refine poly_init W (hB.put fx hx k1 sz) hA.make (FM.put_self ..) hd ?_ (hr.mono le0) (hl.mono le0) hn hc ?_
  · unfold FM.put
    rw [if_neg ne.symm]
    cases q : g dx with
    | none => rfl
    | some o' => have := hB.on _ _ q; rw [fd] at this; cases this
  · intro l' a1 t1 a2 t2 nn g' h' tk ev hd' hl'
    obtain ⟨ev', le⟩ := ev.made hB.on fx fd ne k1 hd hd'
    exact ⟨rfl, ret _ _ _ _ ev' ⟨a1, t1, a2, t2, l', ⟨dx, nn, le _ _ (ev.gg _ _ (FM.put_self ..)), FM.put_self ..⟩, hl'.mono le⟩⟩

theorem ring_call (W : Wd (Mine.hd.heap_39 w.params) p loose mean mg mb b) (hB : Bg b g s.heap) (hA : Ao 5 A)
    {r l : Addr} {cs : List Int} {q : Int} {n : Nat} (hr : Ring 59 g r q n) (hl : IntL g l cs) (hn : n ≤ 1000) (hc : cs.length ≤ n)
    (ret : ∀ x g' h' tk, Ev [] g s.heap g' h' → Poly 222 g' x r (cs ++ List.replicate (n - cs.length) 0) → R (.ok (.ret (.ref x))) { s with heap := h', toks := tk }) :
    codeAny (model prog w) A (.call (.ref 56) ⟨[.ref r, .ref l], []⟩) R s := by
  refine enter (mu := []) (binds := [("self", .ref r), ("coefficients", .ref l)]) (m := up "coefficients" (.ref l) (up "self" (.ref r) no)) (mc := no)
    W hB hA (by k_is) (by k_is) (BindsTo.of_eq rfl) rfl (by decide) (fun _ q => nomatch q) .nil (fun _ => rfl) (fun _ => rfl) ?_
  intro L h₁ tk E' hA' H
  obtain ⟨vs, o, k, go, oc, od, hi⟩ := hl
  walk_at "M"
  refine isi_list (H.X W) (H.on _ _ go) oc (r := false) (by kit_is) ?_
  intro tk2
  walk_at "M"
  refine isi_list (H.X W) (H.on _ _ go) oc (r := true) (by kit_is) ?_
  intro tk3
  walk_at "M"
  refine poly_make W H.Bg hA' hr ⟨vs, o, k, go, oc, od, hi⟩ hn hc ?_
  intro x g' h' tk' ev hp
  have H2 := H.call0 ev
  walk_at "M"
  exact ret _ _ _ _ H2.ev hp

end
end Mine
namespace Mine
section
variable {prog : Program} {w : World} {p : Program} {loose : List Str} {mean : ExcName → Option Value} {mg mb : Str → Option Value} {b : Heap}
variable {S : List Addr} {g0 : FM} {h0 : Heap} {env : Env} {g : FM} {m mc : Str → Option Value} {mu : List (Addr × Obj)}
variable {A : Around} {s : Shared} {E : Value → Shared → Prop} {R : Result → Shared → Prop}

theorem sub_mod_q (W : Wd (Mine.hd.heap_39 w.params) p loose mean mg mb b) (hB : Bg b g s.heap) (hA : Ao 2 A)
    {self r : Addr} {cs : List Int} {q n x y : Int} {tx ty : Tok} (hp : Poly 222 g self r cs) (hr : Ring 59 g r q n) (hq : q ≠ 0)
    (ret : ∀ t g' h' tk, Ev [] g s.heap g' h' → R (.ok (.ret (.int ((x - y).fmod q) t))) { s with heap := h', toks := tk }) :
    codeAny (model prog w) A (.call (.ref 117) ⟨[.ref self, .int x tx, .int y ty], []⟩) R s := by
  refine enter (mu := []) (binds := [("self", .ref self), ("x", .int x tx), ("y", .int y ty)]) (m := up "y" (.int y ty) (up "x" (.int x tx) (up "self" (.ref self) no))) (mc := no)
    W hB hA (by k_is) (by k_is) (BindsTo.of_eq rfl) rfl (by decide) (fun _ q => nomatch q) .nil (fun _ => rfl) (fun _ => rfl) ?_
  intro L h₁ tk E' hA' H
  walk_at "M"
  refine ga_parent W H hp ?_
  refine ga_q W H hr ?_
  intro t1
  refine PyProof.Rows.mod_int' hq ?_
  exact ret _ _ _ _ H.ev

theorem Poly.inst {C x r : Addr} {cs : List Int} (hp : Poly C g x r cs) : ∃ es, Inst g x C es := let ⟨_, _, _, _, _, i, _⟩ := hp; ⟨_, i⟩
theorem Ring.at {C x : Addr} {q n : Int} (hr : Ring C g x q n) : ∃ d es k, At g x C d es k := let ⟨_, _, _, _, _, _, d, k, e1, e2⟩ := hr; ⟨d, _, k, e1, e2⟩

theorem gm_parent {x r : Addr} {cs : List Int} {pl : Sem Bool} {Q : Value × List Value → Shared → Prop} (W : Wd (Mine.hd.heap_39 w.params) p loose mean mg mb b) (H : St b S g0 h0 env g m mc mu s.heap) (I : Poly 222 g x r cs)
    (h : Q (.ref r, []) { s with toks := s.toks + 1 }) : wpAny (model prog w) A (getMethod (.ref x) "parent" pl) Q E s := by
  have I' := I
  obtain ⟨h1, t1, h2, t2, l, i, j⟩ := I
  obtain ⟨d, n, J⟩ := (i.mono H.on).at_
  have hg : plainGet (Mine.hd.heap_39 w.params) 222 "parent" = true := by k_is
  refine method_usual (r := none) (H.X W) J (plainGet_of hg).1 (plainGet_of hg).2 ?a rfl (ga_parent W H I' h)
  case a => k_is
/-- a method of the class, looked up -/
theorem gm_P {x r : Addr} {cs : List Int} {name : Str} {f : Addr} {pl : Sem Bool} {Q : Value × List Value → Shared → Prop} (W : Wd (Mine.hd.heap_39 w.params) p loose mean mg mb b) (H : St b S g0 h0 env g m mc mu s.heap) (I : Poly 222 g x r cs)
    (hg : plainGet (Mine.hd.heap_39 w.params) 222 name = true) (hf : findIn (Mine.hd.heap_39 w.params) (.ref 222) name = some (some (.ref f))) (ht : isFn (Mine.hd.heap_39 w.params) (.ref f) = true) (hn : ∀ (h1 : Int) (t1 : Tok) (r : Addr) (h2 : Int) (t2 : Tok) (l : Addr), getL name [⟨h1, .str "parent" t1, .ref r⟩, ⟨h2, .str "coeffs" t2, .ref l⟩] = some none)
    (h : Q (.ref f, [.ref x]) s) : wpAny (model prog w) A (getMethod (.ref x) name pl) Q E s := by
  obtain ⟨h1, t1, h2, t2, l, i, j⟩ := I
  exact gm_fn (f := f) (H.X W) (i.mono H.on) hg hf ht (hn _ _ _ _ _ _) h

/-- the ring called with a list -/
theorem rcall {r l : Addr} {cs : List Int} {q : Int} {n : Nat} {pos : Pos} {x : Expr} {Q : Value → Shared → Prop} (W : Wd (Mine.hd.heap_39 w.params) p loose mean mg mb b) (H : St b S g0 h0 env g m mc mu s.heap) (hA : Ao 5 A)
    (hr : Ring 59 g r q n) (hl : IntL g l cs) (hn : n ≤ 1000) (hc : cs.length ≤ n)
    (ret : ∀ x g' h' tk, Ev [] g s.heap g' h' → Poly 222 g' x r (cs ++ List.replicate (n - cs.length) 0) → Q (.ref x) { s with heap := h', toks := tk }) :
    wpAny (model prog w) A (call (.ref r) [.ref l]) Q E s := by
  obtain ⟨d, es, k, i⟩ := hr.at
  exact icall (f := 56) (H.X W) (i.mono H.on) (by k_is) (by k_is) (by k_is) (ring_call W H.Bg hA hr hl hn hc ret)

set_option maxHeartbeats 400000 in
theorem add_ (W : Wd (Mine.hd.heap_39 w.params) p loose mean mg mb b) (hB : Bg b g s.heap) (hA : Ao 3 A)
    {self other r r' : Addr} {q : Int} {n : Nat} {a c : Nat → Int} (hp : Poly 222 g self r (lf n a)) (ho : Poly 222 g other r' (lf n c)) (hr : Ring 59 g r q n) (hq : 0 < q) (hn : n ≤ 1000)
    (ret : ∀ l g' h' tk, Ev [] g s.heap g' h' → IntL g' l (lf n fun k => (a k + c k) % q) → R (.ok (.ret (.ref l))) { s with heap := h', toks := tk }) :
    codeAny (model prog w) A (.call (.ref 132) ⟨[.ref self, .ref other], []⟩) R s := by
  refine enter (mu := []) (binds := [("self", .ref self), ("other", .ref other)]) (m := up "other" (.ref other) no) (mc := up "self" (.ref self) no)
    W hB hA (by k_is) (by k_is) (BindsTo.of_eq rfl) rfl (by decide) (fun _ q => nomatch q) .nil (fun _ => rfl) (fun _ => rfl) ?_
  intro L h₁ tk E' hA' H
  walk_at "M"
  obtain ⟨es, I1⟩ := hp.inst
  obtain ⟨es', I2⟩ := ho.inst
  refine type_inst (I1.mono H.on) ?_
  walk_at "M"
  refine isi_inst (r := true) (H.X W) (I2.mono H.on) (by kit_is) (by k_is) (by k_is) (by k_is) (by k_is) (by k_is) (by k_is) ?_
  intro tk2
  walk_at "M"
  refine as_lcz (cl := [("self", L + 1)]) (cn := ["self"]) (by walk_at "okz") fun ok => ?_
  walk_at "M"
  refine ga_coeffs W H hp ?_
  intro la hla
  walk_at "M"
  refine ga_coeffs W H ho ?_
  intro lb hlb
  walk_at "M"
  obtain ⟨vs1, o1, k1, go1, oc1, od1, hi1⟩ := hla
  obtain ⟨vs2, o2, k2, go2, oc2, od2, hi2⟩ := hlb
  have n1 := ints_len hi1
  have n2 := ints_len hi2
  refine zip_runA hA'.hh ok H go1 go2 ⟨oc1, k1, od1⟩ ⟨oc2, k2, od2⟩ (by omega) (by rw [sizeLine_eq]; omega) (fun i g₁ ys => IntsAre ys (lf i fun k => (a k + c k) % q)) .nil ?_ ?_
  · intro s' i v1 v2 C Dl oD mu' g₁ ys h₁ tk E' hi hv1 hv2 le j hl H3
    obtain ⟨u1, e1⟩ := ints_at hi1 (show i < n by omega)
    obtain ⟨u2, e2⟩ := ints_at hi2 (show i < n by omega)
    rw [e1] at hv1; obtain rfl := Option.some.inj hv1
    rw [e2] at hv2; obtain rfl := Option.some.inj hv2
    walk_at "M"
    refine gm_P (f := 110) W H3 (hp.mono le) (by k_is) (by k_is) (by k_is) (fun _ _ _ _ _ _ => rfl) ?_
    walk_at "M"
    refine wpAny_call (add_mod_q W H3.Bg (hA'.le (by decide)) (hp.mono le) (hr.mono le) (by omega) ?_)
    intro t g' h' tk' ev
    have H4 := H3.call0 ev
    exact ZipEnd.mk ev.gg H4 (ints_push j (Int.fmod_eq_emod_of_nonneg _ (by omega)))
  · intro g₁ ys D oD h₁ tk le j hl isl fD H3
    rw [n1] at j
    obtain ⟨H4, le4⟩ := H3.freeze fD
    dsimp only
    walk_at "M"
    exact ret _ _ _ _ H4.ev (IntL.mk (FM.put_self ..) isl j)
end
end Mine
namespace Mine
section
variable {prog : Program} {w : World} {p : Program} {loose : List Str} {mean : ExcName → Option Value} {mg mb : Str → Option Value} {b : Heap}
variable {S : List Addr} {g0 : FM} {h0 : Heap} {env : Env} {g : FM} {m mc : Str → Option Value} {mu : List (Addr × Obj)}
variable {A : Around} {s : Shared} {E : Value → Shared → Prop} {R : Result → Shared → Prop}

theorem sc_a {n i : Nat} (hi : i < ((n : Int) - 0).toNat) (hn : n ≤ 1000) : i < n ∧ 0 ≤ (n : Int) - i ∧ (n : Int) - i ≤ 1000 ∧ ((n : Int) - i - 0).toNat = n - i := by
  rw [to_nat0] at hi
  omega
theorem sc_b {n i j : Nat} (hi : i < n) (hj : j < n - i) : i + j < n ∧ j < n := by omega
theorem sc_c {n j : Nat} (hj : j < ((n : Int) - 1).toNat) (hn : n ≤ 1000) : 1 + j < n ∧ 0 ≤ (n : Int) - (1 + j) ∧ (n : Int) - (1 + j) ≤ 1000 ∧ (n : Int) - (1 + j) ≤ n ∧ ((n : Int) - ((n : Int) - (1 + j))).toNat = j + 1 := by omega
theorem sc_d {n j u : Nat} (hj : 1 + j < n) (hu : u < j + 1) : u < n ∧ n - (1 + j) + u < n ∧ (n : Int) - (1 + j) + u = ((n - (1 + j) + u : Nat) : Int) := by omega
theorem to_nat1 {n : Nat} (h : 1 ≤ n) : ((n : Int) - 1).toNat = n - 1 := by omega
theorem sc_e {n j u : Int} : n - (1 + j) + u + (1 + j) - n = u := by omega
theorem cast_le {n k : Nat} (h : n ≤ k) : (n : Int) ≤ (k : Int) := Int.ofNat_le.mpr h
set_option maxHeartbeats 1000000 in
theorem school_spec (W : Wd (Mine.hd.heap_39 w.params) p loose mean mg mb b) (hB : Bg b g s.heap) (hA : Ao 2 A)
    {self other r r' : Addr} {q : Int} {n : Nat} {a c : Nat → Int} (hp : Poly 222 g self r (lf n a)) (ho : Poly 222 g other r' (lf n c)) (hr : Ring 59 g r q n) (hq : 0 < q) (hn : n ≤ 1000) (hn1 : 1 ≤ n) (hm : ∀ i j, i < n → j < n → IntMulOk (a i) (c j))
    (ret : ∀ l g' h' tk, Ev [] g s.heap g' h' → IntL g' l (lf n fun k => nc n a c k % q) → R (.ok (.ret (.ref l))) { s with heap := h', toks := tk }) :
    codeAny (model prog w) A (.call (.ref 122) ⟨[.ref self, .ref other], []⟩) R s := by
  refine enter (mu := []) (binds := [("self", .ref self), ("other", .ref other)]) (m := up "other" (.ref other) no) (mc := up "self" (.ref self) no)
    W hB hA (by k_is) (by k_is) (BindsTo.of_eq rfl) rfl (by decide) (fun _ q => nomatch q) .nil (fun _ => rfl) (fun _ => rfl) ?_
  intro L h₁ tk E' hA' H
  walk_at "M"
  refine ga_parent W H hp ?_
  refine ga_n W H hr ?_
  intro t1
  walk_at "M"
  rename St _ _ _ _ _ _ _ _ _ _ => H2
  refine ga_coeffs W H2 hp ?_
  intro la hla
  walk_at "M"
  rename St _ _ _ _ _ _ _ _ _ _ => H3
  refine ga_coeffs W H3 ho ?_
  intro lb hlb
  walk_at "M"
  refine as_lc (cl := []) (cn := []) (xc := false) (by walk_at "ok") fun ok => ?_
  walk_at "M"
  rename St _ _ _ _ _ _ _ _ _ _ => H4
  refine call_range1 H4 ?_
  intro h5 tk5 rr t5 u5 v5 hrr H5
  refine lc_runA ok H5 (Src.range hA'.hh hrr (rngN hn) (nat0 _)) (by rw [to_nat0]; exact szl hn) (fun i g₁ mu₁ ys => mu₁ = [] ∧ IntsAre ys (lf i fun _ => 0)) ⟨rfl, .nil⟩ ?_ ?_
  · rintro i v C D oD I oI g₁ mu₁ ys h₁ tk E' hi hP le ha ⟨rfl, hns⟩ hl H3
    walk_at "M"
    exact EltEnd.mk (.refl _) H3 rfl ⟨rfl, ints_push hns rfl⟩
  rintro g₁ mu₁ ys D oD h6 tk6 le ha ⟨rfl, hns⟩ hl2 isl fD H6
  rw [to_nat0] at hns
  replace hla := hla.mono le
  replace hlb := hlb.mono le
  replace hr := hr.mono le
  replace hp := hp.mono le
  dsimp only
  walk_at "M"
  refine call_range1 H6 ?_
  intro h7 tk7 rr7 t7 u7 v7 hrr7 H7
  refine loop_for H7 (Src.range hA'.hh hrr7 (rngN hn) (nat0 _)) (fun i g₁ m₁ mc₁ mu₁ => mc₁ = up "self" (.ref self) no ∧ m₁ "n" = some (.int n t1) ∧ m₁ "a" = some (.ref la) ∧ m₁ "b" = some (.ref lb) ∧ m₁ "new_coeffs" = some (.ref D) ∧ ∃ oD ys, mu₁ = [(D, oD)] ∧ IsL oD ys ∧ IntsAre ys (lf n fun k => sA n a c i k))
    ⟨rfl, by with_unfolding_all rfl, by with_unfolding_all rfl, by with_unfolding_all rfl, by with_unfolding_all rfl, oD, ys, rfl, isl, hns⟩ ?_ ?_
  · rintro i v I oI g₁ m₁ mc₁ mu₁ h₁ tk E' hi hP le1 ⟨rfl, e1, e2, e3, e4, oD, ys, rfl, isl, hns⟩ H8
    obtain ⟨ti, e⟩ := hP
    rw [Int.zero_add] at e
    subst e
    replace hla := hla.mono le1
    replace hlb := hlb.mono le1
    obtain ⟨hin, s1, s2, s3⟩ := sc_a hi hn
    walk_at "M"
    refine call_range2 H8 ?_
    intro h9 tk9 rr9 t9 u9 v9 hrr9 H9
    refine loop_for H9 (Src.range hA'.hh hrr9 (rng2 (by decide) (by decide) s1 s2) s1) (fun j g₁ m₁ mc₁ mu₁ => mc₁ = up "self" (.ref self) no ∧ m₁ "n" = some (.int n t1) ∧ m₁ "a" = some (.ref la) ∧ m₁ "b" = some (.ref lb) ∧ m₁ "new_coeffs" = some (.ref D) ∧ m₁ "i" = some (.int i ti) ∧ ∃ oD ys, mu₁ = [(I, oI), (D, oD)] ∧ IsL oD ys ∧ IntsAre ys (lf n fun k => sA n a c i k + sm j fun j' => if i + j' = k then a i * c j' else 0))
      ⟨rfl, by with_unfolding_all assumption, by with_unfolding_all assumption, by with_unfolding_all assumption, by with_unfolding_all assumption, by with_unfolding_all rfl, oD, ys, rfl, isl, ints_ext hns fun k _ => (Int.add_zero _).symm⟩ ?_ ?_
    · rintro j v I2 oI2 g₂ m₂ mc₂ mu₂ h₂ tk₂ E2 hj hP2 le2 ⟨rfl, f1, f2, f3, f4, f5, oD, ys, rfl, isl, hns⟩ H10
      obtain ⟨tj, e⟩ := hP2
      rw [Int.zero_add] at e
      subst e
      replace hla := hla.mono le2
      replace hlb := hlb.mono le2
      rw [s3] at hj
      obtain ⟨hjn, hj'⟩ := sc_b hin hj
      walk_at "M"
      refine row_get (i := i + j) H10 (by walk_at "mem") isl hns (by first | rfl | omega) hjn hn ?_
      intro u1
      walk_at "M"
      refine row_il (i := i) H10 hla rfl hin hn ?_
      intro u2
      walk_at "M"
      refine row_il (i := j) H10 hlb rfl hj' hn ?_
      intro u3
      walk_at "M"
      refine imul_ok (hm i j hin hj') ?_
      walk_at "M"
      refine row_set (i := i + j) (pre := [(I2, oI2), (I, oI)]) (post := []) H10 isl hns (by first | rfl | omega) hjn hn ?_
      intro h11 o11 ys11 isl11 hns11 H11
      walk_at "M"
      refine LoopEnd.mk (.refl _) H11 ⟨rfl, by with_unfolding_all assumption, by with_unfolding_all assumption, by with_unfolding_all assumption, by with_unfolding_all assumption, by with_unfolding_all assumption, o11, ys11, rfl, isl11, hns11 _ fun k hk => ?_⟩
      rw [sm_succ]
      by_cases z : i + j = k
      · subst z; rw [if_pos rfl, if_pos rfl]; exact Int.add_assoc _ _ _
      · rw [if_neg z, if_neg z, Int.add_zero]
    · rintro g₂ m₂ mc₂ mu₂ h₂ tk₂ le2 ⟨rfl, f1, f2, f3, f4, f5, oD, ys, rfl, isl, hns⟩ H10
      walk_at "M"
      refine LoopEnd.mk le2 H10 ⟨rfl, f1, f2, f3, f4, oD, ys, rfl, isl, ints_ext hns fun k hk => ?_⟩
      unfold sA
      rw [sm_succ, s3]
  rintro g₁ m₁ mc₁ mu₁ h8 tk8 le1 ⟨rfl, e1, e2, e3, e4, oD, ys, rfl, isl, hns⟩ H8
  rw [to_nat0] at hns
  replace hla := hla.mono le1
  replace hlb := hlb.mono le1
  replace hr := hr.mono le1
  replace hp := hp.mono le1
  walk_at "M"
  refine call_range2 H8 ?_
  intro h9 tk9 rr9 t9 u9 v9 hrr9 H9
  refine loop_for H9 (Src.range hA'.hh hrr9 (rng2 (by decide) (by decide) (nat0 n) (cast_le hn)) (cast_le hn1)) (fun j g₁ m₁ mc₁ mu₁ => mc₁ = up "self" (.ref self) no ∧ m₁ "n" = some (.int n t1) ∧ m₁ "a" = some (.ref la) ∧ m₁ "b" = some (.ref lb) ∧ m₁ "new_coeffs" = some (.ref D) ∧ ∃ oD ys, mu₁ = [(D, oD)] ∧ IsL oD ys ∧ IntsAre ys (lf n fun k => sA n a c n k - sB n a c j k))
    ⟨rfl, e1, e2, e3, e4, oD, ys, rfl, isl, ints_ext hns fun k _ => (Int.sub_zero _).symm⟩ ?_ ?_
  · rintro j v I oI g₁ m₁ mc₁ mu₁ h₁ tk E' hj hP le1 ⟨rfl, e1, e2, e3, e4, oD, ys, rfl, isl, hns⟩ H8
    obtain ⟨tj, e⟩ := hP
    subst e
    replace hla := hla.mono le1
    replace hlb := hlb.mono le1
    obtain ⟨hjn, s1, s2, s3, s4⟩ := sc_c hj hn
    walk_at "M"
    refine call_range2 H8 ?_
    intro h9 tk9 rr9 t9 u9 v9 hrr9 H9
    refine loop_for H9 (Src.range hA'.hh hrr9 (rng2 s1 s2 (nat0 n) (cast_le hn)) s3) (fun i g₁ m₁ mc₁ mu₁ => mc₁ = up "self" (.ref self) no ∧ m₁ "n" = some (.int n t1) ∧ m₁ "a" = some (.ref la) ∧ m₁ "b" = some (.ref lb) ∧ m₁ "new_coeffs" = some (.ref D) ∧ m₁ "j" = some (.int (1 + j) tj) ∧ ∃ oD ys, mu₁ = [(I, oI), (D, oD)] ∧ IsL oD ys ∧ IntsAre ys (lf n fun k => sA n a c n k - (sB n a c j k + sm i fun u => if u = k then a (n - (1 + j) + u) * c (1 + j) else 0)))
      ⟨rfl, by with_unfolding_all assumption, by with_unfolding_all assumption, by with_unfolding_all assumption, by with_unfolding_all assumption, by with_unfolding_all rfl, oD, ys, rfl, isl, ints_ext hns fun k _ => by show _ = _ - (_ + 0); rw [Int.add_zero]⟩ ?_ ?_
    · rintro u v I2 oI2 g₂ m₂ mc₂ mu₂ h₂ tk₂ E2 hu hP2 le2 ⟨rfl, f1, f2, f3, f4, f5, oD, ys, rfl, isl, hns⟩ H10
      obtain ⟨ti, e⟩ := hP2
      subst e
      replace hla := hla.mono le2
      replace hlb := hlb.mono le2
      rw [s4] at hu
      obtain ⟨hun, hi2, s5⟩ := sc_d hjn hu
      walk_at "M"
      refine row_get (i := u) H10 (by walk_at "mem") isl hns sc_e hun hn ?_
      intro u1
      walk_at "M"
      refine row_il (i := n - (1 + j) + u) H10 hla s5 hi2 hn ?_
      intro u2
      walk_at "M"
      refine row_il (i := 1 + j) H10 hlb rfl hjn hn ?_
      intro u3
      walk_at "M"
      refine imul_ok (hm _ _ hi2 hjn) ?_
      walk_at "M"
      refine row_set (i := u) (pre := [(I2, oI2), (I, oI)]) (post := []) H10 isl hns sc_e hun hn ?_
      intro h11 o11 ys11 isl11 hns11 H11
      walk_at "M"
      refine LoopEnd.mk (.refl _) H11 ⟨rfl, by with_unfolding_all assumption, by with_unfolding_all assumption, by with_unfolding_all assumption, by with_unfolding_all assumption, by with_unfolding_all assumption, o11, ys11, rfl, isl11, hns11 _ fun k hk => ?_⟩
      rw [sm_succ]
      by_cases z : u = k
      · subst z; rw [if_pos rfl, if_pos rfl, Int.sub_sub, Int.add_assoc]
      · rw [if_neg z, if_neg z, Int.add_zero]
    · rintro g₂ m₂ mc₂ mu₂ h₂ tk₂ le2 ⟨rfl, f1, f2, f3, f4, f5, oD, ys, rfl, isl, hns⟩ H10
      walk_at "M"
      refine LoopEnd.mk le2 H10 ⟨rfl, f1, f2, f3, f4, oD, ys, rfl, isl, ints_ext hns fun k hk => ?_⟩
      unfold sB
      rw [sm_succ, s4]
  rintro g₁ m₁ mc₁ mu₁ h10 tk10 le1 ⟨rfl, e1, e2, e3, e4, oD, ys, rfl, isl, hns⟩ H10
  replace hr := hr.mono le1
  replace hp := hp.mono le1
  obtain ⟨H11, le11⟩ := H10.freeze fD
  replace hr := hr.mono le11
  replace hp := hp.mono le11
  walk_at "M"
  refine ev_lc (cl := [("self", L + 1)]) (cn := ["self"]) (xc := false) (by walk_at "ok") fun ok => ?_
  walk_at "M"
  have hys := ints_len hns
  refine lc_run ok H11 (Src.list hA'.hh (FM.put_self ..) H11.on (isl.at_ (H11.on _ _ (FM.put_self ..)))) (by rw [hys]; exact szl hn) (fun i g₁ mu₁ zs => mu₁ = [] ∧ IntsAre zs (lf i fun k => nc n a c k % q)) ⟨rfl, .nil⟩ ?_ ?_
  · rintro i v C D2 oD2 I oI g₂ mu₁ zs h₁ tk E' hi hP le2 ha ⟨rfl, hzs⟩ hl H12
    have hin : i < n := hys ▸ hi
    obtain ⟨tv, hv⟩ := ints_at hns hin
    rw [hv] at hP
    obtain rfl := Option.some.inj hP
    walk_at "M"
    refine ga_parent W H12 (hp.mono le2) ?_
    refine ga_q W H12 (hr.mono le2) ?_
    intro tq
    walk_at "M"
    refine EltEnd.mk (.refl _) H12 rfl ⟨rfl, ints_push hzs ?_⟩
    rw [← school_eq a c hin, to_nat1 hn1]
  · rintro g₂ mu₁ zs D2 oD2 h₁ tk le2 ha ⟨rfl, hzs⟩ hl isl2 fD2 H12
    obtain ⟨H13, le13⟩ := H12.freeze fD2
    rw [hys] at hzs
    dsimp only
    exact ret _ _ _ _ H13.ev (IntL.mk (FM.put_self ..) isl2 hzs)
end
end Mine
namespace Mine
section
variable {prog : Program} {w : World} {p : Program} {loose : List Str} {mean : ExcName → Option Value} {mg mb : Str → Option Value} {b : Heap}
variable {S : List Addr} {g0 : FM} {h0 : Heap} {env : Env} {g : FM} {m mc : Str → Option Value} {mu : List (Addr × Obj)}
variable {A : Around} {s : Shared} {E : Value → Shared → Prop} {R : Result → Shared → Prop}
theorem pad_full {n : Nat} {f : Nat → Int} : lf n f ++ List.replicate (n - (lf n f).length) 0 = lf n f := by rw [lf_length, Nat.sub_self]; simp

set_option maxHeartbeats 400000 in
theorem padd_spec (W : Wd (Mine.hd.heap_39 w.params) p loose mean mg mb b) (hB : Bg b g s.heap) (hA : Ao 6 A)
    {self other r r' : Addr} {q : Int} {n : Nat} {a c : Nat → Int} (hp : Poly 222 g self r (lf n a)) (ho : Poly 222 g other r' (lf n c)) (hr : Ring 59 g r q n) (hq : 0 < q) (hn : n ≤ 1000)
    (ret : ∀ x g' h' tk, Ev [] g s.heap g' h' → Poly 222 g' x r (lf n fun k => (a k + c k) % q) → R (.ok (.ret (.ref x))) { s with heap := h', toks := tk }) :
    codeAny (model prog w) A (.call (.ref 139) ⟨[.ref self, .ref other], []⟩) R s := by
  refine enter (mu := []) (binds := [("self", .ref self), ("other", .ref other)]) (m := up "other" (.ref other) (up "self" (.ref self) no)) (mc := no)
    W hB hA (by k_is) (by k_is) (BindsTo.of_eq rfl) rfl (by decide) (fun _ q => nomatch q) .nil (fun _ => rfl) (fun _ => rfl) ?_
  intro L h₁ tk E' hA' H
  walk_at "M"
  refine gm_P (f := 132) W H hp (by k_is) (by k_is) (by k_is) (fun _ _ _ _ _ _ => rfl) ?_
  walk_at "M"
  refine wpAny_call (add_ W H.Bg (hA'.le (by decide)) hp ho hr hq hn ?_)
  intro l g' h' tk' ev hl
  have H2 := H.call0 ev
  walk_at "M"
  rename St _ _ _ _ _ _ _ _ _ _ => H3
  refine gm_parent W H3 (hp.mono ev.gg) ?_
  obtain ⟨d, es, k, i⟩ := (hr.mono ev.gg).at
  refine x_icall (H3.X W) (i.mono H3.on) (by k_is) ?_
  walk_at "M"
  refine ⟨⟨H3.X W, i.mono H3.on⟩, ?_⟩
  refine rcall (x := .Name "x" ⟨0, 0, 0, 0⟩) (pos := ⟨0, 0, 0, 0⟩) W H3 hA' (hr.mono ev.gg) hl hn (by rw [lf_length]; exact Nat.le_refl _) ?_
  intro x g2 h2 tk2 ev2 hx
  rw [pad_full] at hx
  have H4 := H3.call0 ev2
  walk_at "M"
  exact ret _ _ _ _ H4.ev hx

set_option maxHeartbeats 400000 in
theorem pmul_spec (W : Wd (Mine.hd.heap_39 w.params) p loose mean mg mb b) (hB : Bg b g s.heap) (hA : Ao 6 A)
    {self other r r' : Addr} {q : Int} {n : Nat} {a c : Nat → Int} (hp : Poly 222 g self r (lf n a)) (ho : Poly 222 g other r' (lf n c)) (hr : Ring 59 g r q n) (hq : 0 < q) (hn : n ≤ 1000) (hn1 : 1 ≤ n) (hm : ∀ i j, i < n → j < n → IntMulOk (a i) (c j))
    (ret : ∀ x g' h' tk, Ev [] g s.heap g' h' → Poly 222 g' x r (lf n fun k => nc n a c k % q) → R (.ok (.ret (.ref x))) { s with heap := h', toks := tk }) :
    codeAny (model prog w) A (.call (.ref 184) ⟨[.ref self, .ref other], []⟩) R s := by
  refine enter (mu := []) (binds := [("self", .ref self), ("other", .ref other)]) (m := no) (mc := up "other" (.ref other) (up "self" (.ref self) no))
    W hB hA (by k_is) (by k_is) (BindsTo.of_eq rfl) rfl (by decide) (fun _ q => nomatch q) .nil (fun _ => rfl) (fun _ => rfl) ?_
  intro L h₁ tk E' hA' H
  walk_at "M"
  obtain ⟨es, I1⟩ := hp.inst
  obtain ⟨es', I2⟩ := ho.inst
  refine type_inst (I1.mono H.on) ?_
  walk_at "M"
  refine isi_inst (r := true) (H.X W) (I2.mono H.on) (by kit_is) (by k_is) (by k_is) (by k_is) (by k_is) (by k_is) (by k_is) ?_
  intro tk2
  walk_at "M"
  refine gm_P (f := 122) W H hp (by k_is) (by k_is) (by k_is) (fun _ _ _ _ _ _ => rfl) ?_
  walk_at "M"
  refine wpAny_call (school_spec W H.Bg (hA'.le (by decide)) hp ho hr hq hn hn1 hm ?_)
  intro l g' h' tk' ev hl
  have H2 := H.call0 ev
  walk_at "M"
  rename St _ _ _ _ _ _ _ _ _ _ => H3
  refine gm_parent W H3 (hp.mono ev.gg) ?_
  obtain ⟨d, es, k, i⟩ := (hr.mono ev.gg).at
  refine x_icall (H3.X W) (i.mono H3.on) (by k_is) ?_
  walk_at "M"
  refine ⟨⟨H3.X W, i.mono H3.on⟩, ?_⟩
  refine rcall (x := .Name "x" ⟨0, 0, 0, 0⟩) (pos := ⟨0, 0, 0, 0⟩) W H3 hA' (hr.mono ev.gg) hl hn (by rw [lf_length]; exact Nat.le_refl _) ?_
  intro x g2 h2 tk2 ev2 hx
  rw [pad_full] at hx
  have H4 := H3.call0 ev2
  walk_at "M"
  exact ret _ _ _ _ H4.ev hx

end
end Mine
namespace Mine
section
variable {prog : Program} {w : World} {p : Program} {loose : List Str} {mean : ExcName → Option Value} {mg mb : Str → Option Value} {b : Heap}
variable {S : List Addr} {g0 : FM} {h0 : Heap} {env : Env} {g : FM} {m mc : Str → Option Value} {mu : List (Addr × Obj)}
variable {A : Around} {s : Shared} {E : Value → Shared → Prop} {R : Result → Shared → Prop}
/-- two polynomials of the class, multiplied and added -/
theorem bin_mul {x y r r' : Addr} {q : Int} {n : Nat} {a c : Nat → Int} {Q : Value → Shared → Prop} (W : Wd (Mine.hd.heap_39 w.params) p loose mean mg mb b) (H : St b S g0 h0 env g m mc mu s.heap) (hA : Ao 6 A)
    (hx : Poly 222 g x r (lf n a)) (hy : Poly 222 g y r' (lf n c)) (hr : Ring 59 g r q n) (hq : 0 < q) (hn : n ≤ 1000) (hn1 : 1 ≤ n) (hm : ∀ i j, i < n → j < n → IntMulOk (a i) (c j))
    (ret : ∀ z g' h' tk, Ev [] g s.heap g' h' → Poly 222 g' z r (lf n fun k => nc n a c k % q) → Q (.ref z) { s with heap := h', toks := tk }) :
    wpAny (model prog w) A (binaryOp .Mult (.ref x) (.ref y)) Q E s := by
  obtain ⟨es, I⟩ := hx.inst
  obtain ⟨es', J⟩ := hy.inst
  refine bin_same (f := 184) W H I J ?a ?b ?c (wpAny_call (pmul_spec W H.Bg hA hx hy hr hq hn hn1 hm fun z g' h' tk ev hz => ret z g' h' tk ev hz))
  case a => k_is
  case b => k_is
  case c => k_is
theorem bin_add {x y r r' : Addr} {q : Int} {n : Nat} {a c : Nat → Int} {Q : Value → Shared → Prop} (W : Wd (Mine.hd.heap_39 w.params) p loose mean mg mb b) (H : St b S g0 h0 env g m mc mu s.heap) (hA : Ao 6 A)
    (hx : Poly 222 g x r (lf n a)) (hy : Poly 222 g y r' (lf n c)) (hr : Ring 59 g r q n) (hq : 0 < q) (hn : n ≤ 1000)
    (ret : ∀ z g' h' tk, Ev [] g s.heap g' h' → Poly 222 g' z r (lf n fun k => (a k + c k) % q) → Q (.ref z) { s with heap := h', toks := tk }) :
    wpAny (model prog w) A (binaryOp .Add (.ref x) (.ref y)) Q E s := by
  obtain ⟨es, I⟩ := hx.inst
  obtain ⟨es', J⟩ := hy.inst
  refine bin_same (f := 139) W H I J ?a ?b ?c (wpAny_call (padd_spec W H.Bg hA hx hy hr hq hn fun z g' h' tk ev hz => ret z g' h' tk ev hz))
  case a => k_is
  case b => k_is
  case c => k_is
end
end Mine
namespace Mine
section
variable {prog : Program} {w : World} {p : Program} {loose : List Str} {mean : ExcName → Option Value} {mg mb : Str → Option Value} {b : Heap}
variable {S : List Addr} {g0 : FM} {h0 : Heap} {env : Env} {g : FM} {m mc : Str → Option Value} {mu : List (Addr × Obj)}
variable {A : Around} {s : Shared} {E : Value → Shared → Prop} {R : Result → Shared → Prop}

set_option maxHeartbeats 400000 in
theorem ring_init (W : Wd (Mine.hd.heap_39 w.params) p loose mean mg mb b) (hB : Bg b g s.heap) (hA : Ao 1 A)
    {x dx : Addr} {q n : Int} {tq tn : Tok} (hx : g x = some (instObj 59 dx)) (hd : s.heap.get? dx = some (dictOf [] 0)) (gd : g dx = none)
    (ret : ∀ h1 t1 u1 h2 t2 u2 nn h' tk, Ev [dx] g s.heap g h' → h'.get? dx = some (dictOf [⟨h1, .str "q" t1, .int q u1⟩, ⟨h2, .str "n" t2, .int n u2⟩] nn) → R (.ok (.ret .none)) { s with heap := h', toks := tk }) :
    codeAny (model prog w) A (.call (.ref 35) ⟨[.ref x, .int q tq, .int n tn], []⟩) R s := by
  refine enter (mu := [(dx, dictOf [] 0)]) (binds := [("self", .ref x), ("q", .int q tq), ("n", .int n tn)]) (m := up "n" (.int n tn) (up "q" (.int q tq) (up "self" (.ref x) no))) (mc := no)
    W hB hA (by k_is) (by k_is) (BindsTo.of_eq rfl) rfl (by decide) (fun q hq => by rw [List.mem_singleton.mp hq]; exact ⟨hd, gd⟩) (by simp) (fun _ => rfl) (fun _ => rfl) ?_
  intro L h₁ tk E' hA' H
  walk_at "M"
  refine sa_own W H (H.on _ _ hx) (by k_is) (by k_is) (by k_is) (by k_is) (by rfl) (by rfl) (Nat.le_of_ble_eq_true rfl) ?_
  intro h2 H2
  walk_at "M"
  refine sa_own W H2 (H2.on _ _ hx) (by k_is) (by k_is) (by k_is) (by k_is) (by rfl) (by rfl) (Nat.le_of_ble_eq_true rfl) ?_
  intro h3 H3
  walk_at "M"
  exact ret _ _ _ _ _ _ _ _ _ H3.ev (H3.mus _ (.head _))

theorem ring_make (W : Wd (Mine.hd.heap_39 w.params) p loose mean mg mb b) (hB : Bg b g s.heap) (hA : Ao 2 A)
    {q n : Int} {tq tn : Tok} {Q : Value → Shared → Prop}
    (ret : ∀ x g' h' tk, Ev [] g s.heap g' h' → Ring 59 g' x q n → Q (.ref x) { s with heap := h', toks := tk }) :
    wpAny (model prog w) A (call (.ref 59) [.int q tq, .int n tn]) Q E s := by
  refine mk_inst (kw := []) (W.X.keeps fun a o e => hB.on _ _ (hB.bg a o e)) hB.on (by k_is) (by k_is) (by k_is) ?_
  intro x dx h1 fx fd ne hx hd k1 sz
  refine ring_init W (hB.put fx hx k1 sz) hA.make (FM.put_self ..) hd ?_ ?_
  · unfold FM.put
    rw [if_neg ne.symm]
    cases q : g dx with
    | none => rfl
    | some o' => have := hB.on _ _ q; rw [fd] at this; cases this
  · intro a1 t1 u1 a2 t2 u2 nn h' tk ev hd'
    obtain ⟨ev', le⟩ := ev.made hB.on fx fd ne k1 hd hd'
    exact ⟨rfl, ret _ _ _ _ ev' ⟨a1, t1, u1, a2, t2, u2, dx, nn, le _ _ (ev.gg _ _ (FM.put_self ..)), FM.put_self ..⟩⟩
end
end Mine
namespace Mine
section
variable {prog : Program} {w : World} {p : Program} {loose : List Str} {mean : ExcName → Option Value} {mg mb : Str → Option Value} {b : Heap}
variable {S : List Addr} {g0 : FM} {h0 : Heap} {env : Env} {g : FM} {m mc : Str → Option Value} {mu : List (Addr × Obj)}
variable {A : Around} {s : Shared} {E : Value → Shared → Prop} {R : Result → Shared → Prop}

theorem gnone {x : Addr} {h : Heap} (on : g.on h) (fx : h.get? x = none) : g x = none := by
  cases q : g x with
  | none => rfl
  | some o' => have := on _ _ q; rw [fx] at this; cases this

theorem module_init (W : Wd (Mine.hd.heap_39 w.params) p loose mean mg mb b) (hB : Bg b g s.heap) (hA : Ao 1 A)
    {x dx r : Addr} (hx : g x = some (instObj 377 dx)) (hd : s.heap.get? dx = some (dictOf [] 0)) (gd : g dx = none)
    (ret : ∀ h1 t1 nn h' tk, Ev [dx] g s.heap g h' → h'.get? dx = some (dictOf [⟨h1, .str "ring" t1, .ref r⟩] nn) → R (.ok (.ret .none)) { s with heap := h', toks := tk }) :
    codeAny (model prog w) A (.call (.ref 351) ⟨[.ref x, .ref r], []⟩) R s := by
  refine enter (mu := [(dx, dictOf [] 0)]) (binds := [("self", .ref x), ("ring", .ref r)]) (m := up "ring" (.ref r) (up "self" (.ref x) no)) (mc := no)
    W hB hA (by k_is) (by k_is) (BindsTo.of_eq rfl) rfl (by decide) (fun q hq => by rw [List.mem_singleton.mp hq]; exact ⟨hd, gd⟩) (by simp) (fun _ => rfl) (fun _ => rfl) ?_
  intro L h₁ tk E' hA' H
  walk_at "M"
  refine sa_own W H (H.on _ _ hx) (by k_is) (by k_is) (by k_is) (by k_is) (by rfl) (by rfl) (Nat.le_of_ble_eq_true rfl) ?_
  intro h2 H2
  walk_at "M"
  exact ret _ _ _ _ _ H2.ev (H2.mus _ (.head _))

theorem module_make (W : Wd (Mine.hd.heap_39 w.params) p loose mean mg mb b) (hB : Bg b g s.heap) (hA : Ao 2 A) {r : Addr} {Q : Value → Shared → Prop}
    (ret : ∀ x g' h' tk, Ev [] g s.heap g' h' → Mod 377 g' x r → Q (.ref x) { s with heap := h', toks := tk }) :
    wpAny (model prog w) A (call (.ref 377) [.ref r]) Q E s := by
  refine mk_inst (kw := []) (W.X.keeps fun a o e => hB.on _ _ (hB.bg a o e)) hB.on (by k_is) (by k_is) (by k_is) ?_
  intro x dx h1 fx fd ne hx hd k1 sz
  refine module_init W (hB.put fx hx k1 sz) hA.make (FM.put_self ..) hd ?_ ?_
  · unfold FM.put
    rw [if_neg ne.symm]
    exact gnone hB.on fd
  · intro a1 t1 nn h' tk ev hd'
    obtain ⟨ev', le⟩ := ev.made hB.on fx fd ne k1 hd hd'
    exact ⟨rfl, ret _ _ _ _ ev' ⟨a1, t1, dx, nn, le _ _ (ev.gg _ _ (FM.put_self ..)), FM.put_self ..⟩⟩

theorem ga_data0 {x dx v l : Addr} {h1 h2 h3 : Int} {t1 t2 t3 : Tok} {t : Bool} {nn : Nat} {expr : Bool} {Q : Value → Shared → Prop} (W : Wd (Mine.hd.heap_39 w.params) p loose mean mg mb b) (H : St b S g0 h0 env g m mc mu s.heap) (hx : g x = some (instObj 333 dx)) (hm : (dx, dictOf (matD h1 t1 v h2 t2 l h3 t3 t) nn) ∈ mu)
    (h : Q (.ref l) { s with toks := s.toks + 1 }) : wpAny (model prog w) A (getAttr (.ref x) "_data" expr) Q E s := by
  refine ga_own (attr := none) (H.X W) ⟨dx, nn, H.on _ _ hx, H.mus _ hm⟩ ?a ?b ?c ?d rfl rfl h
  case a => k_is
  case b => k_is
  case c => k_is
  case d => k_is

set_option maxHeartbeats 400000 in
theorem check_spec (W : Wd (Mine.hd.heap_39 w.params) p loose mean mg mb b) (hB : Bg b g s.heap) (hA : Ao 2 A)
    {x dx v l r : Addr} {h1 h2 h3 : Int} {t1 t2 t3 : Tok} {t : Bool} {nn n a c : Nat} {F : Nat → Nat → Nat → Int} (hx : g x = some (instObj 333 dx)) (hd : s.heap.get? dx = some (dictOf (matD h1 t1 v h2 t2 l h3 t3 t) nn)) (gd : g dx = none)
    (hl : Rows 222 g l r n a c F) (ha : a ≤ 1000) (hc : c ≤ 1000)
    (ret : ∀ g' h' tk, Ev [dx] g s.heap g' h' → h'.get? dx = some (dictOf (matD h1 t1 v h2 t2 l h3 t3 t) nn) → R (.ok (.ret (.bool true))) { s with heap := h', toks := tk }) :
    codeAny (model prog w) A (.call (.ref 255) ⟨[.ref x], []⟩) R s := by
  refine enter (mu := [(dx, dictOf (matD h1 t1 v h2 t2 l h3 t3 t) nn)]) (binds := [("self", .ref x)]) (m := up "self" (.ref x) no) (mc := no)
    W hB hA (by k_is) (by k_is) (BindsTo.of_eq rfl) rfl (by decide) (fun q hq => by rw [List.mem_singleton.mp hq]; exact ⟨hd, gd⟩) (by simp) (fun _ => rfl) (fun _ => rfl) ?_
  intro L h₁ tk E' hA' H
  walk_at "M"
  refine ga_data0 W H hx (.head _) ?_
  refine loop_for H (ls_src hA'.hh hl H.on) (fun i g₁ m₁ mc₁ mu₁ => m₁ "self" = some (.ref x) ∧ mu₁ = [(dx, dictOf (matD h1 t1 v h2 t2 l h3 t3 t) nn)]) ⟨rfl, rfl⟩ ?_ ?_
  · rintro i y I oI g₁ m₁ mc₁ mu₁ h₁ tk E' hi ⟨y, rfl, hy⟩ le ⟨e1, rfl⟩ H3
    walk_at "M"
    refine ls_len H3 (LsOf.mono hy le fun _ _ p => p) hc ?_
    walk_at "M"
    refine ga_data0 W H3 (le _ _ hx) (.tail _ (.head _)) ?_
    walk_at "M"
    refine ls_sub (i := 0) H3 (Rows.mono hl le) rfl (by omega) ha ?_
    intro z hz
    walk_at "M"
    refine ls_len H3 hz hc ?_
    walk_at "M"
    split
    · rename_i z; rw [bne_self_eq_false] at z; cases z
    · walk_at "M"
      exact LoopEnd.mk (.refl _) H3 ⟨e1, rfl⟩
  · rintro g₁ m₁ mc₁ mu₁ h₁ tk le ⟨e1, rfl⟩ H3
    walk_at "M"
    exact ret _ _ _ H3.ev (H3.mus _ (.head _))

set_option maxHeartbeats 400000 in
theorem matrix_init (W : Wd (Mine.hd.heap_39 w.params) p loose mean mg mb b) (hB : Bg b g s.heap) (hA : Ao 3 A)
    {x dx v l r : Addr} {t : Bool} {n a c : Nat} {F : Nat → Nat → Nat → Int} (hx : g x = some (instObj 333 dx)) (hd : s.heap.get? dx = some (dictOf [] 0)) (gd : g dx = none)
    (hl : Rows 222 g l r n a c F) (ha : a ≤ 1000) (hc : c ≤ 1000)
    (ret : ∀ h1 t1 h2 t2 h3 t3 nn g' h' tk, Ev [dx] g s.heap g' h' → h'.get? dx = some (dictOf (matD h1 t1 v h2 t2 l h3 t3 t) nn) → R (.ok (.ret .none)) { s with heap := h', toks := tk }) :
    codeAny (model prog w) A (.call (.ref 241) ⟨[.ref x, .ref v, .ref l], [("transpose", .bool t)]⟩) R s := by
  refine enter (mu := [(dx, dictOf [] 0)]) (binds := [("self", .ref x), ("parent", .ref v), ("matrix_data", .ref l), ("transpose", .bool t)]) (m := up "transpose" (.bool t) (up "matrix_data" (.ref l) (up "parent" (.ref v) (up "self" (.ref x) no)))) (mc := no)
    W hB hA (by k_is) (by k_is) (binds_K (W.X.keeps fun a o e => hB.on _ _ (hB.bg a o e)) rfl (by k_is) rfl rfl rfl) rfl (by decide) (fun q hq => by rw [List.mem_singleton.mp hq]; exact ⟨hd, gd⟩) (by simp) (fun _ => rfl) (fun _ => rfl) ?_
  intro L h₁ tk E' hA' H
  walk_at "M"
  refine sa_own W H (H.on _ _ hx) (by k_is) (by k_is) (by k_is) (by k_is) (by rfl) (by rfl) (Nat.le_of_ble_eq_true rfl) ?_
  intro h2 H2
  walk_at "M"
  refine sa_own W H2 (H2.on _ _ hx) (by k_is) (by k_is) (by k_is) (by k_is) (by rfl) (by rfl) (Nat.le_of_ble_eq_true rfl) ?_
  intro h3 H3
  walk_at "M"
  refine sa_own W H3 (H3.on _ _ hx) (by k_is) (by k_is) (by k_is) (by k_is) (by rfl) (by rfl) (Nat.le_of_ble_eq_true rfl) ?_
  intro h4 H4
  walk_at "M"
  refine gm_fn (f := 255) (H4.X W) ⟨dx, _, H4.on _ _ hx, H4.mus _ (.head _)⟩ (by k_is) (by k_is) (by k_is) rfl ?_
  refine x_fn0 W H4 (by k_is) ?_
  refine wpAny_call (check_spec W H4.Bg (hA'.le (by decide)) hx (H4.mus _ (.head _)) (H4.own _ (owns_mu (.head _))).1 hl ha hc ?_)
  intro g' h' tk' ev hd'
  have H5 := H4.callMu (pre := []) (mu' := [(dx, _)]) ev rfl (fun q hq => by rw [List.mem_singleton.mp hq]; exact hd')
  walk_at "M"
  exact ret _ _ _ _ _ _ _ _ _ _ H5.ev (H5.mus _ (.head _))

theorem matrix_make (W : Wd (Mine.hd.heap_39 w.params) p loose mean mg mb b) (hB : Bg b g s.heap) (hA : Ao 4 A)
    {v l r : Addr} {t : Bool} {n hh ww : Nat} {F : Nat → Nat → Nat → Int} {Q : Value → Shared → Prop} (hl : Stored 222 g l r n t hh ww F) (ha : hh ≤ 1000) (hc : ww ≤ 1000)
    (ret : ∀ x g' h' tk, Ev [] g s.heap g' h' → Mat 333 222 g' x v r n hh ww F → Q (.ref x) { s with heap := h', toks := tk }) :
    wpAny (model prog w) A (call (.ref 333) [.ref v, .ref l] [("transpose", .bool t)]) Q E s := by
  refine mk_inst (kw := [("transpose", .bool t)]) (W.X.keeps fun a o e => hB.on _ _ (hB.bg a o e)) hB.on (by k_is) (by k_is) (by k_is) ?_
  intro x dx h1 fx fd ne hx hd k1 sz
  have le0 := FM.put_le (o := instObj 333 dx) (gnone hB.on fx)
  obtain ⟨a, c, F', hr, hz, _⟩ := (hl.mono le0).rows
  refine matrix_init W (hB.put fx hx k1 sz) hA.make (FM.put_self ..) hd ?_ hr (hz ha hc).1 (hz ha hc).2 ?_
  · unfold FM.put
    rw [if_neg ne.symm]
    exact gnone hB.on fd
  · intro a1 t1 a2 t2 a3 t3 nn g' h' tk ev hd'
    obtain ⟨ev', le⟩ := ev.made hB.on fx fd ne k1 hd hd'
    exact ⟨rfl, ret _ _ _ _ ev' ⟨a1, t1, a2, t2, a3, t3, l, t, ⟨dx, nn, le _ _ (ev.gg _ _ (FM.put_self ..)), FM.put_self ..⟩, hl.mono ev'.gg⟩⟩

set_option maxHeartbeats 400000 in
theorem matrix_of_spec (W : Wd (Mine.hd.heap_39 w.params) p loose mean mg mb b) (hB : Bg b g s.heap) (hA : Ao 5 A)
    {v l r : Addr} {t : Bool} {n hh ww : Nat} {F : Nat → Nat → Nat → Int} (hl : Stored 222 g l r n t hh ww F) (ha : hh ≤ 1000) (hc : ww ≤ 1000)
    (ret : ∀ x g' h' tk, Ev [] g s.heap g' h' → Mat 333 222 g' x v r n hh ww F → R (.ok (.ret (.ref x))) { s with heap := h', toks := tk }) :
    codeAny (model prog w) A (.call (.ref 359) ⟨[.ref v, .ref l], [("transpose", .bool t)]⟩) R s := by
  refine enter (mu := []) (binds := [("self", .ref v), ("data", .ref l), ("transpose", .bool t)]) (m := up "transpose" (.bool t) (up "data" (.ref l) (up "self" (.ref v) no))) (mc := no)
    W hB hA (by k_is) (by k_is) (binds_K (W.X.keeps fun a o e => hB.on _ _ (hB.bg a o e)) rfl (by k_is) rfl rfl rfl) rfl (by decide) (fun _ q => nomatch q) .nil (fun _ => rfl) (fun _ => rfl) ?_
  intro L h₁ tk E' hA' H
  walk_at "M"
  refine wpAny_Call_Name_kw ?_
  walk_at "M"
  refine callWith_KW (h₀ := b) W.X (by k_is) (by with_unfolding_all rfl) ?_ (by with_unfolding_all rfl) (by with_unfolding_all rfl)
  walk_at "M"
  refine PyProof.Rows.kwAll_cons ?_
  walk_at "M"
  refine kwAll_nil ?_
  refine ⟨H.X W, ?_⟩
  refine matrix_make W H.Bg hA' hl ha hc ?_
  intro x g' h' tk' ev hx
  have H2 := H.call0 ev
  walk_at "M"
  exact ret _ _ _ _ H2.ev hx
end
end Mine
namespace Mine
section
variable {prog : Program} {w : World} {p : Program} {loose : List Str} {mean : ExcName → Option Value} {mg mb : Str → Option Value} {b : Heap}
variable {S : List Addr} {g0 : FM} {h0 : Heap} {env : Env} {g : FM} {m mc : Str → Option Value} {mu : List (Addr × Obj)}
variable {A : Around} {s : Shared} {E : Value → Shared → Prop} {R : Result → Shared → Prop}

/-- a method of the module's, looked up -/
theorem gm_V {x r : Addr} {name : Str} {f : Addr} {pl : Sem Bool} {Q : Value × List Value → Shared → Prop} (W : Wd (Mine.hd.heap_39 w.params) p loose mean mg mb b) (H : St b S g0 h0 env g m mc mu s.heap) (I : Mod 377 g x r)
    (hg : plainGet (Mine.hd.heap_39 w.params) 377 name = true) (hf : findIn (Mine.hd.heap_39 w.params) (.ref 377) name = some (some (.ref f))) (ht : isFn (Mine.hd.heap_39 w.params) (.ref f) = true) (hn : ∀ (h1 : Int) (t1 : Tok) (r : Addr), getL name [⟨h1, .str "ring" t1, .ref r⟩] = some none)
    (h : Q (.ref f, [.ref x]) s) : wpAny (model prog w) A (getMethod (.ref x) name pl) Q E s := by
  obtain ⟨h1, t1, i⟩ := I
  exact gm_fn (f := f) (H.X W) (i.mono H.on) hg hf ht (hn _ _ _) h

set_option maxHeartbeats 1000000 in
theorem vcall_spec (W : Wd (Mine.hd.heap_39 w.params) p loose mean mg mb b) (hB : Bg b g s.heap) (hA : Ao 6 A)
    {v l r rr : Addr} {t : Bool} {n hh ww : Nat} {F : Nat → Nat → Nat → Int} {args : List Value} {kw : List (Str × Value)} (hargs : args = [.ref v, .ref l] ∧ kw = [] ∧ t = false ∨ args = [.ref v, .ref l, .bool t] ∧ kw = [] ∨ args = [.ref v, .ref l] ∧ kw = [(("transpose" : Str), Value.bool t)]) (hv : Mod 377 g v rr)
    (tb : Tb 362 320 mu) (hlive : (∀ q ∈ mu, s.heap.get? q.1 = some q.2 ∧ g q.1 = none) ∧ (mu.map (·.1)).Nodup) (hbr : AllBare s.gens)
    (hl : Stored 222 g l r n t hh ww F) (ha : hh ≤ 1000) (hc : ww ≤ 1000) (ha1 : 1 ≤ hh) (hc1 : 1 ≤ ww)
    (ret : ∀ x mu' g' h' tk gs, Ev (mu.map (·.1)) g s.heap g' h' → Tb 362 320 mu' → (∀ q ∈ mu', h'.get? q.1 = some q.2) → AllBare gs → Mat 333 222 g' x v r n hh ww F → R (.ok (.ret (.ref x))) { s with heap := h', toks := tk, gens := gs }) :
    codeAny (model prog w) A (.call (.ref 367) ⟨args, kw⟩) R s := by
  obtain ⟨a, c, F', hr, hz, ho⟩ := hl.rows
  obtain ⟨hz1, hz2⟩ := hz ha hc
  obtain ⟨ho1, ho2⟩ := ho ha1 hc1
  refine enter (binds := [("self", .ref v), ("matrix_elements", .ref l), ("transpose", .bool t)]) (m := up "transpose" (.bool t) (up "matrix_elements" (.ref l) (up "self" (.ref v) no))) (mc := no)
    W hB hA (by k_is) (by k_is) (by
      rcases hargs with ⟨rfl, rfl, rfl⟩ | ⟨rfl, rfl⟩ | ⟨rfl, rfl⟩
      · exact binds_K (W.X.keeps fun a o e => hB.on _ _ (hB.bg a o e)) rfl (by k_is) rfl rfl rfl
      · exact binds_K (W.X.keeps fun a o e => hB.on _ _ (hB.bg a o e)) rfl (by k_is) rfl rfl rfl
      · exact binds_K (W.X.keeps fun a o e => hB.on _ _ (hB.bg a o e)) rfl (by k_is) rfl rfl rfl) rfl (by decide) hlive.1 hlive.2 (fun _ => rfl) (fun _ => rfl) ?_
  intro L h₁ tk E' hA' H
  obtain ⟨vs, o, go, ⟨oc, od, oe⟩, hvl, hvr⟩ := id hr
  walk_at "M"
  refine isi_list (H.X W) (H.on _ _ go) oc (r := true) (by kit_is) ?_
  intro tk2
  walk_at "M"
  refine ls_sub (i := 0) H hr rfl (by omega) hz1 ?_
  intro y hy
  obtain ⟨vs1, o1, go1, ⟨oc1, od1, oe1⟩, hvl1, hvr1⟩ := id hy
  walk_at "M"
  refine isi_list (H.X W) (H.on _ _ go1) oc1 (r := true) (by kit_is) ?_
  intro tk3
  walk_at "M"
  refine loop_forG (GP := AllBare) hbr H (ls_src hA'.hh hr H.on) (fun i g₁ m₁ mc₁ mu₁ => mc₁ = no ∧ m₁ "self" = some (.ref v) ∧ m₁ "matrix_elements" = some (.ref l) ∧ m₁ "transpose" = some (.bool t) ∧ Tb 362 320 mu₁) ⟨rfl, rfl, rfl, rfl, tb⟩ ?_ ?_
  · rintro i y I oI g₁ m₁ mc₁ mu₁ h₁ tk gs E' gp hi ⟨y, rfl, hy⟩ le ⟨rfl, e1, e2, e3, pt, qt, rfl, tp, tq⟩ H3
    walk_at "M"
    refine ev_ge hA' (cl := []) (by walk_at "okg") fun ok => ?_
    walk_at "M"
    refine gen_run (k := 0) (pre := [(I, oI)]) (post := [(320, tabObj qt)]) (T := 362) (c := 366) (J := fun _ _ v => v = .bool true) W ok H3 tp (by kernel_rfl) gp (ls_srcA (LsOf.mono hy le fun _ _ q => q.mono le) H3.on) (fun _ _ _ _ j _ => j) ?_ ?_
    · rintro C code A' E' i v s₂ g₂ m' hA2 hi ⟨y, rfl, hy⟩ le2 H4
      walk_at "M"
      obtain ⟨es, I1⟩ := hy.inst
      refine isi_inst (r := true) (H4.X W) ((I1.mono le2).mono H4.on) (by kit_is) (by k_is) (by k_is) (by k_is) (by k_is) (by k_is) (by k_is) ?_
      intro tk4
      exact ⟨_, _, _, rfl, H4, rfl⟩
    · intro a2 gi C I2 fp Ws ps' h4 tk4 gs4 tr H4 G
      walk_at "M"
      refine call_all W (hA'.le (by decide)) H4 G (fun _ _ _ j => j) ?_
      intro h5 tk5 gs5 g5 le5 hb5 H5
      walk_at "M"
      exact LoopEndG.mk hb5 le5 H5 ⟨rfl, e1, e2, e3, _, _, rfl, tr, tq⟩
  · rintro g₁ m₁ mc₁ mu₁ h₁ tk gs gp le ⟨rfl, e1, e2, e3, tb1⟩ H3
    walk_at "M"
    refine methodCall_KW ?_ (by with_unfolding_all rfl)
    walk_at "M"
    refine gm_V (f := 359) W H3 (hv.mono le) (by k_is) (by k_is) (by k_is) (fun _ _ _ => rfl) ?_
    refine callWith_KW (h₀ := b) W.X (by k_is) (by with_unfolding_all rfl) ?_ (by with_unfolding_all rfl) (by with_unfolding_all rfl)
    walk_at "M"
    refine PyProof.Rows.kwAll_cons ?_
    walk_at "M"
    refine kwAll_nil ?_
    refine ⟨H3.X W, ?_⟩
    refine wpAny_call (matrix_of_spec W H3.Bg hA' (hl.mono le) ha hc ?_)
    intro x g' h' tk' ev hx
    have H4 := H3.call0 ev
    walk_at "M"
    refine ret _ _ _ _ _ _ ?_ tb1 H4.mus gp hx
    exact H4.ev
end
end Mine
namespace Mine
section
variable {prog : Program} {w : World} {p : Program} {loose : List Str} {mean : ExcName → Option Value} {mg mb : Str → Option Value} {b : Heap}
variable {S : List Addr} {g0 : FM} {h0 : Heap} {env : Env} {g : FM} {m mc : Str → Option Value} {mu : List (Addr × Obj)}
variable {A : Around} {s : Shared} {E : Value → Shared → Prop} {R : Result → Shared → Prop}

theorem ga_Md {x v l : Addr} {h1 h2 h3 : Int} {t1 t2 t3 : Tok} {t : Bool} {expr : Bool} {Q : Value → Shared → Prop} (W : Wd (Mine.hd.heap_39 w.params) p loose mean mg mb b) (H : St b S g0 h0 env g m mc mu s.heap) (I : Inst g x 333 (matD h1 t1 v h2 t2 l h3 t3 t))
    (h : Q (.ref l) { s with toks := s.toks + 1 }) : wpAny (model prog w) A (getAttr (.ref x) "_data" expr) Q E s := by
  refine ga_own (attr := none) (H.X W) (I.mono H.on) ?a ?b ?c ?d rfl rfl h
  case a => k_is
  case b => k_is
  case c => k_is
  case d => k_is
theorem ga_Mt {x v l : Addr} {h1 h2 h3 : Int} {t1 t2 t3 : Tok} {t : Bool} {expr : Bool} {Q : Value → Shared → Prop} (W : Wd (Mine.hd.heap_39 w.params) p loose mean mg mb b) (H : St b S g0 h0 env g m mc mu s.heap) (I : Inst g x 333 (matD h1 t1 v h2 t2 l h3 t3 t))
    (h : Q (.bool t) { s with toks := s.toks + 1 }) : wpAny (model prog w) A (getAttr (.ref x) "_transpose" expr) Q E s := by
  refine ga_own (attr := none) (H.X W) (I.mono H.on) ?a ?b ?c ?d rfl rfl h
  case a => k_is
  case b => k_is
  case c => k_is
  case d => k_is
theorem ga_Mp {x v l : Addr} {h1 h2 h3 : Int} {t1 t2 t3 : Tok} {t : Bool} {expr : Bool} {Q : Value → Shared → Prop} (W : Wd (Mine.hd.heap_39 w.params) p loose mean mg mb b) (H : St b S g0 h0 env g m mc mu s.heap) (I : Inst g x 333 (matD h1 t1 v h2 t2 l h3 t3 t))
    (h : Q (.ref v) { s with toks := s.toks + 1 }) : wpAny (model prog w) A (getAttr (.ref x) "parent" expr) Q E s := by
  refine ga_own (attr := none) (H.X W) (I.mono H.on) ?a ?b ?c ?d rfl rfl h
  case a => k_is
  case b => k_is
  case c => k_is
  case d => k_is
theorem gm_Mp {x v l : Addr} {h1 h2 h3 : Int} {t1 t2 t3 : Tok} {t : Bool} {pl : Sem Bool} {Q : Value × List Value → Shared → Prop} (W : Wd (Mine.hd.heap_39 w.params) p loose mean mg mb b) (H : St b S g0 h0 env g m mc mu s.heap) (I : Inst g x 333 (matD h1 t1 v h2 t2 l h3 t3 t))
    (h : Q (.ref v, []) { s with toks := s.toks + 1 }) : wpAny (model prog w) A (getMethod (.ref x) "parent" pl) Q E s := by
  obtain ⟨d, n, J⟩ := (I.mono H.on).at_
  have hg : plainGet (Mine.hd.heap_39 w.params) 333 "parent" = true := by k_is
  refine method_usual (r := none) (H.X W) J (plainGet_of hg).1 (plainGet_of hg).2 ?a rfl (ga_Mp W H I h)
  case a => k_is
/-- a method of the matrix's, looked up -/
theorem gm_M {x v r : Addr} {n hh ww : Nat} {F : Nat → Nat → Nat → Int} {name : Str} {f : Addr} {pl : Sem Bool} {Q : Value × List Value → Shared → Prop} (W : Wd (Mine.hd.heap_39 w.params) p loose mean mg mb b) (H : St b S g0 h0 env g m mc mu s.heap) (I : Mat 333 222 g x v r n hh ww F)
    (hg : plainGet (Mine.hd.heap_39 w.params) 333 name = true) (hf : findIn (Mine.hd.heap_39 w.params) (.ref 333) name = some (some (.ref f))) (ht : isFn (Mine.hd.heap_39 w.params) (.ref f) = true)
    (hn : ∀ (h1 : Int) (t1 : Tok) (v : Addr) (h2 : Int) (t2 : Tok) (l : Addr) (h3 : Int) (t3 : Tok) (t : Bool), getL name (matD h1 t1 v h2 t2 l h3 t3 t) = some none)
    (h : Q (.ref f, [.ref x]) s) : wpAny (model prog w) A (getMethod (.ref x) name pl) Q E s := by
  obtain ⟨h1, t1, h2, t2, h3, t3, l, t, i, j⟩ := I
  exact gm_fn (f := f) (H.X W) (i.mono H.on) hg hf ht (hn _ _ _ _ _ _ _ _ _) h

set_option maxHeartbeats 1000000 in
theorem dim_spec (W : Wd (Mine.hd.heap_39 w.params) p loose mean mg mb b) (hB : Bg b g s.heap) (hA : Ao 1 A)
    {x v r : Addr} {n hh ww : Nat} {F : Nat → Nat → Nat → Int} (hx : Mat 333 222 g x v r n hh ww F) (ha : hh ≤ 1000) (hc : ww ≤ 1000) (ha1 : 1 ≤ hh) (hc1 : 1 ≤ ww)
    (ret : ∀ t t1 t2 g' h' tk, Ev [] g s.heap g' h' → TupL g' t [.int hh t1, .int ww t2] → R (.ok (.ret (.ref t))) { s with heap := h', toks := tk }) :
    codeAny (model prog w) A (.call (.ref 248) ⟨[.ref x], []⟩) R s := by
  refine enter (mu := []) (binds := [("self", .ref x)]) (m := up "self" (.ref x) no) (mc := no)
    W hB hA (by k_is) (by k_is) (BindsTo.of_eq rfl) rfl (by decide) (fun _ q => nomatch q) .nil (fun _ => rfl) (fun _ => rfl) ?_
  intro L h₁ tk E' hA' H
  obtain ⟨h1, t1, h2, t2, h3, t3, l, t, i, j⟩ := hx
  walk_at "M"
  refine ga_Mt W H i ?_
  cases t
  · replace j : Rows 222 g l r n hh ww F := j
    walk_at "M"
    refine ga_Md W H i ?_
    walk_at "M"
    refine ls_len H j ha ?_
    walk_at "M"
    refine ga_Md W H i ?_
    walk_at "M"
    refine ls_sub (i := 0) H j rfl (by omega) ha ?_
    intro y hy
    walk_at "M"
    refine ls_len H hy hc ?_
    walk_at "M"
    refine ⟨sz1 rfl, fun a h2 ea eh => ?_⟩
    obtain ⟨g2, le2, ht, H2⟩ := H.mkTup ea eh
    walk_at "M"
    exact ret _ _ _ _ _ _ H2.ev ht
  · replace j : Rows 222 g l r n ww hh (fun i j => F j i) := j
    walk_at "M"
    refine ga_Md W H i ?_
    walk_at "M"
    refine ls_sub (i := 0) H j rfl (by omega) hc ?_
    intro y hy
    walk_at "M"
    refine ls_len H hy ha ?_
    walk_at "M"
    refine ga_Md W H i ?_
    walk_at "M"
    refine ls_len H j hc ?_
    walk_at "M"
    refine ⟨sz1 rfl, fun a h2 ea eh => ?_⟩
    obtain ⟨g2, le2, ht, H2⟩ := H.mkTup ea eh
    walk_at "M"
    exact ret _ _ _ _ _ _ H2.ev ht

set_option maxHeartbeats 1000000 in
theorem turn_spec (W : Wd (Mine.hd.heap_39 w.params) p loose mean mg mb b) (hB : Bg b g s.heap) (hA : Ao 7 A)
    {x v r rr : Addr} {n hh ww : Nat} {F : Nat → Nat → Nat → Int} (hx : Mat 333 222 g x v r n hh ww F) (hv : Mod 377 g v rr) (ha : hh ≤ 1000) (hc : ww ≤ 1000) (ha1 : 1 ≤ hh) (hc1 : 1 ≤ ww)
    (tb : Tb 362 320 mu) (hlive : (∀ q ∈ mu, s.heap.get? q.1 = some q.2 ∧ g q.1 = none) ∧ (mu.map (·.1)).Nodup) (hbr : AllBare s.gens)
    (ret : ∀ x mu' g' h' tk gs, Ev (mu.map (·.1)) g s.heap g' h' → Tb 362 320 mu' → (∀ q ∈ mu', h'.get? q.1 = some q.2) → AllBare gs → Mat 333 222 g' x v r n ww hh (fun i j => F j i) → R (.ok (.ret (.ref x))) { s with heap := h', toks := tk, gens := gs }) :
    codeAny (model prog w) A (.call (.ref 262) ⟨[.ref x], []⟩) R s := by
  refine enter (binds := [("self", .ref x)]) (m := up "self" (.ref x) no) (mc := no)
    W hB hA (by k_is) (by k_is) (BindsTo.of_eq rfl) rfl (by decide) hlive.1 hlive.2 (fun _ => rfl) (fun _ => rfl) ?_
  intro L h₁ tk E' hA' H
  obtain ⟨h1, t1, h2, t2, h3, t3, l, t, i, j⟩ := hx
  walk_at "M"
  refine gm_Mp W H i ?_
  obtain ⟨d, es, k, iv⟩ := hv.at
  refine x_icall (H.X W) (iv.mono H.on) (by k_is) ?_
  walk_at "M"
  refine ga_Md W H i ?_
  walk_at "M"
  refine ga_Mt W H i ?_
  walk_at "M"
  refine ⟨⟨H.X W, iv.mono H.on⟩, ?_⟩
  refine icall (f := 367) (H.X W) (iv.mono H.on) (by k_is) (by k_is) (by k_is) (vcall_spec W H.Bg hA' (.inr (.inl ⟨rfl, rfl⟩)) hv tb (H.muFacts (pre := [])) hbr j.turn hc ha hc1 ha1 ?_)
  intro z mu' g' h' tk' gs ev tb' live' hb' hz
  have H2 := H.callMu (pre := []) ev (by rw [tb'.adr, tb.adr]) live'
  walk_at "M"
  exact ret _ _ _ _ _ _ H2.ev tb' live' hb' hz

set_option maxHeartbeats 1000000 in
theorem mget_spec (W : Wd (Mine.hd.heap_39 w.params) p loose mean mg mb b) (hB : Bg b g s.heap) (hA : Ao 1 A)
    {x v r t : Addr} {n hh ww a c : Nat} {F : Nat → Nat → Nat → Int} {ta tc : Tok} (hx : Mat 333 222 g x v r n hh ww F) (ha : hh ≤ 1000) (hc : ww ≤ 1000) (ht : TupL g t [.int a ta, .int c tc]) (hi : a < hh) (hj : c < ww)
    (ret : ∀ y g' h' tk, Ev [] g s.heap g' h' → Poly 222 g' y r (lf n (F a c)) → R (.ok (.ret (.ref y))) { s with heap := h', toks := tk }) :
    codeAny (model prog w) A (.call (.ref 284) ⟨[.ref x, .ref t], []⟩) R s := by
  refine enter (mu := []) (binds := [("self", .ref x), ("idx", .ref t)]) (m := up "idx" (.ref t) (up "self" (.ref x) no)) (mc := no)
    W hB hA (by k_is) (by k_is) (BindsTo.of_eq rfl) rfl (by decide) (fun _ q => nomatch q) .nil (fun _ => rfl) (fun _ => rfl) ?_
  intro L h₁ tk E' hA' H
  obtain ⟨h1, t1, h2, t2, h3, t3, l, tr, i, j⟩ := hx
  walk_at "M"
  refine isi_tuple (r := true) (H.X W) H ht (by kit_is) ?_
  intro tk2
  walk_at "M"
  refine len_tup H ht (Nat.le_of_ble_eq_true rfl) ?_
  walk_at "M"
  refine if_t ?_
  walk_at "M"
  refine ⟨rfl, ?_⟩
  walk_at "M"
  refine ga_Mt W H i ?_
  cases tr
  · replace j : Rows 222 g l r n hh ww F := j
    walk_at "M"
    refine ga_Md W H i ?_
    walk_at "M"
    refine sub_tup H ht (by decide) (by decide) rfl ?_
    refine ls_sub (i := a) H j rfl hi ha ?_
    intro y hy
    walk_at "M"
    refine sub_tup H ht (by decide) (by decide) rfl ?_
    refine ls_sub (i := c) H hy rfl hj hc ?_
    intro z hz
    walk_at "M"
    exact ret _ _ _ _ H.ev hz
  · replace j : Rows 222 g l r n ww hh (fun i j => F j i) := j
    walk_at "M"
    refine ga_Md W H i ?_
    walk_at "M"
    refine sub_tup H ht (by decide) (by decide) rfl ?_
    refine ls_sub (i := c) H j rfl hj hc ?_
    intro y hy
    walk_at "M"
    refine sub_tup H ht (by decide) (by decide) rfl ?_
    refine ls_sub (i := a) H hy rfl hi ha ?_
    intro z hz
    walk_at "M"
    exact ret _ _ _ _ H.ev hz

/-- a matrix read at a place -/
theorem sub_mat {value slice : Expr} {x v r t : Addr} {n hh ww a c : Nat} {F : Nat → Nat → Nat → Int} {ta tc : Tok} {Q : Value → Shared → Prop} (W : Wd (Mine.hd.heap_39 w.params) p loose mean mg mb b) (H : St b S g0 h0 env g m mc mu s.heap) (hA : Ao 2 A)
    (hx : Mat 333 222 g x v r n hh ww F) (ha : hh ≤ 1000) (hc : ww ≤ 1000) (ht : TupL g t [.int a ta, .int c tc]) (hi : a < hh) (hj : c < ww)
    (ret : ∀ y g' h' tk, Ev [] g s.heap g' h' → Poly 222 g' y r (lf n (F a c)) → Q (.ref y) { s with heap := h', toks := tk })
    (hsl : subscripted slice true (.ref x) (.ref t) = runValue (.builtin "lifetime.subscript" ⟨[.ref x, .ref t], []⟩) := by with_unfolding_all rfl) :
    wpAny (model prog w) A (subscriptTail value slice (.ref x) (.ref t)) Q E s := by
  obtain ⟨es, I⟩ := hx.inst
  obtain ⟨d, k, J⟩ := (I.mono H.on).at_
  refine sub_K (f := 284) H.F W.X J ?a ?b ?c (wpAny_call (mget_spec W H.Bg hA.in1 hx ha hc ht hi hj ret)) hsl
  case a => k_is
  case b => k_is
  case c => k_is
end
end Mine
namespace Mine
section
variable {prog : Program} {w : World} {p : Program} {loose : List Str} {mean : ExcName → Option Value} {mg mb : Str → Option Value} {b : Heap}
variable {S : List Addr} {g0 : FM} {h0 : Heap} {env : Env} {g : FM} {m mc : Str → Option Value} {mu : List (Addr × Obj)}
variable {A : Around} {s : Shared} {E : Value → Shared → Prop} {R : Result → Shared → Prop}

set_option maxHeartbeats 1000000 in
theorem add_I (W : Wd (Mine.hd.heap_39 w.params) p loose mean mg mb b) (hB : Bg b g s.heap) (hA : Ao 3 A)
    {self r : Addr} {q : Int} {n : Nat} {a : Nat → Int} {c : Int} {tc : Tok} (hp : Poly 222 g self r (lf n a)) (hr : Ring 59 g r q n) (hq : 0 < q) (hn : n ≤ 1000) (hn1 : 1 ≤ n)
    (ret : ∀ l g' h' tk, Ev [] g s.heap g' h' → IntL g' l (lf n fun k => if 0 = k then (a 0 + c) % q else a k) → R (.ok (.ret (.ref l))) { s with heap := h', toks := tk }) :
    codeAny (model prog w) A (.call (.ref 132) ⟨[.ref self, .int c tc], []⟩) R s := by
  refine enter (mu := []) (binds := [("self", .ref self), ("other", .int c tc)]) (m := up "other" (.int c tc) no) (mc := up "self" (.ref self) no)
    W hB hA (by k_is) (by k_is) (BindsTo.of_eq rfl) rfl (by decide) (fun _ q => nomatch q) .nil (fun _ => rfl) (fun _ => rfl) ?_
  intro L h₁ tk E' hA' H
  walk_at "M"
  obtain ⟨es, I1⟩ := hp.inst
  refine type_inst (I1.mono H.on) ?_
  walk_at "M"
  refine isi_int (r := false) (H.X W) (by kit_is) ?_
  intro tk2
  walk_at "M"
  refine isi_int (r := true) (H.X W) (by kit_is) ?_
  intro tk3
  walk_at "M"
  refine ga_coeffs W H hp ?_
  intro l hl
  refine gm_copy H hl ?_
  walk_at "M"
  refine do_copy H hl (lfl hn) ?_
  intro D vs h2 hvs fD H2
  walk_at "M"
  rename St _ _ _ _ _ _ _ _ _ _ => H3
  refine gm_P (f := 110) W H3 hp (by k_is) (by k_is) (by k_is) (fun _ _ _ _ _ _ => rfl) ?_
  walk_at "M"
  refine row_sub (i := 0) H3 (.head _) (IsL.lst _) hvs rfl hn1 hn ?_
  intro u1
  walk_at "M"
  refine wpAny_call (add_mod_q W H3.Bg hA' hp hr (by omega) ?_)
  intro t4 g4 h4 tk4 ev4
  have H4 := H3.call0 ev4
  walk_at "M"
  refine row_set (i := 0) (pre := []) (post := []) H4 (IsL.lst _) hvs rfl hn1 hn ?_
  intro h5 o5 ys5 isl5 hns5 H5
  walk_at "M"
  obtain ⟨g6, le6, p6, H6⟩ := St.freeze' H5 fD
  exact ret _ _ _ _ H6.ev (IntL.mk p6 isl5 (hns5 _ fun k hk => by rw [Int.fmod_eq_emod_of_nonneg _ (by omega)]))

set_option maxHeartbeats 400000 in
theorem paddI_spec (W : Wd (Mine.hd.heap_39 w.params) p loose mean mg mb b) (hB : Bg b g s.heap) (hA : Ao 6 A)
    {self r : Addr} {q : Int} {n : Nat} {a : Nat → Int} {c : Int} {tc : Tok} (hp : Poly 222 g self r (lf n a)) (hr : Ring 59 g r q n) (hq : 0 < q) (hn : n ≤ 1000) (hn1 : 1 ≤ n)
    (ret : ∀ x g' h' tk, Ev [] g s.heap g' h' → Poly 222 g' x r (lf n fun k => if 0 = k then (a 0 + c) % q else a k) → R (.ok (.ret (.ref x))) { s with heap := h', toks := tk }) :
    codeAny (model prog w) A (.call (.ref 139) ⟨[.ref self, .int c tc], []⟩) R s := by
  refine enter (mu := []) (binds := [("self", .ref self), ("other", .int c tc)]) (m := up "other" (.int c tc) (up "self" (.ref self) no)) (mc := no)
    W hB hA (by k_is) (by k_is) (BindsTo.of_eq rfl) rfl (by decide) (fun _ q => nomatch q) .nil (fun _ => rfl) (fun _ => rfl) ?_
  intro L h₁ tk E' hA' H
  walk_at "M"
  refine gm_P (f := 132) W H hp (by k_is) (by k_is) (by k_is) (fun _ _ _ _ _ _ => rfl) ?_
  walk_at "M"
  refine wpAny_call (add_I W H.Bg (hA'.le (by decide)) hp hr hq hn hn1 ?_)
  intro l g' h' tk' ev hl
  have H2 := H.call0 ev
  walk_at "M"
  rename St _ _ _ _ _ _ _ _ _ _ => H3
  refine gm_parent W H3 (hp.mono ev.gg) ?_
  obtain ⟨d, es, k, i⟩ := (hr.mono ev.gg).at
  refine x_icall (H3.X W) (i.mono H3.on) (by k_is) ?_
  walk_at "M"
  refine ⟨⟨H3.X W, i.mono H3.on⟩, ?_⟩
  refine rcall (x := .Name "x" ⟨0, 0, 0, 0⟩) (pos := ⟨0, 0, 0, 0⟩) W H3 hA' (hr.mono ev.gg) hl hn (by rw [lf_length]; exact Nat.le_refl _) ?_
  intro x g2 h2 tk2 ev2 hx
  rw [pad_full] at hx
  have H4 := H3.call0 ev2
  walk_at "M"
  exact ret _ _ _ _ H4.ev hx

theorem pradd_spec (W : Wd (Mine.hd.heap_39 w.params) p loose mean mg mb b) (hB : Bg b g s.heap) (hA : Ao 7 A)
    {self r : Addr} {q : Int} {n : Nat} {a : Nat → Int} {c : Int} {tc : Tok} (hp : Poly 222 g self r (lf n a)) (hr : Ring 59 g r q n) (hq : 0 < q) (hn : n ≤ 1000) (hn1 : 1 ≤ n)
    (ret : ∀ x g' h' tk, Ev [] g s.heap g' h' → Poly 222 g' x r (lf n fun k => if 0 = k then (a 0 + c) % q else a k) → R (.ok (.ret (.ref x))) { s with heap := h', toks := tk }) :
    codeAny (model prog w) A (.call (.ref 146) ⟨[.ref self, .int c tc], []⟩) R s := by
  refine enter (mu := []) (binds := [("self", .ref self), ("other", .int c tc)]) (m := up "other" (.int c tc) (up "self" (.ref self) no)) (mc := no)
    W hB hA (by k_is) (by k_is) (BindsTo.of_eq rfl) rfl (by decide) (fun _ q => nomatch q) .nil (fun _ => rfl) (fun _ => rfl) ?_
  intro L h₁ tk E' hA' H
  walk_at "M"
  refine gm_P (f := 139) W H hp (by k_is) (by k_is) (by k_is) (fun _ _ _ _ _ _ => rfl) ?_
  walk_at "M"
  refine wpAny_call (paddI_spec W H.Bg hA' hp hr hq hn hn1 ?_)
  intro x g' h' tk' ev hx
  have H2 := H.call0 ev
  walk_at "M"
  exact ret _ _ _ _ H2.ev hx

theorem Poly.instAt {C x r : Addr} {cs : List Int} {h : Heap} (hp : Poly C h.get? x r cs) : ∃ ox od, InstAt h x ox C od ∧ ox.data = .plain := by
  obtain ⟨_, _, _, _, _, i, _⟩ := hp
  obtain ⟨d, n, j⟩ := i.at_
  exact ⟨_, _, j, rfl⟩
/-- nothing and a polynomial that is reduced -/
theorem bin_zero {y r : Addr} {q : Int} {n : Nat} {a : Nat → Int} {t : Tok} {Q : Value → Shared → Prop} (W : Wd (Mine.hd.heap_39 w.params) p loose mean mg mb b) (H : St b S g0 h0 env g m mc mu s.heap) (hA : Ao 7 A)
    (hy : Poly 222 g y r (lf n a)) (hr : Ring 59 g r q n) (hq : 0 < q) (hn : n ≤ 1000) (hn1 : 1 ≤ n) (hz : 0 ≤ a 0 ∧ a 0 < q)
    (ret : ∀ z g' h' tk, Ev [] g s.heap g' h' → Poly 222 g' z r (lf n a) → Q (.ref z) { s with heap := h', toks := tk }) :
    wpAny (model prog w) A (binaryOp .Add (.int 0 t) (.ref y)) Q E s := by
  obtain ⟨ox, od, J, hd⟩ := (hy.mono H.on.le).instAt
  have e : (lf n fun k => if 0 = k then (a 0 + 0) % q else a k) = lf n a := lf_ext fun k _ => by
    by_cases z : 0 = k
    · subst z; rw [if_pos rfl, Int.add_zero, Int.emod_eq_of_lt hz.1 hz.2]
    · rw [if_neg z]
  refine bin_rint (f := 146) (fi := 139) H.F W.X J hd ?a ?b ?c ?d ?e ?f ?g (wpAny_call (pradd_spec W H.Bg hA hy hr hq hn hn1 fun x g' h' tk ev hx => ret x g' h' tk ev (e ▸ hx)))
  case a => k_is
  case b => k_is
  case c => k_is
  case d => k_is
  case e => k_is
  case f => k_is
  case g => k_is
end
end Mine
namespace Mine
section
variable {prog : Program} {w : World} {p : Program} {loose : List Str} {mean : ExcName → Option Value} {mg mb : Str → Option Value} {b : Heap}
variable {S : List Addr} {g0 : FM} {h0 : Heap} {env : Env} {g : FM} {m mc : Str → Option Value} {mu : List (Addr × Obj)}
variable {A : Around} {s : Shared} {E : Value → Shared → Prop} {R : Result → Shared → Prop}

theorem Mod.ne_ {v r : Addr} {n : Nat} {Q : Value → Shared → Prop} (W : Wd (Mine.hd.heap_39 w.params) p loose mean mg mb b) (H : St b S g0 h0 env g m mc mu s.heap) (hA : Ao n A) (hv : Mod 377 g v r) (h : Q (.bool false) s) :
    wpAny (model prog w) A (compareOp .NotEq (.ref v) (.ref v)) Q E s := by
  obtain ⟨_, _, i⟩ := hv
  obtain ⟨d, k, j⟩ := (i.mono H.on.le).at_
  refine ne_self (H.X W) j ?a ?b ?c (by have := hA.un; unfold cLine; omega) h
  case a => k_is
  case b => k_is
  case c => k_is

set_option maxHeartbeats 2000000 in
theorem matmul_spec (W : Wd (Mine.hd.heap_39 w.params) p loose mean mg mb b) (hB : Bg b g s.heap) (hA : Ao 10 A)
    {x y v r rr : Addr} {q : Int} {n hh ww ll : Nat} {F G : Nat → Nat → Nat → Int} (hx : Mat 333 222 g x v r n hh ww F) (hy : Mat 333 222 g y v r n ww ll G) (hv : Mod 377 g v rr) (hr : Ring 59 g r q n)
    (hq : 0 < q) (hn : n ≤ 1000) (hn1 : 1 ≤ n) (ha : hh ≤ 1000) (hc : ww ≤ 1000) (hd : ll ≤ 1000) (ha1 : 1 ≤ hh) (hc1 : 1 ≤ ww) (hd1 : 1 ≤ ll) (hm : ∀ i t j a c, i < hh → t < ww → j < ll → a < n → c < n → IntMulOk (F i t a) (G t j c))
    (tb : Tb 362 320 mu) (hlive : (∀ q ∈ mu, s.heap.get? q.1 = some q.2 ∧ g q.1 = none) ∧ (mu.map (·.1)).Nodup) (hbr : AllBare s.gens)
    (ret : ∀ z mu' g' h' tk gs, Ev (mu.map (·.1)) g s.heap g' h' → Tb 362 320 mu' → (∀ q ∈ mu', h'.get? q.1 = some q.2) → AllBare gs → Mat 333 222 g' z v r n hh ll (fun i j k => sm ww (fun t => nc n (F i t) (G t j) k) % q) → R (.ok (.ret (.ref z))) { s with heap := h', toks := tk, gens := gs }) :
    codeAny (model prog w) A (.call (.ref 323) ⟨[.ref x, .ref y], []⟩) R s := by
  refine enter (binds := [("self", .ref x), ("other", .ref y)]) (m := no) (mc := up "other" (.ref y) (up "self" (.ref x) no))
    W hB hA (by k_is) (by k_is) (BindsTo.of_eq rfl) rfl (by decide) hlive.1 hlive.2 (fun _ => rfl) (fun _ => rfl) ?_
  intro L h₁ tk E' hA' H
  obtain ⟨h1, t1, h2, t2, h3, t3, l, tr, ix, jx⟩ := id hx
  obtain ⟨h1', t1', h2', t2', h3', t3', l', tr', iy, jy⟩ := id hy
  walk_at "M"
  refine type_inst (ix.mono H.on) ?_
  walk_at "M"
  refine isi_inst (r := true) (H.X W) (iy.mono H.on) (by kit_is) (by k_is) (by k_is) (by k_is) (by k_is) (by k_is) (by k_is) ?_
  intro tk2
  walk_at "M"
  refine ga_Mp W H ix ?_
  walk_at "M"
  refine ga_Mp W H iy ?_
  refine Mod.ne_ W H hA' hv ?_
  walk_at "M"
  refine gm_M (f := 248) W H hx (by k_is) (by k_is) (by k_is) (fun _ _ _ _ _ _ _ _ _ => rfl) ?_
  refine x_fn0 W H (by k_is) ?_
  refine wpAny_call (dim_spec W H.Bg (hA'.le (by decide)) hx ha hc ha1 hc1 ?_)
  intro d1 td1 td2 g2 h2 tk2 ev2 hdm1
  have H2 := H.call0 ev2
  replace hx := hx.mono (ev2.gg)
  replace hy := hy.mono (ev2.gg)
  replace hv := hv.mono (ev2.gg)
  replace hr := hr.mono (ev2.gg)
  refine tl_assign2 hA'.hh H2 hdm1 ?_
  intro h3 H3
  walk_at "M"
  rename St _ _ _ _ _ _ _ _ _ _ => H3
  refine gm_M (f := 248) W H3 hy (by k_is) (by k_is) (by k_is) (fun _ _ _ _ _ _ _ _ _ => rfl) ?_
  refine x_fn0 W H3 (by k_is) ?_
  refine wpAny_call (dim_spec W H3.Bg (hA'.le (by decide)) hy hc hd hc1 hd1 ?_)
  intro d2 td3 td4 g4 h4 tk4 ev4 hdm2
  have H4 := H3.call0 ev4
  replace hx := hx.mono (ev4.gg)
  replace hy := hy.mono (ev4.gg)
  replace hv := hv.mono (ev4.gg)
  replace hr := hr.mono (ev4.gg)
  refine tl_assign2 hA'.hh H4 hdm2 ?_
  intro h5 H5
  walk_at "M"
  rename St _ _ _ _ _ _ _ _ _ _ => H5
  rw [beq_self_eq_true]
  walk_at "M"
  obtain ⟨h1, t1, h2, t2, h3, t3, l, tr, ix, jx⟩ := id hx
  refine gm_Mp W H5 ix ?_
  obtain ⟨d, es, k, iv⟩ := hv.at
  refine x_icall (H5.X W) (iv.mono H5.on) (by k_is) ?_
  walk_at "M"
  refine ev_lc (cl := [("self", L + 1), ("other", L + 2), ("n", L + 3), ("l", L + 4)]) (cn := ["self", "other", "n", "l"]) (xc := true) (by walk_at "ok") fun ok => ?_
  walk_at "M"
  refine call_range1 H5 ?_
  intro h6 tk6 rr6 t6 u6 v6 hrr6 H6
  refine lc_runG (GP := AllBare) hbr ok H6 (Src.range hA'.hh hrr6 (rngN ha) (nat0 _)) (by rw [to_nat0]; exact szl ha) (fun i g₁ mu₁ ys => Tb 362 320 mu₁ ∧ Refs (fun i' z => LsOf g₁ z ll fun j u => Poly 222 g₁ u r (lf n fun k => sm ww (fun t => nc n (F i' t) (G t j) k) % q)) ys) ⟨tb, Refs.nil⟩ ?_ ?_
  · rintro i vv C D oD I oI g₁ mu₁ ys h₁ tk gs E' gp hi hP le1 ha' ⟨tb1, hys⟩ hl7 H7
    obtain ⟨ti, e⟩ := hP
    rw [Int.zero_add] at e
    subst e
    rw [to_nat0] at hi
    walk_at "M"
    refine ev_lc (cl := [("self", L + 1), ("other", L + 2), ("n", L + 3), ("i", C + 1)]) (cn := ["self", "other", "n", "i"]) (xc := true) (by walk_at "ok") fun ok2 => ?_
    walk_at "M"
    refine call_range1 H7 ?_
    intro h8 tk8 rr8 t8 u8 v8 hrr8 H8
    refine lc_runG (GP := AllBare) gp ok2 H8 (Src.range hA'.hh hrr8 (rngN hd) (nat0 _)) (by rw [to_nat0]; exact szl hd) (fun j g₂ mu₂ zs => ∃ mu₃, mu₂ = (D, oD) :: (I, oI) :: mu₃ ∧ Tb 362 320 mu₃ ∧ Refs (fun j' u => Poly 222 g₂ u r (lf n fun k => sm ww (fun t => nc n (F i t) (G t j') k) % q)) zs) ⟨mu₁, rfl, tb1, Refs.nil⟩ ?_ ?_
    · rintro j vv C2 D2 oD2 I2 oI2 g₂ mu₂ zs h₂ tk₂ gs₂ E2 gp2 hj hP le2 ha2 ⟨mu₃, rfl, ⟨pt, qt, rfl, tp, tq⟩, hzs⟩ hl9 H9
      obtain ⟨tj, e⟩ := hP
      rw [Int.zero_add] at e
      subst e
      rw [to_nat0] at hj
      walk_at "M"
      refine ev_ge hA' (cl := [("self", L + 1), ("other", L + 2), ("j", C2 + 1), ("i", C + 1)]) (by walk_at "okg") fun ok3 => ?_
      walk_at "M"
      refine call_range1 H9 ?_
      intro h10 tk10 rr10 t10 u10 v10 hrr10 H10
      replace hx := hx.mono (le1)
      replace hy := hy.mono (le1)
      replace hv := hv.mono (le1)
      replace hr := hr.mono (le1)
      replace hx := hx.mono (le2)
      replace hy := hy.mono (le2)
      replace hv := hv.mono (le2)
      replace hr := hr.mono (le2)
      refine gen_run (k := 6) (pre := [(D2, oD2), (I2, oI2), (D, oD), (I, oI), (362, tabObj pt)]) (post := []) (T := 320) (c := 322)
        (J := fun t g' u => ∃ z, u = .ref z ∧ Poly 222 g' z r (lf n fun k => nc n (F i t) (G t j) k % q)) W ok3 H10 tq (by kernel_rfl) gp2 (SrcA.range hrr10 (rng (by omega)) (nat0 _)) (fun _ _ _ _ ⟨z, e, hz⟩ le => ⟨z, e, hz.mono le⟩) ?_ ?_
      · rintro C3 code A' E' t vv s₂ g₃ m' hA3 ht ⟨tt, e⟩ le3 H11
        rw [Int.zero_add] at e
        subst e
        rw [to_nat0] at ht
        replace hx := hx.mono (le3)
        replace hy := hy.mono (le3)
        replace hv := hv.mono (le3)
        replace hr := hr.mono (le3)
        walk_at "M"
        refine ⟨sz1 rfl, fun a h12 ea eh => ?_⟩
        obtain ⟨g12, le12, ht12, H12⟩ := H11.mkTup ea eh
        replace hx := hx.mono (le12)
        replace hy := hy.mono (le12)
        replace hv := hv.mono (le12)
        replace hr := hr.mono (le12)
        refine sub_mat W H12 (hA3.le (by decide)) hx ha hc ht12 hi ht ?_
        intro z1 g13 h13 tk13 ev13 hz1
        have H13 := H12.call0 ev13
        replace hx := hx.mono (ev13.gg)
        replace hy := hy.mono (ev13.gg)
        replace hv := hv.mono (ev13.gg)
        replace hr := hr.mono (ev13.gg)
        walk_at "M"
        refine ⟨sz1 rfl, fun a h14 ea eh => ?_⟩
        obtain ⟨g14, le14, ht14, H14⟩ := H13.mkTup ea eh
        replace hx := hx.mono (le14)
        replace hy := hy.mono (le14)
        replace hv := hv.mono (le14)
        replace hr := hr.mono (le14)
        replace hz1 := hz1.mono (le14)
        refine sub_mat W H14 (hA3.le (by decide)) hy hc hd ht14 ht hj ?_
        intro z2 g15 h15 tk15 ev15 hz2
        have H15 := H14.call0 ev15
        replace hr := hr.mono (ev15.gg)
        replace hz1 := hz1.mono (ev15.gg)
        refine bin_mul W H15 hA3 hz1 hz2 hr hq hn hn1 (fun a c ha hc => hm i t j a c hi ht hj ha hc) ?_
        intro z3 g16 h16 tk16 ev16 hz3
        have H16 := H15.call0 ev16
        exact ⟨_, _, _, rfl, H16, z3, rfl, hz3⟩
      · intro a2 gi C3 I3 fp Ws ps' h11 tk11 gs11 tr11 H11 G11
        walk_at "M"
        refine call_sum (Acc := fun t g' u => (t = 0 ∧ ∃ tk, u = .int 0 tk) ∨ 0 < t ∧ ∃ z, u = .ref z ∧ Poly 222 g' z r (lf n fun k => sm t (fun t' => nc n (F i t') (G t' j) k) % q)) W (hA'.le (by decide)) H11 G11 (fun _ _ _ ⟨z, e, _⟩ => ⟨z, e⟩)
          (fun t _ _ ht a => a.elim (fun z => absurd ht (by omega)) fun ⟨_, z, e, _⟩ => ⟨z, e⟩) (fun _ _ _ _ a le => a.imp id fun ⟨p, z, e, hz⟩ => ⟨p, z, e, hz.mono le⟩) (fun _ _ _ _ ⟨z, e, hz⟩ le => ⟨z, e, hz.mono le⟩) (fun _ t => .inl ⟨rfl, t, rfl⟩) ?_ ?_
        · rintro A' E' t acc u s₂ S' env' g₃ m' hA3 ht le3 hacc ⟨z, rfl, hz⟩ H12
          have hr3 := hr.mono le3
          rcases hacc with ⟨rfl, tk0, rfl⟩ | ⟨ht0, z0, rfl, hz0⟩
          · refine bin_zero W H12 (hA3.le (by decide)) hz hr3 hq hn hn1 ⟨Int.emod_nonneg _ (by omega), Int.emod_lt_of_pos _ hq⟩ ?_
            intro z1 g13 h13 tk13 ev13 hz1
            refine ⟨_, _, _, rfl, ev13, .inr ⟨Nat.succ_pos _, z1, rfl, ?_⟩⟩
            rw [← lf_ext fun k _ => show nc n (F i 0) (G 0 j) k % q = sm (0 + 1) (fun t' => nc n (F i t') (G t' j) k) % q from by rw [sm_succ]; show _ = (0 + _) % q; rw [Int.zero_add]]
            exact hz1
          · refine bin_add W H12 (hA3.le (by decide)) hz0 hz hr3 hq hn ?_
            intro z1 g13 h13 tk13 ev13 hz1
            refine ⟨_, _, _, rfl, ev13, .inr ⟨Nat.succ_pos _, z1, rfl, ?_⟩⟩
            rw [lf_ext fun k _ => show _ = sm (t + 1) (fun t' => nc n (F i t') (G t' j) k) % q from by rw [sm_succ, ← Int.add_emod]] at hz1
            exact hz1
        · intro h12 tk12 gs12 acc g12 le12 hb12 H12 hacc
          rw [to_nat0] at hacc
          rcases hacc with ⟨z, _⟩ | ⟨_, z, rfl, hz⟩
          · omega
          refine EltEndG.mk hb12 le12 H12 (by exact ha2) ⟨_, rfl, ⟨_, _, rfl, tp, tr11⟩, ?_⟩
          exact (hzs.mono fun _ _ q => q.mono le12).push hl9 hz
    · rintro g₂ mu₂ zs D2 oD2 h₂ tk₂ gs₂ gp2 le2 ha2 ⟨mu₃, rfl, tb3, hzs⟩ hl9 isl9 fD9 H9
      rw [to_nat0] at hl9
      obtain ⟨g10, le10, hls, H10⟩ := H9.freezeLs fD9 isl9 hl9 hzs
      refine EltEndG.mk gp2 (le2.trans le10) H10 (by rw [tb3.adr, tb.adr]) ⟨tb3, ?_⟩
      refine (hys.mono fun _ _ q => LsOf.mono q (le2.trans le10) fun _ _ q => q.mono (le2.trans le10)).push hl7 ?_
      exact LsOf.mono hls (.refl _) fun _ _ q => q.mono le10
  · rintro g₁ mu₁ ys D oD h₁ tk gs gp le1 ha' ⟨tb1, hys⟩ hl7 isl7 fD7 H7
    rw [to_nat0] at hl7
    obtain ⟨g10, le10, hls, H10⟩ := H7.freezeLs fD7 isl7 hl7 hys
    walk_at "M"
    refine ⟨⟨H10.Xh W, (iv.mono (le1.trans le10)).mono H10.on⟩, ?_⟩
    replace hv := hv.mono (le1)
    replace hv := hv.mono (le10)
    refine icall (f := 367) (H10.Xh W) ((iv.mono (le1.trans le10)).mono H10.on) (by k_is) (by k_is) (by k_is) (vcall_spec (t := false) (hh := hh) (ww := ll) (F := fun i j k => sm ww (fun t => nc n (F i t) (G t j) k) % q) W H10.Bg (hA'.le (by decide)) (.inl ⟨rfl, rfl, rfl⟩) hv tb1 (H10.muFacts (pre := [])) gp
      (LsOf.mono hls (.refl _) fun _ _ q => LsOf.mono q le10 fun _ _ q => q.mono le10) ha hd ha1 hd1 ?_)
    intro z mu' g' h' tk' gs ev tb' live' hb' hz
    have H11 := H10.callMu (pre := []) ev (by rw [tb'.adr, tb1.adr]) live'
    walk_at "M"
    have ev12 := H11.ev
    exact ret _ _ _ _ _ _ ev12 tb' live' hb' hz
end
end Mine
namespace Mine
section
variable {prog : Program} {w : World} {p : Program} {loose : List Str} {mean : ExcName → Option Value} {mg mb : Str → Option Value} {b : Heap}
variable {S : List Addr} {g0 : FM} {h0 : Heap} {env : Env} {g : FM} {m mc : Str → Option Value} {mu : List (Addr × Obj)}
variable {A : Around} {s : Shared} {E : Value → Shared → Prop} {R : Result → Shared → Prop}

/-- two matrices, multiplied -/
theorem bin_mat {x y v r rr : Addr} {q : Int} {n hh ww ll : Nat} {F G : Nat → Nat → Nat → Int} {Q : Value → Shared → Prop} (W : Wd (Mine.hd.heap_39 w.params) p loose mean mg mb b) {pre : List (Addr × Obj)} (H : St b S g0 h0 env g m mc (pre ++ mu) s.heap) (hA : Ao 10 A)
    (hx : Mat 333 222 g x v r n hh ww F) (hy : Mat 333 222 g y v r n ww ll G) (hv : Mod 377 g v rr) (hr : Ring 59 g r q n)
    (hq : 0 < q) (hn : n ≤ 1000) (hn1 : 1 ≤ n) (ha : hh ≤ 1000) (hc : ww ≤ 1000) (hd : ll ≤ 1000) (ha1 : 1 ≤ hh) (hc1 : 1 ≤ ww) (hd1 : 1 ≤ ll) (hm : ∀ i t j a c, i < hh → t < ww → j < ll → a < n → c < n → IntMulOk (F i t a) (G t j c))
    (tb : Tb 362 320 mu) (hbr : AllBare s.gens)
    (ret : ∀ z mu' g' h' tk gs, g.le g' → Tb 362 320 mu' → AllBare gs → Mat 333 222 g' z v r n hh ll (fun i j k => sm ww (fun t => nc n (F i t) (G t j) k) % q) → St b S g0 h0 env g' m mc (pre ++ mu') h' → Q (.ref z) { s with heap := h', toks := tk, gens := gs }) :
    wpAny (model prog w) A (binaryOp .MatMult (.ref x) (.ref y)) Q E s := by
  obtain ⟨es, I⟩ := hx.inst
  obtain ⟨es', J⟩ := hy.inst
  refine bin_same (f := 323) W H I J ?a ?b ?c (wpAny_call (matmul_spec W H.Bg hA hx hy hv hr hq hn hn1 ha hc hd ha1 hc1 hd1 hm tb (H.muFacts) hbr fun z mu' g' h' tk gs ev tb' live' hb' hz => ?_))
  case a => k_is
  case b => k_is
  case c => k_is
  exact ret z mu' g' h' tk gs ev.gg tb' hb' hz (H.callMu ev (by rw [tb'.adr, tb.adr]) live')
end
end Mine
namespace Mine
section
variable {prog : Program} {w : World} {p : Program} {loose : List Str} {mean : ExcName → Option Value} {mg mb : Str → Option Value} {b : Heap}
variable {S : List Addr} {g0 : FM} {h0 : Heap} {env : Env} {g : FM} {m mc : Str → Option Value} {mu : List (Addr × Obj)}
variable {A : Around} {s : Shared} {E : Value → Shared → Prop} {R : Result → Shared → Prop}

set_option maxHeartbeats 400000 in
theorem sub_ (W : Wd (Mine.hd.heap_39 w.params) p loose mean mg mb b) (hB : Bg b g s.heap) (hA : Ao 3 A)
    {self other r r' : Addr} {q : Int} {n : Nat} {a c : Nat → Int} (hp : Poly 222 g self r (lf n a)) (ho : Poly 222 g other r' (lf n c)) (hr : Ring 59 g r q n) (hq : 0 < q) (hn : n ≤ 1000)
    (ret : ∀ l g' h' tk, Ev [] g s.heap g' h' → IntL g' l (lf n fun k => (a k - c k) % q) → R (.ok (.ret (.ref l))) { s with heap := h', toks := tk }) :
    codeAny (model prog w) A (.call (.ref 158) ⟨[.ref self, .ref other], []⟩) R s := by
  refine enter (mu := []) (binds := [("self", .ref self), ("other", .ref other)]) (m := up "other" (.ref other) no) (mc := up "self" (.ref self) no)
    W hB hA (by k_is) (by k_is) (BindsTo.of_eq rfl) rfl (by decide) (fun _ q => nomatch q) .nil (fun _ => rfl) (fun _ => rfl) ?_
  intro L h₁ tk E' hA' H
  walk_at "M"
  obtain ⟨es, I1⟩ := hp.inst
  obtain ⟨es', I2⟩ := ho.inst
  refine type_inst (I1.mono H.on) ?_
  walk_at "M"
  refine isi_inst (r := true) (H.X W) (I2.mono H.on) (by kit_is) (by k_is) (by k_is) (by k_is) (by k_is) (by k_is) (by k_is) ?_
  intro tk2
  walk_at "M"
  refine as_lcz (cl := [("self", L + 1)]) (cn := ["self"]) (by walk_at "okz") fun ok => ?_
  walk_at "M"
  refine ga_coeffs W H hp ?_
  intro la hla
  walk_at "M"
  refine ga_coeffs W H ho ?_
  intro lb hlb
  walk_at "M"
  obtain ⟨vs1, o1, k1, go1, oc1, od1, hi1⟩ := hla
  obtain ⟨vs2, o2, k2, go2, oc2, od2, hi2⟩ := hlb
  have n1 := ints_len hi1
  have n2 := ints_len hi2
  refine zip_runA hA'.hh ok H go1 go2 ⟨oc1, k1, od1⟩ ⟨oc2, k2, od2⟩ (by omega) (by rw [sizeLine_eq]; omega) (fun i g₁ ys => IntsAre ys (lf i fun k => (a k - c k) % q)) .nil ?_ ?_
  · intro s' i v1 v2 C Dl oD mu' g₁ ys h₁ tk E' hi hv1 hv2 le j hl H3
    obtain ⟨u1, e1⟩ := ints_at hi1 (show i < n by omega)
    obtain ⟨u2, e2⟩ := ints_at hi2 (show i < n by omega)
    rw [e1] at hv1; obtain rfl := Option.some.inj hv1
    rw [e2] at hv2; obtain rfl := Option.some.inj hv2
    walk_at "M"
    refine gm_P (f := 117) W H3 (hp.mono le) (by k_is) (by k_is) (by k_is) (fun _ _ _ _ _ _ => rfl) ?_
    walk_at "M"
    refine wpAny_call (sub_mod_q W H3.Bg (hA'.le (by decide)) (hp.mono le) (hr.mono le) (by omega) ?_)
    intro t g' h' tk' ev
    have H4 := H3.call0 ev
    exact ZipEnd.mk ev.gg H4 (ints_push j (Int.fmod_eq_emod_of_nonneg _ (by omega)))
  · intro g₁ ys D oD h₁ tk le j hl isl fD H3
    rw [n1] at j
    obtain ⟨H4, le4⟩ := H3.freeze fD
    dsimp only
    walk_at "M"
    exact ret _ _ _ _ H4.ev (IntL.mk (FM.put_self ..) isl j)
set_option maxHeartbeats 400000 in
theorem psub_spec (W : Wd (Mine.hd.heap_39 w.params) p loose mean mg mb b) (hB : Bg b g s.heap) (hA : Ao 6 A)
    {self other r r' : Addr} {q : Int} {n : Nat} {a c : Nat → Int} (hp : Poly 222 g self r (lf n a)) (ho : Poly 222 g other r' (lf n c)) (hr : Ring 59 g r q n) (hq : 0 < q) (hn : n ≤ 1000)
    (ret : ∀ x g' h' tk, Ev [] g s.heap g' h' → Poly 222 g' x r (lf n fun k => (a k - c k) % q) → R (.ok (.ret (.ref x))) { s with heap := h', toks := tk }) :
    codeAny (model prog w) A (.call (.ref 165) ⟨[.ref self, .ref other], []⟩) R s := by
  refine enter (mu := []) (binds := [("self", .ref self), ("other", .ref other)]) (m := up "other" (.ref other) (up "self" (.ref self) no)) (mc := no)
    W hB hA (by k_is) (by k_is) (BindsTo.of_eq rfl) rfl (by decide) (fun _ q => nomatch q) .nil (fun _ => rfl) (fun _ => rfl) ?_
  intro L h₁ tk E' hA' H
  walk_at "M"
  refine gm_P (f := 158) W H hp (by k_is) (by k_is) (by k_is) (fun _ _ _ _ _ _ => rfl) ?_
  walk_at "M"
  refine wpAny_call (sub_ W H.Bg (hA'.le (by decide)) hp ho hr hq hn ?_)
  intro l g' h' tk' ev hl
  have H2 := H.call0 ev
  walk_at "M"
  rename St _ _ _ _ _ _ _ _ _ _ => H3
  refine gm_parent W H3 (hp.mono ev.gg) ?_
  obtain ⟨d, es, k, i⟩ := (hr.mono ev.gg).at
  refine x_icall (H3.X W) (i.mono H3.on) (by k_is) ?_
  walk_at "M"
  refine ⟨⟨H3.X W, i.mono H3.on⟩, ?_⟩
  refine rcall (x := .Name "x" ⟨0, 0, 0, 0⟩) (pos := ⟨0, 0, 0, 0⟩) W H3 hA' (hr.mono ev.gg) hl hn (by rw [lf_length]; exact Nat.le_refl _) ?_
  intro x g2 h2 tk2 ev2 hx
  rw [pad_full] at hx
  have H4 := H3.call0 ev2
  walk_at "M"
  exact ret _ _ _ _ H4.ev hx

theorem bin_sub {x y r r' : Addr} {q : Int} {n : Nat} {a c : Nat → Int} {Q : Value → Shared → Prop} (W : Wd (Mine.hd.heap_39 w.params) p loose mean mg mb b) (H : St b S g0 h0 env g m mc mu s.heap) (hA : Ao 6 A)
    (hx : Poly 222 g x r (lf n a)) (hy : Poly 222 g y r' (lf n c)) (hr : Ring 59 g r q n) (hq : 0 < q) (hn : n ≤ 1000)
    (ret : ∀ z g' h' tk, Ev [] g s.heap g' h' → Poly 222 g' z r (lf n fun k => (a k - c k) % q) → Q (.ref z) { s with heap := h', toks := tk }) :
    wpAny (model prog w) A (binaryOp .Sub (.ref x) (.ref y)) Q E s := by
  obtain ⟨es, I⟩ := hx.inst
  obtain ⟨es', J⟩ := hy.inst
  refine bin_same (f := 165) W H I J ?a ?b ?c (wpAny_call (psub_spec W H.Bg hA hx hy hr hq hn fun z g' h' tk ev hz => ret z g' h' tk ev hz))
  case a => k_is
  case b => k_is
  case c => k_is
end
end Mine
namespace Mine
section
variable {prog : Program} {w : World} {p : Program} {loose : List Str} {mean : ExcName → Option Value} {mg mb : Str → Option Value} {b : Heap}
variable {S : List Addr} {g0 : FM} {h0 : Heap} {env : Env} {g : FM} {m mc : Str → Option Value} {mu : List (Addr × Obj)}
variable {A : Around} {s : Shared} {E : Value → Shared → Prop} {R : Result → Shared → Prop}

set_option maxHeartbeats 2000000 in
theorem madd_spec (W : Wd (Mine.hd.heap_39 w.params) p loose mean mg mb b) (hB : Bg b g s.heap) (hA : Ao 7 A)
    {x y v r rr : Addr} {q : Int} {n hh ww : Nat} {F G : Nat → Nat → Nat → Int} (hx : Mat 333 222 g x v r n hh ww F) (hy : Mat 333 222 g y v r n hh ww G) (hv : Mod 377 g v rr) (hr : Ring 59 g r q n)
    (hq : 0 < q) (hn : n ≤ 1000) (ha : hh ≤ 1000) (hc : ww ≤ 1000) (ha1 : 1 ≤ hh) (hc1 : 1 ≤ ww)
    (tb : Tb 362 320 mu) (hlive : (∀ q ∈ mu, s.heap.get? q.1 = some q.2 ∧ g q.1 = none) ∧ (mu.map (·.1)).Nodup) (hbr : AllBare s.gens)
    (ret : ∀ z mu' g' h' tk gs, Ev (mu.map (·.1)) g s.heap g' h' → Tb 362 320 mu' → (∀ q ∈ mu', h'.get? q.1 = some q.2) → AllBare gs → Mat 333 222 g' z v r n hh ww (fun i j k => (F i j k + G i j k) % q) → R (.ok (.ret (.ref z))) { s with heap := h', toks := tk, gens := gs }) :
    codeAny (model prog w) A (.call (.ref 299) ⟨[.ref x, .ref y], []⟩) R s := by
  refine enter (binds := [("self", .ref x), ("other", .ref y)]) (m := no) (mc := up "other" (.ref y) (up "self" (.ref x) no))
    W hB hA (by k_is) (by k_is) (BindsTo.of_eq rfl) rfl (by decide) hlive.1 hlive.2 (fun _ => rfl) (fun _ => rfl) ?_
  intro L h₁ tk E' hA' H
  obtain ⟨h1, t1, h2, t2, h3, t3, l, tr, ix, jx⟩ := id hx
  obtain ⟨h1', t1', h2', t2', h3', t3', l', tr', iy, jy⟩ := id hy
  walk_at "M"
  refine type_inst (ix.mono H.on) ?_
  walk_at "M"
  refine isi_inst (r := true) (H.X W) (iy.mono H.on) (by kit_is) (by k_is) (by k_is) (by k_is) (by k_is) (by k_is) (by k_is) ?_
  intro tk2
  walk_at "M"
  refine ga_Mp W H ix ?_
  walk_at "M"
  refine ga_Mp W H iy ?_
  refine Mod.ne_ W H hA' hv ?_
  walk_at "M"
  refine gm_M (f := 248) W H hx (by k_is) (by k_is) (by k_is) (fun _ _ _ _ _ _ _ _ _ => rfl) ?_
  refine x_fn0 W H (by k_is) ?_
  refine wpAny_call (dim_spec W H.Bg (hA'.le (by decide)) hx ha hc ha1 hc1 ?_)
  intro d1 td1 td2 g2 h2 tk2 ev2 hdm1
  have H2 := H.call0 ev2
  replace hx := hx.mono (ev2.gg)
  replace hy := hy.mono (ev2.gg)
  replace hv := hv.mono (ev2.gg)
  replace hr := hr.mono (ev2.gg)
  walk_at "M"
  refine gm_M (f := 248) W H2 hy (by k_is) (by k_is) (by k_is) (fun _ _ _ _ _ _ _ _ _ => rfl) ?_
  refine x_fn0 W H2 (by k_is) ?_
  refine wpAny_call (dim_spec W H2.Bg (hA'.le (by decide)) hy ha hc ha1 hc1 ?_)
  intro d2 td3 td4 g4 h4 tk4 ev4 hdm2
  have H4 := H2.call0 ev4
  replace hx := hx.mono (ev4.gg)
  replace hy := hy.mono (ev4.gg)
  replace hv := hv.mono (ev4.gg)
  replace hr := hr.mono (ev4.gg)
  refine ne_tup (r := false) H4 hA' (hdm1.mono ev4.gg) hdm2 (by simp) ?_
  walk_at "M"
  refine gm_M (f := 248) W H4 hx (by k_is) (by k_is) (by k_is) (fun _ _ _ _ _ _ _ _ _ => rfl) ?_
  refine x_fn0 W H4 (by k_is) ?_
  refine wpAny_call (dim_spec W H4.Bg (hA'.le (by decide)) hx ha hc ha1 hc1 ?_)
  intro d3 td5 td6 g5 h5 tk5 ev5 hdm3
  have H5 := H4.call0 ev5
  replace hx := hx.mono (ev5.gg)
  replace hy := hy.mono (ev5.gg)
  replace hv := hv.mono (ev5.gg)
  replace hr := hr.mono (ev5.gg)
  refine tl_assign2 hA'.hh H5 hdm3 ?_
  intro h6 H6
  walk_at "M"
  rename St _ _ _ _ _ _ _ _ _ _ => H6
  obtain ⟨h1, t1, h2, t2, h3, t3, l, tr, ix, jx⟩ := id hx
  refine gm_Mp W H6 ix ?_
  obtain ⟨d, es, k, iv⟩ := hv.at
  refine x_icall (H6.X W) (iv.mono H6.on) (by k_is) ?_
  walk_at "M"
  refine ev_lc (cl := [("self", L + 1), ("other", L + 2), ("n", L + 3)]) (cn := ["self", "other", "n"]) (xc := true) (by walk_at "ok") fun ok => ?_
  walk_at "M"
  refine call_range1 H6 ?_
  intro h6 tk6 rr6 t6 u6 v6 hrr6 H6
  refine lc_run ok H6 (Src.range hA'.hh hrr6 (rngN ha) (nat0 _)) (by rw [to_nat0]; exact szl ha) (fun i g₁ mu₁ ys => mu₁ = mu ∧ Refs (fun i' z => LsOf g₁ z ww fun j u => Poly 222 g₁ u r (lf n fun k => (F i' j k + G i' j k) % q)) ys) ⟨rfl, Refs.nil⟩ ?_ ?_
  · rintro i vv C D oD I oI g₁ mu₁ ys h₁ tk E' hi ⟨ti, e⟩ le1 ha' ⟨rfl, hys⟩ hl7 H7
    rw [Int.zero_add] at e
    subst e
    rw [to_nat0] at hi
    replace hx := hx.mono (le1)
    replace hy := hy.mono (le1)
    replace hv := hv.mono (le1)
    replace hr := hr.mono (le1)
    walk_at "M"
    refine ev_lc (cl := [("self", L + 1), ("other", L + 2), ("i", C + 1)]) (cn := ["self", "other", "i"]) (xc := false) (by walk_at "ok") fun ok2 => ?_
    walk_at "M"
    refine call_range1 H7 ?_
    intro h8 tk8 rr8 t8 u8 v8 hrr8 H8
    refine lc_run ok2 H8 (Src.range hA'.hh hrr8 (rngN hc) (nat0 _)) (by rw [to_nat0]; exact szl hc) (fun j g₂ mu₂ zs => mu₂ = (D, oD) :: (I, oI) :: mu₁ ∧ Refs (fun j' u => Poly 222 g₂ u r (lf n fun k => (F i j' k + G i j' k) % q)) zs) ⟨rfl, Refs.nil⟩ ?_ ?_
    · rintro j vv C2 D2 oD2 I2 oI2 g₂ mu₂ zs h₂ tk₂ E2 hj ⟨tj, e⟩ le2 ha2 ⟨rfl, hzs⟩ hl9 H9
      rw [Int.zero_add] at e
      subst e
      rw [to_nat0] at hj
      replace hx := hx.mono (le2)
      replace hy := hy.mono (le2)
      replace hv := hv.mono (le2)
      replace hr := hr.mono (le2)
      walk_at "M"
      refine ⟨sz1 rfl, fun a h12 ea eh => ?_⟩
      obtain ⟨g12, le12, ht12, H12⟩ := H9.mkTup ea eh
      replace hx := hx.mono (le12)
      replace hy := hy.mono (le12)
      replace hv := hv.mono (le12)
      replace hr := hr.mono (le12)
      refine sub_mat W H12 (hA'.le (by decide)) hx ha hc ht12 hi hj ?_
      intro z1 g13 h13 tk13 ev13 hz1
      have H13 := H12.call0 ev13
      replace hx := hx.mono (ev13.gg)
      replace hy := hy.mono (ev13.gg)
      replace hv := hv.mono (ev13.gg)
      replace hr := hr.mono (ev13.gg)
      walk_at "M"
      refine ⟨sz1 rfl, fun a h14 ea eh => ?_⟩
      obtain ⟨g14, le14, ht14, H14⟩ := H13.mkTup ea eh
      replace hx := hx.mono (le14)
      replace hy := hy.mono (le14)
      replace hv := hv.mono (le14)
      replace hr := hr.mono (le14)
      replace hz1 := hz1.mono (le14)
      refine sub_mat W H14 (hA'.le (by decide)) hy ha hc ht14 hi hj ?_
      intro z2 g15 h15 tk15 ev15 hz2
      have H15 := H14.call0 ev15
      replace hr := hr.mono (ev15.gg)
      replace hz1 := hz1.mono (ev15.gg)
      refine bin_add W H15 hA' hz1 hz2 hr hq hn ?_
      intro z3 g16 h16 tk16 ev16 hz3
      have H16 := H15.call0 ev16
      refine EltEnd.mk (le12.trans (ev13.gg.trans (le14.trans (ev15.gg.trans ev16.gg)))) H16 (by exact ha2) ⟨rfl, ?_⟩
      exact (hzs.mono fun _ _ q => q.mono (le12.trans (ev13.gg.trans (le14.trans (ev15.gg.trans ev16.gg))))).push hl9 hz3
    · rintro g₂ mu₂ zs D2 oD2 h₂ tk₂ le2 ha2 ⟨rfl, hzs⟩ hl9 isl9 fD9 H9
      rw [to_nat0] at hl9
      obtain ⟨g10, le10, hls, H10⟩ := H9.freezeLs fD9 isl9 hl9 hzs
      refine EltEnd.mk (le2.trans le10) H10 rfl ⟨rfl, ?_⟩
      refine (hys.mono fun _ _ q => LsOf.mono q (le2.trans le10) fun _ _ q => q.mono (le2.trans le10)).push hl7 ?_
      exact LsOf.mono hls (.refl _) fun _ _ q => q.mono le10
  · rintro g₁ mu₁ ys D oD h₁ tk le1 ha' ⟨rfl, hys⟩ hl7 isl7 fD7 H7
    rw [to_nat0] at hl7
    obtain ⟨g10, le10, hls, H10⟩ := H7.freezeLs fD7 isl7 hl7 hys
    walk_at "M"
    refine ⟨⟨H10.Xh W, (iv.mono (le1.trans le10)).mono H10.on⟩, ?_⟩
    replace hv := hv.mono (le1)
    replace hv := hv.mono (le10)
    refine icall (f := 367) (H10.Xh W) ((iv.mono (le1.trans le10)).mono H10.on) (by k_is) (by k_is) (by k_is) (vcall_spec (t := false) (hh := hh) (ww := ww) (F := fun i j k => (F i j k + G i j k) % q) W H10.Bg (hA'.le (by decide)) (.inr (.inl ⟨rfl, rfl⟩)) hv tb (H10.muFacts (pre := [])) hbr
      (LsOf.mono hls (.refl _) fun _ _ q => LsOf.mono q le10 fun _ _ q => q.mono le10) ha hc ha1 hc1 ?_)
    intro z mu' g' h' tk' gs ev tb' live' hb' hz
    have H11 := H10.callMu (pre := []) ev (by rw [tb'.adr, tb.adr]) live'
    walk_at "M"
    have ev12 := H11.ev
    exact ret _ _ _ _ _ _ ev12 tb' live' hb' hz

/-- two matrices, added -/
theorem bin_madd {x y v r rr : Addr} {q : Int} {n hh ww : Nat} {F G : Nat → Nat → Nat → Int} {Q : Value → Shared → Prop} (W : Wd (Mine.hd.heap_39 w.params) p loose mean mg mb b) {pre : List (Addr × Obj)} (H : St b S g0 h0 env g m mc (pre ++ mu) s.heap) (hA : Ao 7 A)
    (hx : Mat 333 222 g x v r n hh ww F) (hy : Mat 333 222 g y v r n hh ww G) (hv : Mod 377 g v rr) (hr : Ring 59 g r q n)
    (hq : 0 < q) (hn : n ≤ 1000) (ha : hh ≤ 1000) (hc : ww ≤ 1000) (ha1 : 1 ≤ hh) (hc1 : 1 ≤ ww)
    (tb : Tb 362 320 mu) (hbr : AllBare s.gens)
    (ret : ∀ z mu' g' h' tk gs, g.le g' → Tb 362 320 mu' → AllBare gs → Mat 333 222 g' z v r n hh ww (fun i j k => (F i j k + G i j k) % q) → St b S g0 h0 env g' m mc (pre ++ mu') h' → Q (.ref z) { s with heap := h', toks := tk, gens := gs }) :
    wpAny (model prog w) A (binaryOp .Add (.ref x) (.ref y)) Q E s := by
  obtain ⟨es, I⟩ := hx.inst
  obtain ⟨es', J⟩ := hy.inst
  refine bin_same (f := 299) W H I J ?a ?b ?c (wpAny_call (madd_spec W H.Bg hA hx hy hv hr hq hn ha hc ha1 hc1 tb (H.muFacts) hbr fun z mu' g' h' tk gs ev tb' live' hb' hz => ?_))
  case a => k_is
  case b => k_is
  case c => k_is
  exact ret z mu' g' h' tk gs ev.gg tb' hb' hz (H.callMu ev (by rw [tb'.adr, tb.adr]) live')
end
end Mine
namespace Mine
section
variable {prog : Program} {w : World} {p : Program} {loose : List Str} {mean : ExcName → Option Value} {mg mb : Str → Option Value} {b : Heap}
variable {S : List Addr} {g0 : FM} {h0 : Heap} {env : Env} {g : FM} {m mc : Str → Option Value} {mu : List (Addr × Obj)}
variable {A : Around} {s : Shared} {E : Value → Shared → Prop} {R : Result → Shared → Prop}

/-- the property T: the matrix turned -/
theorem ga_T {x v r rr : Addr} {n hh ww : Nat} {F : Nat → Nat → Nat → Int} {expr : Bool} {Q : Value → Shared → Prop} {pre : List (Addr × Obj)} (W : Wd (Mine.hd.heap_39 w.params) p loose mean mg mb b) (H : St b S g0 h0 env g m mc (pre ++ mu) s.heap) (hA : Ao 8 A)
    (hx : Mat 333 222 g x v r n hh ww F) (hv : Mod 377 g v rr) (ha : hh ≤ 1000) (hc : ww ≤ 1000) (ha1 : 1 ≤ hh) (hc1 : 1 ≤ ww) (tb : Tb 362 320 mu) (hbr : AllBare s.gens)
    (ret : ∀ z mu' g' h' tk gs, g.le g' → Tb 362 320 mu' → AllBare gs → Mat 333 222 g' z v r n ww hh (fun i j => F j i) → St b S g0 h0 env g' m mc (pre ++ mu') h' → Q (.ref z) { s with heap := h', toks := tk, gens := gs }) :
    wpAny (model prog w) A (getAttr (.ref x) "T" expr) Q E s := by
  obtain ⟨es, I⟩ := hx.inst
  have hf : ∃ rest, recIn (Mine.hd.heap_39 w.params) 270 "property" = some (.ref 262 :: rest) := ⟨_, by k_is⟩
  obtain ⟨rest, hf⟩ := hf
  refine ga_prop (fget := 262) (pa := 270) (rest := rest) (H.X W) (I.mono H.on) ?a ?b ?c ?d ?e hf ?_
  case a => k_is
  case b => k_is
  case c => k_is
  case d => k_is
  case e => k_is
  refine turn_spec (s := { s with toks := s.toks + 1 }) W H.Bg hA.in1 hx hv ha hc ha1 hc1 tb (H.muFacts) hbr fun z mu' g' h' tk gs ev tb' live' hb' hz => ?_
  exact handed_on rfl (ret z mu' g' h' tk gs ev.gg tb' hb' hz (H.callMu ev (by rw [tb'.adr, tb.adr]) live'))

set_option maxHeartbeats 2000000 in
theorem dot_spec (W : Wd (Mine.hd.heap_39 w.params) p loose mean mg mb b) (hB : Bg b g s.heap) (hA : Ao 11 A)
    {x y v r rr : Addr} {q : Int} {n hh : Nat} {F G : Nat → Nat → Nat → Int} (hx : Mat 333 222 g x v r n hh 1 F) (hy : Mat 333 222 g y v r n hh 1 G) (hv : Mod 377 g v rr) (hr : Ring 59 g r q n)
    (hq : 0 < q) (hn : n ≤ 1000) (hn1 : 1 ≤ n) (ha : hh ≤ 1000) (ha1 : 1 ≤ hh) (hm : ∀ t a c, t < hh → a < n → c < n → IntMulOk (F t 0 a) (G t 0 c))
    (tb : Tb 362 320 mu) (hlive : (∀ q ∈ mu, s.heap.get? q.1 = some q.2 ∧ g q.1 = none) ∧ (mu.map (·.1)).Nodup) (hbr : AllBare s.gens)
    (ret : ∀ z mu' g' h' tk gs, Ev (mu.map (·.1)) g s.heap g' h' → Tb 362 320 mu' → (∀ q ∈ mu', h'.get? q.1 = some q.2) → AllBare gs → Poly 222 g' z r (lf n fun k => sm hh (fun t => nc n (F t 0) (G t 0) k) % q) → R (.ok (.ret (.ref z))) { s with heap := h', toks := tk, gens := gs }) :
    codeAny (model prog w) A (.call (.ref 330) ⟨[.ref x, .ref y], []⟩) R s := by
  refine enter (binds := [("self", .ref x), ("other", .ref y)]) (m := up "other" (.ref y) (up "self" (.ref x) no)) (mc := no)
    W hB hA (by k_is) (by k_is) (BindsTo.of_eq rfl) rfl (by decide) hlive.1 hlive.2 (fun _ => rfl) (fun _ => rfl) ?_
  intro L h₁ tk E' hA' H
  obtain ⟨es, ix⟩ := hx.inst
  obtain ⟨es', iy⟩ := hy.inst
  walk_at "M"
  refine type_inst (ix.mono H.on) ?_
  walk_at "M"
  refine isi_inst (r := true) (H.X W) (iy.mono H.on) (by kit_is) (by k_is) (by k_is) (by k_is) (by k_is) (by k_is) (by k_is) ?_
  intro tk2
  walk_at "M"
  refine ga_T (pre := []) W H (hA'.le (by decide)) hx hv ha (by decide) ha1 (by decide) tb hbr ?_
  intro z3 mu3 g3 h3 tk3 gs3 le3 tb3 br3 hz3 H3
  replace hx := hx.mono (le3)
  replace hy := hy.mono (le3)
  replace hv := hv.mono (le3)
  replace hr := hr.mono (le3)
  walk_at "M"
  refine bin_mat (pre := []) (hh := 1) (ww := hh) (ll := 1) W H3 hA' hz3 hy hv hr hq hn hn1 (by decide) ha (by decide) (by decide) ha1 (by decide) ?hm tb3 br3 ?_
  case hm =>
    intro i t j a c hi ht hj ha hc
    obtain rfl : i = 0 := by omega
    obtain rfl : j = 0 := by omega
    exact hm t a c ht ha hc
  intro z4 mu4 g4 h4 tk4 gs4 le4 tb4 br4 hz4 H4
  walk_at "M"
  rename St _ _ _ _ _ _ _ _ _ _ => H5
  refine gm_M (f := 248) W H5 hz4 (by k_is) (by k_is) (by k_is) (fun _ _ _ _ _ _ _ _ _ => rfl) ?_
  refine x_fn0 W H5 (by k_is) ?_
  refine wpAny_call (dim_spec W H5.Bg (hA'.le (by decide)) hz4 (by decide) (by decide) (by decide) (by decide) ?_)
  intro d1 td1 td2 g6 h6 tk6 ev6 hdm1
  have H6 := H5.call0 ev6
  walk_at "M"
  try dsimp only
  refine ⟨sz1 rfl, fun a7 h7 ea eh => ?_⟩
  obtain ⟨g7, le7, ht7, H7⟩ := H6.mkTup ea eh
  refine eq_tup (r := true) H7 hA' (hdm1.mono le7) ht7 (by simp) ?_
  walk_at "M"
  refine ⟨rfl, ?_⟩
  walk_at "M"
  try dsimp only
  refine ⟨sz1 rfl, fun a8 h8 ea8 eh8 => ?_⟩
  obtain ⟨g8, le8, ht8, H8⟩ := H7.mkTup ea8 eh8
  refine sub_mat (a := 0) (c := 0) W H8 (hA'.le (by decide)) (((hz4.mono ev6.gg).mono le7).mono le8) (by decide) (by decide) ht8 (by decide) (by decide) ?_
  intro z9 g9 h9 tk9 ev9 hz9
  have H9 := H8.call0 ev9
  walk_at "M"
  have evE := H9.ev
  exact ret _ _ _ _ _ _ evE tb4 H9.mus br4 hz9
end
end Mine
namespace Mine
section
variable {prog : Program} {w : World} {p : Program} {loose : List Str} {mean : ExcName → Option Value} {mg mb : Str → Option Value} {b : Heap}
variable {S : List Addr} {g0 : FM} {h0 : Heap} {env : Env} {g : FM} {m mc : Str → Option Value} {mu : List (Addr × Obj)}
variable {A : Around} {s : Shared} {E : Value → Shared → Prop} {R : Result → Shared → Prop}

set_option maxHeartbeats 1000000 in
theorem draw_spec (W : Wd (Mine.hd.heap_39 w.params) p loose mean mg mb b) (hB : Bg b g s.heap) (hA : Ao 1 A)
    {st l : Addr} {N : Int} (hl : Script g l) (hok : StD st l N mu) (hN : N ≤ 1000) (hlive : (∀ q ∈ mu, s.heap.get? q.1 = some q.2 ∧ g q.1 = none) ∧ (mu.map (·.1)).Nodup)
    (ret : ∀ v t mu' g' h' tk, Ev (mu.map (·.1)) g s.heap g' h' → StD st l (N + 1) mu' → (∀ q ∈ mu', h'.get? q.1 = some q.2) → Bd v → R (.ok (.ret (.int v t))) { s with heap := h', toks := tk }) :
    codeAny (model prog w) A (.call (.ref 403) ⟨[.ref st], []⟩) R s := by
  obtain ⟨oS, k, tk0, rfl, iS, hk0, hkN⟩ := hok
  refine enter (binds := [("state", .ref st)]) (m := up "state" (.ref st) no) (mc := no)
    W hB hA (by k_is) (by k_is) (BindsTo.of_eq rfl) rfl (by decide) hlive.1 hlive.2 (fun _ => rfl) (fun _ => rfl) ?_
  intro L h₁ tk E' hA' H
  obtain ⟨ns, I, hn, hb⟩ := hl
  walk_at "M"
  rename St _ _ _ _ _ _ _ _ _ _ => H2
  refine set_list (pre := []) (post := []) H2 iS (by decide) (by decide) (Nat.le_of_ble_eq_true rfl) ?_
  intro h3 o3 isl3 H3
  replace isl3 : IsL o3 [.ref l, .int (k + 1) _] := isl3
  obtain ⟨vs, hvl, hvi⟩ := I.list H3.on.le
  walk_at "M"
  refine len_list hvl (by rw [hvi.length]; omega) ?_
  rw [hvi.length]
  walk_at "M"
  split
  · rename_i hlt
    have hlt := of_decide_eq_true hlt
    walk_at "M"
    obtain ⟨tc, hc⟩ := hvi.get k.toNat (ns[k.toNat]'(by omega)) (List.getElem?_eq_getElem (by omega))
    refine sub_list hvl hk0 (by omega) hc ?_
    exact ret _ _ _ _ _ _ H3.ev ⟨o3, k + 1, _, rfl, isl3, by omega, by omega⟩ H3.mus (hb _ (List.getElem_mem _))
  · walk_at "M"
    refine imul_ok (IntMulOk.of_left (intBits_le_64 (by omega) (by omega))) ?_
    walk_at "M"
    refine ret _ _ _ _ _ _ H3.ev ⟨o3, k + 1, _, rfl, isl3, by omega, by omega⟩ H3.mus ?_
    have h1 := Int.emod_nonneg (k * k * 13 + k * 29 + 5) (show (101 : Int) ≠ 0 by decide)
    have h2 := Int.emod_lt_of_pos (k * k * 13 + k * 29 + 5) (show (0 : Int) < 101 by decide)
    exact .small (by omega) (by omega)

set_option maxHeartbeats 1000000 in
theorem grid_spec (W : Wd (Mine.hd.heap_39 w.params) p loose mean mg mb b) (hB : Bg b g s.heap) (hA : Ao 2 A)
    {st l : Addr} {N : Int} {hh ww n : Nat} {th tw tn : Tok} (hl : Script g l) (hok : StD st l N mu) (hN : N ≤ 800) (hlive : (∀ q ∈ mu, s.heap.get? q.1 = some q.2 ∧ g q.1 = none) ∧ (mu.map (·.1)).Nodup) (hn : n ≤ 4) (ha : hh ≤ 3) (hc : ww ≤ 3)
    (ret : ∀ l' F mu' g' h' tk, Ev (mu.map (·.1)) g s.heap g' h' → StD st l (N + 36) mu' → (∀ q ∈ mu', h'.get? q.1 = some q.2) → Grid g' l' n hh ww F → (∀ i j k, i < hh → j < ww → k < n → Bd (F i j k)) → R (.ok (.ret (.ref l'))) { s with heap := h', toks := tk }) :
    codeAny (model prog w) A (.call (.ref 408) ⟨[.ref st, .int hh th, .int ww tw, .int n tn], []⟩) R s := by
  refine enter (binds := [("state", .ref st), ("rows", .int hh th), ("cols", .int ww tw), ("n", .int n tn)]) (m := up "rows" (.int hh th) no) (mc := up "n" (.int n tn) (up "cols" (.int ww tw) (up "state" (.ref st) no)))
    W hB hA (by k_is) (by k_is) (BindsTo.of_eq rfl) rfl (by decide) hlive.1 hlive.2 (fun _ => rfl) (fun _ => rfl) ?_
  intro L h₁ tk E' hA' H
  walk_at "M"
  refine ev_lc (cl := [("state", L + 1), ("n", L + 3), ("cols", L + 2)]) (cn := ["state", "n", "cols"]) (xc := false) (by walk_at "ok") fun ok => ?_
  walk_at "M"
  refine call_range1 H ?_
  intro h2 tk2 r t1 u1 v1 hr H2
  refine lc_run ok H2 (Src.range hA'.hh hr (rng (by omega)) (nat0 _)) (by rw [to_nat0]; exact szl (by omega))
    (fun i g₁ mu₁ ys => StD st l (N + 12 * i) mu₁ ∧ Refs (fun _ x => LsOf g₁ x ww fun _ y => ∃ a : Nat → Int, IntL g₁ y (lf n a) ∧ ∀ k, k < n → Bd (a k)) ys) ⟨by simpa using hok, Refs.nil⟩ ?_ ?_
  · rintro i v C D oD I oI g₁ mu₁ ys h₁ tk E' hi hP le ha' ⟨hok1, hys⟩ hl3 H3
    rw [to_nat0] at hi
    walk_at "M"
    refine ev_lc (cl := [("state", L + 1), ("n", L + 3)]) (cn := ["state", "n"]) (xc := false) (by walk_at "ok") fun ok2 => ?_
    walk_at "M"
    refine call_range1 H3 ?_
    intro h4 tk4 r4 t4 u4 v4 hr4 H4
    refine lc_run ok2 H4 (Src.range hA'.hh hr4 (rng (by omega)) (nat0 _)) (by rw [to_nat0]; exact szl (by omega))
      (fun j g₂ mu₂ zs => ∃ mu₃, mu₂ = (D, oD) :: (I, oI) :: mu₃ ∧ StD st l (N + 12 * i + 4 * j) mu₃ ∧ Refs (fun _ y => ∃ a : Nat → Int, IntL g₂ y (lf n a) ∧ ∀ k, k < n → Bd (a k)) zs) ⟨_, rfl, by simpa using hok1, Refs.nil⟩ ?_ ?_
    · rintro j v C2 D2 oD2 I2 oI2 g₂ mu₂ zs h₂ tk₂ E2 hj hP2 le2 ha2 ⟨mu₃, rfl, hok3, hzs⟩ hl5 H5
      rw [to_nat0] at hj
      walk_at "M"
      refine ev_lc (cl := [("state", L + 1)]) (cn := ["state"]) (xc := false) (by walk_at "ok") fun ok3 => ?_
      walk_at "M"
      refine call_range1 H5 ?_
      intro h6 tk6 r6 t6 u6 v6 hr6 H6
      refine lc_run ok3 H6 (Src.range hA'.hh hr6 (rng (by omega)) (nat0 _)) (by rw [to_nat0]; exact szl (by omega))
        (fun k g₃ mu₄ xs => ∃ mu₅, mu₄ = (D2, oD2) :: (I2, oI2) :: (D, oD) :: (I, oI) :: mu₅ ∧ StD st l (N + 12 * i + 4 * j + k) mu₅ ∧ ∃ a : Nat → Int, IntsAre xs (lf k a) ∧ ∀ k', k' < k → Bd (a k')) ⟨_, rfl, by simpa using hok3, fun _ => 0, .nil, fun _ z => absurd z (Nat.not_lt_zero _)⟩ ?_ ?_
      · rintro k v C3 D3 oD3 I3 oI3 g₃ mu₄ xs h₃ tk₃ E3 hk hP3 le3 ha3 ⟨mu₅, rfl, hok5, a, hxs, hba⟩ hl7 H7
        rw [to_nat0] at hk
        walk_at "M"
        refine wpAny_call (draw_spec W H7.Bg (hA'.le (by decide)) ((((hl.mono le).mono le2).mono le3)) hok5 (by omega) (H7.muFacts (pre := [(D3, oD3), (I3, oI3), (D2, oD2), (I2, oI2), (D, oD), (I, oI)])) ?_)
        intro v8 t8 mu8 g8 h8 tk8 ev8 hok8 live8 hb8
        have H8 := H7.callMu (pre := [(D3, oD3), (I3, oI3), (D2, oD2), (I2, oI2), (D, oD), (I, oI)]) ev8 (by rw [hok8.adr, hok5.adr]) live8
        refine EltEnd.mk (mu₂ := (D2, oD2) :: (I2, oI2) :: (D, oD) :: (I, oI) :: mu8) ev8.gg H8 (by simp only [List.map_cons]; rw [hok8.adr, hok3.adr]) ⟨_, rfl, by have := hok8; rw [show N + 12 * (i : Int) + 4 * (j : Int) + ((k + 1 : Nat) : Int) = N + 12 * i + 4 * j + k + 1 by omega]; exact this, fun k' => if k' = k then v8 else a k', ?_, fun k' hk' => ?_⟩
        · refine ints_push (ints_ext hxs fun k' z => by rw [if_neg (by omega)]) (by rw [if_pos rfl])
        · dsimp only
          by_cases z : k' = k
          · rw [if_pos z]; exact hb8
          · rw [if_neg z]; exact hba k' (by omega)
      · rintro g₃ mu₄ xs D3 oD3 h₃ tk₃ le3 ha3 ⟨mu₅, rfl, hok5, a, hxs, hba⟩ hl7 isl7 fD7 H7
        rw [to_nat0] at hxs hba
        obtain ⟨g10, le10, hli, H10⟩ := H7.freezeI fD7 isl7 hxs
        refine EltEnd.mk (mu₂ := (D, oD) :: (I, oI) :: mu₅) (le3.trans le10) H10 (by simp only [List.map_cons]; rw [hok5.adr, hok1.adr]) ⟨_, rfl, hok5.le (by omega), ?_⟩
        exact (hzs.mono fun _ _ ⟨a, q, z⟩ => ⟨a, q.mono (le3.trans le10), z⟩).push hl5 ⟨a, hli, hba⟩
    · rintro g₂ mu₂ zs D2 oD2 h₂ tk₂ le2 ha2 ⟨mu₃, rfl, hok3, hzs⟩ hl5 isl5 fD5 H5
      rw [to_nat0] at hl5 hok3
      obtain ⟨g10, le10, hls, H10⟩ := H5.freezeLs fD5 isl5 hl5 hzs
      refine EltEnd.mk (le2.trans le10) H10 (by rw [hok3.adr, hok.adr]) ⟨hok3.le (by omega), ?_⟩
      refine (hys.mono fun _ _ q => LsOf.mono q (le2.trans le10) fun _ _ ⟨a, q, z⟩ => ⟨a, q.mono (le2.trans le10), z⟩).push hl3 ?_
      exact LsOf.mono hls (.refl _) fun _ _ ⟨a, q, z⟩ => ⟨a, q.mono le10, z⟩
  · rintro g₁ mu₁ ys D oD h₁ tk le ha' ⟨hok1, hys⟩ hl3 isl fD H3
    rw [to_nat0] at hl3 hok1
    obtain ⟨g10, le10, hls, H10⟩ := H3.freezeLs fD isl hl3 hys
    obtain ⟨F, hF, hb⟩ := Grid.pickP (Pr := Bd) (LsOf.mono hls (.refl _) fun _ _ q => LsOf.mono q le10 fun _ _ ⟨a, q, z⟩ => ⟨a, q.mono le10, z⟩)
    exact ret _ _ _ _ _ _ H10.ev (hok1.le (by omega)) H10.mus hF hb
end
end Mine
namespace Mine
section
variable {prog : Program} {w : World} {p : Program} {loose : List Str} {mean : ExcName → Option Value} {mg mb : Str → Option Value} {b : Heap}
variable {S : List Addr} {g0 : FM} {h0 : Heap} {env : Env} {g : FM} {m mc : Str → Option Value} {mu : List (Addr × Obj)}
variable {A : Around} {s : Shared} {E : Value → Shared → Prop} {R : Result → Shared → Prop}

theorem one_row {l a r : Addr} {n nn : Nat} {F : Nat → Nat → Int} {o : Obj} (e : g a = some o) (isl : IsL o [.ref l]) (hl : LsOf g l nn fun j y => Poly 222 g y r (lf n (F j))) : Rows 222 g a r n 1 nn fun _ j => F j := by
  refine ⟨_, o, e, isl, rfl, fun k v ev => ?_⟩
  have hk : k < 1 := by
    rcases Nat.lt_or_ge k 1 with q | q
    · exact q
    · rw [List.getElem?_eq_none q] at ev; cases ev
  obtain rfl : k = 0 := by omega
  exact ⟨l, (Option.some.inj ev).symm, hl⟩

set_option maxHeartbeats 1000000 in
theorem vcallL_spec (W : Wd (Mine.hd.heap_39 w.params) p loose mean mg mb b) (hB : Bg b g s.heap) (hA : Ao 6 A)
    {v l r rr : Addr} {t : Bool} {n nn hh ww : Nat} {F : Nat → Nat → Int} {F' : Nat → Nat → Nat → Int} {args : List Value} {kw : List (Str × Value)} (hargs : args = [.ref v, .ref l] ∧ kw = [] ∧ t = false ∨ args = [.ref v, .ref l] ∧ kw = [(("transpose" : Str), Value.bool t)]) (hv : Mod 377 g v rr)
    (tb : Tb 362 320 mu) (hlive : (∀ q ∈ mu, s.heap.get? q.1 = some q.2 ∧ g q.1 = none) ∧ (mu.map (·.1)).Nodup) (hbr : AllBare s.gens)
    (hl : LsOf g l nn fun j y => Poly 222 g y r (lf n (F j))) (hn1 : 1 ≤ nn) (hn2 : nn ≤ 1000) (ha : hh ≤ 1000) (hc : ww ≤ 1000)
    (hst : ∀ g' a, Rows 222 g' a r n 1 nn (fun _ j => F j) → Stored 222 g' a r n t hh ww F')
    (ret : ∀ x mu' g' h' tk gs, Ev (mu.map (·.1)) g s.heap g' h' → Tb 362 320 mu' → (∀ q ∈ mu', h'.get? q.1 = some q.2) → AllBare gs → Mat 333 222 g' x v r n hh ww F' → R (.ok (.ret (.ref x))) { s with heap := h', toks := tk, gens := gs }) :
    codeAny (model prog w) A (.call (.ref 367) ⟨args, kw⟩) R s := by
  refine enter (binds := [("self", .ref v), ("matrix_elements", .ref l), ("transpose", .bool t)]) (m := up "transpose" (.bool t) (up "matrix_elements" (.ref l) (up "self" (.ref v) no))) (mc := no)
    W hB hA (by k_is) (by k_is) (by
      rcases hargs with ⟨rfl, rfl, rfl⟩ | ⟨rfl, rfl⟩
      · exact binds_K (W.X.keeps fun a o e => hB.on _ _ (hB.bg a o e)) rfl (by k_is) rfl rfl rfl
      · exact binds_K (W.X.keeps fun a o e => hB.on _ _ (hB.bg a o e)) rfl (by k_is) rfl rfl rfl) rfl (by decide) hlive.1 hlive.2 (fun _ => rfl) (fun _ => rfl) ?_
  intro L h₁ tk E' hA' H
  obtain ⟨vs, o, go, ⟨oc, od, oe⟩, hvl, hvr⟩ := id hl
  obtain ⟨pt, qt, rfl, tp, tq⟩ := id tb
  walk_at "M"
  refine isi_list (H.X W) (H.on _ _ go) oc (r := true) (by kit_is) ?_
  intro tk2
  walk_at "M"
  refine ls_sub (i := 0) H hl rfl hn1 hn2 ?_
  intro y hy
  obtain ⟨es, I1⟩ := hy.inst
  walk_at "M"
  refine isi_inst (r := false) (H.X W) (I1.mono H.on) (by kit_is) (by k_is) (by k_is) (by k_is) (by k_is) (by k_is) (by k_is) ?_
  intro tk3
  walk_at "M"
  refine ls_sub (i := 0) H hl rfl hn1 hn2 ?_
  intro y2 hy2
  obtain ⟨es2, I2⟩ := hy2.inst
  walk_at "M"
  refine isi_inst (r := true) (H.X W) (I2.mono H.on) (by kit_is) (by k_is) (by k_is) (by k_is) (by k_is) (by k_is) (by k_is) ?_
  intro tk4
  walk_at "M"
  refine ev_ge hA' (cl := []) (by walk_at "okg") fun ok => ?_
  walk_at "M"
  refine gen_run (k := 0) (pre := []) (post := [(320, tabObj qt)]) (T := 362) (c := 366) (J := fun _ _ v => v = .bool true) W ok H tp (by kernel_rfl) hbr (ls_srcA hl H.on) (fun _ _ _ _ j _ => j) ?_ ?_
  · rintro C code A' E' i v s₂ g₂ m' hA2 hi ⟨y, rfl, hy⟩ le2 H4
    walk_at "M"
    obtain ⟨es, I1⟩ := hy.inst
    refine isi_inst (r := true) (H4.X W) ((I1.mono le2).mono H4.on) (by kit_is) (by k_is) (by k_is) (by k_is) (by k_is) (by k_is) (by k_is) ?_
    intro tk4
    exact ⟨_, _, _, rfl, H4, rfl⟩
  intro a2 gi C I3 fp Ws ps' h4 tk4 gs4 tr H4 G
  walk_at "M"
  refine call_all W (hA'.le (by decide)) H4 G (fun _ _ _ j => j) ?_
  intro h5 tk5 gs5 g5 le5 hb5 H5
  walk_at "M"
  refine methodCall_KW ?_ (by with_unfolding_all rfl)
  walk_at "M"
  refine gm_V (f := 359) W H5 (hv.mono le5) (by k_is) (by k_is) (by k_is) (fun _ _ _ => rfl) ?_
  refine callWith_KW (h₀ := b) W.X (by k_is) (by with_unfolding_all rfl) ?_ (by with_unfolding_all rfl) (by with_unfolding_all rfl)
  walk_at "M"
  refine ⟨sz1 rfl, fun a6 h6 ea eh => ?_⟩
  obtain ⟨f6, H6⟩ := H5.mkL ea eh
  obtain ⟨g7, le7, p7, H7⟩ := H6.freeze' f6
  have hrow := one_row p7 (IsL.lst _) (LsOf.mono hl (le5.trans le7) fun _ _ q => q.mono (le5.trans le7))
  walk_at "M"
  refine PyProof.Rows.kwAll_cons ?_
  walk_at "M"
  refine kwAll_nil ?_
  refine ⟨H7.Xh W, ?_⟩
  refine wpAny_call (matrix_of_spec W H7.Bg hA' (hst _ _ hrow) ha hc ?_)
  intro x g' h' tk' ev hx
  have H8 := H7.call0 ev
  walk_at "M"
  have evE := H8.ev
  exact ret _ _ _ _ _ _ evE ⟨_, _, rfl, tr, tq⟩ H8.mus hb5 hx

set_option maxHeartbeats 400000 in
theorem vector_spec (W : Wd (Mine.hd.heap_39 w.params) p loose mean mg mb b) (hB : Bg b g s.heap) (hA : Ao 6 A)
    {v l r rr : Addr} {n nn : Nat} {F : Nat → Nat → Int} (hv : Mod 377 g v rr) (hl : LsOf g l nn fun j y => Poly 222 g y r (lf n (F j))) (hn2 : nn ≤ 1000)
    (ret : ∀ x g' h' tk, Ev [] g s.heap g' h' → Mat 333 222 g' x v r n nn 1 (fun i _ => F i) → R (.ok (.ret (.ref x))) { s with heap := h', toks := tk }) :
    codeAny (model prog w) A (.call (.ref 374) ⟨[.ref v, .ref l], []⟩) R s := by
  refine enter (mu := []) (binds := [("self", .ref v), ("elements", .ref l)]) (m := up "elements" (.ref l) (up "self" (.ref v) no)) (mc := no)
    W hB hA (by k_is) (by k_is) (BindsTo.of_eq rfl) rfl (by decide) (fun _ q => nomatch q) .nil (fun _ => rfl) (fun _ => rfl) ?_
  intro L h₁ tk E' hA' H
  walk_at "M"
  refine methodCall_KW ?_ (by with_unfolding_all rfl)
  walk_at "M"
  refine gm_V (f := 359) W H hv (by k_is) (by k_is) (by k_is) (fun _ _ _ => rfl) ?_
  refine callWith_KW (h₀ := b) W.X (by k_is) (by with_unfolding_all rfl) ?_ (by with_unfolding_all rfl) (by with_unfolding_all rfl)
  walk_at "M"
  refine ⟨sz1 rfl, fun a6 h6 ea eh => ?_⟩
  obtain ⟨f6, H6⟩ := H.mkL ea eh
  obtain ⟨g7, le7, p7, H7⟩ := H6.freeze' f6
  have hrow := one_row p7 (IsL.lst _) (LsOf.mono hl le7 fun _ _ q => q.mono le7)
  walk_at "M"
  refine PyProof.Rows.kwAll_cons ?_
  walk_at "M"
  refine kwAll_nil ?_
  refine ⟨H7.Xh W, ?_⟩
  refine wpAny_call (matrix_of_spec (t := true) (hh := nn) (ww := 1) (F := fun i _ => F i) W H7.Bg hA' hrow hn2 (by decide) ?_)
  intro x g' h' tk' ev hx
  have H8 := H7.call0 ev
  walk_at "M"
  have evE := H8.ev
  exact ret _ _ _ _ evE hx
end
end Mine
namespace Mine
section
variable {prog : Program} {w : World} {p : Program} {loose : List Str} {mean : ExcName → Option Value} {mg mb : Str → Option Value} {b : Heap}
variable {S : List Addr} {g0 : FM} {h0 : Heap} {env : Env} {g : FM} {m mc : Str → Option Value} {mu : List (Addr × Obj)}
variable {A : Around} {s : Shared} {E : Value → Shared → Prop} {R : Result → Shared → Prop}

set_option maxHeartbeats 2000000 in
theorem stored_spec (W : Wd (Mine.hd.heap_39 w.params) p loose mean mg mb b) (hB : Bg b g s.heap) (hA : Ao 7 A)
    {v l r : Addr} {q : Int} {hh ww n : Nat} {F : Nat → Nat → Nat → Int} {t : Bool} (hl : Grid g l n hh ww F) (hv : Mod 377 g v r) (hr : Ring 59 g r q n)
    (tb : Tb 362 320 mu) (hlive : (∀ q ∈ mu, s.heap.get? q.1 = some q.2 ∧ g q.1 = none) ∧ (mu.map (·.1)).Nodup) (hbr : AllBare s.gens) (hn1 : n ≤ 1000) (ha : hh ≤ 1000) (hc : ww ≤ 1000) (ha1 : 1 ≤ hh) (hc1 : 1 ≤ ww)
    (ret : ∀ x mu' g' h' tk gs, Ev (mu.map (·.1)) g s.heap g' h' → Tb 362 320 mu' → (∀ q ∈ mu', h'.get? q.1 = some q.2) → AllBare gs → Mat 333 222 g' x v r n hh ww F → R (.ok (.ret (.ref x))) { s with heap := h', toks := tk, gens := gs }) :
    codeAny (model prog w) A (.call (.ref 413) ⟨[.ref v, .ref r, .ref l, .bool t], []⟩) R s := by
  refine enter (binds := [("module", .ref v), ("ring", .ref r), ("grid", .ref l), ("turned", .bool t)]) (m := up "turned" (.bool t) (up "module" (.ref v) no)) (mc := up "grid" (.ref l) (up "ring" (.ref r) no))
    W hB hA (by k_is) (by k_is) (BindsTo.of_eq rfl) rfl (by decide) hlive.1 hlive.2 (fun _ => rfl) (fun _ => rfl) ?_
  intro L h₁ tk E' hA' H
  cases t
  · walk_at "M"
    obtain ⟨d, es, k, iv⟩ := hv.at
    refine x_icall (H.X W) (iv.mono H.on) (by k_is) ?_
    walk_at "M"
    refine ev_lc (cl := [("ring", L + 1)]) (cn := ["ring"]) (xc := false) (by walk_at "ok") fun ok => ?_
    walk_at "M"
    refine lc_run ok H (ls_src hA'.hh hl H.on) (szl ha) (fun i g₁ mu₁ ys => mu₁ = mu ∧ Refs (fun i' x => LsOf g₁ x ww fun j y => Poly 222 g₁ y r (lf n (F i' j))) ys) ⟨rfl, Refs.nil⟩ ?_ ?_
    · rintro i vv C D oD I oI g₁ mu₁ ys h₁ tk E' hi ⟨x1, rfl, hx1⟩ le ha' ⟨rfl, hys⟩ hl3 H3
      replace hv := hv.mono (le)
      replace hr := hr.mono (le)
      walk_at "M"
      refine ev_lc (cl := [("ring", L + 1)]) (cn := ["ring"]) (xc := false) (by walk_at "ok") fun ok2 => ?_
      walk_at "M"
      refine lc_run ok2 H3 (ls_src hA'.hh (LsOf.mono hx1 le fun _ _ q => q.mono le) H3.on) (szl hc) (fun j g₂ mu₂ zs => mu₂ = (D, oD) :: (I, oI) :: mu₁ ∧ Refs (fun j' y => Poly 222 g₂ y r (lf n (F i j'))) zs) ⟨rfl, Refs.nil⟩ ?_ ?_
      · rintro j vv C2 D2 oD2 I2 oI2 g₂ mu₂ zs h₂ tk₂ E2 hj ⟨y1, rfl, hy1⟩ le2 ha2 ⟨rfl, hzs⟩ hl5 H5
        replace hv := hv.mono (le2)
        replace hr := hr.mono (le2)
        replace hy1 := hy1.mono (le2)
        walk_at "M"
        obtain ⟨d22, es22, k22, i22⟩ := hr.at
        refine x_icall (H5.X W) (i22.mono H5.on) (by k_is) ?_
        walk_at "M"
        refine copy_il H5 hy1 (lfl hn1) ?_
        intro lc22 gc22 hc22 lec22 hlc22 Hc22
        walk_at "M"
        refine ⟨⟨Hc22.Xh W, (i22.mono lec22).mono Hc22.on⟩, ?_⟩
        refine rcall (x := .Name "x" ⟨0, 0, 0, 0⟩) (pos := ⟨0, 0, 0, 0⟩) W Hc22 (hA'.le (by decide)) (hr.mono lec22) hlc22 hn1 (by rw [lf_length]; exact Nat.le_refl _) ?_
        intro f1 gd22 hd22 tkd22 evd22 pf1
        rw [pad_full] at pf1
        have H22 := Hc22.call0 evd22
        refine EltEnd.mk (lec22.trans evd22.gg) H22 (by exact ha2) ⟨rfl, ?_⟩
        exact (hzs.mono fun _ _ q => q.mono (lec22.trans evd22.gg)).push hl5 pf1
      · rintro g₂ mu₂ zs D2 oD2 h₂ tk₂ le2 ha2 ⟨rfl, hzs⟩ hl5 isl5 fD5 H5
        obtain ⟨g10, le10, hls, H10⟩ := H5.freezeLs fD5 isl5 hl5 hzs
        refine EltEnd.mk (le2.trans le10) H10 rfl ⟨rfl, ?_⟩
        refine (hys.mono fun _ _ q => LsOf.mono q (le2.trans le10) fun _ _ q => q.mono (le2.trans le10)).push hl3 ?_
        exact LsOf.mono hls (.refl _) fun _ _ q => q.mono le10
    · rintro g₁ mu₁ ys D oD h₁ tk le ha' ⟨rfl, hys⟩ hl3 isl fD H3
      obtain ⟨g10, le10, hls, H10⟩ := H3.freezeLs fD isl hl3 hys
      walk_at "M"
      replace hv := hv.mono (le)
      replace hv := hv.mono (le10)
      refine ⟨⟨H10.Xh W, (iv.mono (le.trans le10)).mono H10.on⟩, ?_⟩
      refine icall (f := 367) (H10.Xh W) ((iv.mono (le.trans le10)).mono H10.on) (by k_is) (by k_is) (by k_is) (vcall_spec (t := false) (F := F) W H10.Bg hA' (.inl ⟨rfl, rfl, rfl⟩) hv tb (H10.muFacts (pre := [])) hbr
        (LsOf.mono hls (.refl _) fun _ _ q => LsOf.mono q le10 fun _ _ q => q.mono le10) ha hc ha1 hc1 ?_)
      intro z mu' g' h' tk' gs ev tb' live' hb' hz
      have H11 := H10.callMu (pre := []) ev (by rw [tb'.adr, tb.adr]) live'
      walk_at "M"
      have ev12 := H11.ev
      exact ret _ _ _ _ _ _ ev12 tb' live' hb' hz
  · walk_at "M"
    refine as_lc (cl := [("ring", L + 1), ("grid", L + 2)]) (cn := ["ring", "grid"]) (xc := true) (by walk_at "ok") fun ok => ?_
    walk_at "M"
    refine ls_sub (i := 0) H hl rfl (by omega) ha ?_
    intro y0 hy0
    walk_at "M"
    refine ls_len H hy0 hc ?_
    walk_at "M"
    refine call_range1 H ?_
    intro h5 tk5 rr5 t5 u5 v5 hrr5 H5
    refine lc_runA ok H5 (Src.range hA'.hh hrr5 (rngN hc) (nat0 _)) (by rw [to_nat0]; exact szl hc) (fun i g₁ mu₁ ys => mu₁ = mu ∧ Refs (fun i' x => LsOf g₁ x hh fun j y => Poly 222 g₁ y r (lf n (F j i'))) ys) ⟨rfl, Refs.nil⟩ ?_ ?_
    · rintro i vv C D oD I oI g₁ mu₁ ys h₁ tk E' hi ⟨ti, e⟩ le ha' ⟨rfl, hys⟩ hl3 H3
      rw [Int.zero_add] at e
      subst e
      rw [to_nat0] at hi
      replace hl := Grid.mono hl le
      replace hv := hv.mono (le)
      replace hr := hr.mono (le)
      walk_at "M"
      refine ev_lc (cl := [("ring", L + 1), ("j", C + 1)]) (cn := ["ring", "j"]) (xc := false) (by walk_at "ok") fun ok2 => ?_
      walk_at "M"
      refine lc_run ok2 H3 (ls_src hA'.hh hl H3.on) (szl ha) (fun j g₂ mu₂ zs => mu₂ = (D, oD) :: (I, oI) :: mu₁ ∧ Refs (fun j' y => Poly 222 g₂ y r (lf n (F j' i))) zs) ⟨rfl, Refs.nil⟩ ?_ ?_
      · rintro j vv C2 D2 oD2 I2 oI2 g₂ mu₂ zs h₂ tk₂ E2 hj ⟨y1, rfl, hy1⟩ le2 ha2 ⟨rfl, hzs⟩ hl5 H5
        replace hy1 := LsOf.mono hy1 le2 fun _ _ (q : IntL _ _ _) => q.mono le2
        replace hv := hv.mono (le2)
        replace hr := hr.mono (le2)
        walk_at "M"
        obtain ⟨d22, es22, k22, i22⟩ := hr.at
        refine x_icall (H5.X W) (i22.mono H5.on) (by k_is) ?_
        walk_at "M"
        refine ls_sub (i := i) H5 hy1 rfl hi hc ?_
        intro y2 hy2
        walk_at "M"
        refine copy_il H5 hy2 (lfl hn1) ?_
        intro lc22 gc22 hc22 lec22 hlc22 Hc22
        walk_at "M"
        refine ⟨⟨Hc22.Xh W, (i22.mono lec22).mono Hc22.on⟩, ?_⟩
        refine rcall (x := .Name "x" ⟨0, 0, 0, 0⟩) (pos := ⟨0, 0, 0, 0⟩) W Hc22 (hA'.le (by decide)) (hr.mono lec22) hlc22 hn1 (by rw [lf_length]; exact Nat.le_refl _) ?_
        intro f1 gd22 hd22 tkd22 evd22 pf1
        rw [pad_full] at pf1
        have H22 := Hc22.call0 evd22
        refine EltEnd.mk (lec22.trans evd22.gg) H22 (by exact ha2) ⟨rfl, ?_⟩
        exact (hzs.mono fun _ _ q => q.mono (lec22.trans evd22.gg)).push hl5 pf1
      · rintro g₂ mu₂ zs D2 oD2 h₂ tk₂ le2 ha2 ⟨rfl, hzs⟩ hl5 isl5 fD5 H5
        obtain ⟨g10, le10, hls, H10⟩ := H5.freezeLs fD5 isl5 hl5 hzs
        refine EltEnd.mk (le2.trans le10) H10 rfl ⟨rfl, ?_⟩
        refine (hys.mono fun _ _ q => LsOf.mono q (le2.trans le10) fun _ _ q => q.mono (le2.trans le10)).push hl3 ?_
        exact LsOf.mono hls (.refl _) fun _ _ q => q.mono le10
    · rintro g₁ mu₁ ys D oD h₁ tk le ha' ⟨rfl, hys⟩ hl3 isl fD H3
      rw [to_nat0] at hl3
      obtain ⟨g10, le10, hls, H10⟩ := H3.freezeLs fD isl hl3 hys
      replace hv := hv.mono (le)
      replace hv := hv.mono (le10)
      walk_at "M"
      obtain ⟨d, es, k, iv⟩ := hv.at
      refine wpAny_Call_Name_kw ?_
      walk_at "M"
      refine x_icallK (K := Mine.hd.heap_39 w.params) (f := 367) (iv.mono H10.on) (by k_is) (by with_unfolding_all rfl) ?_ (by with_unfolding_all rfl) (by with_unfolding_all rfl)
      walk_at "M"
      refine PyProof.Rows.kwAll_cons ?_
      walk_at "M"
      refine kwAll_nil ?_
      refine ⟨⟨H10.Xh W, iv.mono H10.on⟩, ?_⟩
      refine icallK (f := 367) (H10.Xh W) (iv.mono H10.on) (by k_is) (by k_is) (by k_is) (vcall_spec (t := true) (F := F) W H10.Bg hA' (.inr (.inr ⟨rfl, rfl⟩)) hv tb (H10.muFacts (pre := [])) hbr
        (LsOf.mono hls (.refl _) fun _ _ q => LsOf.mono q le10 fun _ _ q => q.mono le10) ha hc ha1 hc1 ?_)
      intro z mu' g' h' tk' gs ev tb' live' hb' hz
      have H11 := H10.callMu (pre := []) ev (by rw [tb'.adr, tb.adr]) live'
      walk_at "M"
      have ev12 := H11.ev
      exact ret _ _ _ _ _ _ ev12 tb' live' hb' hz
end
end Mine
namespace Mine
section
variable {prog : Program} {w : World} {p : Program} {loose : List Str} {mean : ExcName → Option Value} {mg mb : Str → Option Value} {b : Heap}
variable {S : List Addr} {g0 : FM} {h0 : Heap} {env : Env} {g : FM} {m mc : Str → Option Value} {mu muD muT : List (Addr × Obj)}
variable {A : Around} {s : Shared} {E : Value → Shared → Prop} {R : Result → Shared → Prop}

set_option maxHeartbeats 4000000 in
theorem upright_spec (W : Wd (Mine.hd.heap_39 w.params) p loose mean mg mb b) (hB : Bg b g s.heap) (hA : Ao 9 A)
    {v l r st : Addr} {q N : Int} {nn n : Nat} {tm tn : Tok} (hl : Script g l) (hok : StD st l N muD) (hN : N ≤ 800) (hv : Mod 377 g v r) (hr : Ring 59 g r q n)
    (tb : Tb 362 320 muT) (hlive : (∀ q ∈ muD ++ muT, s.heap.get? q.1 = some q.2 ∧ g q.1 = none) ∧ ((muD ++ muT).map (·.1)).Nodup) (hbr : AllBare s.gens) (hn4 : n ≤ 4) (hm1 : 1 ≤ nn) (hm3 : nn ≤ 3)
    (ret : ∀ t x lr Sf muD' muT' g' h' tk gs, Ev ((muD ++ muT).map (·.1)) g s.heap g' h' → StD st l (N + 13) muD' → Tb 362 320 muT' → (∀ q ∈ muD' ++ muT', h'.get? q.1 = some q.2) → AllBare gs → TupL g' t [.ref x, .ref lr] →
      Mat 333 222 g' x v r n nn 1 (fun i _ => Sf i) → RowsI g' lr n nn Sf → (∀ i k, i < nn → k < n → Bd (Sf i k)) → R (.ok (.ret (.ref t))) { s with heap := h', toks := tk, gens := gs }) :
    codeAny (model prog w) A (.call (.ref 425) ⟨[.ref v, .ref r, .ref st, .int nn tm, .int n tn], []⟩) R s := by
  refine enter (mu := muD ++ muT) (binds := [("module", .ref v), ("ring", .ref r), ("state", .ref st), ("many", .int nn tm), ("n", .int n tn)]) (m := up "many" (.int nn tm) (up "module" (.ref v) no)) (mc := up "n" (.int n tn) (up "state" (.ref st) (up "ring" (.ref r) no)))
    W hB hA (by k_is) (by k_is) (BindsTo.of_eq rfl) rfl (by decide) hlive.1 hlive.2 (fun _ => rfl) (fun _ => rfl) ?_
  intro L h₁ tk E' hA' H
  walk_at "M"
  try dsimp only
  refine wpAny_call (draw_spec W H.Bg (hA'.le (by decide)) hl hok (by omega) (H.muFactsM (pre := [])) ?_)
  intro w1 t1 mu1 g1 h1 tk1 ev1 hok1 live1 bd1
  have H1 := H.callMid (pre := []) ev1 (by rw [hok1.adr, hok.adr]) live1
  replace hv := hv.mono (ev1.gg)
  replace hr := hr.mono (ev1.gg)
  replace hl := hl.mono (ev1.gg)
  walk_at "M"
  try dsimp only
  rename St _ _ _ _ _ _ _ _ _ _ => H2
  refine as_lc (cl := [("state", L + 2), ("n", L + 3)]) (cn := ["state", "n"]) (xc := false) (by walk_at "ok") fun ok => ?_
  walk_at "M"
  refine call_range1 H2 ?_
  intro h3 tk3 r3 t3 u3 v3 hr3 H3
  refine lc_runA ok H3 (Src.range hA'.hh hr3 (rng (by omega)) (nat0 _)) (by rw [to_nat0]; exact szl (by omega))
    (fun i g₁ mu₁ ys => ∃ muX, mu₁ = muX ++ muT ∧ StD st l (N + 1 + 4 * i) muX ∧ Refs (fun _ y => ∃ a : Nat → Int, IntL g₁ y (lf n a) ∧ ∀ k, k < n → Bd (a k)) ys) ⟨mu1, rfl, by simpa using hok1, Refs.nil⟩ ?_ ?_
  · rintro i vv C D oD I oI g₁ mu₁ ys h₁ tk E' hi hP le ha' ⟨muX, rfl, hokX, hys⟩ hl4 H4
    rw [to_nat0] at hi
    walk_at "M"
    refine ev_lc (cl := [("state", L + 2)]) (cn := ["state"]) (xc := false) (by walk_at "ok") fun ok2 => ?_
    walk_at "M"
    refine call_range1 H4 ?_
    intro h5 tk5 r5 t5 u5 v5 hr5 H5
    refine lc_run ok2 H5 (Src.range hA'.hh hr5 (rng (by omega)) (nat0 _)) (by rw [to_nat0]; exact szl (by omega))
      (fun k g₂ mu₂ zs => ∃ muY, mu₂ = (D, oD) :: (I, oI) :: (muY ++ muT) ∧ StD st l (N + 1 + 4 * i + k) muY ∧ ∃ a : Nat → Int, IntsAre zs (lf k a) ∧ ∀ k', k' < k → Bd (a k')) ⟨muX, rfl, by simpa using hokX, fun _ => 0, .nil, fun _ z => absurd z (Nat.not_lt_zero _)⟩ ?_ ?_
    · rintro k vv C2 D2 oD2 I2 oI2 g₂ mu₂ zs h₂ tk₂ E2 hk hP2 le2 ha2 ⟨muY, rfl, hokY, a, hzs, hba⟩ hl6 H6
      rw [to_nat0] at hk
      walk_at "M"
      refine wpAny_call (draw_spec (mu := muY) W H6.Bg (hA'.le (by decide)) ((hl.mono le).mono le2) hokY (by omega) (H6.muFactsM (pre := [(D2, oD2), (I2, oI2), (D, oD), (I, oI)])) ?_)
      intro v8 t8 mu8 g8 h8 tk8 ev8 hok8 live8 hb8
      have H8 := H6.callMid (pre := [(D2, oD2), (I2, oI2), (D, oD), (I, oI)]) ev8 (by rw [hok8.adr, hokY.adr]) live8
      refine EltEnd.mk (mu₂ := (D, oD) :: (I, oI) :: (mu8 ++ muT)) ev8.gg H8 (by simp only [List.map_cons, List.map_append]; rw [hok8.adr, hokX.adr]) ⟨mu8, rfl, by rw [show N + 1 + 4 * (i : Int) + ((k + 1 : Nat) : Int) = N + 1 + 4 * i + k + 1 by omega]; exact hok8, fun k' => if k' = k then v8 else a k', ?_, fun k' hk' => ?_⟩
      · refine ints_push (ints_ext hzs fun k' z => by rw [if_neg (by omega)]) (by rw [if_pos rfl])
      · dsimp only
        by_cases z : k' = k
        · rw [if_pos z]; exact hb8
        · rw [if_neg z]; exact hba k' (by omega)
    · rintro g₂ mu₂ zs D2 oD2 h₂ tk₂ le2 ha2 ⟨muY, rfl, hokY, a, hzs, hba⟩ hl6 isl6 fD6 H6
      rw [to_nat0] at hzs hba hokY
      obtain ⟨g10, le10, hli, H10⟩ := H6.freezeI fD6 isl6 hzs
      refine EltEnd.mk (mu₂ := muY ++ muT) (le2.trans le10) H10 (by simp only [List.map_append, List.map_nil, List.nil_append]; rw [hokY.adr, hok1.adr]) ⟨muY, rfl, hokY.le (by omega), ?_⟩
      exact (hys.mono fun _ _ ⟨a, q, z⟩ => ⟨a, q.mono (le2.trans le10), z⟩).push hl4 ⟨a, hli, hba⟩
  rintro g4 mu₁ ys D4 oD4 h4 tk4 le4 ha4 ⟨muX, rfl, hokX, hys⟩ hl4 isl4 fD4 H4
  rw [to_nat0] at hl4 hokX
  obtain ⟨g5, le5, hls, H5⟩ := H4.freezeLs fD4 isl4 hl4 hys
  obtain ⟨Sf, hS, hbS⟩ := RowsI.pickP (Pr := Bd) (LsOf.mono hls (.refl _) fun _ _ ⟨a, q, z⟩ => ⟨a, q.mono le5, z⟩)
  replace hv := hv.mono (le4)
  replace hr := hr.mono (le4)
  replace hl := hl.mono (le4)
  replace hv := hv.mono (le5)
  replace hr := hr.mono (le5)
  replace hl := hl.mono (le5)
  replace hokX := hokX.le (show N + 1 + 4 * (nn : Int) ≤ N + 13 by omega)
  walk_at "M"
  try dsimp only
  refine as_lc (cl := [("ring", L + 1)]) (cn := ["ring"]) (xc := false) (by walk_at "ok") fun ok => ?_
  walk_at "M"
  refine lc_runA ok H5 (ls_src hA'.hh hS H5.on) (szl (by omega)) (fun j g₂ mu₂ zs => mu₂ = muX ++ muT ∧ Refs (fun j' y => Poly 222 g₂ y r (lf n (Sf j'))) zs) ⟨rfl, Refs.nil⟩ ?_ ?_
  · rintro j vv C2 D2 oD2 I2 oI2 g₂ mu₂ zs h₂ tk₂ E2 hj ⟨y1, rfl, hy1⟩ le2 ha2 ⟨rfl, hzs⟩ hl6 H6
    replace hv := hv.mono (le2)
    replace hr := hr.mono (le2)
    replace hy1 := hy1.mono (le2)
    walk_at "M"
    obtain ⟨d22, es22, k22, i22⟩ := hr.at
    refine x_icall (H6.X W) (i22.mono H6.on) (by k_is) ?_
    walk_at "M"
    refine copy_il H6 hy1 (by rw [lf_length]; omega) ?_
    intro lc22 gc22 hc22 lec22 hlc22 Hc22
    walk_at "M"
    refine ⟨⟨Hc22.Xh W, (i22.mono lec22).mono Hc22.on⟩, ?_⟩
    refine rcall (x := .Name "x" ⟨0, 0, 0, 0⟩) (pos := ⟨0, 0, 0, 0⟩) W Hc22 (hA'.le (by decide)) (hr.mono lec22) hlc22 (by omega) (by rw [lf_length]; exact Nat.le_refl _) ?_
    intro f1 gd22 hd22 tkd22 evd22 pf1
    rw [pad_full] at pf1
    have H22 := Hc22.call0 evd22
    refine EltEnd.mk (lec22.trans evd22.gg) H22 rfl ⟨rfl, ?_⟩
    exact (hzs.mono fun _ _ q => q.mono (lec22.trans evd22.gg)).push hl6 pf1
  rintro g6 mu₂ zs D6 oD6 h6 tk6 le6 ha6 ⟨rfl, hzs⟩ hl6 isl6 fD6 H6
  obtain ⟨g7, le7, hps, H7⟩ := H6.freezeLs fD6 isl6 hl6 hzs
  replace hps : LsOf g7 D6 nn fun j y => Poly 222 g7 y r (lf n (Sf j)) := LsOf.mono hps (.refl _) fun _ _ q => q.mono le7
  replace hv := hv.mono (le6)
  replace hr := hr.mono (le6)
  replace hS := hS.mono (le6)
  replace hv := hv.mono (le7)
  replace hr := hr.mono (le7)
  replace hS := hS.mono (le7)
  have fin : ∀ {t x : Addr} {muT' : List (Addr × Obj)} {g9 : FM} {h9 : Heap} {tk9 : Nat} {gs9 : Array GenState} {env : Env} {m mc : Str → Option Value}, St b ((muD ++ muT).map (·.1)) g s.heap env g9 m mc (muX ++ muT') h9 → g7.le g9 → Tb 362 320 muT' → AllBare gs9 → TupL g9 t [.ref x, .ref D4] → Mat 333 222 g9 x v r n nn 1 (fun i _ => Sf i) →
      R (.ok (.ret (.ref t))) { s with heap := h9, toks := tk9, gens := gs9 } := by
    intro t x muT' g9 h9 tk9 gs9 env m mc H9 le9 tb9 hb9 ht hx
    exact ret _ _ _ _ _ _ _ _ _ _ H9.ev hokX tb9 H9.mus hb9 ht hx (hS.mono le9) hbS
  walk_at "M"
  try dsimp only
  split
  · walk_at "M"
    try dsimp only
    refine gm_V (f := 374) W H7 hv (by k_is) (by k_is) (by k_is) (fun _ _ _ => rfl) ?_
    walk_at "M"
    refine wpAny_call (vector_spec W H7.Bg (hA'.le (by decide)) hv hps (by omega) ?_)
    intro x g8 h8 tk8 ev8 hx
    have H8 := H7.call0 ev8
    walk_at "M"
    refine ⟨sz1 rfl, fun a9 h9 ea eh => ?_⟩
    obtain ⟨g9, le9, ht9, H9⟩ := H8.mkTup ea eh
    exact fin H9 (ev8.gg.trans le9) tb hbr ht9 (hx.mono le9)
  walk_at "M"
  try dsimp only
  split
  · walk_at "M"
    try dsimp only
    obtain ⟨d, es, k, iv⟩ := hv.at
    refine wpAny_Call_Name_kw ?_
    walk_at "M"
    refine x_icallK (K := Mine.hd.heap_39 w.params) (f := 367) (iv.mono H7.on) (by k_is) (by with_unfolding_all rfl) ?_ (by with_unfolding_all rfl) (by with_unfolding_all rfl)
    walk_at "M"
    refine PyProof.Rows.kwAll_cons ?_
    walk_at "M"
    refine kwAll_nil ?_
    refine ⟨⟨H7.Xh W, iv.mono H7.on⟩, ?_⟩
    refine icallK (f := 367) (H7.Xh W) (iv.mono H7.on) (by k_is) (by k_is) (by k_is) (vcallL_spec (t := true) (hh := nn) (ww := 1) (F' := fun i _ => Sf i) W H7.Bg (hA'.le (by decide)) (.inr ⟨rfl, rfl⟩) hv tb (H7.muFacts (pre := muX)) hbr hps hm1 (by omega) (by omega) (by decide) (fun _ _ h => h) ?_)
    intro x mu' g8 h8 tk8 gs8 ev8 tb8 live8 hb8 hx
    have H8 := H7.callMu (pre := muX) ev8 (by rw [tb8.adr, tb.adr]) live8
    walk_at "M"
    refine ⟨sz1 rfl, fun a9 h9 ea eh => ?_⟩
    obtain ⟨g9, le9, ht9, H9⟩ := H8.mkTup ea eh
    exact fin H9 (ev8.gg.trans le9) tb8 hb8 ht9 (hx.mono le9)
  walk_at "M"
  try dsimp only
  split
  · walk_at "M"
    try dsimp only
    obtain ⟨d, es, k, iv⟩ := hv.at
    refine x_icall (H7.Xh W) (iv.mono H7.on) (by k_is) ?_
    walk_at "M"
    refine ev_lc (cl := []) (cn := []) (xc := false) (by walk_at "ok") fun ok => ?_
    walk_at "M"
    refine lc_run ok H7 (ls_src hA'.hh hps H7.on) (szl (by omega)) (fun j g₂ mu₂ zs => mu₂ = muX ++ muT ∧ Refs (fun i x => LsOf g₂ x 1 fun _ y => Poly 222 g₂ y r (lf n (Sf i))) zs) ⟨rfl, Refs.nil⟩ ?_ ?_
    · rintro j vv C2 D2 oD2 I2 oI2 g₂ mu₂ zs h₂ tk₂ E2 hj ⟨y1, rfl, hy1⟩ le2 ha2 ⟨rfl, hzs⟩ hl8 H8
      walk_at "M"
      refine ⟨sz1 rfl, fun a9 h9 ea eh => ?_⟩
      obtain ⟨f9, H9⟩ := H8.mkL ea eh
      obtain ⟨g10, le10, hls10, H10⟩ := H9.freezeLs (n := 1) (P := fun _ y => Poly 222 g₂ y r (lf n (Sf j))) f9 (IsL.lst _) rfl (Refs.push Refs.nil rfl (hy1.mono le2))
      refine EltEnd.mk le10 H10 rfl ⟨rfl, ?_⟩
      refine (hzs.mono fun _ _ q => LsOf.mono q le10 fun _ _ q => q.mono le10).push hl8 ?_
      exact LsOf.mono hls10 (.refl _) fun _ _ q => q.mono le10
    rintro g8 mu₂ zs D8 oD8 h8 tk8 le8 ha8 ⟨rfl, hzs⟩ hl8 isl8 fD8 H8
    obtain ⟨g9, le9, hls, H9⟩ := H8.freezeLs fD8 isl8 hl8 hzs
    replace hv := hv.mono (le8)
    replace hv := hv.mono (le9)
    walk_at "M"
    refine ⟨⟨H9.Xh W, (iv.mono (le8.trans le9)).mono H9.on⟩, ?_⟩
    refine icall (f := 367) (H9.Xh W) ((iv.mono (le8.trans le9)).mono H9.on) (by k_is) (by k_is) (by k_is) (vcall_spec (t := false) (hh := nn) (ww := 1) (F := fun i _ => Sf i) W H9.Bg (hA'.le (by decide)) (.inl ⟨rfl, rfl, rfl⟩) hv tb (H9.muFacts (pre := muX)) hbr
      (LsOf.mono hls (.refl _) fun _ _ q => LsOf.mono q le9 fun _ _ q => q.mono le9) (by omega) (by decide) hm1 (by decide) ?_)
    intro x mu' g10 h10 tk10 gs10 ev10 tb10 live10 hb10 hx
    have H10 := H9.callMu (pre := muX) ev10 (by rw [tb10.adr, tb.adr]) live10
    walk_at "M"
    refine ⟨sz1 rfl, fun a11 h11 ea eh => ?_⟩
    obtain ⟨g11, le11, ht11, H11⟩ := H10.mkTup ea eh
    exact fin H11 ((le8.trans le9).trans (ev10.gg.trans le11)) tb10 hb10 ht11 (hx.mono le11)
  walk_at "M"
  try dsimp only
  obtain ⟨d, es, k, iv⟩ := hv.at
  refine x_icall (H7.Xh W) (iv.mono H7.on) (by k_is) ?_
  walk_at "M"
  refine ⟨⟨H7.Xh W, iv.mono H7.on⟩, ?_⟩
  refine icall (f := 367) (H7.Xh W) (iv.mono H7.on) (by k_is) (by k_is) (by k_is) (vcallL_spec (t := false) (hh := 1) (ww := nn) (F' := fun _ j => Sf j) W H7.Bg (hA'.le (by decide)) (.inl ⟨rfl, rfl, rfl⟩) hv tb (H7.muFacts (pre := muX)) hbr hps hm1 (by omega) (by decide) (by omega) (fun _ _ h => h) ?_)
  intro x mu' g8 h8 tk8 gs8 ev8 tb8 live8 hb8 hx
  have H8 := H7.callMu (pre := muX) ev8 (by rw [tb8.adr, tb.adr]) live8
  walk_at "M"
  refine ga_T (pre := muX) W H8 hA' hx (hv.mono ev8.gg) (by decide) (by omega) (by decide) hm1 tb8 hb8 ?_
  intro x2 mu9 g9 h9 tk9 gs9 le9 tb9 hb9 hx9 H9
  walk_at "M"
  refine ⟨sz1 rfl, fun a10 h10 ea eh => ?_⟩
  obtain ⟨g10, le10, ht10, H10⟩ := H9.mkTup ea eh
  exact fin H10 (ev8.gg.trans (le9.trans le10)) tb9 hb9 ht10 (hx9.mono le10)
end
end Mine
namespace Mine
section
variable {prog : Program} {w : World} {p : Program} {loose : List Str} {mean : ExcName → Option Value} {mg mb : Str → Option Value} {b : Heap}
variable {S : List Addr} {g0 : FM} {h0 : Heap} {env : Env} {g : FM} {m mc : Str → Option Value} {mu muD muT : List (Addr × Obj)}
variable {A : Around} {s : Shared} {E : Value → Shared → Prop} {R : Result → Shared → Prop}

set_option maxHeartbeats 2000000 in
theorem kept_spec (W : Wd (Mine.hd.heap_39 w.params) p loose mean mg mb b) (hB : Bg b g s.heap) (hA : Ao 3 A)
    {x l v r : Addr} {hh ww n : Nat} {F : Nat → Nat → Nat → Int} (hx : Mat 333 222 g x v r n hh ww F) (hl : Grid g l n hh ww F) (ha : hh ≤ 1000) (hc : ww ≤ 1000) (ha1 : 1 ≤ hh) (hc1 : 1 ≤ ww)
    (ret : ∀ g' h' tk, Ev [] g s.heap g' h' → R (.ok (.ret (.bool true))) { s with heap := h', toks := tk }) :
    codeAny (model prog w) A (.call (.ref 420) ⟨[.ref x, .ref l], []⟩) R s := by
  refine enter (mu := []) (binds := [("made", .ref x), ("grid", .ref l)]) (m := up "grid" (.ref l) (up "made" (.ref x) no)) (mc := no)
    W hB hA (by k_is) (by k_is) (BindsTo.of_eq rfl) rfl (by decide) (fun _ q => nomatch q) .nil (fun _ => rfl) (fun _ => rfl) ?_
  intro L h₁ tk E' hA' H
  walk_at "M"
  refine gm_M (f := 248) W H hx (by k_is) (by k_is) (by k_is) (fun _ _ _ _ _ _ _ _ _ => rfl) ?_
  refine x_fn0 W H (by k_is) ?_
  refine wpAny_call (dim_spec W H.Bg (hA'.le (by decide)) hx ha hc ha1 hc1 ?_)
  intro d1 td1 td2 g2 h2 tk2 ev2 hdm1
  have H2 := H.call0 ev2
  replace hx := hx.mono (ev2.gg)
  replace hl := Grid.mono hl ev2.gg
  walk_at "M"
  try dsimp only
  refine ls_len H2 hl ha ?_
  walk_at "M"
  try dsimp only
  refine ls_sub (i := 0) H2 hl rfl (by omega) ha ?_
  intro y0 hy0
  walk_at "M"
  refine ls_len H2 hy0 hc ?_
  walk_at "M"
  try dsimp only
  refine ⟨sz1 rfl, fun a3 h3 ea eh => ?_⟩
  obtain ⟨g3, le3, ht3, H3⟩ := H2.mkTup ea eh
  replace hx := hx.mono (le3)
  replace hl := Grid.mono hl le3
  refine ne_tup (r := false) H3 hA' (hdm1.mono le3) ht3 (by simp) ?_
  walk_at "M"
  refine ls_len H3 hl ha ?_
  walk_at "M"
  refine call_range1 H3 ?_
  intro h5 tk5 rr5 t5 u5 v5 hrr5 H5
  refine loop_for H5 (Src.range hA'.hh hrr5 (rng (by omega)) (nat0 _)) (fun i g₁ m₁ mc₁ mu₁ => mc₁ = no ∧ mu₁ = [] ∧ m₁ "made" = some (.ref x) ∧ m₁ "grid" = some (.ref l)) ⟨rfl, rfl, rfl, rfl⟩ ?_ ?_
  · rintro i vv I oI g₁ m₁ mc₁ mu₁ h₁ tk E' hi ⟨ti, e⟩ le1 ⟨rfl, rfl, e1, e2⟩ H6
    rw [Int.zero_add] at e
    subst e
    rw [to_nat0] at hi
    replace hx := hx.mono (le1)
    replace hl := Grid.mono hl le1
    walk_at "M"
    refine ls_sub (i := 0) H6 hl rfl (by omega) ha ?_
    intro y1 hy1
    walk_at "M"
    refine ls_len H6 hy1 hc ?_
    walk_at "M"
    refine call_range1 H6 ?_
    intro h7 tk7 rr7 t7 u7 v7 hrr7 H7
    refine loop_for H7 (Src.range hA'.hh hrr7 (rng (by omega)) (nat0 _)) (fun j g₂ m₂ mc₂ mu₂ => mc₂ = no ∧ mu₂ = [(I, oI)] ∧ m₂ "made" = some (.ref x) ∧ m₂ "grid" = some (.ref l) ∧ m₂ "i" = some (.int i ti)) ⟨rfl, rfl, by with_unfolding_all assumption, by with_unfolding_all assumption, by with_unfolding_all rfl⟩ ?_ ?_
    · rintro j vv I2 oI2 g₂ m₂ mc₂ mu₂ h₂ tk₂ E2 hj ⟨tj, e⟩ le2 ⟨rfl, rfl, e3, e4, e5⟩ H8
      rw [Int.zero_add] at e
      subst e
      rw [to_nat0] at hj
      replace hx := hx.mono (le2)
      replace hl := Grid.mono hl le2
      walk_at "M"
      try dsimp only
      refine ⟨sz1 rfl, fun a9 h9 ea eh => ?_⟩
      obtain ⟨g9, le9, ht9, H9⟩ := H8.mkTup ea eh
      replace hx := hx.mono (le9)
      replace hl := Grid.mono hl le9
      refine sub_mat W H9 (hA'.le (by decide)) hx ha hc ht9 hi hj ?_
      intro z1 g10 h10 tk10 ev10 hz1
      have H10 := H9.call0 ev10
      replace hl := Grid.mono hl ev10.gg
      refine ga_coeffs W H10 hz1 ?_
      intro lz hlz
      walk_at "M"
      refine ls_sub (i := i) H10 hl rfl hi ha ?_
      intro y2 hy2
      walk_at "M"
      refine ls_sub (i := j) H10 hy2 rfl hj hc ?_
      intro y3 hy3
      refine ne_same H10 hA' hlz hy3 rfl ?_
      walk_at "M"
      exact LoopEnd.mk (le9.trans ev10.gg) H10 ⟨rfl, rfl, by with_unfolding_all assumption, by with_unfolding_all assumption, by with_unfolding_all assumption⟩
    · rintro g₂ m₂ mc₂ mu₂ h₂ tk₂ le2 ⟨rfl, rfl, e3, e4, e5⟩ H8
      walk_at "M"
      exact LoopEnd.mk le2 H8 ⟨rfl, rfl, e3, e4⟩
  · rintro g₁ m₁ mc₁ mu₁ h₁ tk le1 ⟨rfl, rfl, e1, e2⟩ H6
    walk_at "M"
    exact ret _ _ _ H6.ev
end
end Mine
namespace Mine
section
variable {prog : Program} {w : World} {p : Program} {loose : List Str} {mean : ExcName → Option Value} {mg mb : Str → Option Value} {b : Heap}
variable {S : List Addr} {g0 : FM} {h0 : Heap} {env : Env} {g : FM} {m mc : Str → Option Value} {mu : List (Addr × Obj)}
variable {A : Around} {s : Shared} {E : Value → Shared → Prop} {R : Result → Shared → Prop}

theorem pw_bd {r q : Int} (h1 : 0 < q) (h2 : q ≤ 1000) : ∀ i, IntMulOk (pw r q i) r ∧ ∀ x, IntMulOk x (pw r q i)
  | 0 => ⟨IntMulOk.of_left (intBits_le_64 (by unfold pw; decide) (by unfold pw; decide)), fun _ => IntMulOk.of_right (intBits_le_64 (by unfold pw; decide) (by unfold pw; decide))⟩
  | i + 1 => by
    have a := Int.emod_nonneg (pw r q i * r) (show q ≠ 0 by omega)
    have c := Int.emod_lt_of_pos (pw r q i * r) h1
    have e : Builtin.Int.intBits (pw r q (i + 1)) ≤ 64 := intBits_le_64 (by unfold pw; omega) (by unfold pw; omega)
    exact ⟨IntMulOk.of_left e, fun _ => IntMulOk.of_right e⟩

set_option maxHeartbeats 1000000 in
theorem value_spec (W : Wd (Mine.hd.heap_39 w.params) p loose mean mg mb b) (hB : Bg b g s.heap) (hA : Ao 1 A)
    {l : Addr} {n : Nat} {a : Nat → Int} {r q : Int} {tr tq : Tok} (hl : IntL g l (lf n a)) (hn : n ≤ 1000) (hq : 0 < q) (hq2 : q ≤ 1000)
    (ret : ∀ t g' h' tk, Ev [] g s.heap g' h' → R (.ok (.ret (.int (ev n r q a) t))) { s with heap := h', toks := tk }) :
    codeAny (model prog w) A (.call (.ref 432) ⟨[.ref l, .int r tr, .int q tq], []⟩) R s := by
  refine enter (mu := []) (binds := [("row", .ref l), ("root", .int r tr), ("q", .int q tq)]) (m := up "q" (.int q tq) (up "root" (.int r tr) (up "row" (.ref l) no))) (mc := no)
    W hB hA (by k_is) (by k_is) (BindsTo.of_eq rfl) rfl (by decide) (fun _ q => nomatch q) .nil (fun _ => rfl) (fun _ => rfl) ?_
  intro L h₁ tk E' hA' H
  walk_at "M"
  rename St _ _ _ _ _ _ _ _ _ _ => H1
  obtain ⟨vs, o, k, go, oc, od, hi⟩ := id hl
  have hlen := ints_len hi
  refine loop_for H1 (Src.list hA'.hh go H1.on (IsL.at_ ⟨oc, k, od⟩ (H1.on _ _ go))) (fun i g₁ m₁ mc₁ mu₁ => mc₁ = no ∧ mu₁ = [] ∧ m₁ "root" = some (.int r tr) ∧ m₁ "q" = some (.int q tq) ∧ (∃ t, m₁ "total" = some (.int (sm i fun i => a i * pw r q i) t)) ∧ ∃ t, m₁ "power" = some (.int (pw r q i) t))
    ⟨rfl, rfl, by with_unfolding_all rfl, by with_unfolding_all rfl, ⟨_, by with_unfolding_all rfl⟩, _, by with_unfolding_all rfl⟩ ?_ ?_
  · rintro i v I oI g₁ m₁ mc₁ mu₁ h₁ tk E' hi' hP le ⟨rfl, rfl, e1, e2, ⟨t3, e3⟩, t4, e4⟩ H2
    obtain ⟨tv, hv⟩ := ints_at hi (show i < n by omega)
    rw [hv] at hP
    obtain rfl := Option.some.inj hP
    walk_at "M"
    refine x_augName H2 (by with_unfolding_all assumption) ?_
    walk_at "M"
    refine imul_ok ((pw_bd hq hq2 i).2 _) ?_
    walk_at "M"
    rename St _ _ _ _ _ _ _ _ _ _ => H3
    refine imul_ok (pw_bd hq hq2 i).1 ?_
    walk_at "M"
    rename St _ _ _ _ _ _ _ _ _ _ => H4
    exact LoopEnd.mk (.refl _) H4 ⟨rfl, rfl, by with_unfolding_all assumption, by with_unfolding_all assumption, ⟨_, by with_unfolding_all rfl⟩, _, by with_unfolding_all rfl⟩
  · rintro g₁ m₁ mc₁ mu₁ h₁ tk le ⟨rfl, rfl, e1, e2, ⟨t3, e3⟩, t4, e4⟩ H2
    rw [hlen] at e3
    walk_at "M"
    exact ret _ _ _ _ H2.ev

set_option maxHeartbeats 1000000 in
theorem values_spec (W : Wd (Mine.hd.heap_39 w.params) p loose mean mg mb b) (hB : Bg b g s.heap) (hA : Ao 2 A)
    {l : Addr} {n hh : Nat} {F : Nat → Nat → Int} {r q : Int} {tr tq : Tok} (hl : RowsI g l n hh F) (hn : n ≤ 1000) (ha : hh ≤ 1000) (hq : 0 < q) (hq2 : q ≤ 1000)
    (ret : ∀ l' g' h' tk, Ev [] g s.heap g' h' → IntL g' l' (lf hh fun i => ev n r q (F i)) → R (.ok (.ret (.ref l'))) { s with heap := h', toks := tk }) :
    codeAny (model prog w) A (.call (.ref 437) ⟨[.ref l, .int r tr, .int q tq], []⟩) R s := by
  refine enter (mu := []) (binds := [("rows", .ref l), ("root", .int r tr), ("q", .int q tq)]) (m := up "rows" (.ref l) no) (mc := up "q" (.int q tq) (up "root" (.int r tr) no))
    W hB hA (by k_is) (by k_is) (BindsTo.of_eq rfl) rfl (by decide) (fun _ q => nomatch q) .nil (fun _ => rfl) (fun _ => rfl) ?_
  intro L h₁ tk E' hA' H
  walk_at "M"
  refine ev_lc (cl := [("root", L + 1), ("q", L + 2)]) (cn := ["root", "q"]) (xc := false) (by walk_at "ok") fun ok => ?_
  walk_at "M"
  refine lc_run ok H (ls_src hA'.hh hl H.on) (szl ha) (fun i g₁ mu₁ ys => mu₁ = [] ∧ IntsAre ys (lf i fun i => ev n r q (F i))) ⟨rfl, .nil⟩ ?_ ?_
  · rintro i v C D oD I oI g₁ mu₁ ys h₁ tk E' hi ⟨x1, rfl, hx1⟩ le ha' ⟨rfl, hys⟩ hl3 H3
    walk_at "M"
    refine wpAny_call (value_spec W H3.Bg (hA'.le (by decide)) (hx1.mono le) hn hq hq2 ?_)
    intro t g' h' tk' ev1
    have H4 := H3.call0 ev1
    exact EltEnd.mk ev1.gg H4 rfl ⟨rfl, ints_push hys rfl⟩
  · rintro g₁ mu₁ ys D oD h₁ tk le ha' ⟨rfl, hys⟩ hl3 isl fD H3
    obtain ⟨g10, le10, hli, H10⟩ := H3.freezeI fD isl hys
    exact ret _ _ _ _ H10.ev hli
end
end Mine
namespace Mine
section
variable {prog : Program} {w : World} {p : Program} {loose : List Str} {mean : ExcName → Option Value} {mg mb : Str → Option Value} {b : Heap}
variable {S : List Addr} {g0 : FM} {h0 : Heap} {env : Env} {g : FM} {m mc : Str → Option Value} {mu : List (Addr × Obj)}
variable {A : Around} {s : Shared} {E : Value → Shared → Prop} {R : Result → Shared → Prop}

theorem ev_small {n : Nat} {r q : Int} {a : Nat → Int} (h1 : 0 < q) (h2 : q ≤ 1000) : -1000 ≤ ev n r q a ∧ ev n r q a ≤ 1000 := by
  have x := Int.emod_nonneg (sm n fun i => a i * pw r q i) (show q ≠ 0 by omega)
  have y := Int.emod_lt_of_pos (sm n fun i => a i * pw r q i) h1
  unfold ev
  omega
theorem ev_mul {n : Nat} {r q : Int} {a : Nat → Int} {x : Int} (h1 : 0 < q) (h2 : q ≤ 1000) : IntMulOk x (ev n r q a) := by
  obtain ⟨x, y⟩ := ev_small (n := n) (r := r) (a := a) h1 h2
  exact IntMulOk.of_right (intBits_le_64 (by omega) (by omega))

set_option maxHeartbeats 4000000 in
theorem run_spec (W : Wd (Mine.hd.heap_39 w.params) p loose mean mg mb b) (hB : Bg b g s.heap) (hA : Ao 3 A)
    {lA lS lE lY lF lM : Addr} {n hh ww : Nat} {Af : Nat → Nat → Nat → Int} {Sf Ef Yf Ff : Nat → Nat → Int} {Mf : Nat → Int} {r q : Int} {tr tq : Tok}
    (hlA : Grid g lA n hh ww Af) (hlS : RowsI g lS n ww Sf) (hlE : RowsI g lE n hh Ef) (hlY : RowsI g lY n hh Yf) (hlF : RowsI g lF n ww Ff) (hlM : IntL g lM (lf n Mf))
    (hn : n ≤ 1000) (ha : hh ≤ 1000) (hc : ww ≤ 1000) (ha1 : 1 ≤ hh) (hq : 0 < q) (hq2 : q ≤ 1000)
    (ret : ∀ l' g' h' tk, Ev [] g s.heap g' h' → IntL g' l' (lf hh (fun i => (sm ww (fun j => ev n r q (Af i j) * ev n r q (Sf j)) + ev n r q (Ef i)) % q) ++ lf ww (fun j => (sm hh (fun i => ev n r q (Af i j) * ev n r q (Yf i)) + ev n r q (Ff j)) % q) ++
      [(sm hh (fun i => (sm ww (fun j => ev n r q (Af i j) * ev n r q (Sf j)) + ev n r q (Ef i)) % q * ev n r q (Yf i)) + ev n r q Mf) % q, (ev n r q Mf + (sm hh (fun i => ev n r q (Ef i) * ev n r q (Yf i)) - sm ww (fun j => ev n r q (Sf j) * ev n r q (Ff j)))) % q]) → R (.ok (.ret (.ref l'))) { s with heap := h', toks := tk }) :
    codeAny (model prog w) A (.call (.ref 442) ⟨[.ref lA, .ref lS, .ref lE, .ref lY, .ref lF, .ref lM, .int r tr, .int q tq], []⟩) R s := by
  refine enter (mu := []) (binds := [("cells", .ref lA), ("s", .ref lS), ("e", .ref lE), ("y", .ref lY), ("f", .ref lF), ("m", .ref lM), ("root", .int r tr), ("q", .int q tq)])
    (m := up "m" (.ref lM) (up "f" (.ref lF) (up "y" (.ref lY) (up "e" (.ref lE) (up "s" (.ref lS) (up "cells" (.ref lA) no)))))) (mc := up "q" (.int q tq) (up "root" (.int r tr) no))
    W hB hA (by k_is) (by k_is) (BindsTo.of_eq rfl) rfl (by decide) (fun _ q => nomatch q) .nil (fun _ => rfl) (fun _ => rfl) ?_
  intro L h₁ tk E' hA' H
  walk_at "M"
  try dsimp only
  refine ev_lc (cl := [("root", L + 1), ("q", L + 2)]) (cn := ["root", "q"]) (xc := false) (by walk_at "ok") fun ok => ?_
  walk_at "M"
  try dsimp only
  refine lc_run ok H (ls_src hA'.hh hlA H.on) (szl ha) (fun i g₁ mu₁ ys => mu₁ = [] ∧ Refs (fun i x => IntL g₁ x (lf ww fun j => ev n r q (Af i j))) ys) ⟨rfl, Refs.nil⟩ ?_ ?_
  · rintro i v C D oD I oI g₁ mu₁ ys h₁ tk E' hi ⟨x1, rfl, hx1⟩ le ha' ⟨rfl, hys⟩ hl3 H3
    walk_at "M"
    refine wpAny_call (values_spec W H3.Bg (hA'.le (by decide)) (RowsI.mono hx1 le) hn hc hq hq2 ?_)
    intro l1 g' h' tk' ev1 hl1
    have H4 := H3.call0 ev1
    exact EltEnd.mk ev1.gg H4 rfl ⟨rfl, (hys.mono fun _ _ q => q.mono ev1.gg).push hl3 hl1⟩
  rintro g2 mu₁ ys D2 oD2 h2 tk2 le2 ha2 ⟨rfl, hys2⟩ hl2 isl2 fD2 H2
  obtain ⟨g3, le3, hT, H3⟩ := H2.freezeLs fD2 isl2 hl2 hys2
  replace hT : RowsI g3 D2 ww hh (fun i j => ev n r q (Af i j)) := LsOf.mono hT (.refl _) fun _ _ q => q.mono le3
  replace hlA := Grid.mono (Grid.mono hlA le2) le3
  replace hlS := RowsI.mono (RowsI.mono hlS le2) le3
  replace hlE := RowsI.mono (RowsI.mono hlE le2) le3
  replace hlY := RowsI.mono (RowsI.mono hlY le2) le3
  replace hlF := RowsI.mono (RowsI.mono hlF le2) le3
  replace hlM := IntL.mono (IntL.mono hlM le2) le3
  walk_at "M"
  try dsimp only
  rename St _ _ _ _ _ _ _ _ _ _ => H3
  refine ls_len H3 hlA ha ?_
  walk_at "M"
  try dsimp only
  refine call_rangeG H3 ?_
  intro h4 tk4 rH g4 le4 hH H4
  replace hT := RowsI.mono hT le4
  replace hlA := Grid.mono hlA le4
  replace hlS := RowsI.mono hlS le4
  replace hlE := RowsI.mono hlE le4
  replace hlY := RowsI.mono hlY le4
  replace hlF := RowsI.mono hlF le4
  replace hlM := IntL.mono hlM le4
  walk_at "M"
  try dsimp only
  rename St _ _ _ _ _ _ _ _ _ _ => H4
  refine ls_sub (i := 0) H4 hlA rfl (by omega) ha ?_
  intro y0 hy0
  walk_at "M"
  try dsimp only
  refine ls_len H4 hy0 hc ?_
  walk_at "M"
  try dsimp only
  refine call_rangeG H4 ?_
  intro h5 tk5 rW g5 le5 hW H5
  replace hT := RowsI.mono hT le5
  replace hlS := RowsI.mono hlS le5
  replace hlE := RowsI.mono hlE le5
  replace hlY := RowsI.mono hlY le5
  replace hlF := RowsI.mono hlF le5
  replace hlM := IntL.mono hlM le5
  replace hH := RngL.mono hH le5
  walk_at "M"
  try dsimp only
  rename St _ _ _ _ _ _ _ _ _ _ => H5
  refine wpAny_call (values_spec W H5.Bg (hA'.le (by decide)) hlS hn hc hq hq2 ?_)
  intro vS g6 h6 tk6 ev6 hvS
  have H6 := H5.call0 ev6
  replace hT := RowsI.mono hT ev6.gg
  replace hlS := RowsI.mono hlS ev6.gg
  replace hlE := RowsI.mono hlE ev6.gg
  replace hlY := RowsI.mono hlY ev6.gg
  replace hlF := RowsI.mono hlF ev6.gg
  replace hlM := IntL.mono hlM ev6.gg
  replace hH := RngL.mono hH ev6.gg
  replace hW := RngL.mono hW ev6.gg
  walk_at "M"
  try dsimp only
  rename St _ _ _ _ _ _ _ _ _ _ => H6
  refine wpAny_call (values_spec W H6.Bg (hA'.le (by decide)) hlE hn ha hq hq2 ?_)
  intro vE g7 h7 tk7 ev7 hvE
  have H7 := H6.call0 ev7
  replace hT := RowsI.mono hT ev7.gg
  replace hlS := RowsI.mono hlS ev7.gg
  replace hlE := RowsI.mono hlE ev7.gg
  replace hlY := RowsI.mono hlY ev7.gg
  replace hlF := RowsI.mono hlF ev7.gg
  replace hlM := IntL.mono hlM ev7.gg
  replace hH := RngL.mono hH ev7.gg
  replace hW := RngL.mono hW ev7.gg
  replace hvS := IntL.mono hvS ev7.gg
  walk_at "M"
  try dsimp only
  rename St _ _ _ _ _ _ _ _ _ _ => H7
  refine wpAny_call (values_spec W H7.Bg (hA'.le (by decide)) hlY hn ha hq hq2 ?_)
  intro vY g8 h8 tk8 ev8 hvY
  have H8 := H7.call0 ev8
  replace hT := RowsI.mono hT ev8.gg
  replace hlS := RowsI.mono hlS ev8.gg
  replace hlE := RowsI.mono hlE ev8.gg
  replace hlY := RowsI.mono hlY ev8.gg
  replace hlF := RowsI.mono hlF ev8.gg
  replace hlM := IntL.mono hlM ev8.gg
  replace hH := RngL.mono hH ev8.gg
  replace hW := RngL.mono hW ev8.gg
  replace hvS := IntL.mono hvS ev8.gg
  replace hvE := IntL.mono hvE ev8.gg
  walk_at "M"
  try dsimp only
  rename St _ _ _ _ _ _ _ _ _ _ => H8
  refine wpAny_call (values_spec W H8.Bg (hA'.le (by decide)) hlF hn hc hq hq2 ?_)
  intro vF g9 h9 tk9 ev9 hvF
  have H9 := H8.call0 ev9
  replace hT := RowsI.mono hT ev9.gg
  replace hlS := RowsI.mono hlS ev9.gg
  replace hlE := RowsI.mono hlE ev9.gg
  replace hlY := RowsI.mono hlY ev9.gg
  replace hlF := RowsI.mono hlF ev9.gg
  replace hlM := IntL.mono hlM ev9.gg
  replace hH := RngL.mono hH ev9.gg
  replace hW := RngL.mono hW ev9.gg
  replace hvS := IntL.mono hvS ev9.gg
  replace hvE := IntL.mono hvE ev9.gg
  replace hvY := IntL.mono hvY ev9.gg
  walk_at "M"
  try dsimp only
  rename St _ _ _ _ _ _ _ _ _ _ => H9
  refine wpAny_call (value_spec W H9.Bg (hA'.le (by decide)) hlM hn hq hq2 ?_)
  intro tM g10 h10 tk10 ev10
  have H10 := H9.call0 ev10
  replace hT := RowsI.mono hT ev10.gg
  replace hH := RngL.mono hH ev10.gg
  replace hW := RngL.mono hW ev10.gg
  replace hvS := IntL.mono hvS ev10.gg
  replace hvE := IntL.mono hvE ev10.gg
  replace hvY := IntL.mono hvY ev10.gg
  replace hvF := IntL.mono hvF ev10.gg
  walk_at "M"
  try dsimp only
  rename St _ _ _ _ _ _ _ _ _ _ => H10
  refine ev_lc (cl := [("wide", L + 5), ("table", L + 3), ("s_at", L + 6), ("q", L + 2), ("e_at", L + 7)]) (cn := ["wide", "table", "s_at", "q", "e_at"]) (xc := true) (by walk_at "ok") fun ok => ?_
  walk_at "M"
  try dsimp only
  refine lc_run ok H10 (hH.src hA'.hh H10.on ha) (szl ha) (fun i g₁ mu₁ ys => mu₁ = [] ∧ IntsAre ys (lf i (fun i => (sm ww (fun j => ev n r q (Af i j) * ev n r q (Sf j)) + ev n r q (Ef i)) % q))) ⟨rfl, .nil⟩ ?_ ?_
  · rintro o v C D oD I oI g₁ mu₁ ys h₁ tk E' ho ⟨to, rfl⟩ le ha' ⟨rfl, hys⟩ hl3 H3
    replace hT := RowsI.mono hT le
    replace hH := RngL.mono hH le
    replace hW := RngL.mono hW le
    replace hvS := IntL.mono hvS le
    replace hvE := IntL.mono hvE le
    replace hvY := IntL.mono hvY le
    replace hvF := IntL.mono hvF le
    walk_at "M"
    refine ev_lc (cl := [("table", L + 3), ("s_at", L + 6), ("i", C + 1)]) (cn := ["table", "s_at", "i"]) (xc := false) (by walk_at "ok") fun ok2 => ?_
    walk_at "M"
    refine lc_run ok2 H3 (hW.src hA'.hh H3.on hc) (szl hc) (fun k g₂ mu₂ zs => mu₂ = [(D, oD), (I, oI)] ∧ IntsAre zs (lf k (fun j => ev n r q (Af o j) * ev n r q (Sf j)))) ⟨rfl, .nil⟩ ?_ ?_
    · rintro k v C2 D2 oD2 I2 oI2 g₂ mu₂ zs h₂ tk₂ E2 hk ⟨tk0, rfl⟩ le2 ha2 ⟨rfl, hzs⟩ hl5 H5
      replace hT := RowsI.mono hT le2
      replace hvS := IntL.mono hvS le2
      walk_at "M"
      refine ls_sub (i := o) H5 hT rfl ho ha ?_
      intro y1 hy1
      walk_at "M"
      refine row_il (i := k) H5 hy1 rfl hk hc ?_
      intro u1
      walk_at "M"
      refine row_il (i := k) H5 hvS rfl hk hc ?_
      intro u2
      refine imul_ok (ev_mul hq hq2) ?_
      exact EltEnd.mk (.refl _) H5 (by exact ha2) ⟨rfl, ints_push hzs rfl⟩
    · rintro g₂ mu₂ zs D2 oD2 h₂ tk₂ le2 ha2 ⟨rfl, hzs⟩ hl5 isl5 fD5 H5
      replace hvE := IntL.mono hvE le2
      walk_at "M"
      refine sum_mu hA'.hh H5 isl5 hzs ?_
      rw [ints_sum]
      intro h6 tk6 t6 H6
      walk_at "M"
      refine row_il (i := o) H6 hvE rfl ho ha ?_
      intro u3
      walk_at "M"
      exact EltEnd.mk le2 H6 (by exact ha') ⟨rfl, ints_push hys rfl⟩
  rintro g11 mu₁ ys D11 oD11 h11 tk11 le11 ha11 ⟨rfl, hys11⟩ hl11 isl11 fD11 H11
  obtain ⟨g11', le11', hvT, H11'⟩ := H11.freezeI fD11 isl11 hys11
  replace hT := RowsI.mono hT le11
  replace hH := RngL.mono hH le11
  replace hW := RngL.mono hW le11
  replace hvS := IntL.mono hvS le11
  replace hvE := IntL.mono hvE le11
  replace hvY := IntL.mono hvY le11
  replace hvF := IntL.mono hvF le11
  replace hT := RowsI.mono hT le11'
  replace hH := RngL.mono hH le11'
  replace hW := RngL.mono hW le11'
  replace hvS := IntL.mono hvS le11'
  replace hvE := IntL.mono hvE le11'
  replace hvY := IntL.mono hvY le11'
  replace hvF := IntL.mono hvF le11'
  walk_at "M"
  try dsimp only
  rename St _ _ _ _ _ _ _ _ _ _ => H11
  refine as_lc (cl := [("y_at", L + 8), ("table", L + 3), ("q", L + 2), ("high", L + 4), ("f_at", L + 9)]) (cn := ["y_at", "table", "q", "high", "f_at"]) (xc := true) (by walk_at "ok") fun ok => ?_
  walk_at "M"
  try dsimp only
  refine lc_runA ok H11 (hW.src hA'.hh H11.on hc) (szl hc) (fun i g₁ mu₁ ys => mu₁ = [] ∧ IntsAre ys (lf i (fun j => (sm hh (fun i => ev n r q (Af i j) * ev n r q (Yf i)) + ev n r q (Ff j)) % q))) ⟨rfl, .nil⟩ ?_ ?_
  · rintro o v C D oD I oI g₁ mu₁ ys h₁ tk E' ho ⟨to, rfl⟩ le ha' ⟨rfl, hys⟩ hl3 H3
    replace hT := RowsI.mono hT le
    replace hH := RngL.mono hH le
    replace hW := RngL.mono hW le
    replace hvS := IntL.mono hvS le
    replace hvE := IntL.mono hvE le
    replace hvY := IntL.mono hvY le
    replace hvF := IntL.mono hvF le
    replace hvT := IntL.mono hvT le
    walk_at "M"
    refine ev_lc (cl := [("y_at", L + 8), ("table", L + 3), ("j", C + 1)]) (cn := ["y_at", "table", "j"]) (xc := false) (by walk_at "ok") fun ok2 => ?_
    walk_at "M"
    refine lc_run ok2 H3 (hH.src hA'.hh H3.on ha) (szl ha) (fun k g₂ mu₂ zs => mu₂ = [(D, oD), (I, oI)] ∧ IntsAre zs (lf k (fun i => ev n r q (Af i o) * ev n r q (Yf i)))) ⟨rfl, .nil⟩ ?_ ?_
    · rintro k v C2 D2 oD2 I2 oI2 g₂ mu₂ zs h₂ tk₂ E2 hk ⟨tk0, rfl⟩ le2 ha2 ⟨rfl, hzs⟩ hl5 H5
      replace hT := RowsI.mono hT le2
      replace hvY := IntL.mono hvY le2
      walk_at "M"
      refine ls_sub (i := k) H5 hT rfl hk ha ?_
      intro y1 hy1
      walk_at "M"
      refine row_il (i := o) H5 hy1 rfl ho hc ?_
      intro u1
      walk_at "M"
      refine row_il (i := k) H5 hvY rfl hk ha ?_
      intro u2
      refine imul_ok (ev_mul hq hq2) ?_
      exact EltEnd.mk (.refl _) H5 (by exact ha2) ⟨rfl, ints_push hzs rfl⟩
    · rintro g₂ mu₂ zs D2 oD2 h₂ tk₂ le2 ha2 ⟨rfl, hzs⟩ hl5 isl5 fD5 H5
      replace hvF := IntL.mono hvF le2
      walk_at "M"
      refine sum_mu hA'.hh H5 isl5 hzs ?_
      rw [ints_sum]
      intro h6 tk6 t6 H6
      walk_at "M"
      refine row_il (i := o) H6 hvF rfl ho hc ?_
      intro u3
      walk_at "M"
      exact EltEnd.mk le2 H6 (by exact ha') ⟨rfl, ints_push hys rfl⟩
  rintro g12 mu₁ ys D12 oD12 h12 tk12 le12 ha12 ⟨rfl, hys12⟩ hl12 isl12 fD12 H12
  obtain ⟨g12', le12', hvU, H12'⟩ := H12.freezeI fD12 isl12 hys12
  replace hT := RowsI.mono hT le12
  replace hH := RngL.mono hH le12
  replace hW := RngL.mono hW le12
  replace hvS := IntL.mono hvS le12
  replace hvE := IntL.mono hvE le12
  replace hvY := IntL.mono hvY le12
  replace hvF := IntL.mono hvF le12
  replace hvT := IntL.mono hvT le12
  replace hT := RowsI.mono hT le12'
  replace hH := RngL.mono hH le12'
  replace hW := RngL.mono hW le12'
  replace hvS := IntL.mono hvS le12'
  replace hvE := IntL.mono hvE le12'
  replace hvY := IntL.mono hvY le12'
  replace hvF := IntL.mono hvF le12'
  replace hvT := IntL.mono hvT le12'
  walk_at "M"
  try dsimp only
  rename St _ _ _ _ _ _ _ _ _ _ => H12
  refine ev_lc (cl := [("y_at", L + 8), ("t_at", L + 10)]) (cn := ["y_at", "t_at"]) (xc := false) (by walk_at "ok") fun ok => ?_
  walk_at "M"
  try dsimp only
  refine lc_run ok H12 (hH.src hA'.hh H12.on ha) (szl ha) (fun i g₁ mu₁ ys => mu₁ = [] ∧ IntsAre ys (lf i (fun i => (sm ww (fun j => ev n r q (Af i j) * ev n r q (Sf j)) + ev n r q (Ef i)) % q * ev n r q (Yf i)))) ⟨rfl, .nil⟩ ?_ ?_
  · rintro o v C D oD I oI g₁ mu₁ ys h₁ tk E' ho ⟨to, rfl⟩ le ha' ⟨rfl, hys⟩ hl3 H3
    replace hvT := IntL.mono hvT le
    replace hvY := IntL.mono hvY le
    walk_at "M"
    refine row_il (i := o) H3 hvT rfl ho ha ?_
    intro u1
    walk_at "M"
    refine row_il (i := o) H3 hvY rfl ho ha ?_
    intro u2
    refine imul_ok (ev_mul hq hq2) ?_
    exact EltEnd.mk (.refl _) H3 rfl ⟨rfl, ints_push hys rfl⟩
  rintro g13 mu₁ ys D13 oD13 h13 tk13 le13 ha13 ⟨rfl, hys13⟩ hl13 isl13 fD13 H13
  replace hT := RowsI.mono hT le13
  replace hH := RngL.mono hH le13
  replace hW := RngL.mono hW le13
  replace hvS := IntL.mono hvS le13
  replace hvE := IntL.mono hvE le13
  replace hvY := IntL.mono hvY le13
  replace hvF := IntL.mono hvF le13
  replace hvT := IntL.mono hvT le13
  replace hvU := IntL.mono hvU le13
  walk_at "M"
  try dsimp only
  refine sum_mu hA'.hh H13 isl13 hys13 ?_
  rw [ints_sum]
  intro h13' tk13' t13' H13'
  walk_at "M"
  try dsimp only
  rename St _ _ _ _ _ _ _ _ _ _ => H14
  refine ev_lc (cl := [("y_at", L + 8), ("e_at", L + 7)]) (cn := ["y_at", "e_at"]) (xc := false) (by walk_at "ok") fun ok => ?_
  walk_at "M"
  try dsimp only
  refine lc_run ok H14 (hH.src hA'.hh H14.on ha) (szl ha) (fun i g₁ mu₁ ys => mu₁ = [] ∧ IntsAre ys (lf i (fun i => ev n r q (Ef i) * ev n r q (Yf i)))) ⟨rfl, .nil⟩ ?_ ?_
  · rintro o v C D oD I oI g₁ mu₁ ys h₁ tk E' ho ⟨to, rfl⟩ le ha' ⟨rfl, hys⟩ hl3 H3
    replace hvE := IntL.mono hvE le
    replace hvY := IntL.mono hvY le
    walk_at "M"
    refine row_il (i := o) H3 hvE rfl ho ha ?_
    intro u1
    walk_at "M"
    refine row_il (i := o) H3 hvY rfl ho ha ?_
    intro u2
    refine imul_ok (ev_mul hq hq2) ?_
    exact EltEnd.mk (.refl _) H3 rfl ⟨rfl, ints_push hys rfl⟩
  rintro g15 mu₁ ys D15 oD15 h15 tk15 le15 ha15 ⟨rfl, hys15⟩ hl15 isl15 fD15 H15
  replace hT := RowsI.mono hT le15
  replace hH := RngL.mono hH le15
  replace hW := RngL.mono hW le15
  replace hvS := IntL.mono hvS le15
  replace hvE := IntL.mono hvE le15
  replace hvY := IntL.mono hvY le15
  replace hvF := IntL.mono hvF le15
  replace hvT := IntL.mono hvT le15
  replace hvU := IntL.mono hvU le15
  walk_at "M"
  try dsimp only
  refine sum_mu hA'.hh H15 isl15 hys15 ?_
  rw [ints_sum]
  intro h15' tk15' t15' H15'
  walk_at "M"
  try dsimp only
  refine ev_lc (cl := [("s_at", L + 6), ("f_at", L + 9)]) (cn := ["s_at", "f_at"]) (xc := false) (by walk_at "ok") fun ok => ?_
  walk_at "M"
  try dsimp only
  refine lc_run ok H15' (hW.src hA'.hh H15'.on hc) (szl hc) (fun i g₁ mu₁ ys => mu₁ = [] ∧ IntsAre ys (lf i (fun j => ev n r q (Sf j) * ev n r q (Ff j)))) ⟨rfl, .nil⟩ ?_ ?_
  · rintro o v C D oD I oI g₁ mu₁ ys h₁ tk E' ho ⟨to, rfl⟩ le ha' ⟨rfl, hys⟩ hl3 H3
    replace hvS := IntL.mono hvS le
    replace hvF := IntL.mono hvF le
    walk_at "M"
    refine row_il (i := o) H3 hvS rfl ho hc ?_
    intro u1
    walk_at "M"
    refine row_il (i := o) H3 hvF rfl ho hc ?_
    intro u2
    refine imul_ok (ev_mul hq hq2) ?_
    exact EltEnd.mk (.refl _) H3 rfl ⟨rfl, ints_push hys rfl⟩
  rintro g16 mu₁ ys D16 oD16 h16 tk16 le16 ha16 ⟨rfl, hys16⟩ hl16 isl16 fD16 H16
  replace hT := RowsI.mono hT le16
  replace hH := RngL.mono hH le16
  replace hW := RngL.mono hW le16
  replace hvS := IntL.mono hvS le16
  replace hvE := IntL.mono hvE le16
  replace hvY := IntL.mono hvY le16
  replace hvF := IntL.mono hvF le16
  replace hvT := IntL.mono hvT le16
  replace hvU := IntL.mono hvU le16
  walk_at "M"
  try dsimp only
  refine sum_mu hA'.hh H16 isl16 hys16 ?_
  rw [ints_sum]
  intro h16' tk16' t16' H16'
  walk_at "M"
  try dsimp only
  rename St _ _ _ _ _ _ _ _ _ _ => H17
  obtain ⟨vsT, hlT, hiT⟩ := ints_pos hvT H17.on
  obtain ⟨vsU, hlU, hiU⟩ := ints_pos hvU H17.on
  have eT := ints_len hiT
  have eU := ints_len hiU
  refine add_lists H17 hlT hlU (by rw [sizeLine_eq]; exact add_sz eT eU ha hc) ?_
  intro a18 h18 f18 _ H18
  walk_at "M"
  try dsimp only
  refine ⟨sz1 rfl, fun a19 h19 ea eh => ?_⟩
  obtain ⟨f19, H19⟩ := H18.mkL ea eh
  refine add_lists H19 ((IsL.lst _).at_ (H19.mus _ (.tail _ (.head _)))) ((IsL.lst _).at_ (H19.mus _ (.head _))) (by rw [sizeLine_eq]; simp; exact add_sz2 eT eU ha hc) ?_
  intro a20 h20 f20 _ H20
  obtain ⟨g21, le21, hli, H21⟩ := H20.freezeI f20 (IsL.lst _) ((hiT.append hiU).append (.cons _ _ (.cons _ _ .nil)))
  have evE := H21.ev
  exact ret _ _ _ _ evE hli
end
end Mine
namespace Mine
/-- a row of the law's table: a modulus, a length, and the roots -/
def RingRow (g : FM) (t : Addr) : Prop := ∃ (q : Int) (n : Nat) (lr : Addr) (rs : List Int) (tq tn : Tok) (vs : List Value), TupL g t [.int q tq, .int n tn, .ref lr] ∧ TupL g lr vs ∧ IntsAre vs rs ∧ 2 ≤ q ∧ q ≤ 500 ∧ 1 ≤ n ∧ n ≤ 4 ∧ ∀ r ∈ rs, (pow r n + 1) % q = 0
section
variable {prog : Program} {w : World} {p : Program} {loose : List Str} {mean : ExcName → Option Value} {mg mb : Str → Option Value} {b : Heap} {g : FM} {h : Heap}
theorem tupK (W : Wd (Mine.hd.heap_39 w.params) p loose mean mg mb b) (hB : Bg b g h) {a : Addr} {vs : List Value} {d : Option Addr} {sl : Array (Option Value)} {k : Nat} (e : ((Mine.hd.heap_39 w.params) : Frag).lookup a = some ⟨.type "tuple", d, .seq vs.toArray k, sl⟩) : TupL g a vs :=
  ⟨_, k, hB.bg _ _ (W.X _ _ e), rfl, rfl⟩
abbrev ringTab : List Value := [.ref 383, .ref 385, .ref 387, .ref 389, .ref 391, .ref 393, .ref 395]
theorem ring_tab (W : Wd (Mine.hd.heap_39 w.params) p loose mean mg mb b) (hB : Bg b g h) : TupL g 396 ringTab := tupK W hB (d := none) (sl := #[]) (k := 0) (by k_is)
theorem ring_row0 (W : Wd (Mine.hd.heap_39 w.params) p loose mean mg mb b) (hB : Bg b g h) : RingRow g 383 :=
  ⟨3, 1, 382, [2], _, _, _, tupK W hB (vs := [.int 3 _, .int ((1 : Nat) : Int) _, .ref 382]) (d := none) (sl := #[]) (k := 0) (by k_is), tupK W hB (vs := [.int 2 _]) (d := none) (sl := #[]) (k := 0) (by k_is), .cons _ _ (.nil), by decide, by decide, by decide, by decide, by decide⟩
theorem ring_row1 (W : Wd (Mine.hd.heap_39 w.params) p loose mean mg mb b) (hB : Bg b g h) : RingRow g 385 :=
  ⟨5, 2, 384, [2, 3], _, _, _, tupK W hB (vs := [.int 5 _, .int ((2 : Nat) : Int) _, .ref 384]) (d := none) (sl := #[]) (k := 0) (by k_is), tupK W hB (vs := [.int 2 _, .int 3 _]) (d := none) (sl := #[]) (k := 0) (by k_is), .cons _ _ (.cons _ _ (.nil)), by decide, by decide, by decide, by decide, by decide⟩
theorem ring_row2 (W : Wd (Mine.hd.heap_39 w.params) p loose mean mg mb b) (hB : Bg b g h) : RingRow g 387 :=
  ⟨7, 3, 386, [3, 5, 6], _, _, _, tupK W hB (vs := [.int 7 _, .int ((3 : Nat) : Int) _, .ref 386]) (d := none) (sl := #[]) (k := 0) (by k_is), tupK W hB (vs := [.int 3 _, .int 5 _, .int 6 _]) (d := none) (sl := #[]) (k := 0) (by k_is), .cons _ _ (.cons _ _ (.cons _ _ (.nil))), by decide, by decide, by decide, by decide, by decide⟩
theorem ring_row3 (W : Wd (Mine.hd.heap_39 w.params) p loose mean mg mb b) (hB : Bg b g h) : RingRow g 389 :=
  ⟨13, 2, 388, [5, 8], _, _, _, tupK W hB (vs := [.int 13 _, .int ((2 : Nat) : Int) _, .ref 388]) (d := none) (sl := #[]) (k := 0) (by k_is), tupK W hB (vs := [.int 5 _, .int 8 _]) (d := none) (sl := #[]) (k := 0) (by k_is), .cons _ _ (.cons _ _ (.nil)), by decide, by decide, by decide, by decide, by decide⟩
theorem ring_row4 (W : Wd (Mine.hd.heap_39 w.params) p loose mean mg mb b) (hB : Bg b g h) : RingRow g 391 :=
  ⟨17, 4, 390, [2, 8, 9, 15], _, _, _, tupK W hB (vs := [.int 17 _, .int ((4 : Nat) : Int) _, .ref 390]) (d := none) (sl := #[]) (k := 0) (by k_is), tupK W hB (vs := [.int 2 _, .int 8 _, .int 9 _, .int 15 _]) (d := none) (sl := #[]) (k := 0) (by k_is), .cons _ _ (.cons _ _ (.cons _ _ (.cons _ _ (.nil)))), by decide, by decide, by decide, by decide, by decide⟩
theorem ring_row5 (W : Wd (Mine.hd.heap_39 w.params) p loose mean mg mb b) (hB : Bg b g h) : RingRow g 393 :=
  ⟨41, 4, 392, [3, 14, 27, 38], _, _, _, tupK W hB (vs := [.int 41 _, .int ((4 : Nat) : Int) _, .ref 392]) (d := none) (sl := #[]) (k := 0) (by k_is), tupK W hB (vs := [.int 3 _, .int 14 _, .int 27 _, .int 38 _]) (d := none) (sl := #[]) (k := 0) (by k_is), .cons _ _ (.cons _ _ (.cons _ _ (.cons _ _ (.nil)))), by decide, by decide, by decide, by decide, by decide⟩
theorem ring_row6 (W : Wd (Mine.hd.heap_39 w.params) p loose mean mg mb b) (hB : Bg b g h) : RingRow g 395 :=
  ⟨257, 4, 394, [4, 64, 193, 253], _, _, _, tupK W hB (vs := [.int 257 _, .int ((4 : Nat) : Int) _, .ref 394]) (d := none) (sl := #[]) (k := 0) (by k_is), tupK W hB (vs := [.int 4 _, .int 64 _, .int 193 _, .int 253 _]) (d := none) (sl := #[]) (k := 0) (by k_is), .cons _ _ (.cons _ _ (.cons _ _ (.cons _ _ (.nil)))), by decide, by decide, by decide, by decide, by decide⟩
theorem ring_rows (W : Wd (Mine.hd.heap_39 w.params) p loose mean mg mb b) (hB : Bg b g h) : ∀ i : Nat, i < 7 → ∃ t, ringTab[i]? = some (.ref t) ∧ RingRow g t
  | 0, _ => ⟨_, rfl, ring_row0 W hB⟩
  | 1, _ => ⟨_, rfl, ring_row1 W hB⟩
  | 2, _ => ⟨_, rfl, ring_row2 W hB⟩
  | 3, _ => ⟨_, rfl, ring_row3 W hB⟩
  | 4, _ => ⟨_, rfl, ring_row4 W hB⟩
  | 5, _ => ⟨_, rfl, ring_row5 W hB⟩
  | 6, _ => ⟨_, rfl, ring_row6 W hB⟩
  | i + 7, h => absurd h (by omega)
end
end Mine
namespace Mine
section
variable {prog : Program} {w : World} {p : Program} {loose : List Str} {mean : ExcName → Option Value} {mg mb : Str → Option Value} {b : Heap}
variable {S : List Addr} {g0 : FM} {h0 : Heap} {env : Env} {g : FM} {m mc : Str → Option Value} {mu : List (Addr × Obj)}
variable {A : Around} {s : Shared} {E : Value → Shared → Prop} {R : Result → Shared → Prop}

set_option maxHeartbeats 4000000 in
theorem law_spec (W : Wd (Mine.hd.heap_39 w.params) p loose mean mg mb b) (hB : Bg b g s.heap) (hA : Ao 12 A)
    {l : Addr} (hl : Script g l)
    (tb : Tb 362 320 mu) (hlive : (∀ q ∈ mu, s.heap.get? q.1 = some q.2 ∧ g q.1 = none) ∧ (mu.map (·.1)).Nodup) (hbr : AllBare s.gens)
    (ret : ∀ mu' g' h' tk gs, Ev (mu.map (·.1)) g s.heap g' h' → Tb 362 320 mu' → (∀ q ∈ mu', h'.get? q.1 = some q.2) → AllBare gs → R (.ok (.ret (.bool true))) { s with heap := h', toks := tk, gens := gs }) :
    codeAny (model prog w) A (.call (.ref 447) ⟨[.ref l], []⟩) R s := by
  refine enter (binds := [("script", .ref l)]) (m := up "script" (.ref l) no) (mc := no)
    W hB hA (by k_is) (by k_is) (BindsTo.of_eq rfl) rfl (by decide) hlive.1 hlive.2 (fun _ => rfl) (fun _ => rfl) ?_
  intro L h₁ tk E' hA' H
  walk_at "M"
  try dsimp only
  refine ⟨sz1 rfl, fun st h0' ea eh => ?_⟩
  obtain ⟨_, H0⟩ := H.mkL ea eh
  obtain ⟨muD0, hok0, H0⟩ : ∃ muD0, StD st l 0 muD0 ∧ St b _ g _ _ _ _ _ (muD0 ++ mu) _ := ⟨[(st, _)], ⟨_, _, _, rfl, IsL.lst _, by decide, by decide⟩, H0⟩
  walk_at "M"
  try dsimp only
  rename St _ _ _ _ _ _ _ _ _ _ => H0b
  refine wpAny_call (draw_spec W H0b.Bg (hA'.le (by decide)) hl hok0 (by first | decide | omega) (H0b.muFactsM (pre := [])) ?_)
  intro v1 t1 muD1 g1 h1 tk1 ev1 hok1 live1 bdv1
  have Hd1 := H0b.callMid (pre := []) ev1 (by rw [hok1.adr, hok0.adr]) live1
  replace hl := hl.mono (ev1.gg)
  walk_at "M"
  try dsimp only
  obtain ⟨tr, etr, hrow⟩ := ring_rows W Hd1.Bg (v1 % 7).toNat (by omega)
  refine sub_tup Hd1 (ring_tab W Hd1.Bg) (Int.emod_nonneg _ (by decide)) (by omega) etr ?_
  obtain ⟨q, n, lr, rs, tq, tn, vsr, htr, hroots, hri, hq2, hq5, hn1, hn4, hroot⟩ := hrow
  have hq0 : 0 < q := by omega
  have hq1k : q ≤ 1000 := by omega
  have hq1m : q ≤ 1000000 := Int.le_trans hq1k (by decide)
  have hn : n ≤ 1000 := by omega
  refine tup_assign3 hA'.hh Hd1 (htr.tup Hd1.on) ?_
  intro h1b H1b
  walk_at "M"
  try dsimp only
  rename St _ _ _ _ _ _ _ _ _ _ => H1c
  refine wpAny_call (draw_spec W H1c.Bg (hA'.le (by decide)) hl hok1 (by first | decide | omega) (H1c.muFactsM (pre := [])) ?_)
  intro v2 t2 muD2 g2 h2 tk2 ev2 hok2 live2 bdv2
  have Hd2 := H1c.callMid (pre := []) ev2 (by rw [hok2.adr, hok1.adr]) live2
  replace hl := hl.mono (ev2.gg)
  replace hroots := hroots.mono (ev2.gg)
  walk_at "M"
  try dsimp only
  rename St _ _ _ _ _ _ _ _ _ _ => H2b
  obtain ⟨hh, ehh, a1, a3, a2⟩ := dim3 v2
  rw [ehh] at H2b
  refine wpAny_call (draw_spec W H2b.Bg (hA'.le (by decide)) hl hok2 (by first | decide | omega) (H2b.muFactsM (pre := [])) ?_)
  intro v3 t3 muD3 g3 h3 tk3 ev3 hok3 live3 bdv3
  have Hd3 := H2b.callMid (pre := []) ev3 (by rw [hok3.adr, hok2.adr]) live3
  replace hl := hl.mono (ev3.gg)
  replace hroots := hroots.mono (ev3.gg)
  walk_at "M"
  try dsimp only
  rename St _ _ _ _ _ _ _ _ _ _ => H3b
  obtain ⟨ww, eww, b1, b3, b2⟩ := dim3 v3
  rw [eww] at H3b
  refine wpAny_call (draw_spec W H3b.Bg (hA'.le (by decide)) hl hok3 (by first | decide | omega) (H3b.muFactsM (pre := [])) ?_)
  intro v4 t4 muD4 g4 h4 tk4 ev4 hok4 live4 bdv4
  have Hd4 := H3b.callMid (pre := []) ev4 (by rw [hok4.adr, hok3.adr]) live4
  replace hl := hl.mono (ev4.gg)
  replace hroots := hroots.mono (ev4.gg)
  walk_at "M"
  try dsimp only
  rename St _ _ _ _ _ _ _ _ _ _ => H4b
  refine ring_make W H4b.Bg (hA'.le (by decide)) ?_
  intro r g5 h5 tk5 ev5 hr
  have H5 := H4b.call0 ev5
  replace hl := hl.mono (ev5.gg)
  replace hroots := hroots.mono (ev5.gg)
  walk_at "M"
  try dsimp only
  rename St _ _ _ _ _ _ _ _ _ _ => H5b
  refine module_make W H5b.Bg (hA'.le (by decide)) ?_
  intro v g6 h6 tk6 ev6 hv
  have H6 := H5b.call0 ev6
  replace hl := hl.mono (ev6.gg)
  replace hroots := hroots.mono (ev6.gg)
  replace hr := hr.mono (ev6.gg)
  walk_at "M"
  try dsimp only
  rename St _ _ _ _ _ _ _ _ _ _ => H6b
  refine wpAny_call (grid_spec (hh := hh) (ww := ww) W H6b.Bg (hA'.le (by decide)) hl hok4 (by first | decide | omega) (H6b.muFactsM (pre := [])) hn4 a3 b3 ?_)
  intro lA Af muD7 g7 h7 tk7 ev7 hok7 live7 hlA bdA
  have H7 := H6b.callMid (pre := []) ev7 (by rw [hok7.adr, hok4.adr]) live7
  replace hl := hl.mono (ev7.gg)
  replace hroots := hroots.mono (ev7.gg)
  replace hr := hr.mono (ev7.gg)
  replace hv := hv.mono (ev7.gg)
  walk_at "M"
  try dsimp only
  rename St _ _ _ _ _ _ _ _ _ _ => H7b
  refine wpAny_call (stored_spec (hh := hh) (ww := ww) W H7b.Bg (hA'.le (by decide)) hlA hv hr tb (H7b.muFacts (pre := muD7)) hbr hn a2 b2 a1 b1 ?_)
  intro xA muT8 g8 h8 tk8 gs8 ev8 tb8 live8 br8 hxA
  have H8 := H7b.callMu (pre := muD7) ev8 (by rw [tb8.adr, tb.adr]) live8
  replace hl := hl.mono (ev8.gg)
  replace hroots := hroots.mono (ev8.gg)
  replace hr := hr.mono (ev8.gg)
  replace hv := hv.mono (ev8.gg)
  replace hlA := Grid.mono hlA (ev8.gg)
  walk_at "M"
  try dsimp only
  rename St _ _ _ _ _ _ _ _ _ _ => H8b
  refine wpAny_call (upright_spec (nn := ww) W H8b.Bg (hA'.le (by decide)) hl hok7 (by first | decide | omega) hv hr tb8 (H8b.muFacts (pre := [])) br8 hn4 b1 b3 ?_)
  intro tpS xS lS Sf muD9 muT9 g9 h9 tk9 gs9 ev9 hok9 tb9 live9 br9 htpS hxS hlS bdS
  have H9 := H8b.callMu (pre := []) (mu := muD7 ++ muT8) (mu' := muD9 ++ muT9) ev9 (by rw [List.map_append, List.map_append, hok9.adr, hok7.adr, tb9.adr, tb8.adr]) live9
  replace hl := hl.mono (ev9.gg)
  replace hroots := hroots.mono (ev9.gg)
  replace hr := hr.mono (ev9.gg)
  replace hv := hv.mono (ev9.gg)
  replace hlA := Grid.mono hlA (ev9.gg)
  replace hxA := hxA.mono (ev9.gg)
  walk_at "M"
  try dsimp only
  refine tl_assign2 hA'.hh H9 htpS ?_
  intro h9' H9'
  walk_at "M"
  try dsimp only
  rename St _ _ _ _ _ _ _ _ _ _ => H9b
  refine wpAny_call (upright_spec (nn := hh) W H9b.Bg (hA'.le (by decide)) hl hok9 (by first | decide | omega) hv hr tb9 (H9b.muFacts (pre := [])) br9 hn4 a1 a3 ?_)
  intro tpE xE lE Ef muD10 muT10 g10 h10 tk10 gs10 ev10 hok10 tb10 live10 br10 htpE hxE hlE bdE
  have H10 := H9b.callMu (pre := []) (mu := muD9 ++ muT9) (mu' := muD10 ++ muT10) ev10 (by rw [List.map_append, List.map_append, hok10.adr, hok9.adr, tb10.adr, tb9.adr]) live10
  replace hl := hl.mono (ev10.gg)
  replace hroots := hroots.mono (ev10.gg)
  replace hr := hr.mono (ev10.gg)
  replace hv := hv.mono (ev10.gg)
  replace hlA := Grid.mono hlA (ev10.gg)
  replace hxA := hxA.mono (ev10.gg)
  replace hxS := hxS.mono (ev10.gg)
  replace hlS := RowsI.mono hlS (ev10.gg)
  walk_at "M"
  try dsimp only
  refine tl_assign2 hA'.hh H10 htpE ?_
  intro h10' H10'
  walk_at "M"
  try dsimp only
  rename St _ _ _ _ _ _ _ _ _ _ => H10b
  refine wpAny_call (upright_spec (nn := hh) W H10b.Bg (hA'.le (by decide)) hl hok10 (by first | decide | omega) hv hr tb10 (H10b.muFacts (pre := [])) br10 hn4 a1 a3 ?_)
  intro tpY xY lY Yf muD11 muT11 g11 h11 tk11 gs11 ev11 hok11 tb11 live11 br11 htpY hxY hlY bdY
  have H11 := H10b.callMu (pre := []) (mu := muD10 ++ muT10) (mu' := muD11 ++ muT11) ev11 (by rw [List.map_append, List.map_append, hok11.adr, hok10.adr, tb11.adr, tb10.adr]) live11
  replace hl := hl.mono (ev11.gg)
  replace hroots := hroots.mono (ev11.gg)
  replace hr := hr.mono (ev11.gg)
  replace hv := hv.mono (ev11.gg)
  replace hlA := Grid.mono hlA (ev11.gg)
  replace hxA := hxA.mono (ev11.gg)
  replace hxS := hxS.mono (ev11.gg)
  replace hlS := RowsI.mono hlS (ev11.gg)
  replace hxE := hxE.mono (ev11.gg)
  replace hlE := RowsI.mono hlE (ev11.gg)
  walk_at "M"
  try dsimp only
  refine tl_assign2 hA'.hh H11 htpY ?_
  intro h11' H11'
  walk_at "M"
  try dsimp only
  rename St _ _ _ _ _ _ _ _ _ _ => H11b
  refine wpAny_call (upright_spec (nn := ww) W H11b.Bg (hA'.le (by decide)) hl hok11 (by first | decide | omega) hv hr tb11 (H11b.muFacts (pre := [])) br11 hn4 b1 b3 ?_)
  intro tpF xF lF Ff muD12 muT12 g12 h12 tk12 gs12 ev12 hok12 tb12 live12 br12 htpF hxF hlF bdF
  have H12 := H11b.callMu (pre := []) (mu := muD11 ++ muT11) (mu' := muD12 ++ muT12) ev12 (by rw [List.map_append, List.map_append, hok12.adr, hok11.adr, tb12.adr, tb11.adr]) live12
  replace hl := hl.mono (ev12.gg)
  replace hroots := hroots.mono (ev12.gg)
  replace hr := hr.mono (ev12.gg)
  replace hv := hv.mono (ev12.gg)
  replace hlA := Grid.mono hlA (ev12.gg)
  replace hxA := hxA.mono (ev12.gg)
  replace hxS := hxS.mono (ev12.gg)
  replace hlS := RowsI.mono hlS (ev12.gg)
  replace hxE := hxE.mono (ev12.gg)
  replace hlE := RowsI.mono hlE (ev12.gg)
  replace hxY := hxY.mono (ev12.gg)
  replace hlY := RowsI.mono hlY (ev12.gg)
  walk_at "M"
  try dsimp only
  refine tl_assign2 hA'.hh H12 htpF ?_
  intro h12' H12'
  walk_at "M"
  try dsimp only
  rename St _ _ _ _ _ _ _ _ _ _ => H12b
  refine as_lc (cl := [("state", L + 1)]) (cn := ["state"]) (xc := false) (by walk_at "ok") fun ok => ?_
  walk_at "M"
  try dsimp only
  refine call_range1 H12b ?_
  intro h13 tk13 rr13 t13 u13 v13 hrr13 H13
  refine lc_runA ok H13 (Src.range hA'.hh hrr13 (rngN hn) (nat0 _)) (by rw [to_nat0]; exact szl hn)
    (fun k g₂ mu₂ zs => ∃ muY, mu₂ = muY ++ muT12 ∧ StD st l (92 + k) muY ∧ ∃ a : Nat → Int, IntsAre zs (lf k a) ∧ ∀ k', k' < k → Bd (a k')) ⟨muD12, rfl, hok12.le (by omega), fun _ => 0, .nil, fun _ z => absurd z (Nat.not_lt_zero _)⟩ ?_ ?_
  · rintro k vv C2 D2 oD2 I2 oI2 g₂ mu₂ zs h₂ tk₂ E2 hk hP2 le2 ha2 ⟨muY, rfl, hokY, a, hzs, hba⟩ hl6 H6
    rw [to_nat0] at hk
    walk_at "M"
    refine wpAny_call (draw_spec (mu := muY) W H6.Bg (hA'.le (by decide)) (hl.mono le2) hokY (by omega) (H6.muFactsM (pre := [(D2, oD2), (I2, oI2)])) ?_)
    intro v8 t8 mu8 g8 h8 tk8 ev8 hok8 live8 hb8
    have H8 := H6.callMid (pre := [(D2, oD2), (I2, oI2)]) ev8 (by rw [hok8.adr, hokY.adr]) live8
    refine EltEnd.mk (mu₂ := mu8 ++ muT12) ev8.gg H8 (by simp only [List.map_append, List.map_nil, List.nil_append]; rw [hok8.adr, hok12.adr]) ⟨mu8, rfl, by rw [show (92 : Int) + ((k + 1 : Nat) : Int) = 92 + k + 1 by omega]; exact hok8, fun k' => if k' = k then v8 else a k', ?_, fun k' hk' => ?_⟩
    · refine ints_push (ints_ext hzs fun k' z => by rw [if_neg (by omega)]) (by rw [if_pos rfl])
    · dsimp only
      by_cases z : k' = k
      · rw [if_pos z]; exact hb8
      · rw [if_neg z]; exact hba k' (by omega)
  rintro g14 mu₂ zs D14 oD14 h14 tk14 le14 ha14 ⟨muD14, rfl, hok14, Mf, hzs, bdM⟩ hl14 isl14 fD14 H14
  rw [to_nat0] at hzs bdM
  obtain ⟨g15, le15, hlM, H15⟩ := H14.freezeI fD14 isl14 hzs
  replace hl := hl.mono (le14)
  replace hroots := hroots.mono (le14)
  replace hr := hr.mono (le14)
  replace hv := hv.mono (le14)
  replace hlA := Grid.mono hlA (le14)
  replace hxA := hxA.mono (le14)
  replace hxS := hxS.mono (le14)
  replace hlS := RowsI.mono hlS (le14)
  replace hxE := hxE.mono (le14)
  replace hlE := RowsI.mono hlE (le14)
  replace hxY := hxY.mono (le14)
  replace hlY := RowsI.mono hlY (le14)
  replace hxF := hxF.mono (le14)
  replace hlF := RowsI.mono hlF (le14)
  replace hl := hl.mono (le15)
  replace hroots := hroots.mono (le15)
  replace hr := hr.mono (le15)
  replace hv := hv.mono (le15)
  replace hlA := Grid.mono hlA (le15)
  replace hxA := hxA.mono (le15)
  replace hxS := hxS.mono (le15)
  replace hlS := RowsI.mono hlS (le15)
  replace hxE := hxE.mono (le15)
  replace hlE := RowsI.mono hlE (le15)
  replace hxY := hxY.mono (le15)
  replace hlY := RowsI.mono hlY (le15)
  replace hxF := hxF.mono (le15)
  replace hlF := RowsI.mono hlF (le15)
  walk_at "M"
  try dsimp only
  rename St _ _ _ _ _ _ _ _ _ _ => H15
  have mAS : ∀ i t j a c, i < hh → t < ww → j < 1 → a < n → c < n → IntMulOk (Af i t a) ((fun i (_ : Nat) => Sf i) t j c) := fun i t j a c hi ht _ ha hc => (bdA i t a hi ht ha).mul (bdS t c ht hc)
  refine bin_mat (pre := muD14) (hh := hh) (ww := ww) (ll := 1) W H15 (hA'.le (by decide)) hxA hxS hv hr hq0 hn hn1 a2 b2 (by decide) a1 b1 (by decide) mAS tb12 br12 ?_
  intro z16 muT16 g16 h16 tk16 gs16 le16 tb16 br16 hz16 H16
  replace hl := hl.mono (le16)
  replace hroots := hroots.mono (le16)
  replace hr := hr.mono (le16)
  replace hv := hv.mono (le16)
  replace hlA := Grid.mono hlA (le16)
  replace hxA := hxA.mono (le16)
  replace hxS := hxS.mono (le16)
  replace hlS := RowsI.mono hlS (le16)
  replace hxE := hxE.mono (le16)
  replace hlE := RowsI.mono hlE (le16)
  replace hxY := hxY.mono (le16)
  replace hlY := RowsI.mono hlY (le16)
  replace hxF := hxF.mono (le16)
  replace hlF := RowsI.mono hlF (le16)
  replace hlM := hlM.mono (le16)
  walk_at "M"
  try dsimp only
  refine bin_madd (pre := muD14) (hh := hh) (ww := 1) W H16 (hA'.le (by decide)) hz16 hxE hv hr hq0 hn a2 (by decide) a1 (by decide) tb16 br16 ?_
  intro xT muT17 g17 h17 tk17 gs17 le17 tb17 br17 hxT H17
  replace hl := hl.mono (le17)
  replace hroots := hroots.mono (le17)
  replace hr := hr.mono (le17)
  replace hv := hv.mono (le17)
  replace hlA := Grid.mono hlA (le17)
  replace hxA := hxA.mono (le17)
  replace hxS := hxS.mono (le17)
  replace hlS := RowsI.mono hlS (le17)
  replace hxE := hxE.mono (le17)
  replace hlE := RowsI.mono hlE (le17)
  replace hxY := hxY.mono (le17)
  replace hlY := RowsI.mono hlY (le17)
  replace hxF := hxF.mono (le17)
  replace hlF := RowsI.mono hlF (le17)
  replace hlM := hlM.mono (le17)
  obtain ⟨Tm, hTm⟩ : ∃ T : Nat → Nat → Int, T = fun i k => (sm ww (fun j => nc n (Af i j) (Sf j) k) % q + Ef i k) % q := ⟨_, rfl⟩
  replace hxT : Mat 333 222 g17 xT v r n hh 1 (fun i _ => Tm i) := hxT.ext fun i j k _ _ _ => by rw [hTm]
  walk_at "M"
  try dsimp only
  rename St _ _ _ _ _ _ _ _ _ _ => H17b
  refine ga_T (pre := muD14) W H17b (hA'.le (by decide)) hxA hv a2 b2 a1 b1 tb17 br17 ?_
  intro z18 muT18 g18 h18 tk18 gs18 le18 tb18 br18 hz18 H18
  replace hl := hl.mono (le18)
  replace hroots := hroots.mono (le18)
  replace hr := hr.mono (le18)
  replace hv := hv.mono (le18)
  replace hlA := Grid.mono hlA (le18)
  replace hxA := hxA.mono (le18)
  replace hxS := hxS.mono (le18)
  replace hlS := RowsI.mono hlS (le18)
  replace hxE := hxE.mono (le18)
  replace hlE := RowsI.mono hlE (le18)
  replace hxY := hxY.mono (le18)
  replace hlY := RowsI.mono hlY (le18)
  replace hxF := hxF.mono (le18)
  replace hlF := RowsI.mono hlF (le18)
  replace hlM := hlM.mono (le18)
  replace hxT := hxT.mono (le18)
  walk_at "M"
  try dsimp only
  have mAY : ∀ i t j a c, i < ww → t < hh → j < 1 → a < n → c < n → IntMulOk (Af t i a) ((fun i (_ : Nat) => Yf i) t j c) := fun i t j a c hi ht _ ha hc => (bdA t i a ht hi ha).mul (bdY t c ht hc)
  refine bin_mat (pre := muD14) (hh := ww) (ww := hh) (ll := 1) W H18 (hA'.le (by decide)) hz18 hxY hv hr hq0 hn hn1 b2 a2 (by decide) b1 a1 (by decide) mAY tb18 br18 ?_
  intro z19 muT19 g19 h19 tk19 gs19 le19 tb19 br19 hz19 H19
  replace hl := hl.mono (le19)
  replace hroots := hroots.mono (le19)
  replace hr := hr.mono (le19)
  replace hv := hv.mono (le19)
  replace hlA := Grid.mono hlA (le19)
  replace hxA := hxA.mono (le19)
  replace hxS := hxS.mono (le19)
  replace hlS := RowsI.mono hlS (le19)
  replace hxE := hxE.mono (le19)
  replace hlE := RowsI.mono hlE (le19)
  replace hxY := hxY.mono (le19)
  replace hlY := RowsI.mono hlY (le19)
  replace hxF := hxF.mono (le19)
  replace hlF := RowsI.mono hlF (le19)
  replace hlM := hlM.mono (le19)
  replace hxT := hxT.mono (le19)
  walk_at "M"
  try dsimp only
  refine bin_madd (pre := muD14) (hh := ww) (ww := 1) W H19 (hA'.le (by decide)) hz19 hxF hv hr hq0 hn b2 (by decide) b1 (by decide) tb19 br19 ?_
  intro xU muT20 g20 h20 tk20 gs20 le20 tb20 br20 hxU H20
  replace hl := hl.mono (le20)
  replace hroots := hroots.mono (le20)
  replace hr := hr.mono (le20)
  replace hv := hv.mono (le20)
  replace hlA := Grid.mono hlA (le20)
  replace hxA := hxA.mono (le20)
  replace hxS := hxS.mono (le20)
  replace hlS := RowsI.mono hlS (le20)
  replace hxE := hxE.mono (le20)
  replace hlE := RowsI.mono hlE (le20)
  replace hxY := hxY.mono (le20)
  replace hlY := RowsI.mono hlY (le20)
  replace hxF := hxF.mono (le20)
  replace hlF := RowsI.mono hlF (le20)
  replace hlM := hlM.mono (le20)
  replace hxT := hxT.mono (le20)
  obtain ⟨Um, hUm⟩ : ∃ T : Nat → Nat → Int, T = fun j k => (sm hh (fun i => nc n (Af i j) (Yf i) k) % q + Ff j k) % q := ⟨_, rfl⟩
  replace hxU : Mat 333 222 g20 xU v r n ww 1 (fun i _ => Um i) := hxU.ext fun i j k _ _ _ => by rw [hUm]
  walk_at "M"
  try dsimp only
  rename St _ _ _ _ _ _ _ _ _ _ => H20b
  refine gm_M (f := 330) W H20b hxT (by k_is) (by k_is) (by k_is) (fun _ _ _ _ _ _ _ _ _ => rfl) ?_
  walk_at "M"
  try dsimp only
  have mTY : ∀ t a c, t < hh → a < n → c < n → IntMulOk ((fun i (_ : Nat) => Tm i) t 0 a) ((fun i (_ : Nat) => Yf i) t 0 c) := fun t a c ht _ hc => by
    rw [hTm]
    exact (Bd.mod hq0 hq1m).mul (bdY t c ht hc)
  refine wpAny_call (dot_spec (hh := hh) W H20b.Bg hA' hxT hxY hv hr hq0 hn hn1 a2 a1 mTY tb20 (H20b.muFacts (pre := muD14)) br20 ?_)
  intro z21 muT21 g21 h21 tk21 gs21 ev21 tb21 live21 br21 hz21
  have H21 := H20b.callMu (pre := muD14) ev21 (by rw [tb21.adr, tb20.adr]) live21
  replace hl := hl.mono (ev21.gg)
  replace hroots := hroots.mono (ev21.gg)
  replace hr := hr.mono (ev21.gg)
  replace hv := hv.mono (ev21.gg)
  replace hlA := Grid.mono hlA (ev21.gg)
  replace hxA := hxA.mono (ev21.gg)
  replace hxS := hxS.mono (ev21.gg)
  replace hlS := RowsI.mono hlS (ev21.gg)
  replace hxE := hxE.mono (ev21.gg)
  replace hlE := RowsI.mono hlE (ev21.gg)
  replace hxY := hxY.mono (ev21.gg)
  replace hlY := RowsI.mono hlY (ev21.gg)
  replace hxF := hxF.mono (ev21.gg)
  replace hlF := RowsI.mono hlF (ev21.gg)
  replace hlM := hlM.mono (ev21.gg)
  replace hxT := hxT.mono (ev21.gg)
  replace hxU := hxU.mono (ev21.gg)
  walk_at "M"
  try dsimp only
  obtain ⟨d22, es22, k22, i22⟩ := hr.at
  refine x_icall (H21.Xh W) (i22.mono H21.on) (by k_is) ?_
  walk_at "M"
  try dsimp only
  refine copy_il H21 hlM (lfl hn) ?_
  intro lc22 gc22 hc22 lec22 hlc22 Hc22
  walk_at "M"
  try dsimp only
  refine ⟨⟨Hc22.Xh W, (i22.mono lec22).mono Hc22.on⟩, ?_⟩
  refine rcall (x := .Name "x" ⟨0, 0, 0, 0⟩) (pos := ⟨0, 0, 0, 0⟩) W Hc22 (hA'.le (by decide)) (hr.mono lec22) hlc22 hn (by rw [lf_length]; exact Nat.le_refl _) ?_
  intro f22 gd22 hd22 tkd22 evd22 pf22
  rw [pad_full] at pf22
  have H22 := Hc22.call0 evd22
  replace hl := hl.mono (lec22)
  replace hroots := hroots.mono (lec22)
  replace hr := hr.mono (lec22)
  replace hv := hv.mono (lec22)
  replace hlA := Grid.mono hlA (lec22)
  replace hxA := hxA.mono (lec22)
  replace hxS := hxS.mono (lec22)
  replace hlS := RowsI.mono hlS (lec22)
  replace hxE := hxE.mono (lec22)
  replace hlE := RowsI.mono hlE (lec22)
  replace hxY := hxY.mono (lec22)
  replace hlY := RowsI.mono hlY (lec22)
  replace hxF := hxF.mono (lec22)
  replace hlF := RowsI.mono hlF (lec22)
  replace hlM := hlM.mono (lec22)
  replace hxT := hxT.mono (lec22)
  replace hxU := hxU.mono (lec22)
  replace hz21 := hz21.mono (lec22)
  replace hl := hl.mono (evd22.gg)
  replace hroots := hroots.mono (evd22.gg)
  replace hr := hr.mono (evd22.gg)
  replace hv := hv.mono (evd22.gg)
  replace hlA := Grid.mono hlA (evd22.gg)
  replace hxA := hxA.mono (evd22.gg)
  replace hxS := hxS.mono (evd22.gg)
  replace hlS := RowsI.mono hlS (evd22.gg)
  replace hxE := hxE.mono (evd22.gg)
  replace hlE := RowsI.mono hlE (evd22.gg)
  replace hxY := hxY.mono (evd22.gg)
  replace hlY := RowsI.mono hlY (evd22.gg)
  replace hxF := hxF.mono (evd22.gg)
  replace hlF := RowsI.mono hlF (evd22.gg)
  replace hlM := hlM.mono (evd22.gg)
  replace hxT := hxT.mono (evd22.gg)
  replace hxU := hxU.mono (evd22.gg)
  replace hz21 := hz21.mono (evd22.gg)
  refine bin_add W H22 (hA'.le (by decide)) hz21 pf22 hr hq0 hn ?_
  intro xV g23 h23 tk23 ev23 hxV
  have H23 := H22.call0 ev23
  replace hl := hl.mono (ev23.gg)
  replace hroots := hroots.mono (ev23.gg)
  replace hr := hr.mono (ev23.gg)
  replace hv := hv.mono (ev23.gg)
  replace hlA := Grid.mono hlA (ev23.gg)
  replace hxA := hxA.mono (ev23.gg)
  replace hxS := hxS.mono (ev23.gg)
  replace hlS := RowsI.mono hlS (ev23.gg)
  replace hxE := hxE.mono (ev23.gg)
  replace hlE := RowsI.mono hlE (ev23.gg)
  replace hxY := hxY.mono (ev23.gg)
  replace hlY := RowsI.mono hlY (ev23.gg)
  replace hxF := hxF.mono (ev23.gg)
  replace hlF := RowsI.mono hlF (ev23.gg)
  replace hlM := hlM.mono (ev23.gg)
  replace hxT := hxT.mono (ev23.gg)
  replace hxU := hxU.mono (ev23.gg)
  obtain ⟨Vm, hVm⟩ : ∃ T : Nat → Int, T = fun k => (sm hh (fun i => nc n (Tm i) (Yf i) k) % q + Mf k) % q := ⟨_, rfl⟩
  replace hxV : Poly 222 g23 xV r (lf n Vm) := by rw [hVm]; exact hxV
  walk_at "M"
  try dsimp only
  rename St _ _ _ _ _ _ _ _ _ _ => H23b
  refine gm_M (f := 330) W H23b hxS (by k_is) (by k_is) (by k_is) (fun _ _ _ _ _ _ _ _ _ => rfl) ?_
  walk_at "M"
  try dsimp only
  have mSU : ∀ t a c, t < ww → a < n → c < n → IntMulOk ((fun i (_ : Nat) => Sf i) t 0 a) ((fun i (_ : Nat) => Um i) t 0 c) := fun t a c ht ha _ => by
    rw [hUm]
    exact (bdS t a ht ha).mul (Bd.mod hq0 hq1m)
  refine wpAny_call (dot_spec (hh := ww) W H23b.Bg hA' hxS hxU hv hr hq0 hn hn1 b2 b1 mSU tb21 (H23b.muFacts (pre := muD14)) br21 ?_)
  intro z24 muT24 g24 h24 tk24 gs24 ev24 tb24 live24 br24 hz24
  have H24 := H23b.callMu (pre := muD14) ev24 (by rw [tb24.adr, tb21.adr]) live24
  replace hl := hl.mono (ev24.gg)
  replace hroots := hroots.mono (ev24.gg)
  replace hr := hr.mono (ev24.gg)
  replace hv := hv.mono (ev24.gg)
  replace hlA := Grid.mono hlA (ev24.gg)
  replace hxA := hxA.mono (ev24.gg)
  replace hxS := hxS.mono (ev24.gg)
  replace hlS := RowsI.mono hlS (ev24.gg)
  replace hxE := hxE.mono (ev24.gg)
  replace hlE := RowsI.mono hlE (ev24.gg)
  replace hxY := hxY.mono (ev24.gg)
  replace hlY := RowsI.mono hlY (ev24.gg)
  replace hxF := hxF.mono (ev24.gg)
  replace hlF := RowsI.mono hlF (ev24.gg)
  replace hlM := hlM.mono (ev24.gg)
  replace hxT := hxT.mono (ev24.gg)
  replace hxU := hxU.mono (ev24.gg)
  replace hxV := hxV.mono (ev24.gg)
  walk_at "M"
  try dsimp only
  refine bin_sub W H24 (hA'.le (by decide)) hxV hz24 hr hq0 hn ?_
  intro xW g25 h25 tk25 ev25 hxW
  have H25 := H24.call0 ev25
  replace hl := hl.mono (ev25.gg)
  replace hroots := hroots.mono (ev25.gg)
  replace hr := hr.mono (ev25.gg)
  replace hv := hv.mono (ev25.gg)
  replace hlA := Grid.mono hlA (ev25.gg)
  replace hxA := hxA.mono (ev25.gg)
  replace hxS := hxS.mono (ev25.gg)
  replace hlS := RowsI.mono hlS (ev25.gg)
  replace hxE := hxE.mono (ev25.gg)
  replace hlE := RowsI.mono hlE (ev25.gg)
  replace hxY := hxY.mono (ev25.gg)
  replace hlY := RowsI.mono hlY (ev25.gg)
  replace hxF := hxF.mono (ev25.gg)
  replace hlF := RowsI.mono hlF (ev25.gg)
  replace hlM := hlM.mono (ev25.gg)
  replace hxT := hxT.mono (ev25.gg)
  replace hxU := hxU.mono (ev25.gg)
  replace hxV := hxV.mono (ev25.gg)
  obtain ⟨Wm, hWm⟩ : ∃ T : Nat → Int, T = fun k => (Vm k - sm ww (fun j => nc n (Sf j) (Um j) k) % q) % q := ⟨_, rfl⟩
  replace hxW : Poly 222 g25 xW r (lf n Wm) := by rw [hWm]; exact hxW
  walk_at "M"
  try dsimp only
  rename St _ _ _ _ _ _ _ _ _ _ => H25b
  refine gm_M (f := 248) W H25b hxT (by k_is) (by k_is) (by k_is) (fun _ _ _ _ _ _ _ _ _ => rfl) ?_
  refine x_fn0 W H25b (by k_is) ?_
  refine wpAny_call (dim_spec W H25b.Bg (hA'.le (by decide)) hxT a2 (by decide) a1 (by decide) ?_)
  intro d26 td26 te26 g26 h26 tk26 ev26 hd26
  have H26 := H25b.call0 ev26
  replace hl := hl.mono (ev26.gg)
  replace hroots := hroots.mono (ev26.gg)
  replace hr := hr.mono (ev26.gg)
  replace hv := hv.mono (ev26.gg)
  replace hlA := Grid.mono hlA (ev26.gg)
  replace hxA := hxA.mono (ev26.gg)
  replace hxS := hxS.mono (ev26.gg)
  replace hlS := RowsI.mono hlS (ev26.gg)
  replace hxE := hxE.mono (ev26.gg)
  replace hlE := RowsI.mono hlE (ev26.gg)
  replace hxY := hxY.mono (ev26.gg)
  replace hlY := RowsI.mono hlY (ev26.gg)
  replace hxF := hxF.mono (ev26.gg)
  replace hlF := RowsI.mono hlF (ev26.gg)
  replace hlM := hlM.mono (ev26.gg)
  replace hxT := hxT.mono (ev26.gg)
  replace hxU := hxU.mono (ev26.gg)
  replace hxV := hxV.mono (ev26.gg)
  replace hxW := hxW.mono (ev26.gg)
  walk_at "M"
  try dsimp only
  refine ⟨sz1 rfl, fun a27 h27 ea26 eh26 => ?_⟩
  obtain ⟨g27, le27, ht27, H27⟩ := H26.mkTup ea26 eh26
  replace hl := hl.mono (le27)
  replace hroots := hroots.mono (le27)
  replace hr := hr.mono (le27)
  replace hv := hv.mono (le27)
  replace hlA := Grid.mono hlA (le27)
  replace hxA := hxA.mono (le27)
  replace hxS := hxS.mono (le27)
  replace hlS := RowsI.mono hlS (le27)
  replace hxE := hxE.mono (le27)
  replace hlE := RowsI.mono hlE (le27)
  replace hxY := hxY.mono (le27)
  replace hlY := RowsI.mono hlY (le27)
  replace hxF := hxF.mono (le27)
  replace hlF := RowsI.mono hlF (le27)
  replace hlM := hlM.mono (le27)
  replace hxT := hxT.mono (le27)
  replace hxU := hxU.mono (le27)
  replace hxV := hxV.mono (le27)
  replace hxW := hxW.mono (le27)
  refine ne_tup (r := false) H27 hA' (hd26.mono le27) ht27 (by simp) ?_
  walk_at "M"
  try dsimp only
  refine gm_M (f := 248) W H27 hxU (by k_is) (by k_is) (by k_is) (fun _ _ _ _ _ _ _ _ _ => rfl) ?_
  refine x_fn0 W H27 (by k_is) ?_
  refine wpAny_call (dim_spec W H27.Bg (hA'.le (by decide)) hxU b2 (by decide) b1 (by decide) ?_)
  intro d28 td28 te28 g28 h28 tk28 ev28 hd28
  have H28 := H27.call0 ev28
  replace hl := hl.mono (ev28.gg)
  replace hroots := hroots.mono (ev28.gg)
  replace hr := hr.mono (ev28.gg)
  replace hv := hv.mono (ev28.gg)
  replace hlA := Grid.mono hlA (ev28.gg)
  replace hxA := hxA.mono (ev28.gg)
  replace hxS := hxS.mono (ev28.gg)
  replace hlS := RowsI.mono hlS (ev28.gg)
  replace hxE := hxE.mono (ev28.gg)
  replace hlE := RowsI.mono hlE (ev28.gg)
  replace hxY := hxY.mono (ev28.gg)
  replace hlY := RowsI.mono hlY (ev28.gg)
  replace hxF := hxF.mono (ev28.gg)
  replace hlF := RowsI.mono hlF (ev28.gg)
  replace hlM := hlM.mono (ev28.gg)
  replace hxT := hxT.mono (ev28.gg)
  replace hxU := hxU.mono (ev28.gg)
  replace hxV := hxV.mono (ev28.gg)
  replace hxW := hxW.mono (ev28.gg)
  walk_at "M"
  try dsimp only
  refine ⟨sz1 rfl, fun a29 h29 ea28 eh28 => ?_⟩
  obtain ⟨g29, le29, ht29, H29⟩ := H28.mkTup ea28 eh28
  replace hl := hl.mono (le29)
  replace hroots := hroots.mono (le29)
  replace hr := hr.mono (le29)
  replace hv := hv.mono (le29)
  replace hlA := Grid.mono hlA (le29)
  replace hxA := hxA.mono (le29)
  replace hxS := hxS.mono (le29)
  replace hlS := RowsI.mono hlS (le29)
  replace hxE := hxE.mono (le29)
  replace hlE := RowsI.mono hlE (le29)
  replace hxY := hxY.mono (le29)
  replace hlY := RowsI.mono hlY (le29)
  replace hxF := hxF.mono (le29)
  replace hlF := RowsI.mono hlF (le29)
  replace hlM := hlM.mono (le29)
  replace hxT := hxT.mono (le29)
  replace hxU := hxU.mono (le29)
  replace hxV := hxV.mono (le29)
  replace hxW := hxW.mono (le29)
  refine ne_tup (r := false) H29 hA' (hd28.mono le29) ht29 (by simp) ?_
  walk_at "M"
  try dsimp only
  refine ev_lc (cl := [("t", L + 2)]) (cn := ["t"]) (xc := false) (by walk_at "ok") fun ok => ?_
  walk_at "M"
  try dsimp only
  refine call_range1 H29 ?_
  intro h30 tk30 rr30 t30 u30 v30 hrr30 H30
  refine lc_run ok H30 (Src.range hA'.hh hrr30 (rngN a2) (nat0 _)) (by rw [to_nat0]; exact szl a2) (fun i g₁ mu₁ ys => mu₁ = muD14 ++ muT24 ∧ Refs (fun i x => IntL g₁ x (lf n (Tm i))) ys) ⟨rfl, Refs.nil⟩ ?_ ?_
  · rintro i v C D oD I oI g₁ mu₁ ys h₁ tk E' hi ⟨ti, e⟩ le ha' ⟨rfl, hys⟩ hl3 H3
    rw [Int.zero_add] at e
    subst e
    rw [to_nat0] at hi
    walk_at "M"
    try dsimp only
    refine ⟨sz1 rfl, fun a4 h4 ea eh => ?_⟩
    obtain ⟨g4, le4, ht4, H4⟩ := H3.mkTup ea eh
    refine sub_mat (a := i) (c := 0) W H4 (hA'.le (by decide)) ((hxT.mono le).mono le4) a2 (by decide) ht4 hi (by decide) ?_
    intro z5 g5 h5 tk5 ev5 hz5
    have H5 := H4.call0 ev5
    refine ga_coeffs W H5 hz5 ?_
    intro lz hlz
    refine EltEnd.mk (le4.trans ev5.gg) H5 (by exact ha') ⟨rfl, ?_⟩
    exact (hys.mono fun _ _ q => q.mono (le4.trans ev5.gg)).push hl3 hlz
  rintro g31 mu₁ ys30 D30 oD30 h31 tk31 le31 ha31 ⟨rfl, hys30⟩ hl30 isl30 fD30 H31
  rw [to_nat0] at hl30
  replace hl := hl.mono (le31)
  replace hroots := hroots.mono (le31)
  replace hr := hr.mono (le31)
  replace hv := hv.mono (le31)
  replace hlA := Grid.mono hlA (le31)
  replace hxA := hxA.mono (le31)
  replace hxS := hxS.mono (le31)
  replace hlS := RowsI.mono hlS (le31)
  replace hxE := hxE.mono (le31)
  replace hlE := RowsI.mono hlE (le31)
  replace hxY := hxY.mono (le31)
  replace hlY := RowsI.mono hlY (le31)
  replace hxF := hxF.mono (le31)
  replace hlF := RowsI.mono hlF (le31)
  replace hlM := hlM.mono (le31)
  replace hxT := hxT.mono (le31)
  replace hxU := hxU.mono (le31)
  replace hxV := hxV.mono (le31)
  replace hxW := hxW.mono (le31)
  walk_at "M"
  try dsimp only
  refine ev_lc (cl := [("u", L + 3)]) (cn := ["u"]) (xc := false) (by walk_at "ok") fun ok => ?_
  walk_at "M"
  try dsimp only
  refine call_range1 H31 ?_
  intro h32 tk32 rr32 t32 u32 v32 hrr32 H32
  refine lc_run ok H32 (Src.range hA'.hh hrr32 (rngN b2) (nat0 _)) (by rw [to_nat0]; exact szl b2) (fun i g₁ mu₁ ys => mu₁ = (D30, oD30) :: (muD14 ++ muT24) ∧ Refs (fun i x => IntL g₁ x (lf n (Um i))) ys) ⟨rfl, Refs.nil⟩ ?_ ?_
  · rintro i v C D oD I oI g₁ mu₁ ys h₁ tk E' hi ⟨ti, e⟩ le ha' ⟨rfl, hys⟩ hl3 H3
    rw [Int.zero_add] at e
    subst e
    rw [to_nat0] at hi
    walk_at "M"
    try dsimp only
    refine ⟨sz1 rfl, fun a4 h4 ea eh => ?_⟩
    obtain ⟨g4, le4, ht4, H4⟩ := H3.mkTup ea eh
    refine sub_mat (a := i) (c := 0) W H4 (hA'.le (by decide)) ((hxU.mono le).mono le4) b2 (by decide) ht4 hi (by decide) ?_
    intro z5 g5 h5 tk5 ev5 hz5
    have H5 := H4.call0 ev5
    refine ga_coeffs W H5 hz5 ?_
    intro lz hlz
    refine EltEnd.mk (le4.trans ev5.gg) H5 (by exact ha') ⟨rfl, ?_⟩
    exact (hys.mono fun _ _ q => q.mono (le4.trans ev5.gg)).push hl3 hlz
  rintro g33 mu₁ ys32 D32 oD32 h33 tk33 le33 ha33 ⟨rfl, hys32⟩ hl32 isl32 fD32 H33
  rw [to_nat0] at hl32
  replace hl := hl.mono (le33)
  replace hroots := hroots.mono (le33)
  replace hr := hr.mono (le33)
  replace hv := hv.mono (le33)
  replace hlA := Grid.mono hlA (le33)
  replace hxA := hxA.mono (le33)
  replace hxS := hxS.mono (le33)
  replace hlS := RowsI.mono hlS (le33)
  replace hxE := hxE.mono (le33)
  replace hlE := RowsI.mono hlE (le33)
  replace hxY := hxY.mono (le33)
  replace hlY := RowsI.mono hlY (le33)
  replace hxF := hxF.mono (le33)
  replace hlF := RowsI.mono hlF (le33)
  replace hlM := hlM.mono (le33)
  replace hxT := hxT.mono (le33)
  replace hxU := hxU.mono (le33)
  replace hxV := hxV.mono (le33)
  replace hxW := hxW.mono (le33)
  replace hys30 : Refs (fun i x => IntL g33 x (lf n (Tm i))) ys30 := hys30.mono fun _ _ q => q.mono le33
  refine add_lists H33 (isl30.at_ (H33.mus _ (.tail _ (.head _)))) (isl32.at_ (H33.mus _ (.head _))) (by rw [sizeLine_eq]; exact add_sz hl30 hl32 a2 b2) ?_
  intro a34 h34 f34 _ H34
  walk_at "M"
  try dsimp only
  rename St _ _ _ _ _ _ _ _ _ _ => H34b
  refine ga_coeffs W H34b hxV ?_
  intro lV hlV
  walk_at "M"
  try dsimp only
  refine ga_coeffs W H34b hxW ?_
  intro lW hlW
  walk_at "M"
  try dsimp only
  refine ⟨sz1 rfl, fun a35 h35 ea eh => ?_⟩
  obtain ⟨f35, H35⟩ := H34b.mkL ea eh
  refine add_lists H35 ((IsL.lst _).at_ (H35.mus _ (.tail _ (.head _)))) ((IsL.lst _).at_ (H35.mus _ (.head _))) (by rw [sizeLine_eq]; simp; exact add_sz2 hl30 hl32 a2 b2) ?_
  intro lT h36 f36 _ H36
  obtain ⟨Tf, eT1, eT2, eT3, eT4⟩ : ∃ Tf : Nat → Nat → Int, (∀ i, i < hh → Tf i = Tm i) ∧ (∀ j, j < ww → Tf (hh + j) = Um j) ∧ Tf (hh + ww) = Vm ∧ Tf (hh + ww + 1) = Wm := told_fn Tm Um Vm Wm
  have hrefs : Refs (fun i x => IntL g33 x (lf n (Tf i))) ((ys30 ++ ys32) ++ [.ref lV, .ref lW]) := told_refs hys30 hl30 hys32 hl32 eT1 eT2 (eT3 ▸ hlV) (eT4 ▸ hlW)
  have hTb : ∀ i k, i < hh + ww + 2 → 0 ≤ Tf i k ∧ Tf i k < q := told_bd hq0 eT1 eT2 eT3 eT4 hTm hUm hVm hWm
  obtain ⟨g37, le37, hlT, H37⟩ := H36.freezeLs (n := hh + ww + 2) f36 (IsL.lst _) (by rw [List.length_append, List.length_append, hl30, hl32]; rfl) hrefs
  replace hlT : RowsI g37 lT n (hh + ww + 2) Tf := LsOf.mono hlT (.refl _) fun _ _ q => q.mono le37
  replace H37 := H37.drop.drop.drop.drop
  replace hroots := hroots.mono (le37)
  replace hlA := Grid.mono hlA (le37)
  replace hxA := hxA.mono (le37)
  replace hxS := hxS.mono (le37)
  replace hlS := RowsI.mono hlS (le37)
  replace hxE := hxE.mono (le37)
  replace hlE := RowsI.mono hlE (le37)
  replace hxY := hxY.mono (le37)
  replace hlY := RowsI.mono hlY (le37)
  replace hxF := hxF.mono (le37)
  replace hlF := RowsI.mono hlF (le37)
  replace hlM := hlM.mono (le37)
  walk_at "M"
  try dsimp only
  rename St _ _ _ _ _ _ _ _ _ _ => H37b
  refine loop_for H37b (ls_src hA'.hh hlT H37b.on) (fun i g₁ m₁ mc₁ mu₁ => mu₁ = muD14 ++ muT24 ∧ m₁ "q" = some (.int q tq) ∧ m₁ "n" = some (.int n tn) ∧ m₁ "roots" = some (.ref lr) ∧ m₁ "cells" = some (.ref lA) ∧ m₁ "s" = some (.ref lS) ∧ m₁ "e" = some (.ref lE) ∧ m₁ "y" = some (.ref lY) ∧ m₁ "f" = some (.ref lF) ∧ m₁ "m" = some (.ref D14) ∧ m₁ "a_all" = some (.ref xA) ∧ m₁ "s_all" = some (.ref xS) ∧ m₁ "e_all" = some (.ref xE) ∧ m₁ "y_all" = some (.ref xY) ∧ m₁ "f_all" = some (.ref xF) ∧ m₁ "told" = some (.ref lT))
    ⟨rfl, by with_unfolding_all rfl, by with_unfolding_all rfl, by with_unfolding_all rfl, by with_unfolding_all rfl, by with_unfolding_all rfl, by with_unfolding_all rfl, by with_unfolding_all rfl, by with_unfolding_all rfl, by with_unfolding_all rfl, by with_unfolding_all rfl, by with_unfolding_all rfl, by with_unfolding_all rfl, by with_unfolding_all rfl, by with_unfolding_all rfl, by with_unfolding_all rfl⟩ ?_ ?_
  · rintro i v I oI g₁ m₁ mc₁ mu₁ h₁ tk E' hi ⟨x1, rfl, hx1⟩ le ⟨rfl, e0, e1, e2, e3, e4, e5, e6, e7, e8, e9, e10, e11, e12, e13, e14⟩ H3
    replace hx1 := IntL.mono hx1 le
    walk_at "M"
    refine len_il H3 hx1 (lfl hn) ?_
    rw [lf_length]
    walk_at "M"
    rw [bne_self_eq_false]
    walk_at "M"
    refine min_il hA'.hh H3 hx1 (by rw [lf_length]; omega) ?_
    intro h4 M4 t4 tk4 hM4 H4
    obtain ⟨k4, hk4, eM4⟩ := mem_lf hM4
    have b4 := hTb i k4 hi
    walk_at "M"
    refine if_d (fun z => absurd z (by omega)) fun _ => ?_
    walk_at "M"
    refine max_il hA'.hh H4 hx1 (by rw [lf_length]; omega) ?_
    intro h5 M5 t5 tk5 hM5 H5
    obtain ⟨k5, hk5, eM5⟩ := mem_lf hM5
    have b5 := hTb i k5 hi
    walk_at "M"
    refine if_d (fun z => absurd z (by omega)) fun _ => ?_
    walk_at "M"
    exact LoopEnd.mk (.refl _) H5 ⟨rfl, by with_unfolding_all assumption, by with_unfolding_all assumption, by with_unfolding_all assumption, by with_unfolding_all assumption, by with_unfolding_all assumption, by with_unfolding_all assumption, by with_unfolding_all assumption, by with_unfolding_all assumption, by with_unfolding_all assumption, by with_unfolding_all assumption, by with_unfolding_all assumption, by with_unfolding_all assumption, by with_unfolding_all assumption, by with_unfolding_all assumption, by with_unfolding_all assumption⟩
  rintro g38 m38 mc38 mu₁ h38 tk38 le38 ⟨rfl, e0, e1, e2, e3, e4, e5, e6, e7, e8, e9, e10, e11, e12, e13, e14⟩ H38
  replace hroots := hroots.mono (le38)
  replace hlA := Grid.mono hlA (le38)
  replace hxA := hxA.mono (le38)
  replace hxS := hxS.mono (le38)
  replace hlS := RowsI.mono hlS (le38)
  replace hxE := hxE.mono (le38)
  replace hlE := RowsI.mono hlE (le38)
  replace hxY := hxY.mono (le38)
  replace hlY := RowsI.mono hlY (le38)
  replace hxF := hxF.mono (le38)
  replace hlF := RowsI.mono hlF (le38)
  replace hlM := hlM.mono (le38)
  replace hlT := RowsI.mono hlT (le38)
  walk_at "M"
  try dsimp only
  refine loop_for H38 (hroots.src hA'.hh H38.on) (fun i g₁ m₁ mc₁ mu₁ => mu₁ = muD14 ++ muT24 ∧ m₁ "q" = some (.int q tq) ∧ m₁ "n" = some (.int n tn) ∧ m₁ "roots" = some (.ref lr) ∧ m₁ "cells" = some (.ref lA) ∧ m₁ "s" = some (.ref lS) ∧ m₁ "e" = some (.ref lE) ∧ m₁ "y" = some (.ref lY) ∧ m₁ "f" = some (.ref lF) ∧ m₁ "m" = some (.ref D14) ∧ m₁ "a_all" = some (.ref xA) ∧ m₁ "s_all" = some (.ref xS) ∧ m₁ "e_all" = some (.ref xE) ∧ m₁ "y_all" = some (.ref xY) ∧ m₁ "f_all" = some (.ref xF) ∧ m₁ "told" = some (.ref lT))
    ⟨rfl, by with_unfolding_all assumption, by with_unfolding_all assumption, by with_unfolding_all assumption, by with_unfolding_all assumption, by with_unfolding_all assumption, by with_unfolding_all assumption, by with_unfolding_all assumption, by with_unfolding_all assumption, by with_unfolding_all assumption, by with_unfolding_all assumption, by with_unfolding_all assumption, by with_unfolding_all assumption, by with_unfolding_all assumption, by with_unfolding_all assumption, by with_unfolding_all assumption⟩ ?_ ?_
  · rintro i v I oI g₁ m₁ mc₁ mu₁ h₁ tk E' hi hPv le ⟨rfl, f0, f1, f2, f3, f4, f5, f6, f7, f8, f9, f10, f11, f12, f13, f14⟩ H3
    have hi' : i < rs.length := by rw [← hri.length]; exact hi
    obtain ⟨tr3, er3⟩ := hri.get i (rs[i]) (List.getElem?_eq_getElem hi')
    rw [er3] at hPv
    obtain rfl := Option.some.inj hPv
    have hrt := hroot _ (List.getElem_mem hi')
    obtain ⟨root, eroot⟩ : ∃ root, rs[i] = root := ⟨_, rfl⟩
    rw [eroot] at hrt H3
    replace hroots := hroots.mono (le)
    replace hlA := Grid.mono hlA (le)
    replace hxA := hxA.mono (le)
    replace hxS := hxS.mono (le)
    replace hlS := RowsI.mono hlS (le)
    replace hxE := hxE.mono (le)
    replace hlE := RowsI.mono hlE (le)
    replace hxY := hxY.mono (le)
    replace hlY := RowsI.mono hlY (le)
    replace hxF := hxF.mono (le)
    replace hlF := RowsI.mono hlF (le)
    replace hlM := hlM.mono (le)
    replace hlT := RowsI.mono hlT (le)
    walk_at "M"
    try dsimp only
    refine wpAny_call (values_spec W H3.Bg (hA'.le (by decide)) hlT hn (tot3 a3 b3) hq0 hq1k ?_)
    intro l4 g4 h4 tk4 ev4 hl4
    have H4 := H3.call0 ev4
    walk_at "M"
    try dsimp only
    refine wpAny_call (run_spec W H4.Bg (hA'.le (by decide)) (Grid.mono hlA ev4.gg) (RowsI.mono hlS ev4.gg) (RowsI.mono hlE ev4.gg) (RowsI.mono hlY ev4.gg) (RowsI.mono hlF ev4.gg) (hlM.mono ev4.gg) hn a2 b2 a1 hq0 hq1k ?_)
    intro l5 g5 h5 tk5 ev5 hl5
    have H5 := H4.call0 ev5
    walk_at "M"
    try dsimp only
    refine ne_same H5 hA' (hl4.mono ev5.gg) hl5 (told_eq hrt Af Sf Ef Yf Ff Mf Tf (fun i hi => by rw [eT1 i hi, hTm]) (fun j hj => by rw [eT2 j hj, hUm]) (by rw [eT3, hVm, sm_ext3 eT1]) (by rw [eT4, hWm, eT3, sm_ext4 eT2])) ?_
    walk_at "M"
    exact LoopEnd.mk (ev4.gg.trans ev5.gg) H5 ⟨rfl, by with_unfolding_all assumption, by with_unfolding_all assumption, by with_unfolding_all assumption, by with_unfolding_all assumption, by with_unfolding_all assumption, by with_unfolding_all assumption, by with_unfolding_all assumption, by with_unfolding_all assumption, by with_unfolding_all assumption, by with_unfolding_all assumption, by with_unfolding_all assumption, by with_unfolding_all assumption, by with_unfolding_all assumption, by with_unfolding_all assumption, by with_unfolding_all assumption⟩
  rintro g39 m39 mc39 mu₁ h39 tk39 le39 ⟨rfl, k0, k1, k2, k3, k4, k5, k6, k7, k8, k9, k10, k11, k12, k13, k14⟩ H39
  replace hroots := hroots.mono (le39)
  replace hlA := Grid.mono hlA (le39)
  replace hxA := hxA.mono (le39)
  replace hxS := hxS.mono (le39)
  replace hlS := RowsI.mono hlS (le39)
  replace hxE := hxE.mono (le39)
  replace hlE := RowsI.mono hlE (le39)
  replace hxY := hxY.mono (le39)
  replace hlY := RowsI.mono hlY (le39)
  replace hxF := hxF.mono (le39)
  replace hlF := RowsI.mono hlF (le39)
  replace hlM := hlM.mono (le39)
  replace hlT := RowsI.mono hlT (le39)
  walk_at "M"
  try dsimp only
  refine wpAny_call (kept_spec (hh := hh) (ww := ww) W H39.Bg (hA'.le (by decide)) hxA hlA a2 b2 a1 b1 ?_)
  intro g40 h40 tk40 ev40
  have H40 := H39.call0 ev40
  replace hlA := Grid.mono hlA (ev40.gg)
  replace hxA := hxA.mono (ev40.gg)
  replace hxS := hxS.mono (ev40.gg)
  replace hlS := RowsI.mono hlS (ev40.gg)
  replace hxE := hxE.mono (ev40.gg)
  replace hlE := RowsI.mono hlE (ev40.gg)
  replace hxY := hxY.mono (ev40.gg)
  replace hlY := RowsI.mono hlY (ev40.gg)
  replace hxF := hxF.mono (ev40.gg)
  replace hlF := RowsI.mono hlF (ev40.gg)
  walk_at "M"
  try dsimp only
  refine ev_lc (cl := []) (cn := []) (xc := false) (by walk_at "ok") fun ok => ?_
  walk_at "M"
  try dsimp only
  refine lc_run ok H40 (ls_src hA'.hh hlS H40.on) (szl b2) (fun i g₁ mu₁ ys => mu₁ = muD14 ++ muT24 ∧ Refs (fun i x => LsOf g₁ x 1 fun _ y => IntL g₁ y (lf n (Sf i))) ys) ⟨rfl, Refs.nil⟩ ?_ ?_
  · rintro i v C D oD I oI g₁ mu₁ ys h₁ tk E' hi ⟨x1, rfl, hx1⟩ le ha' ⟨rfl, hys⟩ hl3 H3
    walk_at "M"
    refine ⟨sz1 rfl, fun a4 h4 ea eh => ?_⟩
    obtain ⟨f4, H4⟩ := H3.mkL ea eh
    obtain ⟨g5, le5, hls5, H5⟩ := H4.freezeLs (n := 1) (P := fun _ y => IntL g₁ y (lf n (Sf i))) f4 (IsL.lst _) rfl (Refs.push Refs.nil rfl (hx1.mono le))
    refine EltEnd.mk le5 H5 rfl ⟨rfl, ?_⟩
    refine (hys.mono fun _ _ q => LsOf.mono q le5 fun _ _ q => q.mono le5).push hl3 ?_
    exact LsOf.mono hls5 (.refl _) fun _ _ q => q.mono le5
  rintro g41 mu₁ ys D41 oD41 h41 tk41 le41 ha41 ⟨rfl, hys41⟩ hl41 isl41 fD41 H41
  obtain ⟨g41', le41', hg41, H41'⟩ := H41.freezeLs fD41 isl41 hl41 hys41
  replace hg41 : Grid g41' D41 n ww 1 (fun i _ => Sf i) := LsOf.mono hg41 (.refl _) fun _ _ q => LsOf.mono q le41' fun _ _ q => q.mono le41'
  replace hxS := hxS.mono (le41)
  replace hlS := RowsI.mono hlS (le41)
  replace hxE := hxE.mono (le41)
  replace hlE := RowsI.mono hlE (le41)
  replace hxY := hxY.mono (le41)
  replace hlY := RowsI.mono hlY (le41)
  replace hxF := hxF.mono (le41)
  replace hlF := RowsI.mono hlF (le41)
  replace hxS := hxS.mono (le41')
  replace hlS := RowsI.mono hlS (le41')
  replace hxE := hxE.mono (le41')
  replace hlE := RowsI.mono hlE (le41')
  replace hxY := hxY.mono (le41')
  replace hlY := RowsI.mono hlY (le41')
  replace hxF := hxF.mono (le41')
  replace hlF := RowsI.mono hlF (le41')
  walk_at "M"
  try dsimp only
  refine wpAny_call (kept_spec (hh := ww) (ww := 1) W H41'.Bg (hA'.le (by decide)) hxS hg41 b2 (by decide) b1 (by decide) ?_)
  intro g42 h42 tk42 ev42
  have H42 := H41'.call0 ev42
  replace hxS := hxS.mono (ev42.gg)
  replace hlS := RowsI.mono hlS (ev42.gg)
  replace hxE := hxE.mono (ev42.gg)
  replace hlE := RowsI.mono hlE (ev42.gg)
  replace hxY := hxY.mono (ev42.gg)
  replace hlY := RowsI.mono hlY (ev42.gg)
  replace hxF := hxF.mono (ev42.gg)
  replace hlF := RowsI.mono hlF (ev42.gg)
  walk_at "M"
  try dsimp only
  refine ev_lc (cl := []) (cn := []) (xc := false) (by walk_at "ok") fun ok => ?_
  walk_at "M"
  try dsimp only
  refine lc_run ok H42 (ls_src hA'.hh hlE H42.on) (szl a2) (fun i g₁ mu₁ ys => mu₁ = muD14 ++ muT24 ∧ Refs (fun i x => LsOf g₁ x 1 fun _ y => IntL g₁ y (lf n (Ef i))) ys) ⟨rfl, Refs.nil⟩ ?_ ?_
  · rintro i v C D oD I oI g₁ mu₁ ys h₁ tk E' hi ⟨x1, rfl, hx1⟩ le ha' ⟨rfl, hys⟩ hl3 H3
    walk_at "M"
    refine ⟨sz1 rfl, fun a4 h4 ea eh => ?_⟩
    obtain ⟨f4, H4⟩ := H3.mkL ea eh
    obtain ⟨g5, le5, hls5, H5⟩ := H4.freezeLs (n := 1) (P := fun _ y => IntL g₁ y (lf n (Ef i))) f4 (IsL.lst _) rfl (Refs.push Refs.nil rfl (hx1.mono le))
    refine EltEnd.mk le5 H5 rfl ⟨rfl, ?_⟩
    refine (hys.mono fun _ _ q => LsOf.mono q le5 fun _ _ q => q.mono le5).push hl3 ?_
    exact LsOf.mono hls5 (.refl _) fun _ _ q => q.mono le5
  rintro g43 mu₁ ys D43 oD43 h43 tk43 le43 ha43 ⟨rfl, hys43⟩ hl43 isl43 fD43 H43
  obtain ⟨g43', le43', hg43, H43'⟩ := H43.freezeLs fD43 isl43 hl43 hys43
  replace hg43 : Grid g43' D43 n hh 1 (fun i _ => Ef i) := LsOf.mono hg43 (.refl _) fun _ _ q => LsOf.mono q le43' fun _ _ q => q.mono le43'
  replace hxS := hxS.mono (le43)
  replace hlS := RowsI.mono hlS (le43)
  replace hxE := hxE.mono (le43)
  replace hlE := RowsI.mono hlE (le43)
  replace hxY := hxY.mono (le43)
  replace hlY := RowsI.mono hlY (le43)
  replace hxF := hxF.mono (le43)
  replace hlF := RowsI.mono hlF (le43)
  replace hxS := hxS.mono (le43')
  replace hlS := RowsI.mono hlS (le43')
  replace hxE := hxE.mono (le43')
  replace hlE := RowsI.mono hlE (le43')
  replace hxY := hxY.mono (le43')
  replace hlY := RowsI.mono hlY (le43')
  replace hxF := hxF.mono (le43')
  replace hlF := RowsI.mono hlF (le43')
  walk_at "M"
  try dsimp only
  refine wpAny_call (kept_spec (hh := hh) (ww := 1) W H43'.Bg (hA'.le (by decide)) hxE hg43 a2 (by decide) a1 (by decide) ?_)
  intro g44 h44 tk44 ev44
  have H44 := H43'.call0 ev44
  replace hxS := hxS.mono (ev44.gg)
  replace hlS := RowsI.mono hlS (ev44.gg)
  replace hxE := hxE.mono (ev44.gg)
  replace hlE := RowsI.mono hlE (ev44.gg)
  replace hxY := hxY.mono (ev44.gg)
  replace hlY := RowsI.mono hlY (ev44.gg)
  replace hxF := hxF.mono (ev44.gg)
  replace hlF := RowsI.mono hlF (ev44.gg)
  walk_at "M"
  try dsimp only
  refine PyProof.Rows.BoolOp_and ?_
  walk_at "M"
  try dsimp only
  refine ev_lc (cl := []) (cn := []) (xc := false) (by walk_at "ok") fun ok => ?_
  walk_at "M"
  try dsimp only
  refine lc_run ok H44 (ls_src hA'.hh hlY H44.on) (szl a2) (fun i g₁ mu₁ ys => mu₁ = muD14 ++ muT24 ∧ Refs (fun i x => LsOf g₁ x 1 fun _ y => IntL g₁ y (lf n (Yf i))) ys) ⟨rfl, Refs.nil⟩ ?_ ?_
  · rintro i v C D oD I oI g₁ mu₁ ys h₁ tk E' hi ⟨x1, rfl, hx1⟩ le ha' ⟨rfl, hys⟩ hl3 H3
    walk_at "M"
    refine ⟨sz1 rfl, fun a4 h4 ea eh => ?_⟩
    obtain ⟨f4, H4⟩ := H3.mkL ea eh
    obtain ⟨g5, le5, hls5, H5⟩ := H4.freezeLs (n := 1) (P := fun _ y => IntL g₁ y (lf n (Yf i))) f4 (IsL.lst _) rfl (Refs.push Refs.nil rfl (hx1.mono le))
    refine EltEnd.mk le5 H5 rfl ⟨rfl, ?_⟩
    refine (hys.mono fun _ _ q => LsOf.mono q le5 fun _ _ q => q.mono le5).push hl3 ?_
    exact LsOf.mono hls5 (.refl _) fun _ _ q => q.mono le5
  rintro g45 mu₁ ys D45 oD45 h45 tk45 le45 ha45 ⟨rfl, hys45⟩ hl45 isl45 fD45 H45
  obtain ⟨g45', le45', hg45, H45'⟩ := H45.freezeLs fD45 isl45 hl45 hys45
  replace hg45 : Grid g45' D45 n hh 1 (fun i _ => Yf i) := LsOf.mono hg45 (.refl _) fun _ _ q => LsOf.mono q le45' fun _ _ q => q.mono le45'
  replace hxS := hxS.mono (le45)
  replace hlS := RowsI.mono hlS (le45)
  replace hxE := hxE.mono (le45)
  replace hlE := RowsI.mono hlE (le45)
  replace hxY := hxY.mono (le45)
  replace hlY := RowsI.mono hlY (le45)
  replace hxF := hxF.mono (le45)
  replace hlF := RowsI.mono hlF (le45)
  replace hxS := hxS.mono (le45')
  replace hlS := RowsI.mono hlS (le45')
  replace hxE := hxE.mono (le45')
  replace hlE := RowsI.mono hlE (le45')
  replace hxY := hxY.mono (le45')
  replace hlY := RowsI.mono hlY (le45')
  replace hxF := hxF.mono (le45')
  replace hlF := RowsI.mono hlF (le45')
  walk_at "M"
  try dsimp only
  refine wpAny_call (kept_spec (hh := hh) (ww := 1) W H45'.Bg (hA'.le (by decide)) hxY hg45 a2 (by decide) a1 (by decide) ?_)
  intro g46 h46 tk46 ev46
  have H46 := H45'.call0 ev46
  replace hxS := hxS.mono (ev46.gg)
  replace hlS := RowsI.mono hlS (ev46.gg)
  replace hxE := hxE.mono (ev46.gg)
  replace hlE := RowsI.mono hlE (ev46.gg)
  replace hxY := hxY.mono (ev46.gg)
  replace hlY := RowsI.mono hlY (ev46.gg)
  replace hxF := hxF.mono (ev46.gg)
  replace hlF := RowsI.mono hlF (ev46.gg)
  walk_at "M"
  try dsimp only
  refine PyProof.Rows.BoolOp_one ?_
  walk_at "M"
  try dsimp only
  refine ev_lc (cl := []) (cn := []) (xc := false) (by walk_at "ok") fun ok => ?_
  walk_at "M"
  try dsimp only
  refine lc_run ok H46 (ls_src hA'.hh hlF H46.on) (szl b2) (fun i g₁ mu₁ ys => mu₁ = muD14 ++ muT24 ∧ Refs (fun i x => LsOf g₁ x 1 fun _ y => IntL g₁ y (lf n (Ff i))) ys) ⟨rfl, Refs.nil⟩ ?_ ?_
  · rintro i v C D oD I oI g₁ mu₁ ys h₁ tk E' hi ⟨x1, rfl, hx1⟩ le ha' ⟨rfl, hys⟩ hl3 H3
    walk_at "M"
    refine ⟨sz1 rfl, fun a4 h4 ea eh => ?_⟩
    obtain ⟨f4, H4⟩ := H3.mkL ea eh
    obtain ⟨g5, le5, hls5, H5⟩ := H4.freezeLs (n := 1) (P := fun _ y => IntL g₁ y (lf n (Ff i))) f4 (IsL.lst _) rfl (Refs.push Refs.nil rfl (hx1.mono le))
    refine EltEnd.mk le5 H5 rfl ⟨rfl, ?_⟩
    refine (hys.mono fun _ _ q => LsOf.mono q le5 fun _ _ q => q.mono le5).push hl3 ?_
    exact LsOf.mono hls5 (.refl _) fun _ _ q => q.mono le5
  rintro g47 mu₁ ys D47 oD47 h47 tk47 le47 ha47 ⟨rfl, hys47⟩ hl47 isl47 fD47 H47
  obtain ⟨g47', le47', hg47, H47'⟩ := H47.freezeLs fD47 isl47 hl47 hys47
  replace hg47 : Grid g47' D47 n ww 1 (fun i _ => Ff i) := LsOf.mono hg47 (.refl _) fun _ _ q => LsOf.mono q le47' fun _ _ q => q.mono le47'
  replace hxS := hxS.mono (le47)
  replace hlS := RowsI.mono hlS (le47)
  replace hxE := hxE.mono (le47)
  replace hlE := RowsI.mono hlE (le47)
  replace hxY := hxY.mono (le47)
  replace hlY := RowsI.mono hlY (le47)
  replace hxF := hxF.mono (le47)
  replace hlF := RowsI.mono hlF (le47)
  replace hxS := hxS.mono (le47')
  replace hlS := RowsI.mono hlS (le47')
  replace hxE := hxE.mono (le47')
  replace hlE := RowsI.mono hlE (le47')
  replace hxY := hxY.mono (le47')
  replace hlY := RowsI.mono hlY (le47')
  replace hxF := hxF.mono (le47')
  replace hlF := RowsI.mono hlF (le47')
  walk_at "M"
  try dsimp only
  refine wpAny_call (kept_spec (hh := ww) (ww := 1) W H47'.Bg (hA'.le (by decide)) hxF hg47 b2 (by decide) b1 (by decide) ?_)
  intro g48 h48 tk48 ev48
  have H48 := H47'.call0 ev48
  replace hxS := hxS.mono (ev48.gg)
  replace hlS := RowsI.mono hlS (ev48.gg)
  replace hxE := hxE.mono (ev48.gg)
  replace hlE := RowsI.mono hlE (ev48.gg)
  replace hxY := hxY.mono (ev48.gg)
  replace hlY := RowsI.mono hlY (ev48.gg)
  replace hxF := hxF.mono (ev48.gg)
  replace hlF := RowsI.mono hlF (ev48.gg)
  walk_at "M"
  try dsimp only
  have evE := H48.ev
  exact ret _ _ _ _ _ evE tb24 (fun q hq => H48.mus q (List.mem_append_right _ hq)) br24
end
end Mine
set_option maxHeartbeats 4000000 in
theorem PySem.Challenge.cw_yb0001_04_holds : PySem.Challenge.rw_yb0001_04.Holds :=
  Mine.hd (by
    k_fill
    intro w s₀ s₁ mg mb G Y fa o pm cd doc dV kV ho hd hcd hD hmg hg args vals as hpre hlay hrd hwl hlo
    have KX := kIn_of Y.1
    have KT := Y.2
    refine Ground.open G ?_
    intro T B D TE TW
    have efa : (some (Value.ref fa) : Option Value) = some (.ref 447) := Eq.trans hmg.symm (mg_of KX T.g (by k_is))
    obtain rfl := Value.ref.inj (Option.some.inj efa)
    wrow_args hpre hlay hrd hwl hlo
    refine enter_call ?_
    w_top on
    clear ho hd hcd hD hmg
    rename IntsAre _ _ => hI
    rename PyData.layable0 (PyData.list (List.map PyData.int _)) = true => hLay
    rename Heap.IsList _ _ _ => hLL
    obtain ⟨oL, eL, cL, kL, dL⟩ := hLL
    obtain ⟨bm, ob, hmod⟩ := bmod_of_top T
    refine Mine.law_spec (mean := ExcName.means s₀.heap) (mu := [(362, tabObj #[]), (320, tabObj #[])]) (b := hideAll s₁.heap [362, 320]) (g := (hideAll s₁.heap [362, 320]).get?)
      ⟨Mine.hide_in KX fun P hP => ?k1, Mine.hide_read KT (topRead_of T), bm, ob, Mine.hide_mod KT hmod⟩ ⟨fun _ _ e => e, Nat.le_of_eq (hideAll_size _ _), fun _ _ e => of_hideAll _ e⟩ Mine.room_caller
      ⟨_, ⟨_, oL, kL, Mine.hide_get KT eL (fun q => by rw [q] at cL; cases cL), cL, dL, hI⟩, by omega, fun x hx => PyData.bits_item_of_ints hLay hx⟩ ⟨#[], #[], rfl, trivial, trivial⟩ ⟨fun q hq => ?k2, by decide⟩ (AllBare.of_eq hg) ?_
    case k1 =>
      rcases List.mem_cons.mp hP with rfl | hP
      · kernel_rfl
      · rw [List.mem_singleton.mp hP]; kernel_rfl
    case k2 =>
      rcases List.mem_cons.mp hq with rfl | hq
      · exact ⟨KT _ (.head _), hideAll_none _ (.head _)⟩
      · rw [List.mem_singleton.mp hq]; exact ⟨KT _ (.tail _ (.head _)), hideAll_none _ (.tail _ (.head _))⟩
    intro mu' g' h' tk gs ev tb live hb
    refine Mine.good_true (fun _ => rfl) (by with_unfolding_all rfl) (Mine.old_tabs KT ?k3 ev ?k4) rfl hb
    case k3 =>
      intro P hP
      rcases List.mem_cons.mp hP with rfl | hP
      · exact Mine.code_tab (c := 366) KX (by kernel_rfl)
      · rw [List.mem_singleton.mp hP]; exact Mine.code_tab (c := 322) KX (by kernel_rfl)
    case k4 =>
      obtain ⟨p, q, rfl, _, _⟩ := tb
      intro P hP
      rcases List.mem_cons.mp hP with rfl | hP
      · exact ⟨p, live (_, _) (.head _)⟩
      · rw [List.mem_singleton.mp hP]; exact ⟨q, live (_, _) (.tail _ (.head _))⟩)
