import PyProof.Rows.All
import Wide.All
import OpenK.AllK
import Wide.FinOn
import PySem.Challenge.RW_yb0001_03
open PySem PySem.W PyProof.Rows PySem.Calls
set_option Elab.async false
set_option linter.unusedVariables false
set_option maxRecDepth 100000
namespace Mine
def topRunS (stp : SharedT → Thread → Option (SharedT × Thread)) (ok : Thread → Bool) : Nat → SharedT → Thread → Option SharedT
  | 0, _, _ => none
  | n + 1, s, t => match through t with
    | true => some s
    | false => match ok t with
      | false => none
      | true => match stp s t with
        | some (s', t') => topRunS stp ok n s' t'
        | none => none
theorem topRun_of {tb : String → Option Builtin} {p : Program} {w : World} {n₀ : Nat} {ann : Option Value} : ∀ {n : Nat} {s s' : SharedT} {t : Thread}, topRunS (stepT (denote tb) p w) (stepOk n₀ ann) n s t = some s' → topRun tb p w n₀ ann n s.abs t = some s'.abs
  | 0, _, _, _, h => by cases h
  | n + 1, s, s', t, h => by
    unfold topRunS at h
    unfold topRun
    cases he : through t with
    | true => rw [he] at h; cases h; rfl
    | false =>
      rw [he] at h
      cases hk : stepOk n₀ ann t with
      | false => rw [hk] at h; cases h
      | true =>
        rw [hk] at h
        cases hs : stepT (denote tb) p w s t with
        | none => rw [hs] at h; cases h
        | some r => obtain ⟨s₂, t₂⟩ := r; rw [hs] at h; dsimp only; rw [stepT_spec hs]; exact topRun_of h
noncomputable def bootT (P : Params) : BT :=
  .node (boot_o_0 P) (.node (boot_o_1 P) (.node (boot_o_3 P) (.node (boot_o_7 P) .nil .nil) .nil) (.node (boot_o_5 P) (.node (boot_o_9 P) .nil .nil) .nil))
    (.node (boot_o_2 P) (.node (boot_o_4 P) (.node (boot_o_8 P) .nil .nil) .nil) (.node (boot_o_6 P) (.node (boot_o_10 P) .nil .nil) .nil))
noncomputable abbrev boot0 (w : World) (os : OsState) : SharedT := ⟨bootT w.params, 11, {}, Array.mk [], boot_drawn, boot_toks, os⟩
theorem leftO_tree {p q : Program} {loose : List Str} {Xt : Shared → Bool} {α : Type} {Yf : Shared → α} {Ya : World → α} {N : Nat} {m₀ : Nat} {ann : Option Value}
    (e : opening p = plainProg p.main.scope.names) (hN : Nat.ble 600 N = true) (f : ∀ s, fenceModules? p s = some s)
    (size : ∀ w : World, ((boot_heap w.params).isNs mainGlobals, (boot_heap w.params).objs.size, (boot_heap w.params).nsMap mainGlobals "__annotations__") = (true, m₀, ann))
    (run : ∀ (w : World) (os : OsState), (topRunS (stepT (denote treeTable) p w) (stepOk m₀ ann) N (boot0 w os) (topStub p)).map (fun s => (staticsOk (importedModules p.main.body) (boot_heap w.params) s.abs.heap && namesBound p s.abs.heap && gensDone s.abs && laidKept (boot_heap w.params) s.abs.heap,
        openSeen q loose (importedModules p.main.body) Xt true s.abs)) = some (true, openGood q loose))
    (run' : ∀ (w : World) (os : OsState), (topRunS (stepT (denote treeTable) p w) (stepOk m₀ ann) N (boot0 w os) (topStub p)).map (fun s => Yf s.abs) = some (Ya w)) : LeftO p q loose Xt Yf Ya N := fun w => by
  obtain ⟨⟨h, gs, d, k, os⟩, e1, e'⟩ := Option.map_eq_some_iff.mp (boot_open e hN f w)
  obtain ⟨rfl, rfl, rfl, rfl⟩ : h = boot_heap w.params ∧ gs = Array.mk [] ∧ d = boot_drawn ∧ k = boot_toks := by simpa using e'
  obtain ⟨z1, z2, z3⟩ : _ ∧ _ ∧ _ := by simpa only [Prod.mk.injEq] using size w
  obtain ⟨s, hs, l⟩ := Option.map_eq_some_iff.mp (run w os)
  obtain ⟨l1, l2⟩ : _ ∧ _ := by simpa only [Prod.mk.injEq] using l
  obtain ⟨s', hs', l3⟩ := Option.map_eq_some_iff.mp (run' w os)
  obtain rfl : s = s' := Option.some.inj (hs.symm.trans hs')
  have r := topRun_of hs
  have t : topFrom treeTable p w N ⟨boot_heap w.params, Array.mk [], boot_drawn, boot_toks, os⟩ = some s.abs := by
    unfold topFrom
    dsimp only
    rw [z1, z2, z3]
    rw [show (⟨boot_heap w.params, Array.mk [], boot_drawn, boot_toks, os⟩ : Shared) = (boot0 w os).abs from rfl, r]
    show (match staticsOk (importedModules p.main.body) (boot_heap w.params) s.abs.heap && namesBound p s.abs.heap && gensDone s.abs && laidKept (boot_heap w.params) s.abs.heap with | true => some s.abs | false => none) = _
    rw [l1]
  unfold openEnds
  rw [e1]
  show (topFrom treeTable p w N _).map _ = _
  rw [t]
  exact congrArg some (Prod.ext l2 l3)
end Mine
namespace Mine
def tabHook (H : Hook) (ts : List Addr) : Hook where
  α := H.α × List (Option Obj)
  obs := fun s => (H.obs s, ts.map s.heap.get?)
  val := fun w => (H.val w, ts.map fun _ => some (tabObj #[]))
  says := fun w h => H.says w h ∧ ∀ P ∈ ts, h.get? P = some (tabObj #[])
  of := fun w s x => ⟨H.of w s (Prod.mk.inj x).1, List.map_inj_left.mp (Prod.mk.inj x).2⟩
  keeps := fun w h h' x k => ⟨H.keeps w h h' x.1 k, fun P hP => k _ _ (x.2 P hP)⟩
def pickAt {α : Type} (l : List α) (is : List Nat) : List α := is.filterMap fun i => l[i]?
def view : Program := { PySem.Challenge.pw_yb0001_03 with main := { PySem.Challenge.pw_yb0001_03.main with body := pickAt PySem.Challenge.pw_yb0001_03.main.body [0, 2, 3, 5, 6, 8, 9, 10, 11, 12, 13, 14, 15, 16, 17, 18, 19] } }
theorem run_sound (w : World) (os : OsState) : (topRunS (stepT (denote treeTable) PySem.Challenge.pw_yb0001_03 w) (stepOk 11 (some (.ref 6))) 5480 (boot0 w os) (topStub PySem.Challenge.pw_yb0001_03)).map (fun s => (staticsOk (importedModules PySem.Challenge.pw_yb0001_03.main.body) (boot_heap w.params) s.abs.heap && namesBound PySem.Challenge.pw_yb0001_03 s.abs.heap && gensDone s.abs && laidKept (boot_heap w.params) s.abs.heap,
    openSeen view [PySem.Str.ofString "GenericMatrix"] (importedModules PySem.Challenge.pw_yb0001_03.main.body) (fun s => xlAt view [] s && recOk (RowW.records (OpenRow.toRowW PySem.Challenge.rw_yb0001_03.row)) s) true s.abs)) = some (true, openGood view [PySem.Str.ofString "GenericMatrix"]) := by
  unfold view
  rewrite [PySem.W.Fast.te10156331382660048174, PySem.W.Fast.te11892475500146522536, PySem.W.Fast.te6613529449190102663, PySem.W.Fast.te14364793385576792824, PySem.W.Fast.te4187177175401517315, PySem.W.Fast.te5923862056798008813]
  (try rewrite [PySem.W.Fast.te17618662265296758729])
  kernel_rfl
end Mine
local macro_rules | `(tactic| o_head $H) => `(tactic| (
  refine holds_open (q := Mine.view) (loose := [PySem.Str.ofString "GenericMatrix"]) (Xt := fun s => xlAt Mine.view [] s && recOk (RowW.records (OpenRow.toRowW PySem.Challenge.rw_yb0001_03.row)) s) (XP := XL Mine.view []) (Yf := Hook.obs (Mine.tabHook $H [362, 320])) (Ya := Hook.val (Mine.tabHook $H [362, 320])) (YP := Hook.says (Mine.tabHook $H [362, 320])) (N := 5480) ?hl (Hook.of (Mine.tabHook $H [362, 320])) (Hook.keeps (Mine.tabHook $H [362, 320])) (fun s e => xl_of s (Bool.and_eq_true_iff.mp e).1) XL.keeps (by rfl) (by rfl) (by rfl) (fun s e => recFacts_of (Bool.and_eq_true_iff.mp e).2) (by rfl) (by first | assumption | decide +kernel) (by decide +kernel) ⟨rfl, rfl, rfl, rfl, rfl, by decide +kernel⟩ ?hw ?hc
  (case hl => exact Mine.leftO_tree (m₀ := 11) (ann := some (.ref 6)) (by rfl) (by decide +kernel) (fun _ => by rfl) (fun w => by kernel_rfl) Mine.run_sound (fun w os => by rewrite [PySem.W.Fast.te10156331382660048174, PySem.W.Fast.te11892475500146522536, PySem.W.Fast.te6613529449190102663, PySem.W.Fast.te14364793385576792824]; (try rewrite [PySem.W.Fast.te17618662265296758729]); kernel_rfl))))
namespace Mine
set_option maxHeartbeats 0 in
open_top hd for PySem.Challenge.rw_yb0001_03
end Mine
namespace Mine
theorem rm_done {n i : Nat} (h : n - i = 0) (hi : i ≤ n) : i = n := Nat.le_antisymm hi (Nat.sub_eq_zero_iff_le.mp h)
theorem rm_lt {n i r : Nat} (h : n - i = r + 1) : i < n := Nat.lt_of_sub_eq_succ h
theorem rm_succ {n i : Nat} (h : i < n) : n - i = n - (i + 1) + 1 := by omega
theorem rm_next {n i r : Nat} (h : n - i = r + 1) : n - (i + 1) = r := by rw [← Nat.sub_sub, h]; rfl

/-- a frozen part: what stands for good -/
abbrev FM := Addr → Option Obj
def FM.put (g : FM) (a : Addr) (o : Obj) : FM := fun b => if b = a then some o else g b
def FM.le (g g' : FM) : Prop := ∀ a o, g a = some o → g' a = some o
def FM.on (g : FM) (h : Heap) : Prop := ∀ a o, g a = some o → h.get? a = some o
theorem FM.le.refl (g : FM) : g.le g := fun _ _ e => e
theorem FM.le.trans {g g' g'' : FM} (x : g.le g') (y : g'.le g'') : g.le g'' := fun a o e => y a o (x a o e)
theorem FM.put_self (g : FM) (a : Addr) (o : Obj) : g.put a o a = some o := if_pos rfl
theorem FM.put_le {g : FM} {a : Addr} {o : Obj} (n : g a = none) : g.le (g.put a o) := fun b p e => by
  unfold FM.put
  by_cases q : b = a
  · subst q; rw [n] at e; cases e
  · rw [if_neg q]; exact e

/-- what a run leaves of (frozen part, heap): all is kept but what stands at S -/
structure Ev (S : List Addr) (g : FM) (h : Heap) (g' : FM) (h' : Heap) : Prop where
  gg : g.le g'
  new : ∀ a o, g' a = some o → g a = some o ∨ h.get? a = none
  keep : ∀ a o, a ∉ S → h.get? a = some o → h'.get? a = some o
  live : ∀ a o, h.get? a = some o → ∃ o', h'.get? a = some o'
  on : g'.on h'

theorem Ev.refl {S : List Addr} {g : FM} {h : Heap} (x : g.on h) : Ev S g h g h := ⟨.refl g, fun _ _ e => .inl e, fun _ _ _ e => e, fun _ o e => ⟨o, e⟩, x⟩
theorem Ev.mono {S S' : List Addr} {g g' : FM} {h h' : Heap} (x : Ev S g h g' h') (hs : ∀ a ∈ S, a ∈ S') : Ev S' g h g' h' :=
  ⟨x.gg, x.new, fun a o n e => x.keep a o (fun q => n (hs a q)) e, x.live, x.on⟩
theorem Ev.keeps {S : List Addr} {g : FM} {h h' : Heap} (x : g.on h) (k : ∀ a o, h.get? a = some o → h'.get? a = some o) : Ev S g h g h' :=
  ⟨.refl g, fun _ _ e => .inl e, fun a o _ e => k a o e, fun a o e => ⟨o, k a o e⟩, fun a o e => k a o (x a o e)⟩

def owns (env : Env) (mu : List (Addr × Obj)) : List Addr := env.locals :: (env.cells.map (·.2) ++ mu.map (·.1))
theorem owns_L {env : Env} {mu : List (Addr × Obj)} : env.locals ∈ owns env mu := .head _
theorem owns_mu {env : Env} {mu : List (Addr × Obj)} {p : Addr × Obj} (h : p ∈ mu) : p.1 ∈ owns env mu :=
  .tail _ (List.mem_append_right _ (List.mem_map_of_mem h))

/-- the state within a frame -/
structure St (b : Heap) (S : List Addr) (g0 : FM) (h0 : Heap) (env : Env) (g : FM) (m mc : Str → Option Value) (mu : List (Addr × Obj)) (h : Heap) : Prop where
  ns : h.Ns env.locals m
  cell : ∀ x c, (x, c) ∈ env.cells → h.IsCell c (mc x)
  bg : ∀ a o, b.get? a = some o → g a = some o
  lo : b.objs.size ≤ env.locals
  ev : Ev S g0 h0 g h
  mus : ∀ p ∈ mu, h.get? p.1 = some p.2
  nd : (owns env mu).Nodup
  nn : (env.cells.map (·.1)).Nodup
  own : ∀ a ∈ owns env mu, g a = none ∧ (h0.get? a = none ∨ a ∈ S)

section
variable {b : Heap} {S : List Addr} {g0 : FM} {h0 : Heap} {env : Env} {g g' : FM} {m mc m' mc' : Str → Option Value} {mu mu' : List (Addr × Obj)} {h h' : Heap}

theorem St.on (H : St b S g0 h0 env g m mc mu h) : g.on h := H.ev.on
theorem St.base (H : St b S g0 h0 env g m mc mu h) : ∀ a o, b.get? a = some o → h.get? a = some o := fun a o e => H.on a o (H.bg a o e)

theorem St.liveO (H : St b S g0 h0 env g m mc mu h) {a : Addr} (ha : a ∈ owns env mu) : ∃ o, h.get? a = some o := by
  rcases List.mem_cons.mp ha with rfl | ha
  · obtain ⟨o, _, _, e, _⟩ := H.ns; exact ⟨o, e⟩
  · rcases List.mem_append.mp ha with ha | ha
    · obtain ⟨⟨x, c⟩, hc, rfl⟩ := List.mem_map.mp ha
      obtain ⟨o, e, _⟩ := H.cell x c hc; exact ⟨o, e⟩
    · obtain ⟨p, hp, rfl⟩ := List.mem_map.mp ha
      exact ⟨_, H.mus p hp⟩

theorem St.move (H : St b S g0 h0 env g m mc mu h) (e : Ev (owns env mu) g h g' h') (ns : h'.Ns env.locals m') (cell : ∀ x c, (x, c) ∈ env.cells → h'.IsCell c (mc' x))
    (mus : ∀ p ∈ mu', h'.get? p.1 = some p.2) (ad : mu'.map (·.1) = mu.map (·.1)) : St b S g0 h0 env g' m' mc' mu' h' := by
  have ow : owns env mu' = owns env mu := by unfold owns; rw [ad]
  refine ⟨ns, cell, fun a o q => e.gg a o (H.bg a o q), H.lo, ⟨H.ev.gg.trans e.gg, fun a o q => ?_, fun a o n q => ?_, fun a o q => ?_, e.on⟩, mus, ow ▸ H.nd, H.nn, fun a ha => ?_⟩
  · rcases e.new a o q with q | q
    · exact H.ev.new a o q
    · cases r : h0.get? a with
      | none => exact .inr rfl
      | some o' => obtain ⟨o'', r'⟩ := H.ev.live a o' r; rw [q] at r'; cases r'
  · refine e.keep a o (fun ha => ?_) (H.ev.keep a o n q)
    rcases (H.own a ha).2 with r | r
    · rw [q] at r; cases r
    · exact n r
  · obtain ⟨o', q'⟩ := H.ev.live a o q; exact e.live a o' q'
  · rw [ow] at ha
    refine ⟨?_, (H.own a ha).2⟩
    cases q : g' a with
    | none => rfl
    | some o =>
      rcases e.new a o q with q | q
      · rw [(H.own a ha).1] at q; cases q
      · obtain ⟨o', q'⟩ := H.liveO ha; rw [q] at q'; cases q'

/-- the base stands in the frozen part -/
structure Bg (b : Heap) (g : FM) (h : Heap) : Prop where
  bg : ∀ a o, b.get? a = some o → g a = some o
  lo : b.objs.size ≤ h.objs.size
  on : g.on h
theorem St.Bg (H : St b S g0 h0 env g m mc mu h) : Mine.Bg b g h :=
  ⟨H.bg, Nat.le_trans H.lo (Nat.le_of_lt (by obtain ⟨o, _, _, e, _⟩ := H.ns; exact Heap.lt_size e)), H.on⟩

/-- everything is kept, and nothing of the frame's turned -/
theorem St.keeps (H : St b S g0 h0 env g m mc mu h) (k : ∀ a o, h.get? a = some o → h'.get? a = some o) : St b S g0 h0 env g m mc mu h' :=
  H.move (Ev.keeps H.on k) (H.ns.keeps k) (fun x c hc => (H.cell x c hc).keeps k) (fun p hp => k _ _ (H.mus p hp)) rfl

/-- a call (or any step) that leaves alone what is the frame's own -/
theorem St.call {Sf : List Addr} (H : St b S g0 h0 env g m mc mu h) (e : Ev Sf g h g' h') (hS : ∀ a ∈ Sf, a ∈ mu.map (·.1)) (mus : ∀ p ∈ mu', h'.get? p.1 = some p.2) (ad : mu'.map (·.1) = mu.map (·.1)) :
    St b S g0 h0 env g' m mc mu' h' := by
  have nd := H.nd
  unfold owns at nd
  have hL : env.locals ∉ Sf := fun q => (List.nodup_cons.mp nd).1 (List.mem_append_right _ (hS _ q))
  have hC : ∀ x c, (x, c) ∈ env.cells → c ∉ Sf := fun x c hc q =>
    (List.nodup_append.mp (List.nodup_cons.mp nd).2).2.2 c (List.mem_map.mpr ⟨(x, c), hc, rfl⟩) c (hS c q) rfl
  refine H.move (e.mono fun a q => .tail _ (List.mem_append_right _ (hS a q))) ?_ (fun x c hc => ?_) mus ad
  · obtain ⟨o, es, ep, q, r⟩ := H.ns; exact ⟨o, es, ep, e.keep _ _ hL q, r⟩
  · obtain ⟨o, q, r⟩ := H.cell x c hc; exact ⟨o, e.keep _ _ (hC x c hc) q, r⟩
theorem St.call0 (H : St b S g0 h0 env g m mc mu h) (e : Ev [] g h g' h') : St b S g0 h0 env g' m mc mu h' :=
  H.call e (fun _ q => nomatch q) (fun p hp => e.keep _ _ (fun q => nomatch q) (H.mus p hp)) rfl

theorem St.setL (H : St b S g0 h0 env g m mc mu h) (hn : h'.Ns env.locals m') (hs : Heap.SameBut env.locals h h') : St b S g0 h0 env g m' mc mu h' := by
  have nd := H.nd
  unfold owns at nd
  have nL := (List.nodup_cons.mp nd).1
  have gL := (H.own _ owns_L).1
  refine H.move ⟨.refl g, fun _ _ e => .inl e, fun a o n e => hs.extBut a o (fun q => n (q ▸ owns_L)) e, fun a o e => ?_, fun a o e => hs.extBut a o (fun q => by subst q; rw [gL] at e; cases e) (H.on a o e)⟩ hn
    (fun x c hc => (H.cell x c hc).sameBut hs fun q => nL (q ▸ List.mem_append_left _ (List.mem_map.mpr ⟨(x, c), hc, rfl⟩)))
    (fun p hp => (hs.2 _ fun q => nL (q ▸ List.mem_append_right _ (List.mem_map_of_mem hp))).trans (H.mus p hp)) rfl
  by_cases q : a = env.locals
  · subst q; obtain ⟨o', _, _, e', _⟩ := hn; exact ⟨o', e'⟩
  · exact ⟨o, hs.extBut a o q e⟩

theorem cell_inj {cs : List (Str × Addr)} (nd : (cs.map (·.2)).Nodup) {x y : Str} {c : Addr} (h1 : (x, c) ∈ cs) (h2 : (y, c) ∈ cs) : x = y := by
  induction cs with
  | nil => cases h1
  | cons p r ih =>
    rw [List.map_cons, List.nodup_cons] at nd
    rcases List.mem_cons.mp h1 with e1 | e1 <;> rcases List.mem_cons.mp h2 with e2 | e2
    · rw [← e2] at e1; exact congrArg Prod.fst e1
    · exact absurd (List.mem_map.mpr ⟨(y, c), e2, by rw [← e1]⟩) nd.1
    · exact absurd (List.mem_map.mpr ⟨(x, c), e1, by rw [← e2]⟩) nd.1
    · exact ih nd.2 e1 e2

theorem cell_fun {cs : List (Str × Addr)} (nd : (cs.map (·.1)).Nodup) {x : Str} {c d : Addr} (h1 : (x, c) ∈ cs) (h2 : (x, d) ∈ cs) : c = d := by
  induction cs with
  | nil => cases h1
  | cons p r ih =>
    rw [List.map_cons, List.nodup_cons] at nd
    rcases List.mem_cons.mp h1 with e1 | e1 <;> rcases List.mem_cons.mp h2 with e2 | e2
    · rw [← e2] at e1; exact congrArg Prod.snd e1
    · exact absurd (List.mem_map.mpr ⟨(x, d), e2, by rw [← e1]⟩) nd.1
    · exact absurd (List.mem_map.mpr ⟨(x, c), e1, by rw [← e2]⟩) nd.1
    · exact ih nd.2 e1 e2

theorem St.setC (H : St b S g0 h0 env g m mc mu h) {x : Str} {c : Addr} {v : Option Value} (hc : (x, c) ∈ env.cells) (hn : h'.IsCell c v) (hs : Heap.SameBut c h h') :
    St b S g0 h0 env g m (fun y => if y = x then v else mc y) mu h' := by
  have nd := H.nd
  unfold owns at nd
  have hcm : c ∈ env.cells.map (·.2) := List.mem_map.mpr ⟨(x, c), hc, rfl⟩
  have hLc : env.locals ≠ c := fun q => (List.nodup_cons.mp nd).1 (q ▸ List.mem_append_left _ hcm)
  have ap := List.nodup_append.mp (List.nodup_cons.mp nd).2
  have ho : c ∈ owns env mu := .tail _ (List.mem_append_left _ hcm)
  have gc := (H.own _ ho).1
  refine H.move ⟨.refl g, fun _ _ e => .inl e, fun a o n e => hs.extBut a o (fun q => n (q ▸ ho)) e, fun a o e => ?_, fun a o e => hs.extBut a o (fun q => by subst q; rw [gc] at e; cases e) (H.on a o e)⟩ (H.ns.sameBut hs hLc)
    (fun y d hd => ?_) (fun p hp => (hs.2 _ fun q => ap.2.2 c hcm p.1 (List.mem_map_of_mem hp) q.symm).trans (H.mus p hp)) rfl
  · by_cases q : a = c
    · subst q; obtain ⟨o', e', _⟩ := hn; exact ⟨o', e'⟩
    · exact ⟨o, hs.extBut a o q e⟩
  · by_cases q : d = c
    · subst q
      have := cell_inj ap.1 hd hc
      subst this
      rw [if_pos rfl]; exact hn
    · have : y ≠ x := fun r => q (by subst r; exact cell_fun H.nn hd hc)
      rw [if_neg this]; exact (H.cell y d hd).sameBut hs q

/-- a new object, to be turned later -/
theorem St.alloc (H : St b S g0 h0 env g m mc mu h) {a : Addr} {o : Obj} (hf : h.get? a = none) (ha : h'.get? a = some o) (k : ∀ a o, h.get? a = some o → h'.get? a = some o) :
    St b S g0 h0 env g m mc ((a, o) :: mu) h' := by
  have no : a ∉ owns env mu := fun q => by obtain ⟨o', e⟩ := H.liveO q; rw [hf] at e; cases e
  have K := H.keeps k
  refine ⟨K.ns, K.cell, K.bg, K.lo, K.ev, fun p hp => ?_, ?_, H.nn, fun x hx => ?_⟩
  · rcases List.mem_cons.mp hp with rfl | hp
    · exact ha
    · exact K.mus p hp
  · have nd := H.nd
    unfold owns at nd no ⊢
    rw [List.map_cons]
    refine List.nodup_cons.mpr ⟨fun q => ?_, ?_⟩
    · rcases List.mem_append.mp q with q | q
      · exact (List.nodup_cons.mp nd).1 (List.mem_append_left _ q)
      · rcases List.mem_cons.mp q with q | q
        · exact no (q ▸ .head _)
        · exact (List.nodup_cons.mp nd).1 (List.mem_append_right _ q)
    · refine List.nodup_append.mpr ⟨(List.nodup_append.mp (List.nodup_cons.mp nd).2).1, List.nodup_cons.mpr ⟨fun q => no (.tail _ (List.mem_append_right _ q)), (List.nodup_append.mp (List.nodup_cons.mp nd).2).2.1⟩, fun x hx y hy e => ?_⟩
      rcases List.mem_cons.mp hy with q | q
      · subst e; subst q; exact no (.tail _ (List.mem_append_left _ hx))
      · exact (List.nodup_append.mp (List.nodup_cons.mp nd).2).2.2 x hx y q e
  · have : x = a ∨ x ∈ owns env mu := by
      unfold owns at hx ⊢
      rcases List.mem_cons.mp hx with q | q
      · exact .inr (q ▸ .head _)
      · rcases List.mem_append.mp q with q | q
        · exact .inr (.tail _ (List.mem_append_left _ q))
        · rcases List.mem_cons.mp q with q | q
          · exact .inl q
          · exact .inr (.tail _ (List.mem_append_right _ q))
    rcases this with rfl | q
    · refine ⟨?_, .inl ?_⟩
      · cases q : g x with
        | none => rfl
        | some o' => rw [H.on _ _ q] at hf; cases hf
      · cases q : h0.get? x with
        | none => rfl
        | some o' => obtain ⟨o'', e⟩ := H.ev.live _ _ q; rw [hf] at e; cases e
    · exact H.own x q

/-- a new object that stands for good -/
theorem St.allocG (H : St b S g0 h0 env g m mc mu h) {a : Addr} {o : Obj} (hf : h.get? a = none) (ha : h'.get? a = some o) (k : ∀ a o, h.get? a = some o → h'.get? a = some o) :
    St b S g0 h0 env (g.put a o) m mc mu h' ∧ g.le (g.put a o) := by
  have ga : g a = none := by
    cases q : g a with
    | none => rfl
    | some o' => rw [H.on _ _ q] at hf; cases hf
  have le := FM.put_le (o := o) ga
  refine ⟨H.call0 ⟨le, fun x p e => ?_, fun x p _ e => k x p e, fun x p e => ⟨p, k x p e⟩, fun x p e => ?_⟩, le⟩
  · unfold FM.put at e
    by_cases q : x = a
    · subst q; exact .inr hf
    · rw [if_neg q] at e; exact .inl e
  · unfold FM.put at e
    by_cases q : x = a
    · subst q; rw [if_pos rfl] at e; exact ha.trans e
    · rw [if_neg q] at e; exact k _ _ (H.on _ _ e)

/-- a turned object turns no more -/
theorem St.freeze {a : Addr} {o : Obj} (H : St b S g0 h0 env g m mc ((a, o) :: mu) h) (h0a : h0.get? a = none) : St b S g0 h0 env (g.put a o) m mc mu h ∧ g.le (g.put a o) := by
  have ho : a ∈ owns env ((a, o) :: mu) := owns_mu (p := (a, o)) (.head _)
  have ga := (H.own a ho).1
  have le := FM.put_le (o := o) ga
  have sub : ∀ x ∈ owns env mu, x ∈ owns env ((a, o) :: mu) := fun x hx => by
    unfold owns at hx ⊢
    rcases List.mem_cons.mp hx with q | q
    · exact q ▸ .head _
    · rcases List.mem_append.mp q with q | q
      · exact .tail _ (List.mem_append_left _ q)
      · exact .tail _ (List.mem_append_right _ (.tail _ q))
  have nd := H.nd
  have na : a ∉ owns env mu := fun q => by
    unfold owns at nd q
    rw [List.map_cons] at nd
    rcases List.mem_cons.mp q with q | q
    · exact (List.nodup_cons.mp nd).1 (q ▸ List.mem_append_right _ (.head _))
    · have nd := List.nodup_append.mp (List.nodup_cons.mp nd).2
      rcases List.mem_append.mp q with q | q
      · exact nd.2.2 a q a (.head _) rfl
      · exact (List.nodup_cons.mp nd.2.1).1 q
  refine ⟨⟨H.ns, H.cell, fun x p e => le x p (H.bg x p e), H.lo, ⟨H.ev.gg.trans le, fun x p e => ?_, H.ev.keep, H.ev.live, fun x p e => ?_⟩, fun p hp => H.mus p (.tail _ hp), ?_, H.nn, fun x hx => ⟨?_, (H.own x (sub x hx)).2⟩⟩, le⟩
  · unfold FM.put at e
    by_cases q : x = a
    · subst q; exact .inr h0a
    · rw [if_neg q] at e; exact H.ev.new x p e
  · unfold FM.put at e
    by_cases q : x = a
    · subst q; rw [if_pos rfl] at e; cases e; exact H.mus (x, o) (.head _)
    · rw [if_neg q] at e; exact H.on x p e
  · unfold owns at nd ⊢
    rw [List.map_cons] at nd
    have nd' := List.nodup_append.mp (List.nodup_cons.mp nd).2
    refine List.nodup_cons.mpr ⟨fun q => (List.nodup_cons.mp nd).1 ?_, List.nodup_append.mpr ⟨nd'.1, (List.nodup_cons.mp nd'.2.1).2, fun x hx y hy => nd'.2.2 x hx y (.tail _ hy)⟩⟩
    rcases List.mem_append.mp q with q | q
    · exact List.mem_append_left _ q
    · exact List.mem_append_right _ (.tail _ q)
  · unfold FM.put
    rw [if_neg (fun q : x = a => na (by rw [← q]; exact hx))]
    exact (H.own x (sub x hx)).1

theorem St.perm (H : St b S g0 h0 env g m mc mu h) (p : mu.Perm mu') : St b S g0 h0 env g m mc mu' h := by
  have po : (owns env mu).Perm (owns env mu') := List.Perm.cons _ (List.Perm.append_left _ (p.map _))
  exact ⟨H.ns, H.cell, H.bg, H.lo, H.ev, fun q hq => H.mus q (p.mem_iff.mpr hq), po.nodup_iff.mp H.nd, H.nn, fun a ha => H.own a (po.mem_iff.mpr ha)⟩

/-- what is turned no more and read no more -/
theorem St.drop {p : Addr × Obj} (H : St b S g0 h0 env g m mc (p :: mu) h) : St b S g0 h0 env g m mc mu h := by
  have sub : (owns env mu).Sublist (owns env (p :: mu)) := List.Sublist.cons_cons _ (List.Sublist.append_left (List.sublist_cons_self _ _) _)
  exact ⟨H.ns, H.cell, H.bg, H.lo, H.ev, fun q hq => H.mus q (.tail _ hq), H.nd.sublist sub, H.nn, fun a ha => H.own a (sub.subset ha)⟩

/-- one turned object, at the head -/
theorem St.upd {a : Addr} {o o' : Obj} (H : St b S g0 h0 env g m mc ((a, o) :: mu) h) (ha : h'.get? a = some o') (hs : Heap.ExtBut a h h') : St b S g0 h0 env g m mc ((a, o') :: mu) h' := by
  have ho : a ∈ owns env ((a, o) :: mu) := owns_mu (p := (a, o)) (.head _)
  have nd := H.nd
  refine H.call (Sf := [a]) ⟨.refl g, fun _ _ e => .inl e, fun x p n e => hs x p (fun q => n (q ▸ .head _)) e, fun x p e => ?_, fun x p e => hs x p (fun q => by subst q; rw [(H.own _ ho).1] at e; cases e) (H.on x p e)⟩
    (fun x hx => by rw [List.mem_singleton.mp hx]; exact .head _) (fun p hp => ?_) rfl
  · by_cases q : x = a
    · subst q; exact ⟨o', ha⟩
    · exact ⟨p, hs x p q e⟩
  · rcases List.mem_cons.mp hp with rfl | hp
    · exact ha
    · refine hs _ _ (fun q => ?_) (H.mus p (.tail _ hp))
      unfold owns at nd
      rw [List.map_cons] at nd
      exact (List.nodup_cons.mp (List.nodup_append.mp (List.nodup_cons.mp nd).2).2.1).1 (q ▸ (List.mem_map_of_mem (f := (·.1)) hp : p.1 ∈ mu.map (·.1)))
end
end Mine
namespace Mine

/-- room for n more frames -/
structure Ao (n : Nat) (A : Around) : Prop where
  hh : A.handled = none
  dp : A.depth + 10 * n ≤ 990
  un : A.units + 100 * n ≤ 9800
theorem Ao.le {n k : Nat} {A : Around} (x : Ao n A) (h : k ≤ n) : Ao k A := ⟨x.hh, by have := x.dp; omega, by have := x.un; omega⟩
theorem Ao.deeper {n : Nat} {A : Around} {env : Env} (x : Ao (n + 1) A) : Ao n (A.deeper env) :=
  ⟨x.hh, by have := x.dp; rw [depth_deeper]; omega, by have := x.un; rw [units_deeper]; omega⟩
theorem Ao.in1 {n : Nat} {A : Around} (x : Ao (n + 1) A) : Ao n A.in1 := ⟨x.hh, by have := x.dp; rw [depth_in1]; omega, by have := x.un; rw [units_in1]; omega⟩
theorem Ao.make {n : Nat} {A : Around} {C : Addr} {vals : List Value} {kw : List (Str × Value)} (x : Ao (n + 1) A) : Ao n (A.under (.builtin "type.__call__" ⟨.ref C :: vals, kw⟩)) := by
  refine ⟨x.hh, by have := x.dp; rw [depth_under_kw]; omega, ?_⟩
  have := x.un
  have e : (Code.builtin "type.__call__" ⟨.ref C :: vals, kw⟩).cUnits ≤ 10 := Nat.le_of_ble_eq_true rfl
  show A.units + (Code.builtin "type.__call__" ⟨.ref C :: vals, kw⟩).cUnits + _ ≤ _
  omega
theorem Ao.room {n : Nat} {A : Around} (x : Ao n A) : A.depth < recursionLimit := by have := x.dp; unfold recursionLimit; omega
/-- the text's own part and the top's facts, at the base -/
structure Wd (K : Frag) (p : Program) (loose : List Str) (mean : ExcName → Option Value) (mg mb : Str → Option Value) (b : Heap) : Prop where
  X : K.In b
  T : TopRead p loose mg mb b
  M : ∃ bm ob, BMod b mainGlobals mg bm ob

section
variable {prog : Program} {w : World} {K : Frag} {p : Program} {loose : List Str} {mean : ExcName → Option Value} {mg mb : Str → Option Value} {b : Heap}
variable {S : List Addr} {g0 : FM} {h0 : Heap} {env : Env} {g : FM} {m mc : Str → Option Value} {mu : List (Addr × Obj)}
variable {M : Model} {A : Around} {s : Shared} {E : Value → Shared → Prop}

-- names
theorem ev_loc {x : Str} {pos : Pos} {v : Value} {Q : Value → Shared → Prop} (H : St b S g0 h0 env g m mc mu s.heap) (hv : m x = some v) (h : Q v s)
    (hk : env.scope.kind = .function := by with_unfolding_all rfl) (hl : env.kindOf x = some .local := by with_unfolding_all rfl) (hd : (x == ("__debug__" : Str)) = false := by decide) :
    wpAny M A (eval (.Name x pos) env) Q E s := wpAny_Name (wpAny_loadName_local hk hl H.ns hv h) hd
theorem ev_cell {x : Str} {pos : Pos} {c : Addr} {v : Value} {Q : Value → Shared → Prop} (H : St b S g0 h0 env g m mc mu s.heap) (hv : mc x = some v) (h : Q v s)
    (hk : env.scope.kind = .function := by with_unfolding_all rfl) (hl : env.kindOf x = some .cell := by with_unfolding_all rfl) (hc : env.cells.lookup x = some c := by with_unfolding_all rfl) (hd : (x == ("__debug__" : Str)) = false := by decide) :
    wpAny M A (eval (.Name x pos) env) Q E s := wpAny_Name (wpAny_loadName_cell hk hl hc (hv ▸ H.cell x c (mem_of_lookup hc)) h) hd
theorem ev_glob {x : Str} {pos : Pos} {v : Value} {Q : Value → Shared → Prop} (W : Wd K p loose mean mg mb b) (H : St b S g0 h0 env g m mc mu s.heap) (e : nsIn K mainGlobals x = some (some v)) (h : Q v s)
    (hg : env.globals = mainGlobals := by with_unfolding_all rfl) (hk : env.scope.kind = .function := by with_unfolding_all rfl) (hx : env.kindOf x = some .globalImplicit := by with_unfolding_all rfl) (hd : (x == ("__debug__" : Str)) = false := by decide) :
    wpAny M A (eval (.Name x pos) env) Q E s :=
  Name_function_global hk hx (loadGlobal_global (env := env) (by rw [hg]; exact W.T.g.keeps H.base) (mg_of W.X W.T.g e) h) hd
theorem ev_blt {x : Str} {pos : Pos} {v : Value} {Q : Value → Shared → Prop} (W : Wd K p loose mean mg mb b) (H : St b S g0 h0 env g m mc mu s.heap) (e : nsIn K mainGlobals x = some none) (hv : bootBuiltins x = some v) (h : Q v s)
    (hn : x ≠ "__name__" := by decide) (hg : env.globals = mainGlobals := by with_unfolding_all rfl) (hb : env.builtins = builtinsNs := by with_unfolding_all rfl) (hk : env.scope.kind = .function := by with_unfolding_all rfl) (hx : env.kindOf x = some .globalImplicit := by with_unfolding_all rfl)
    (hd : (x == ("__debug__" : Str)) = false := by decide) : wpAny M A (eval (.Name x pos) env) Q E s :=
  Name_function_global hk hx (loadGlobal_builtin (env := env) (by rw [hg]; exact W.T.g.keeps H.base) (mg_none_of W.X W.T.g e) (by rw [hb]; exact W.T.b.keeps H.base) ((W.T.builtins x hn).trans hv) h) hd

/-- a frame's names -/
def up (x : Str) (v : Value) (m : Str → Option Value) : Str → Option Value := fun y => if y = x then some v else m y
def no : Str → Option Value := fun _ => none

-- stores
theorem st_loc {x : Str} {v : Value} {Q : Unit → Shared → Prop} (H : St b S g0 h0 env g m mc mu s.heap)
    (h : ∀ h', St b S g0 h0 env g (up x v m) mc mu h' → Q () { s with heap := h', toks := s.toks + 1 })
    (hk : env.scope.kind = .function := by with_unfolding_all rfl) (hl : env.kindOf x = some .local := by with_unfolding_all rfl) : wpAny M A (storeName env x v) Q E s :=
  wpAny_storeName_local hl H.ns (fun h' hn hs => h h' (H.setL hn hs)) (by rw [hk]; rfl)
theorem st_cell {x : Str} {c : Addr} {v : Value} {Q : Unit → Shared → Prop} (H : St b S g0 h0 env g m mc mu s.heap)
    (h : ∀ h', St b S g0 h0 env g m (up x v mc) mu h' → Q () { s with heap := h' })
    (hk : env.scope.kind = .function := by with_unfolding_all rfl) (hl : env.kindOf x = some .cell := by with_unfolding_all rfl) (hc : env.cells.lookup x = some c := by with_unfolding_all rfl) : wpAny M A (storeName env x v) Q E s :=
  wpAny_storeName_cell hk hl hc (H.cell x c (mem_of_lookup hc)) fun h' hn hs => h h' (H.setC (mem_of_lookup hc) hn hs)

-- a def of the text's, called
theorem cells_nodup : ∀ (names : List (Str × NameKind)) (n : Nat) (acc : List (Str × Addr)), (acc.map (·.2)).Nodup → (∀ p ∈ acc, p.2 < n) → ((cellsFrom n names acc).map (·.2)).Nodup
  | [], _, _, h, _ => h
  | (x, k) :: r, n, acc, h, hb => by
    unfold cellsFrom
    split
    · refine cells_nodup r (n + 1) _ ?_ fun p hp => ?_
      · rw [List.map_cons]
        refine List.nodup_cons.mpr ⟨fun q => ?_, h⟩
        obtain ⟨p, hp, e⟩ := List.mem_map.mp q
        have := hb p hp
        exact absurd this (by rw [show p.2 = n from e]; exact Nat.lt_irrefl _)
      · rcases List.mem_cons.mp hp with rfl | hp
        · exact Nat.lt_succ_self _
        · exact Nat.lt_succ_of_lt (hb p hp)
    · exact cells_nodup r n acc h hb
theorem cells_ge : ∀ (names : List (Str × NameKind)) (n lo : Nat) (acc : List (Str × Addr)), lo ≤ n → (∀ p ∈ acc, lo ≤ p.2) → ∀ p ∈ cellsFrom n names acc, lo ≤ p.2
  | [], _, _, _, _, hb => hb
  | (x, k) :: r, n, lo, acc, hn, hb => by
    unfold cellsFrom
    split
    · refine cells_ge r (n + 1) lo _ (Nat.le_succ_of_le hn) fun p hp => ?_
      rcases List.mem_cons.mp hp with rfl | hp
      · exact hn
      · exact hb p hp
    · exact cells_ge r n lo acc hn hb
theorem cells_names : ∀ (names : List (Str × NameKind)) (n k : Nat) (acc acc' : List (Str × Addr)), acc.map (·.1) = acc'.map (·.1) → (cellsFrom n names acc).map (·.1) = (cellsFrom k names acc').map (·.1)
  | [], _, _, _, _, h => h
  | (x, kd) :: r, n, k, acc, acc', h => by
    unfold cellsFrom
    split
    · exact cells_names r _ _ _ _ (by rw [List.map_cons, List.map_cons, h])
    · exact cells_names r _ _ _ _ h

theorem enter {name qual : Str} {params : Arguments} {body : List Stmt} {scope : Scope} {dV kV doc pm cdv ct oc : Value} {an od : Option Addr} {osl : Array (Option Value)} {f : Addr} {pos : List Value} {kw : List (Str × Value)} {binds : List (Str × Value)} {n : Nat} {R : Result → Shared → Prop}
    (W : Wd K p loose mean mg mb b) (hB : Bg b g s.heap) (hA : Ao (n + 1) A)
    (ho : K.lookup f = some ⟨oc, od, .func (fnOf name qual params body scope dV kV doc pm an cdv ct), osl⟩) (hcd : codeIn K cdv qual = true)
    (hbind : BindsTo s (fnOf name qual params body scope dV kV doc pm an cdv ct) ⟨pos, kw⟩ binds)
    (hkind : (binds.all fun y => scope.names.lookup y.1 == some .local || scope.names.lookup y.1 == some .cell) = true)
    (hnd : ((cellsFrom 0 scope.names []).map (·.1)).Nodup)
    (hmu : ∀ q ∈ mu, s.heap.get? q.1 = some q.2 ∧ g q.1 = none) (ndm : (mu.map (·.1)).Nodup)
    (hm : ∀ L, bindL (envOfC qual scope L f cdv).kindOf binds (fun _ => none) = m) (hmc : ∀ L, bindC (envOfC qual scope L f cdv).kindOf binds (fun _ => none) = mc)
    (h : ∀ L h₁ tk E', Ao n (A.deeper (envOfC qual scope L f cdv)) → St b (mu.map (·.1)) g s.heap (envOfC qual scope L f cdv) g m mc mu h₁ →
      wpAny (model prog w) (A.deeper (envOfC qual scope L f cdv)) (execs body (envOfC qual scope L f cdv)) (fun fl s' => R (.ok (.ret (match fl with | .ret v => v | _ => .none))) s') E' { s with heap := h₁, toks := tk })
    (hco : scope.isCoroutine = false := by with_unfolding_all rfl) (hgen : scope.isGenerator = false := by with_unfolding_all rfl) (hk : scope.kind = .function := by with_unfolding_all rfl) :
    codeAny (model prog w) A (.call (.ref f) ⟨pos, kw⟩) R s := by
  obtain ⟨hbg, hlo, on⟩ := hB
  have up : ∀ a o, b.get? a = some o → s.heap.get? a = some o := fun a o e => on a o (hbg a o e)
  refine codeAny_call_function hA.room (up _ _ (W.X _ _ ho)) rfl hco hgen rfl (codeRec_of (W.X.keeps up) hcd) (hbind _ _ _ _ ?_)
  refine wpAny_newFunctionEnv_cells hk (kindsX hkind _) fun env' he s' x => ?_
  subst he
  refine ⟨(W.T.nolimit.keeps up).keeps x.toInCall.keep, codeAny_func ?_⟩
  obtain ⟨h₁, tk, rfl⟩ := x.toInCall.same
  have keep := x.toInCall.keep
  have fresh : ∀ (a : Addr) (o : Obj), s.heap.get? a = some o → a < s.heap.objs.size := fun a o e => Heap.lt_size e
  have cge := cells_ge scope.names (s.heap.objs.size + 1) (s.heap.objs.size + 1) [] (Nat.le_refl _) (fun _ q => nomatch q)
  have none_of : ∀ a, s.heap.objs.size ≤ a → s.heap.get? a = none := fun a ha => by
    cases q : s.heap.get? a with
    | none => rfl
    | some o => exact absurd (fresh a o q) (Nat.not_lt.mpr ha)
  have gnone : ∀ a, s.heap.get? a = none → g a = none := fun a ha => by
    cases q : g a with
    | none => rfl
    | some o => rw [on a o q] at ha; cases ha
  have H : St b (mu.map (·.1)) g s.heap (envOfC qual scope s.heap.objs.size f cdv) g (bindL (envOfC qual scope s.heap.objs.size f cdv).kindOf binds fun _ => none) (bindC (envOfC qual scope s.heap.objs.size f cdv).kindOf binds fun _ => none) mu h₁ := by
    refine ⟨x.toInCall.ns, fun y c hc => ?_, hbg, hlo, Ev.keeps on keep, fun q hq => keep _ _ (hmu q hq).1, ?_, ?_, fun a ha => ?_⟩
    · have nn : ((cellsFrom (s.heap.objs.size + 1) scope.names []).map (·.1)).Nodup := by rw [cells_names scope.names _ 0 [] [] rfl]; exact hnd
      have hl : (cellsFrom (s.heap.objs.size + 1) scope.names []).lookup y = some c := by
        cases q : (cellsFrom (s.heap.objs.size + 1) scope.names []).lookup y with
        | none => exact absurd (List.lookup_eq_none_iff.mp q _ hc) (by simp)
        | some d => rw [cell_fun nn (mem_of_lookup q) hc]
      exact x.cell y c hl
    · show (s.heap.objs.size :: ((cellsFrom (s.heap.objs.size + 1) scope.names []).map (·.2) ++ mu.map (·.1))).Nodup
      refine List.nodup_cons.mpr ⟨fun q => ?_, List.nodup_append.mpr ⟨cells_nodup _ _ _ List.nodup_nil (fun _ q => nomatch q), ndm, fun y hy z hz e => ?_⟩⟩
      · rcases List.mem_append.mp q with q | q
        · obtain ⟨pr, hp, e⟩ := List.mem_map.mp q
          have := cge pr hp
          omega
        · obtain ⟨pr, hp, e⟩ := List.mem_map.mp q
          have := fresh _ _ (hmu pr hp).1
          exact absurd this (by rw [show pr.1 = s.heap.objs.size from e]; exact Nat.lt_irrefl _)
      · obtain ⟨pr, hp, e1⟩ := List.mem_map.mp hy
        obtain ⟨pr', hp', e2⟩ := List.mem_map.mp hz
        have h1 := cge pr hp
        have h2 := fresh _ _ (hmu pr' hp').1
        have e3 : pr.2 = pr'.1 := by rw [show pr.2 = y from e1, show pr'.1 = z from e2]; exact e
        rw [← e3] at h2
        exact absurd h2 (Nat.not_lt.mpr (Nat.le_of_succ_le h1))
    · show ((cellsFrom (s.heap.objs.size + 1) scope.names []).map (·.1)).Nodup
      rw [cells_names scope.names _ 0 [] [] rfl]; exact hnd
    · rcases List.mem_cons.mp ha with rfl | ha
      · have := none_of _ (Nat.le_refl _)
        exact ⟨gnone _ this, .inl this⟩
      · rcases List.mem_append.mp ha with ha | ha
        · obtain ⟨pr, hp, rfl⟩ := List.mem_map.mp ha
          have := none_of pr.2 (Nat.le_of_succ_le (cge pr hp))
          exact ⟨gnone _ this, .inl this⟩
        · obtain ⟨pr, hp, rfl⟩ := List.mem_map.mp ha
          exact ⟨(hmu pr hp).2, .inr (List.mem_map_of_mem hp)⟩
  exact h _ h₁ tk _ hA.deeper (hm s.heap.objs.size ▸ hmc s.heap.objs.size ▸ H)

end
end Mine
namespace Mine

/-- all that a heap holds, but ex: so that the library's rules over a ledger keep it -/
def restOf (h : Heap) (ex : List Addr) : List (Addr × Obj) := (List.range h.objs.size).filterMap fun a => if ex.contains a then none else (h.get? a).map fun o => (a, o)
theorem mem_restOf {h : Heap} {ex : List Addr} {q : Addr × Obj} : q ∈ restOf h ex ↔ q.1 ∉ ex ∧ h.get? q.1 = some q.2 := by
  unfold restOf
  rw [List.mem_filterMap]
  constructor
  · rintro ⟨a, ha, e⟩
    split at e
    · cases e
    · rename_i n
      obtain ⟨o, ho, rfl⟩ := Option.map_eq_some_iff.mp e
      exact ⟨by simpa using n, ho⟩
  · rintro ⟨n, e⟩
    refine ⟨q.1, List.mem_range.mpr (Heap.lt_size e), ?_⟩
    rw [if_neg (by simpa using n), e]
    rfl

def noHeap : Heap := {}
theorem noHeap_get (a : Addr) : noHeap.get? a = none := rfl
theorem frame0 {h : Heap} {L : Addr} {m : Str → Option Value} (hn : h.Ns L m) : Fr noHeap L h m := ⟨hn, fun a o e => by rw [noHeap_get] at e; (cases e), Nat.zero_le _⟩
theorem news0 {h : Heap} {L : Addr} {ex : List Addr} (hL : L ∈ ex) : News noHeap L h (restOf h ex) := fun _ hq =>
  let ⟨n, e⟩ := mem_restOf.mp hq
  ⟨e, fun q => n (q ▸ hL), rfl⟩

def Inst (g : FM) (x C : Addr) (es : List DictEntry) : Prop := ∃ d n, g x = some (instObj C d) ∧ g d = some (dictOf es n)
theorem Inst.mono {g g' : FM} {x C : Addr} {es : List DictEntry} (I : Inst g x C es) (le : g.le g') : Inst g' x C es := let ⟨d, n, a, c⟩ := I; ⟨d, n, le _ _ a, le _ _ c⟩
theorem Inst.at_ {h : Heap} {x C : Addr} {es : List DictEntry} (I : Inst h.get? x C es) : ∃ d n, InstAt h x (instObj C d) C (some (dictOf es n)) := by
  obtain ⟨d, n, a, c⟩ := I
  exact ⟨d, n, a, rfl, rfl, c⟩
theorem FM.on.le {g : FM} {h : Heap} (x : g.on h) : g.le h.get? := x

section
variable {prog : Program} {w : World} {K : Frag} {p : Program} {loose : List Str} {mean : ExcName → Option Value} {mg mb : Str → Option Value} {b : Heap}
variable {S : List Addr} {g0 : FM} {h0 : Heap} {env : Env} {g : FM} {m mc : Str → Option Value} {mu : List (Addr × Obj)}
variable {A : Around} {s : Shared} {E : Value → Shared → Prop}

theorem St.X (H : St b S g0 h0 env g m mc mu s.heap) (W : Wd K p loose mean mg mb b) : K.In s.heap := W.X.keeps H.base

/-- what an object holds itself -/
theorem ga_own {x C : Addr} {name : Str} {es : List DictEntry} {v : Value} {attr : Option Value} {expr : Bool} {Q : Value → Shared → Prop} (X : K.In s.heap) (I : Inst s.heap.get? x C es)
    (hg : plainGet K C name = true) (hh : hasDictIn K C = true) (ha : findIn K (.ref C) name = some attr) (hn : noGet K attr = true) (hl : getL name es = some (some v)) (hv : handedIn v = true) (h : Q v { s with toks := s.toks + 1 }) :
    wpAny (model prog w) A (getAttr (.ref x) name expr) Q E s := by
  obtain ⟨d, n, J⟩ := I.at_
  exact get_value X J (plainGet_of hg).1 (findObj_own hh ha hn hl) hv h
/-- a method, looked up for a call -/
theorem gm_fn {x C : Addr} {name : Str} {es : List DictEntry} {f : Addr} {pl : Sem Bool} {Q : Value × List Value → Shared → Prop} (X : K.In s.heap) (I : Inst s.heap.get? x C es)
    (hg : plainGet K C name = true) (hf : findIn K (.ref C) name = some (some (.ref f))) (ht : isFn K (.ref f) = true) (hl : getL name es = some none) (h : Q (.ref f, [.ref x]) s) :
    wpAny (model prog w) A (getMethod (.ref x) name pl) Q E s := by
  obtain ⟨d, n, J⟩ := I.at_
  exact method_fn X J (plainGet_of hg).1 (plainGet_of hg).2 hf (beq_iff_eq.mp ht) (by show (lookIn name (dictOf es n)).map _ = _; rw [lookIn_dict, hl]; rfl) h
/-- a property -/
theorem ga_prop {x C : Addr} {name : Str} {es : List DictEntry} {pa fget : Addr} {rest : List Value} {expr : Bool} {Q : Value → Shared → Prop} (X : K.In s.heap) (I : Inst s.heap.get? x C es)
    (hg : plainGet K C name = true) (hh : hasDictIn K C = true) (ha : findIn K (.ref C) name = some (some (.ref pa))) (hn : specialIn K (.ref pa) "__get__" = some (some (.builtin "property.__get__"))) (ht : takesIn K (.ref pa) = some true)
    (hp : recIn K pa "property" = some (.ref fget :: rest))
    (h : codeAny (model prog w) A.in1 (.call (.ref fget) ⟨[.ref x], []⟩) (fun r s' => match r with | .ok (.ret v) => wpAny (model prog w) A (handedOut v) Q E s' | .ok _ => False | .error e => wpAny (model prog w) A (noteIf true (.ref x) (.str name s.toks) e) (fun _ s'' => E e s'') E s') { s with toks := s.toks + 1 }) :
    wpAny (model prog w) A (getAttr (.ref x) name expr) Q E s := by
  obtain ⟨d, n, J⟩ := I.at_
  exact get_bind X J (plainGet_of hg).1 (findObj_data (by obtain ⟨cd, hc, _⟩ := any_some hh; rw [hc]; rfl) ha hn ht) (plainGet_of hg).2 (wpAny_call (prop_get (s := { s with toks := s.toks + 1 }) X hp h))

/-- a store into an object that the frame made -/
theorem sa_own {x C dx : Addr} {name : Str} {es es' : List DictEntry} {n n' : Nat} {v : Value} {Q : Unit → Shared → Prop} (W : Wd K p loose mean mg mb b) (H : St b S g0 h0 env g m mc ((dx, dictOf es n) :: mu) s.heap)
    (hx : s.heap.get? x = some (instObj C dx)) (hs : findIn K (.ref C) "__setattr__" = some (some (.builtin "object.__setattr__"))) (hp : plainOver K C = true) (ht : takerIn K C name = some none) (hh : hasDictIn K C = true)
    (hl : (getL name es).isSome = true) (e : (putL name (PyData.keyHash w.params name) (.str name (s.toks + 1)) v es, putN name es n) = (es', n')) (hz : es'.length ≤ 1000)
    (h : ∀ h', St b S g0 h0 env g m mc ((dx, dictOf es' n') :: mu) h' → Q () { s with heap := h', toks := s.toks + 2 }) : wpAny (model prog w) A (setAttr (.ref x) name v) Q E s := by
  have hd : s.heap.get? dx = some (dictOf es n) := H.mus (dx, dictOf es n) (.head _)
  have hne : dx ≠ env.locals := fun q => by
    have := H.nd; unfold owns at this
    exact (List.nodup_cons.mp this).1 (List.mem_append_right _ (q ▸ .head _))
  have I : InstAt s.heap x (instObj C dx) C (some (dictOf es n)) := ⟨hx, rfl, rfl, hd⟩
  have X := H.X W
  obtain ⟨e1, e2⟩ := Prod.mk.inj e
  refine set_plain X I hs ?_
  refine osa_dict (s := { s with toks := s.toks + 1 }) (pre := []) (post := restOf s.heap [env.locals, dx]) (od' := dictOf es' n') (es := es') (n := n') (frame0 H.ns) (fun q hq => ?_) X I rfl hp ht hh hl (fun _ q => nomatch q) (fun q hq r => ?_) (by rw [putName_dict, e1, e2]) rfl hz fun h' F' N' => ?_
  · rcases List.mem_cons.mp hq with rfl | hq
    · exact ⟨hd, hne, rfl⟩
    · exact news0 (.head _) q hq
  · exact (mem_restOf.mp hq).1 (r ▸ .tail _ (.head _))
  · refine h h' ?_
    have hd' := (N' (dx, dictOf es' n') (.head _)).1
    have kp : ∀ a o, a ≠ env.locals → a ≠ dx → s.heap.get? a = some o → h'.get? a = some o := fun a o n1 n2 q =>
      (N' (a, o) (.tail _ (mem_restOf.mpr ⟨by simp [n1, n2], q⟩))).1
    have nd := H.nd
    have gdx := (H.own dx (owns_mu (p := (dx, dictOf es n)) (.head _))).1
    have gL := (H.own env.locals owns_L).1
    refine H.move (mu' := (dx, dictOf es' n') :: mu) ⟨.refl g, fun _ _ q => .inl q, fun a o na q => kp a o (fun r => na (r ▸ owns_L)) (fun r => na (by subst r; exact owns_mu (p := (a, dictOf es n)) (.head _))) q, fun a o q => ?_,
      fun a o q => kp a o (fun r => by subst r; rw [gL] at q; cases q) (fun r => by subst r; rw [gdx] at q; cases q) (H.on a o q)⟩ F'.ns (fun y c hc => ?_) (fun q hq => ?_) rfl
    · by_cases q1 : a = env.locals
      · subst q1; obtain ⟨o', _, _, e', _⟩ := F'.ns; exact ⟨o', e'⟩
      · by_cases q2 : a = dx
        · subst q2; exact ⟨_, hd'⟩
        · exact ⟨o, kp a o q1 q2 q⟩
    · obtain ⟨o, ho, hcd⟩ := H.cell y c hc
      unfold owns at nd
      rw [List.map_cons] at nd
      have hcm : c ∈ env.cells.map (·.2) := List.mem_map.mpr ⟨(y, c), hc, rfl⟩
      exact ⟨o, kp c o (fun r => (List.nodup_cons.mp nd).1 (r ▸ List.mem_append_left _ hcm)) (fun r => (List.nodup_append.mp (List.nodup_cons.mp nd).2).2.2 c hcm dx (.head _) r) ho, hcd⟩
    · rcases List.mem_cons.mp hq with rfl | hq
      · exact hd'
      · unfold owns at nd
        rw [List.map_cons] at nd
        refine kp q.1 q.2 (fun r => (List.nodup_cons.mp nd).1 (r ▸ List.mem_append_right _ (.tail _ (List.mem_map_of_mem hq)))) (fun r => ?_) (H.mus q (.tail _ hq))
        exact (List.nodup_cons.mp (List.nodup_append.mp (List.nodup_cons.mp nd).2).2.1).1 (r ▸ (List.mem_map_of_mem (f := (·.1)) hq : q.1 ∈ mu.map (·.1)))

/-- an object made -/
theorem mk_inst {C fI : Addr} {rest : List Value} {kw : List (Str × Value)} {Q : Value → Shared → Prop} (X : K.In s.heap) (on : g.on s.heap) (hm : makesIn K C = true) (hi : findIn K (.ref C) "__init__" = some (some (.ref fI))) (hf : isFn K (.ref fI) = true)
    (h : ∀ x dx h', s.heap.get? x = none → s.heap.get? dx = none → x ≠ dx → h'.get? x = some (instObj C dx) → h'.get? dx = some (dictOf [] 0) → (∀ a o, s.heap.get? a = some o → h'.get? a = some o) → s.heap.objs.size ≤ h'.objs.size →
      codeAny (model prog w) (A.under (.builtin "type.__call__" ⟨.ref C :: rest, kw⟩)) (.call (.ref fI) ⟨.ref x :: rest, kw⟩) (fun r s' => match r with | .ok (.ret v) => v = .none ∧ Q (.ref x) s' | .ok _ => False | .error e => E e s') { s with heap := h' }) :
    wpAny (model prog w) A (call (.ref C) rest kw) Q E s := by
  refine wpAny_call ?_
  obtain ⟨hh, gn, d, t, os⟩ := s
  have none_of : ∀ a, hh.objs.size ≤ a → hh.get? a = none := fun a ha => by
    cases q : hh.get? a with
    | none => rfl
    | some o => exact absurd (Heap.lt_size q) (Nat.not_lt.mpr ha)
  refine make_core (makes_of X hm) (looks_findIn X hi) (fun self => bind_fn X self (beq_iff_eq.mp hf)) (.inl rfl) (codeAny_mono (h (hh.objs.size + 1) hh.objs.size _ (none_of _ (Nat.le_succ _)) (none_of _ (Nat.le_refl _)) (Nat.succ_ne_self _) ?_ ?_ ?_ ?_) fun r s' z => z)
  · have := Heap.get?_push_size (hh.push emptyDict) (o := instObj C hh.objs.size) rfl
    rwa [Heap.size_push] at this
  · exact Heap.get?_push_of_some _ (Heap.get?_push_size _ rfl)
  · exact fun a o q => Heap.get?_push_of_some _ (Heap.get?_push_of_some _ q)
  · show hh.objs.size ≤ ((hh.push emptyDict).push _).objs.size
    rw [Heap.size_push, Heap.size_push]; exact Nat.le_add_right _ 2
end
end Mine
namespace Mine

section
variable {b : Heap} {S : List Addr} {g0 : FM} {h0 : Heap} {env : Env} {g : FM} {m mc : Str → Option Value} {mu : List (Addr × Obj)} {h h' : Heap}
theorem St.updAt {pre post : List (Addr × Obj)} {a : Addr} {o o' : Obj} (H : St b S g0 h0 env g m mc (pre ++ (a, o) :: post) h) (ha : h'.get? a = some o') (hs : Heap.ExtBut a h h') :
    St b S g0 h0 env g m mc (pre ++ (a, o') :: post) h' :=
  ((H.perm List.perm_middle).upd ha hs).perm List.perm_middle.symm
theorem St.muAt {pre post : List (Addr × Obj)} {a : Addr} {o : Obj} (H : St b S g0 h0 env g m mc (pre ++ (a, o) :: post) h) : h.get? a = some o := H.mus (a, o) (List.mem_append_right _ (.head _))
theorem St.ne_of_mu {a : Addr} {o : Obj} (H : St b S g0 h0 env g m mc ((a, o) :: mu) h) : ∀ x ∈ owns env mu, x ≠ a := by
  have nd := H.nd
  intro x hx q
  subst q
  unfold owns at nd hx
  rw [List.map_cons] at nd
  have nd2 := List.nodup_append.mp (List.nodup_cons.mp nd).2
  rcases List.mem_cons.mp hx with q | q
  · exact (List.nodup_cons.mp nd).1 (q ▸ List.mem_append_right _ (.head _))
  · rcases List.mem_append.mp q with q | q
    · exact nd2.2.2 x q x (.head _) rfl
    · exact (List.nodup_cons.mp nd2.2.1).1 q
/-- junk, turned or gone -/
theorem St.dropJunk {a : Addr} {o : Obj} (H : St b S g0 h0 env g m mc ((a, o) :: mu) h) (h0a : h0.get? a = none) (kp : ∀ x p, x ≠ a → h.get? x = some p → h'.get? x = some p) : St b S g0 h0 env g m mc mu h' := by
  have ne := H.ne_of_mu
  have ga := (H.own a (owns_mu (p := (a, o)) (.head _))).1
  have D := H.drop
  refine ⟨?_, fun x c hc => ?_, D.bg, D.lo, ⟨D.ev.gg, D.ev.new, fun x p n e => kp x p (fun q => by subst q; rw [h0a] at e; cases e) (D.ev.keep x p n e), fun x p e => ?_, fun x p e => kp x p (fun q => by subst q; rw [ga] at e; cases e) (D.on x p e)⟩,
    fun p hp => kp _ _ (ne _ (owns_mu hp)) (D.mus p hp), D.nd, D.nn, D.own⟩
  · obtain ⟨oL, es, ep, e, r⟩ := D.ns; exact ⟨oL, es, ep, kp _ _ (ne _ owns_L) e, r⟩
  · obtain ⟨oc, e, r⟩ := D.cell x c hc
    exact ⟨oc, kp _ _ (ne _ (.tail _ (List.mem_append_left _ (List.mem_map.mpr ⟨(x, c), hc, rfl⟩)))) e, r⟩
  · obtain ⟨p', e'⟩ := D.ev.live x p e
    exact ⟨p', kp x p' (fun q => by subst q; rw [h0a] at e; cases e) e'⟩
theorem St.adopt (H : St b S g0 h0 env g m mc mu h) {a : Addr} {o : Obj} (ha : h.get? a = some o) (na : a ∉ owns env mu) (ga : g a = none) (h0a : h0.get? a = none) : St b S g0 h0 env g m mc ((a, o) :: mu) h := by
  refine ⟨H.ns, H.cell, H.bg, H.lo, H.ev, fun p hp => ?_, ?_, H.nn, fun x hx => ?_⟩
  · rcases List.mem_cons.mp hp with rfl | hp
    · exact ha
    · exact H.mus p hp
  · have nd := H.nd
    unfold owns at nd na ⊢
    rw [List.map_cons]
    refine List.nodup_cons.mpr ⟨fun q => ?_, ?_⟩
    · rcases List.mem_append.mp q with q | q
      · exact (List.nodup_cons.mp nd).1 (List.mem_append_left _ q)
      · rcases List.mem_cons.mp q with q | q
        · exact na (q ▸ .head _)
        · exact (List.nodup_cons.mp nd).1 (List.mem_append_right _ q)
    · refine List.nodup_append.mpr ⟨(List.nodup_append.mp (List.nodup_cons.mp nd).2).1, List.nodup_cons.mpr ⟨fun q => na (.tail _ (List.mem_append_right _ q)), (List.nodup_append.mp (List.nodup_cons.mp nd).2).2.1⟩, fun x hx y hy e => ?_⟩
      rcases List.mem_cons.mp hy with q | q
      · subst e; subst q; exact na (.tail _ (List.mem_append_left _ hx))
      · exact (List.nodup_append.mp (List.nodup_cons.mp nd).2).2.2 x hx y q e
  · have : x = a ∨ x ∈ owns env mu := by
      unfold owns at hx ⊢
      rcases List.mem_cons.mp hx with q | q
      · exact .inr (q ▸ .head _)
      · rcases List.mem_append.mp q with q | q
        · exact .inr (.tail _ (List.mem_append_left _ q))
        · rcases List.mem_cons.mp q with q | q
          · exact .inl q
          · exact .inr (.tail _ (List.mem_append_right _ q))
    rcases this with rfl | q
    · exact ⟨ga, .inl h0a⟩
    · exact H.own x q
theorem none_of_ge {h : Heap} {a : Addr} (ha : h.objs.size ≤ a) : h.get? a = none := by
  cases q : h.get? a with
  | none => rfl
  | some o => exact absurd (Heap.lt_size q) (Nat.not_lt.mpr ha)
end

/-- what is iterated: n items, each as P says -/
def Src (prog : Program) (w : World) (A : Around) (n : Nat) (P : Nat → Value → Prop) (g : FM) (xv : Value) (h : Heap) : Prop :=
  ∀ (s : Shared) (Q : Value → Shared → Prop) (E : Value → Shared → Prop), s.heap = h →
    (∀ I fp Ws h', Walks prog w A I fp [I] n P Ws → Ws 0 h' → (∀ i h, Ws i h → ∃ o, h.get? I = some o) → h.get? I = none → (∀ a ∈ fp, a ≠ I → ∃ o, g a = some o) →
      (∀ a o, h.get? a = some o → h'.get? a = some o) → h.objs.size ≤ h'.objs.size → Q (.ref I) { s with heap := h' }) → wpAny (model prog w) A (pyIter xv) Q E s

section
variable {prog : Program} {w : World} {A : Around} {g : FM} {h : Heap}
theorem Src.range (hh : A.handled = none) {r : Addr} {a c : Int} {t u v : Tok} (hr : IsRange h r a c 1 t u v) (hsmall : Builtin.Range.small a c 1 = true) (hac : a ≤ c) :
    Src prog w A (c - a).toNat (fun i v => ∃ t, v = .int (a + i) t) g (.ref r) h := by
  intro s Q E hs k
  subst hs
  refine wpAny_pyIter_range hr hsmall ?_
  have hsz : Builtin.Range.rangeSize a c 1 = ((c - a).toNat : Int) := by
    rw [rangeSize_one]; split <;> omega
  have W := Walks.range (prog := prog) (w := w) hh s.heap.objs.size a 1 (c - a).toNat
  refine k s.heap.objs.size [s.heap.objs.size] _ _ ⟨W.sub, W.frame, fun i s Q E hi st hQ => W.item i s Q E hi st fun v h' tk hp => hQ v h' tk (by obtain ⟨t, e⟩ := hp; exact ⟨t, by rw [e, Int.mul_one]⟩), W.done, W.self⟩ ?_ (fun i h e => ⟨_, e⟩)
    (none_of_ge (Nat.le_refl _)) (fun x hx n => absurd (List.mem_singleton.mp hx) n) (fun _ _ e => Heap.get?_push_of_some _ e) (by rw [Heap.size_push]; exact Nat.le_succ _)
  have e1 : (a + ((0 : Nat) : Int) * 1) = a := by simp
  have e2 : (((c - a).toNat : Int) - ((0 : Nat) : Int)) = Builtin.Range.rangeSize a c 1 := by rw [hsz]; simp
  show IsRangeIter _ _ (a + ((0 : Nat) : Int) * 1) (((c - a).toNat : Int) - ((0 : Nat) : Int)) 1
  rw [e1, e2]
  exact Heap.get?_push_size _ rfl

/-- a list that stands for good -/
theorem Src.list (hh : A.handled = none) {l : Addr} {o : Obj} {vs : List Value} (hg : g l = some o) (on : g.on h) (hl : h.IsList l vs.toArray) : Src prog w A vs.length (fun i v => vs[i]? = some v) g (.ref l) h := by
  intro s Q E hs k
  subst hs
  refine wpAny_pyIter_list hl ?_
  have hlt : l < s.heap.objs.size := by obtain ⟨_, e, _⟩ := hl; exact Heap.lt_size e
  have W := Walks.list (prog := prog) (w := w) hh s.heap.objs.size l (Nat.ne_of_lt hlt) vs.toArray
  have e : vs.toArray.size = vs.length := List.size_toArray ..
  rw [e] at W
  have hW : Walks prog w A s.heap.objs.size [s.heap.objs.size, l] [s.heap.objs.size] vs.length (fun i v => vs[i]? = some v) (fun i h => h.IsListIter s.heap.objs.size l i ∧ h.IsList l vs.toArray) :=
    ⟨W.sub, W.frame, fun i s Q E hi st hQ => W.item i s Q E hi st fun v h' tk hp => hQ v h' tk (by simpa using hp), W.done, W.self⟩
  refine k s.heap.objs.size _ _ _ hW ⟨⟨_, Heap.get?_push_size _ rfl, rfl, rfl⟩, hl.push _⟩ (fun i h e => ⟨_, e.1.choose_spec.1⟩) (none_of_ge (Nat.le_refl _)) (fun x hx n => ?_) (fun _ _ e => Heap.get?_push_of_some _ e) (by rw [Heap.size_push]; exact Nat.le_succ _)
  rcases List.mem_cons.mp hx with rfl | hx
  · exact absurd rfl n
  · exact ⟨o, (List.mem_singleton.mp hx) ▸ hg⟩
end

section
variable {prog : Program} {w : World} {b : Heap}
variable {S : List Addr} {g0 : FM} {h0 : Heap} {env : Env} {g : FM} {m mc : Str → Option Value} {mu : List (Addr × Obj)}
variable {A : Around} {s : Shared} {E : Value → Shared → Prop}

abbrev Inv := FM → (Str → Option Value) → (Str → Option Value) → List (Addr × Obj) → Prop

def LoopEndG (GP : Array GenState → Prop) (b : Heap) (S : List Addr) (g0 : FM) (h0 : Heap) (env : Env) (s : Shared) (g₁ : FM) (q : Addr × Obj) (J : Inv) (Q : Flow → Shared → Prop) (f : Flow) (s' : Shared) : Prop :=
  match f with
  | .ret v => Q (.ret v) s'
  | .brk => Q .next s'
  | _ => ∃ g₂ m₂ mc₂ mu₂ h₂ tk₂ gs₂, s' = { s with heap := h₂, toks := tk₂, gens := gs₂ } ∧ GP gs₂ ∧ g₁.le g₂ ∧ St b S g0 h0 env g₂ m₂ mc₂ (q :: mu₂) h₂ ∧ J g₂ m₂ mc₂ mu₂
abbrev LoopEnd (b : Heap) (S : List Addr) (g0 : FM) (h0 : Heap) (env : Env) (s : Shared) (g₁ : FM) (q : Addr × Obj) (J : Inv) (Q : Flow → Shared → Prop) (f : Flow) (s' : Shared) : Prop :=
  LoopEndG (fun gs => gs = s.gens) b S g0 h0 env s g₁ q J Q f s'
theorem LoopEnd.mk {s : Shared} {g₁ g₂ : FM} {q : Addr × Obj} {J : Inv} {Q : Flow → Shared → Prop} {m₂ mc₂ : Str → Option Value} {mu₂ : List (Addr × Obj)} {h₂ : Heap} {tk₂ : Nat}
    (le : g₁.le g₂) (H : St b S g0 h0 env g₂ m₂ mc₂ (q :: mu₂) h₂) (j : J g₂ m₂ mc₂ mu₂) : LoopEnd b S g0 h0 env s g₁ q J Q .next { s with heap := h₂, toks := tk₂ } :=
  ⟨g₂, m₂, mc₂, mu₂, h₂, tk₂, s.gens, rfl, rfl, le, H, j⟩
theorem LoopEndG.mk {GP : Array GenState → Prop} {s : Shared} {g₁ g₂ : FM} {q : Addr × Obj} {J : Inv} {Q : Flow → Shared → Prop} {m₂ mc₂ : Str → Option Value} {mu₂ : List (Addr × Obj)} {h₂ : Heap} {tk₂ : Nat} {gs₂ : Array GenState}
    (gp : GP gs₂) (le : g₁.le g₂) (H : St b S g0 h0 env g₂ m₂ mc₂ (q :: mu₂) h₂) (j : J g₂ m₂ mc₂ mu₂) : LoopEndG GP b S g0 h0 env s g₁ q J Q .next { s with heap := h₂, toks := tk₂, gens := gs₂ } :=
  ⟨g₂, m₂, mc₂, mu₂, h₂, tk₂, gs₂, rfl, gp, le, H, j⟩

theorem loop_gen {target : Expr} {body : List Stmt} {n : Nat} {P : Nat → Value → Prop} {xv : Value} {Q : Flow → Shared → Prop} {pE : Value → Shared → Prop} {GP : Array GenState → Prop} (gp0 : GP s.gens) (am ac : Value → (Str → Option Value) → Str → Option Value)
    (asg : ∀ v g₁ m₁ mc₁ mu₁ (s₁ : Shared) (Q : Unit → Shared → Prop) (E : Value → Shared → Prop), St b S g0 h0 env g₁ m₁ mc₁ mu₁ s₁.heap → (∀ h' tk, St b S g0 h0 env g₁ (am v m₁) (ac v mc₁) mu₁ h' → Q () { s₁ with heap := h', toks := tk }) →
      wpAny (model prog w) A (assign target env v) Q E s₁) (ht : ∀ it v, letOwnedTupleGo target it v = pure ())
    (H : St b S g0 h0 env g m mc mu s.heap) (src : Src prog w A n P g xv s.heap) (J : Nat → Inv) (j0 : J 0 g m mc mu)
    (turn : ∀ i v I oI g₁ m₁ mc₁ mu₁ h₁ tk gs E', GP gs → i < n → P i v → g.le g₁ → J i g₁ m₁ mc₁ mu₁ → St b S g0 h0 env g₁ (am v m₁) (ac v mc₁) ((I, oI) :: mu₁) h₁ →
      wpAny (model prog w) A (execs body env) (LoopEndG GP b S g0 h0 env s g₁ (I, oI) (J (i + 1)) Q) E' { s with heap := h₁, toks := tk, gens := gs })
    (done : ∀ g₁ m₁ mc₁ mu₁ h₁ tk gs, GP gs → g.le g₁ → J n g₁ m₁ mc₁ mu₁ → St b S g0 h0 env g₁ m₁ mc₁ mu₁ h₁ → Q .next { s with heap := h₁, toks := tk, gens := gs }) :
    wpAny (model prog w) A (pyIter xv) (fun it s₂ => codeAny (model prog w) A (.forLoop target it body [] env) (fun r s' => match r with | .ok f => Q f s' | .error e => pE e s') s₂) E s := by
  refine src s _ _ rfl fun I fp Ws h' W w0 live fresh frz keep _ => ?_
  obtain ⟨oI, hI⟩ := live 0 h' w0
  have H' := H.alloc fresh hI keep
  refine codeAny_forLoop (fun k s' => ∃ i g₁ m₁ mc₁ mu₁ oI h₁ tk gs, s' = { s with heap := h₁, toks := tk, gens := gs } ∧ GP gs ∧ k = n - i ∧ i ≤ n ∧ Ws i h₁ ∧ g.le g₁ ∧ St b S g0 h0 env g₁ m₁ mc₁ ((I, oI) :: mu₁) h₁ ∧ J i g₁ m₁ mc₁ mu₁) ?_ n
    ⟨0, g, m, mc, mu, oI, h', s.toks, s.gens, rfl, gp0, rfl, Nat.zero_le _, w0, .refl g, H', j0⟩ (fun v => ht _ v)
  rintro k s' ⟨i, g₁, m₁, mc₁, mu₁, oI, h₁, tk, gs, rfl, gp, rfl, hi, w1, le1, H1, j1⟩
  have hIo : ∀ {p}, p ∈ [I] → p = I := fun hp => List.mem_singleton.mp hp
  by_cases hlt : i < n
  · refine W.item i _ _ _ hlt w1 fun v h₂ tk₂ hP w2 kp => ?_
    obtain ⟨oI', hI'⟩ := live _ _ w2
    have H2 : St b S g0 h0 env g₁ m₁ mc₁ ((I, oI') :: mu₁) h₂ := H1.upd hI' fun a o na e => kp a o (fun q => na (hIo q)) e
    refine asg v g₁ m₁ mc₁ _ _ _ _ H2 fun h₃ tk₃ H3 => ?_
    have w3 : Ws (i + 1) h₃ := W.frame _ _ _ w2 fun a ha o e => by
      by_cases q : a = I
      · subst q
        have := H3.mus (a, oI') (.head _)
        rw [hI'] at e; cases e; exact this
      · obtain ⟨o', hg⟩ := frz a ha q
        have e2 := H2.on a o' (le1 a o' hg)
        have e3 := H3.on a o' (le1 a o' hg)
        rw [e] at e2; cases e2; exact e3
    refine wpAny_mono (turn i v I oI' g₁ m₁ mc₁ mu₁ h₃ tk₃ gs _ gp hlt hP le1 j1 H3) (fun f s₃ z => ?_) fun _ _ z => z
    cases f with
    | ret v => exact z
    | brk => exact z
    | next | cont =>
      obtain ⟨g₂, m₂, mc₂, mu₂, h₄, tk₄, gs₄, rfl, gp₄, le2, H4, j2⟩ := z
      refine ⟨n - (i + 1), Nat.sub_lt_sub_left hlt (Nat.lt_succ_self i), i + 1, g₂, m₂, mc₂, mu₂, oI', h₄, tk₄, gs₄, rfl, gp₄, rfl, hlt, W.frame _ _ _ w3 fun a ha o e => ?_, le1.trans le2, H4, j2⟩
      by_cases q : a = I
      · subst q
        have e3 := H3.mus (a, oI') (.head _)
        have e4 := H4.mus (a, oI') (.head _)
        rw [e] at e3; cases e3; exact e4
      · obtain ⟨o', hg⟩ := frz a ha q
        have e3 := H3.on a o' (le1 a o' hg)
        have e4 := H4.on a o' (le2 _ _ (le1 a o' hg))
        rw [e] at e3; cases e3; exact e4
  · have hin : i = n := Nat.le_antisymm hi (Nat.not_lt.mp hlt)
    subst hin
    refine W.done _ _ _ w1 fun h₂ tk₂ kp => ?_
    refine wpAny_execs_nil ?_
    have h0I : h0.get? I = none := by
      cases q : h0.get? I with
      | none => rfl
      | some o => obtain ⟨o', e⟩ := H.ev.live _ _ q; rw [fresh] at e; cases e
    have H2 : St b S g0 h0 env g₁ m₁ mc₁ mu₁ h₂ := H1.dropJunk h0I fun a o na e => kp a o (fun q => na (hIo q)) e
    exact done g₁ m₁ mc₁ mu₁ h₂ tk₂ gs gp le1 j1 H2
end
end Mine
namespace Mine

/-- a list's object -/
def IsL (o : Obj) (ys : List Value) : Prop := o.cls = .type "list" ∧ ∃ k, o.data = .seq ys.toArray k ∧ o = { cls := .type "list", data := .seq ys.toArray k }
theorem IsL.at_ {o : Obj} {ys : List Value} (x : IsL o ys) {h : Heap} {a : Addr} (e : h.get? a = some o) : h.IsList a ys.toArray := let ⟨c, k, d, _⟩ := x; ⟨o, e, c, k, d⟩
theorem IsL.plain {o : Obj} {ys : List Value} (x : IsL o ys) {h : Heap} {a : Addr} (e : h.get? a = some o) : h.PlainList a ys.toArray := let ⟨_, k, _, q⟩ := x; ⟨k, q ▸ e⟩
theorem plain_isl {h : Heap} {a : Addr} {its : Array Value} {ys : List Value} (x : h.PlainList a its) (e : its = ys.toArray) : ∃ o, h.get? a = some o ∧ IsL o ys := by
  subst e
  obtain ⟨n, q⟩ := x
  exact ⟨_, q, rfl, n, rfl, rfl⟩

def cenvOf (scope : Scope) (cl : List (Str × Addr)) (C : Addr) (env : Env) : Env :=
  { scope := relabel scope env, locals := C, globals := env.globals, cells := cellsFrom (C + 1) scope.names cl, qual := env.qual, func := none, code := env.code, frame := env.frame, builtins := env.builtins }

def Caught (env : Env) : List (Str × Addr) → Prop
  | [] => True
  | p :: r => env.cells.lookup p.1 = some p.2 ∧ Caught env r
theorem Caught.all {env : Env} : ∀ {cl : List (Str × Addr)}, Caught env cl → ∀ p ∈ cl, env.cells.lookup p.1 = some p.2
  | _ :: _, ⟨h, _⟩, _, .head _ => h
  | _ :: _, ⟨_, r⟩, p, .tail _ hp => r.all p hp

theorem cells_new : ∀ (names : List (Str × NameKind)) (h : Heap) (acc : List (Str × Addr)) (q : Str × Addr), q ∈ cellsFrom h.objs.size names acc →
    q ∈ acc ∨ (h.objs.size ≤ q.2 ∧ (pushCells h names).IsCell q.2 none ∧ (q.1, NameKind.cell) ∈ names)
  | [], _, _, _, hq => .inl hq
  | (x, k) :: r, h, acc, q, hq => by
    unfold cellsFrom at hq
    unfold pushCells
    by_cases hk : (k == NameKind.cell) = true
    · rw [if_pos hk] at hq
      rw [if_pos hk]
      have e : (h.push { cls := .type "cell", data := .cell none }).objs.size = h.objs.size + 1 := Heap.size_push ..
      rw [← e] at hq
      rcases cells_new r _ _ q hq with hq | ⟨h1, h2, h3⟩
      · rcases List.mem_cons.mp hq with rfl | hq
        · exact .inr ⟨Nat.le_refl _, ⟨_, pushCells_keeps _ _ _ _ (Heap.get?_push_size _ rfl), rfl⟩, by rw [show k = NameKind.cell from beq_iff_eq.mp hk]; exact .head _⟩
        · exact .inl hq
      · exact .inr ⟨by rw [e] at h1; omega, h2, .tail _ h3⟩
    · rw [if_neg hk] at hq
      rw [if_neg hk]
      rcases cells_new r h acc q hq with hq | ⟨h1, h2, h3⟩
      · exact .inl hq
      · exact .inr ⟨h1, h2, .tail _ h3⟩
section
variable {prog : Program} {w : World} {b : Heap}
variable {S : List Addr} {g0 : FM} {h0 : Heap} {env : Env} {g g₂ : FM} {m mc m₂ mc₂ : Str → Option Value} {mu mu₂ : List (Addr × Obj)} {h h₂ : Heap}
variable {A : Around} {s : Shared} {E : Value → Shared → Prop}

theorem St.muE (_H : St b S g0 h0 env g m mc mu h) {a : Addr} (ha : a ∈ mu.map (·.1)) : a ∈ owns env mu := .tail _ (List.mem_append_right _ ha)
theorem St.not_owned (H : St b S g0 h0 env g m mc mu h) {a : Addr} (ha : h.get? a = none) : a ∉ owns env mu := fun q => by obtain ⟨o, e⟩ := H.liveO q; rw [ha] at e; cases e
theorem St.gfresh (H : St b S g0 h0 env g m mc mu h) {a : Addr} (ha : h.get? a = none) : g a = none := by
  cases q : g a with
  | none => rfl
  | some o => rw [H.on _ _ q] at ha; cases ha
theorem St.h0fresh (H : St b S g0 h0 env g m mc mu h) {a : Addr} (ha : h.get? a = none) : h0.get? a = none := by
  cases q : h0.get? a with
  | none => rfl
  | some o => obtain ⟨o', e⟩ := H.ev.live _ _ q; rw [ha] at e; cases e

/-- a block's frame, above its function's -/
theorem St.inner {scope : Scope} {cl : List (Str × Addr)} {cn : List Str} (H : St b S g0 h0 env g m mc mu h) (hcl : Caught env cl) (hcn : cl.map (·.1) = cn)
    (hnd : ((cellsFrom 0 scope.names (cn.map fun x => (x, 0))).map (·.1)).Nodup) {H₃ h₄ : Heap} (k3 : ∀ a o, h.get? a = some o → H₃.get? a = some o) (hle : h.objs.size ≤ H₃.objs.size)
    (h4 : h₄ = pushCells (H₃.push { cls := .type "dict", data := .dict #[] }) scope.names) {mc' : Str → Option Value} (hmc : ∀ p ∈ cl, mc' p.1 = mc p.1) (hown : ∀ x, (x, NameKind.cell) ∈ scope.names → mc' x = none) :
    St b (cl.map (·.2) ++ mu.map (·.1)) g h (cenvOf scope cl H₃.objs.size env) g no mc' mu h₄ ∧ ∀ a ∈ owns (cenvOf scope cl H₃.objs.size env) mu, (∃ o, h.get? a = some o) ∨ H₃.objs.size ≤ a := by
  subst h4
  have k4 : ∀ a o, h.get? a = some o → (pushCells (H₃.push { cls := .type "dict", data := .dict #[] }) scope.names).get? a = some o := fun a o e => pushCells_keeps _ _ _ _ (Heap.get?_push_of_some _ (k3 a o e))
  have sz : (H₃.push { cls := .type "dict", data := .dict #[] }).objs.size = H₃.objs.size + 1 := Heap.size_push ..
  have cn4 : ∀ q ∈ cellsFrom (H₃.objs.size + 1) scope.names cl, q ∈ cl ∨ (H₃.objs.size + 1 ≤ q.2 ∧ (pushCells (H₃.push { cls := .type "dict", data := .dict #[] }) scope.names).IsCell q.2 none ∧ (q.1, NameKind.cell) ∈ scope.names) := fun q hq => by
    rw [← sz] at hq ⊢; exact cells_new _ _ _ _ hq
  have lt : ∀ a ∈ owns env mu, a < h.objs.size := fun a ha => by obtain ⟨o, e⟩ := H.liveO ha; exact Heap.lt_size e
  have clE : ∀ p ∈ cl, p ∈ env.cells := fun p hp => mem_of_lookup (hcl.all p hp)
  have clO : ∀ p ∈ cl, p.2 ∈ owns env mu := fun p hp => .tail _ (List.mem_append_left _ (List.mem_map.mpr ⟨p, clE p hp, rfl⟩))
  have nd := H.nd
  unfold owns at nd
  have nd2 := List.nodup_append.mp (List.nodup_cons.mp nd).2
  have nn : ((cellsFrom (H₃.objs.size + 1) scope.names cl).map (·.1)).Nodup := by
    rw [cells_names scope.names _ 0 cl (cn.map fun x => (x, 0)) (by rw [hcn, List.map_map]; exact (List.map_id cn).symm)]; exact hnd
  have clN : (cl.map (·.1)).Nodup := by
    have : ∀ (names : List (Str × NameKind)) (n : Nat) (acc : List (Str × Addr)), ((cellsFrom n names acc).map (·.1)).Nodup → (acc.map (·.1)).Nodup := by
      intro names
      induction names with
      | nil => exact fun _ _ h => h
      | cons p r ih =>
        intro n acc h
        unfold cellsFrom at h
        split at h
        · have := ih _ _ h
          rw [List.map_cons] at this
          exact (List.nodup_cons.mp this).2
        · exact ih _ _ h
    exact this _ _ _ nn
  have clA : (cl.map (·.2)).Nodup := by
    have : ∀ l : List (Str × Addr), (l.map (·.1)).Nodup → (∀ p ∈ l, p ∈ env.cells) → (l.map (·.2)).Nodup := by
      intro l
      induction l with
      | nil => exact fun _ _ => List.nodup_nil
      | cons p r ih =>
        intro h1 h2
        rw [List.map_cons] at h1 ⊢
        obtain ⟨h3, h4⟩ := List.nodup_cons.mp h1
        refine List.nodup_cons.mpr ⟨fun q => ?_, ih h4 fun x hx => h2 x (.tail _ hx)⟩
        obtain ⟨x, hx, e⟩ := List.mem_map.mp q
        have : x.1 = p.1 := cell_inj nd2.1 (c := p.2) (e ▸ h2 x (.tail _ hx)) (h2 p (.head _))
        exact h3 (this ▸ List.mem_map_of_mem hx)
    exact this cl clN clE
  have ndc : ((cellsFrom (H₃.objs.size + 1) scope.names cl).map (·.2)).Nodup := cells_nodup _ _ _ clA fun p hp => Nat.lt_succ_of_lt (Nat.lt_of_lt_of_le (lt _ (clO p hp)) hle)
  have Cn : (cenvOf scope cl H₃.objs.size env).locals = H₃.objs.size := rfl
  refine ⟨⟨(Heap.Ns.new H₃ (.type "dict")).keeps (pushCells_keeps _ _), fun y c hc => ?_, H.bg, Nat.le_trans H.Bg.lo hle, Ev.keeps H.on k4, fun p hp => k4 _ _ (H.mus p hp), ?_, nn, fun a ha => ?_⟩, fun a ha => ?_⟩
  · rcases cn4 (y, c) hc with hc | ⟨_, hc, hn⟩
    · have := H.cell y c (clE _ hc)
      rw [show mc' y = mc y from hmc _ hc]
      exact this.keeps k4
    · rw [show mc' y = none from hown _ hn]; exact hc
  · show (H₃.objs.size :: ((cellsFrom (H₃.objs.size + 1) scope.names cl).map (·.2) ++ mu.map (·.1))).Nodup
    refine List.nodup_cons.mpr ⟨fun q => ?_, List.nodup_append.mpr ⟨ndc, nd2.2.1, fun y hy z hz e => ?_⟩⟩
    · rcases List.mem_append.mp q with q | q
      · obtain ⟨p, hp, e⟩ := List.mem_map.mp q
        have e : p.2 = H₃.objs.size := e
        rcases cn4 p hp with hp | ⟨hp, _⟩
        · have := Nat.lt_of_lt_of_le (lt _ (clO p hp)) hle
          rw [e] at this; exact Nat.lt_irrefl _ this
        · rw [e] at hp; exact Nat.lt_irrefl _ hp
      · have := Nat.lt_of_lt_of_le (lt _ (H.muE q)) hle
        exact Nat.lt_irrefl _ this
    · subst e
      obtain ⟨p, hp, rfl⟩ := List.mem_map.mp hy
      rcases cn4 p hp with hp | ⟨hp, _⟩
      · exact nd2.2.2 p.2 (List.mem_map.mpr ⟨p, clE p hp, rfl⟩) p.2 hz rfl
      · have := Nat.lt_of_lt_of_le (lt _ (H.muE hz)) hle
        have hp : H₃.objs.size + 1 ≤ p.2 := hp
        exact absurd (Nat.lt_of_lt_of_le this (Nat.le_of_succ_le hp)) (Nat.lt_irrefl _)
  · rcases List.mem_cons.mp ha with rfl | ha
    · have := none_of_ge (h := h) (a := H₃.objs.size) hle
      exact ⟨H.gfresh this, .inl this⟩
    · rcases List.mem_append.mp ha with ha | ha
      · obtain ⟨p, hp, rfl⟩ := List.mem_map.mp ha
        rcases cn4 p hp with hp | ⟨hp, _⟩
        · exact ⟨(H.own _ (clO p hp)).1, .inr (List.mem_append_left _ (List.mem_map_of_mem hp))⟩
        · have hp : H₃.objs.size + 1 ≤ p.2 := hp
          have := none_of_ge (h := h) (a := p.2) (Nat.le_trans hle (Nat.le_of_succ_le hp))
          exact ⟨H.gfresh this, .inl this⟩
      · exact ⟨(H.own a (H.muE ha)).1, .inr (List.mem_append_right _ ha)⟩
  · rcases List.mem_cons.mp ha with rfl | ha
    · exact .inr (Nat.le_refl _)
    · rcases List.mem_append.mp ha with ha | ha
      · obtain ⟨p, hp, rfl⟩ := List.mem_map.mp ha
        rcases cn4 p hp with hp | ⟨hp, _⟩
        · exact .inl (H.liveO (clO p hp))
        · exact .inr (Nat.le_of_succ_le hp)
      · exact .inl (H.liveO (H.muE ha))

/-- back to the function's frame -/
theorem St.outer {scope : Scope} {cl : List (Str × Addr)} {C : Addr} {m₂ mc₂ : Str → Option Value} (H : St b S g0 h0 env g m mc mu h) (hcl : Caught env cl)
    (Hi : St b (cl.map (·.2) ++ mu.map (·.1)) g h (cenvOf scope cl C env) g₂ m₂ mc₂ mu₂ h₂) (sub : ∀ p ∈ cl, p ∈ (cenvOf scope cl C env).cells) (hmc : ∀ p ∈ cl, mc₂ p.1 = mc p.1) {mu₃ : List (Addr × Obj)} (hmu : mu₃.map (·.1) = mu.map (·.1)) (hm3 : ∀ p ∈ mu₃, p ∈ mu₂) :
    St b S g0 h0 env g₂ m mc mu₃ h₂ := by
  have clE : ∀ p ∈ cl, p ∈ env.cells := fun p hp => mem_of_lookup (hcl.all p hp)
  have nd := H.nd
  unfold owns at nd
  have nd2 := List.nodup_append.mp (List.nodup_cons.mp nd).2
  have notS : ∀ a, a ∉ cl.map (·.2) → a ∉ mu.map (·.1) → a ∉ cl.map (·.2) ++ mu.map (·.1) := fun a h1 h2 q => (List.mem_append.mp q).elim h1 h2
  refine H.move (Hi.ev.mono fun a ha => ?_) ?_ (fun y c hc => ?_) (fun p hp => Hi.mus p (hm3 p hp)) hmu
  · rcases List.mem_append.mp ha with ha | ha
    · obtain ⟨p, hp, rfl⟩ := List.mem_map.mp ha
      exact .tail _ (List.mem_append_left _ (List.mem_map.mpr ⟨p, clE p hp, rfl⟩))
    · exact .tail _ (List.mem_append_right _ ha)
  · obtain ⟨o, es, ep, e, r⟩ := H.ns
    refine ⟨o, es, ep, Hi.ev.keep _ _ (notS _ (fun q => ?_) fun q => (List.nodup_cons.mp nd).1 (List.mem_append_right _ q)) e, r⟩
    obtain ⟨p, hp, e⟩ := List.mem_map.mp q
    exact (List.nodup_cons.mp nd).1 (List.mem_append_left _ (List.mem_map.mpr ⟨p, clE p hp, e⟩))
  · by_cases q : c ∈ cl.map (·.2)
    · obtain ⟨p, hp, rfl⟩ := List.mem_map.mp q
      have : p.1 = y := cell_inj nd2.1 (c := p.2) (clE p hp) hc
      have h1 := Hi.cell p.1 p.2 (sub p hp)
      rw [hmc p hp] at h1
      rw [← this]; exact h1
    · obtain ⟨o, e, r⟩ := H.cell y c hc
      exact ⟨o, Hi.ev.keep _ _ (notS _ q fun q' => nd2.2.2 c (List.mem_map.mpr ⟨(y, c), hc, rfl⟩) c q' rfl) e, r⟩
end
end Mine
namespace Mine

theorem cells_acc : ∀ (names : List (Str × NameKind)) (n : Nat) (acc : List (Str × Addr)) (p : Str × Addr), p ∈ acc → p ∈ cellsFrom n names acc
  | [], _, _, _, h => h
  | (x, k) :: r, n, acc, p, h => by
    unfold cellsFrom
    split
    · exact cells_acc r _ _ p (.tail _ h)
    · exact cells_acc r _ _ p h

/-- the target of a block: a name of its own, or one that an inner block takes -/
def tm (xc : Bool) (x : Str) (v : Value) : Str → Option Value := if xc then no else up x v no
def tc (xc : Bool) (x : Str) (v : Value) (mc : Str → Option Value) : Str → Option Value := if xc then up x v mc else mc

theorem up_up (x : Str) (u v : Value) (m : Str → Option Value) : up x v (up x u m) = up x v m := by
  funext y; unfold up; split <;> rfl

structure CompOk (env : Env) (scope : Scope) (cl : List (Str × Addr)) (cn : List Str) (x : Str) (xc : Bool) : Prop where
  clos : closureFor scope env = pure cl
  caught : Caught env cl
  names : cl.map (·.1) = cn
  nd : ((cellsFrom 0 scope.names (cn.map fun x => (x, 0))).map (·.1)).Nodup
  kind : scope.kind = .function
  loc : ∀ y ∈ scope.names, y.2 = .local → scope.names.lookup y.1 = some .local
  own : ∀ y ∈ scope.names, y.2 = .cell → xc = true ∧ y.1 = x
  tgt : (relabel scope env).names.lookup x = some (if xc then .cell else .local)
  has : xc = true → scope.names.lookup x = some .cell
  off : x ∉ cn

section
variable {prog : Program} {w : World} {b : Heap}
variable {S : List Addr} {g0 : FM} {h0 : Heap} {env : Env} {g : FM} {m mc : Str → Option Value} {mu : List (Addr × Obj)}
variable {A : Around} {s : Shared} {E : Value → Shared → Prop}

theorem St.muAddr {h : Heap} {mu₁ : List (Addr × Obj)} (H : St b S g0 h0 env g m mc mu h) (ha : mu₁.map (·.1) = mu.map (·.1)) {a : Addr} (f : h.get? a = none) : a ∉ owns env mu₁ := fun q =>
  H.not_owned f (by unfold owns at q ⊢; rw [← ha]; exact q)

def EltEndG (GP : Array GenState → Prop) (b : Heap) (S : List Addr) (g0 : FM) (h0 : Heap) (cenv : Env) (m mc : Str → Option Value) (s : Shared) (g₁ : FM) (q r : Addr × Obj) (adr : List Addr) (J : Value → FM → List (Addr × Obj) → Prop) (y : Value) (s' : Shared) : Prop :=
  ∃ g₂ mu₂ h₂ tk₂ gs₂, s' = { s with heap := h₂, toks := tk₂, gens := gs₂ } ∧ GP gs₂ ∧ g₁.le g₂ ∧ St b S g0 h0 cenv g₂ m mc (q :: r :: mu₂) h₂ ∧ mu₂.map (·.1) = adr ∧ J y g₂ mu₂
abbrev EltEnd (b : Heap) (S : List Addr) (g0 : FM) (h0 : Heap) (cenv : Env) (m mc : Str → Option Value) (s : Shared) (g₁ : FM) (q r : Addr × Obj) (adr : List Addr) (J : Value → FM → List (Addr × Obj) → Prop) (y : Value) (s' : Shared) : Prop :=
  EltEndG (fun gs => gs = s.gens) b S g0 h0 cenv m mc s g₁ q r adr J y s'
theorem EltEnd.mk {cenv : Env} {s : Shared} {g₁ g₂ : FM} {q r : Addr × Obj} {adr : List Addr} {J : Value → FM → List (Addr × Obj) → Prop} {y : Value} {mu₂ : List (Addr × Obj)} {h₂ : Heap} {tk₂ : Nat}
    (le : g₁.le g₂) (H : St b S g0 h0 cenv g₂ m mc (q :: r :: mu₂) h₂) (ha : mu₂.map (·.1) = adr) (j : J y g₂ mu₂) : EltEnd b S g0 h0 cenv m mc s g₁ q r adr J y { s with heap := h₂, toks := tk₂ } :=
  ⟨g₂, mu₂, h₂, tk₂, s.gens, rfl, rfl, le, H, ha, j⟩
theorem EltEndG.mk {GP : Array GenState → Prop} {cenv : Env} {s : Shared} {g₁ g₂ : FM} {q r : Addr × Obj} {adr : List Addr} {J : Value → FM → List (Addr × Obj) → Prop} {y : Value} {mu₂ : List (Addr × Obj)} {h₂ : Heap} {tk₂ : Nat} {gs₂ : Array GenState}
    (gp : GP gs₂) (le : g₁.le g₂) (H : St b S g0 h0 cenv g₂ m mc (q :: r :: mu₂) h₂) (ha : mu₂.map (·.1) = adr) (j : J y g₂ mu₂) : EltEndG GP b S g0 h0 cenv m mc s g₁ q r adr J y { s with heap := h₂, toks := tk₂, gens := gs₂ } :=
  ⟨g₂, mu₂, h₂, tk₂, gs₂, rfl, gp, le, H, ha, j⟩

theorem comp_core {elt iter : Expr} {x : Str} {px : Pos} {scope : Scope} {cl : List (Str × Addr)} {cn : List Str} {xc : Bool} {pos : Pos} {n : Nat} {P : Nat → Value → Prop} {xv : Value} {use : Option (Value → Sem Unit)} {Q : Value → Shared → Prop} {GP : Array GenState → Prop} (gp0 : GP s.gens)
    (ok : CompOk env scope cl cn x xc) (H : St b S g0 h0 env g m mc mu s.heap) (src : Src prog w A n P g xv s.heap) (hn : n ≤ sizeLine)
    (J : Nat → FM → List (Addr × Obj) → List Value → Prop) (j0 : J 0 g mu [])
    (turn : ∀ i v C D oD I oI g₁ mu₁ ys h₁ tk gs E', GP gs → i < n → P i v → g.le g₁ → mu₁.map (·.1) = mu.map (·.1) → J i g₁ mu₁ ys → ys.length = i →
      St b (cl.map (·.2) ++ mu.map (·.1)) g s.heap (cenvOf scope cl C env) g₁ (tm xc x v) (tc xc x v mc) ((D, oD) :: (I, oI) :: mu₁) h₁ →
      wpAny (model prog w) A (eval elt (cenvOf scope cl C env)) (EltEndG GP b (cl.map (·.2) ++ mu.map (·.1)) g s.heap (cenvOf scope cl C env) (tm xc x v) (tc xc x v mc) s g₁ (D, oD) (I, oI) (mu.map (·.1)) fun y g₂ mu₂ => J (i + 1) g₂ mu₂ (ys ++ [y])) E' { s with heap := h₁, toks := tk, gens := gs })
    (fin : ∀ g₁ mu₁ ys C oC D oD mC h₁ tk gs, GP gs → g.le g₁ → mu₁.map (·.1) = mu.map (·.1) → J n g₁ mu₁ ys → ys.length = n → IsL oD ys → h₁.Ns C mC → h0.get? C = none → h0.get? D = none → St b S g0 h0 env g₁ m mc ((C, oC) :: (D, oD) :: mu₁) h₁ →
      compPost (model prog w) A E use Q (.ref D) C (.ok .next) { s with heap := h₁, toks := tk, gens := gs }) :
    wpAny (model prog w) A (pyIter xv) (fun it s₂ => wpAny (model prog w) A (newList []) (fun acc s₃ => wpAny (model prog w) A (newFunctionEnv scope env.globals cl [] env.qual none .none (some env)) (fun cenv s₄ =>
      codeAny (model prog w) A (.compStart (.ListComp elt [⟨.Name x px, iter, [], 0⟩] scope pos) 0 it acc { cenv with scope := relabel scope env }) (compPost (model prog w) A E use Q acc cenv.locals) s₄) E s₃) E s₂) E s := by
  refine src s _ _ rfl fun I fp Ws h' W w0 live fresh frz keep hsz => wpAny_newList ?_
  simp only [newFunctionEnv, Option.isSome_some, if_true]
  refine wpAny_bind (wpAny_alloc ?_)
  refine wpAny_bind (wpAny_layCells _ (fun name kind cells => by cases kind == NameKind.cell <;> simp) _ _ _ _ ?_)
  refine wpAny_bind ?_
  rw [List.forIn_nil]
  refine wpAny_pure (wpAny_pure ?_)
  dsimp only
  generalize hH3 : h'.push { cls := .type "list", data := .seq ([] : List Value).toArray } = H₃
  have sz3 : H₃.objs.size = h'.objs.size + 1 := by rw [← hH3, Heap.size_push]
  have h'3 : ∀ a o, h'.get? a = some o → H₃.get? a = some o := fun a o e => hH3 ▸ Heap.get?_push_of_some _ e
  have k3 : ∀ a o, s.heap.get? a = some o → H₃.get? a = some o := fun a o e => h'3 a o (keep a o e)
  have hD3 : H₃.get? h'.objs.size = some { cls := .type "list", data := .seq ([] : List Value).toArray } := hH3 ▸ Heap.get?_push_size _ rfl
  have sz4 : (H₃.push { cls := .type "dict", data := .dict #[] }).objs.size = H₃.objs.size + 1 := Heap.size_push ..
  rw [sz4]
  generalize hH4 : pushCells (H₃.push { cls := .type "dict", data := .dict #[] }) scope.names = H₄
  have k4 : ∀ a o, H₃.get? a = some o → H₄.get? a = some o := fun a o e => hH4 ▸ pushCells_keeps _ _ _ _ (Heap.get?_push_of_some _ e)
  have hle : s.heap.objs.size ≤ H₃.objs.size := by rw [sz3]; exact Nat.le_succ_of_le hsz
  obtain ⟨oI, hI⟩ := live 0 h' w0
  have ltI : @LT.lt Nat _ I h'.objs.size := Heap.lt_size hI
  have hxcl : ∀ q ∈ cl, q.1 ≠ x := fun q hq e => ok.off (ok.names ▸ e ▸ List.mem_map_of_mem hq)
  obtain ⟨Hi0, ow⟩ := H.inner (mc' := if xc then (fun y => if y = x then none else mc y) else mc) ok.caught ok.names ok.nd k3 hle hH4.symm (fun q hq => by
      split
      · exact if_neg (hxcl q hq)
      · rfl) (fun y hy => by
      obtain ⟨h1, h2⟩ := ok.own (y, .cell) hy rfl
      rw [if_pos h1]; exact if_pos h2)
  have nI : I ∉ owns (cenvOf scope cl H₃.objs.size env) mu := fun q => by
    rcases ow _ q with ⟨o, e⟩ | q
    · rw [fresh] at e; cases e
    · omega
  have Hi1 := Hi0.adopt (k4 _ _ (h'3 _ _ hI)) nI (H.gfresh fresh) fresh
  have freshD : s.heap.get? h'.objs.size = none := none_of_ge hsz
  have nD : h'.objs.size ∉ owns (cenvOf scope cl H₃.objs.size env) ((I, oI) :: mu) := fun q => by
    have : h'.objs.size = I ∨ h'.objs.size ∈ owns (cenvOf scope cl H₃.objs.size env) mu := by
      unfold owns at q ⊢
      rcases List.mem_cons.mp q with q | q
      · exact .inr (q ▸ .head _)
      · rcases List.mem_append.mp q with q | q
        · exact .inr (.tail _ (List.mem_append_left _ q))
        · rcases List.mem_cons.mp q with q | q
          · exact .inl q
          · exact .inr (.tail _ (List.mem_append_right _ q))
    rcases this with q | q
    · rw [← q] at ltI; exact Nat.lt_irrefl _ ltI
    · rcases ow _ q with ⟨o, e⟩ | q
      · rw [freshD] at e; cases e
      · omega
  have Hi2 := Hi1.adopt (k4 _ _ hD3) nD (H.gfresh freshD) freshD
  generalize hDD : h'.objs.size = D at *
  generalize hCC : H₃.objs.size = C at *
  have w4 : Ws 0 H₄ := W.frame _ _ _ w0 fun a _ o e => k4 a o (h'3 a o e)
  have mIn : ∀ {a : Addr}, a ∈ [I] → a = I := fun hp => List.mem_singleton.mp hp
  have main : ∀ s₃ : Shared, s₃ = { s with heap := H₄ } → codeAny (model prog w) A (.compLoop (.ListComp elt [⟨.Name x px, iter, [], 0⟩] scope pos) 0 (.ref I) (.ref D) (cenvOf scope cl C env)) (compPost (model prog w) A E use Q (.ref D) C) s₃ := by
    rintro s₃ rfl
    refine codeAny_compLoop_list (fun k s' => ∃ i g₁ mu₁ ys m₁ mc₁ oD oI h₁ tk gs, s' = { s with heap := h₁, toks := tk, gens := gs } ∧ GP gs ∧ k = n - i ∧ i ≤ n ∧ Ws i h₁ ∧ g.le g₁ ∧ mu₁.map (·.1) = mu.map (·.1) ∧ J i g₁ mu₁ ys ∧ ys.length = i ∧ IsL oD ys ∧
      (∀ v, (if xc then m₁ else up x v m₁) = tm xc x v) ∧ (∀ v, (if xc then up x v mc₁ else mc₁) = tc xc x v mc) ∧
      St b (cl.map (·.2) ++ mu.map (·.1)) g s.heap (cenvOf scope cl C env) g₁ m₁ mc₁ ((D, oD) :: (I, oI) :: mu₁) h₁) ?_ n ?_
    · rintro k s' ⟨i, g₁, mu₁, ys, m₁, mc₁, oD, oI, h₁, tk, gs, rfl, gp, rfl, hi, w1, le1, ha1, j1, hl1, isl, e1, e2, H1⟩
      have neI : ∀ y ∈ owns (cenvOf scope cl C env) ((D, oD) :: mu₁), y ≠ I := (H1.perm (List.Perm.swap _ _ _)).ne_of_mu
      by_cases hlt : i < n
      · refine W.item i _ _ _ hlt w1 fun v h₂ tk₂ hP w2 kp => ?_
        obtain ⟨oI', hI'⟩ := live _ _ w2
        have H2 : St b (cl.map (·.2) ++ mu.map (·.1)) g s.heap (cenvOf scope cl C env) g₁ m₁ mc₁ ((D, oD) :: (I, oI') :: mu₁) h₂ :=
          ((H1.perm (List.Perm.swap _ _ _)).upd hI' fun a o na e => kp a o (fun q => na (mIn q)) e).perm (List.Perm.swap _ _ _)
        have go : ∀ h₃ tk₃, St b (cl.map (·.2) ++ mu.map (·.1)) g s.heap (cenvOf scope cl C env) g₁ (tm xc x v) (tc xc x v mc) ((D, oD) :: (I, oI') :: mu₁) h₃ →
            wpAny (model prog w) A (eval elt (cenvOf scope cl C env)) (fun y s₃ => wpAny (model prog w) A (call (.builtin "list.append") [.ref D, y]) (fun _ s₄ => ∃ m_1, m_1 < n - i ∧ ∃ i g₁ mu₁ ys m₁ mc₁ oD oI h₁ tk gs, s₄ = { s with heap := h₁, toks := tk, gens := gs } ∧ GP gs ∧ m_1 = n - i ∧ i ≤ n ∧ Ws i h₁ ∧ g.le g₁ ∧ mu₁.map (·.1) = mu.map (·.1) ∧ J i g₁ mu₁ ys ∧ ys.length = i ∧ IsL oD ys ∧
              (∀ v, (if xc then m₁ else up x v m₁) = tm xc x v) ∧ (∀ v, (if xc then up x v mc₁ else mc₁) = tc xc x v mc) ∧
              St b (cl.map (·.2) ++ mu.map (·.1)) g s.heap (cenvOf scope cl C env) g₁ m₁ mc₁ ((D, oD) :: (I, oI) :: mu₁) h₁)
              (notedBy (model prog w) A (cenvOf scope cl C env) fun e s' => compPost (model prog w) A E use Q (.ref D) C (.error e) s') s₃)
              (notedBy (model prog w) A (cenvOf scope cl C env) fun e s' => compPost (model prog w) A E use Q (.ref D) C (.error e) s') { s with heap := h₃, toks := tk₃, gens := gs } := by
          intro h₃ tk₃ H3
          have w3 : Ws (i + 1) h₃ := W.frame _ _ _ w2 fun a ha o e => by
            by_cases q : a = I
            · subst q
              rw [hI'] at e; cases e; exact H3.mus (a, oI') (.tail _ (.head _))
            · obtain ⟨o', hg⟩ := frz a ha q
              have q2 := H2.on a o' (le1 a o' hg)
              have q3 := H3.on a o' (le1 a o' hg)
              rw [e] at q2; cases q2; exact q3
          refine wpAny_mono (turn i v C D oD I oI' g₁ mu₁ ys h₃ tk₃ gs _ gp hlt hP le1 ha1 j1 hl1 H3) (fun y s₄ z => ?_) fun _ _ z => z
          obtain ⟨g₂, mu₂, h₄, tk₄, gs₄, rfl, gp₄, le2, H4, ha2, j2⟩ := z
          have w4 : Ws (i + 1) h₄ := W.frame _ _ _ w3 fun a ha o e => by
            by_cases q : a = I
            · subst q
              have q3 := H3.mus (a, oI') (.tail _ (.head _))
              rw [e] at q3; cases q3; exact H4.mus (a, oI') (.tail _ (.head _))
            · obtain ⟨o', hg⟩ := frz a ha q
              have q3 := H3.on a o' (le1 a o' hg)
              have q4 := H4.on a o' (le2 _ _ (le1 a o' hg))
              rw [e] at q3; cases q3; exact q4
          have hDl : h₄.get? D = some oD := H4.mus (D, oD) (.head _)
          refine wpAny_list_append_plain (isl.plain hDl) (fun h₅ hL5 hs5 => ?_) (by rw [List.size_toArray, hl1]; omega)
          obtain ⟨oD', hD5, isl5⟩ := plain_isl (ys := ys ++ [y]) hL5 (by simp)
          have H5 := H4.upd hD5 hs5.extBut
          have hDI : D ≠ I := neI _ (owns_mu (p := (D, oD)) (.head _))
          refine ⟨n - (i + 1), Nat.sub_lt_sub_left hlt (Nat.lt_succ_self i), i + 1, g₂, mu₂, ys ++ [y], _, _, oD', oI', h₅, tk₄, gs₄, rfl, gp₄, rfl, hlt, W.frame _ _ _ w4 fun a ha o e => hs5.extBut a o (fun q => ?_) e, le1.trans le2, ha2, j2, by rw [List.length_append, hl1]; rfl, isl5, fun v' => ?_, fun v' => ?_, H5⟩
          · subst q
            obtain ⟨o', hg⟩ := frz a ha hDI
            have := (H5.own a (owns_mu (p := (a, oD')) (.head _))).1
            rw [le2 _ _ (le1 _ _ hg)] at this; cases this
          · unfold tm; cases xc
            · exact up_up ..
            · rfl
          · unfold tc; cases xc
            · rfl
            · exact up_up ..
        have hk : (cenvOf scope cl C env).scope.kind = .function := ok.kind
        have ht := ok.tgt
        cases hxc : xc with
        | false =>
          rw [hxc] at ht
          refine wpAny_assign_Name (st_loc H2 (fun h₃ H3 => ?_) hk ht)
          have e1' := e1 v
          have e2' := e2 v
          rw [hxc] at e1' e2'
          simp only [Bool.false_eq_true, if_false] at e1' e2'
          rw [e1', e2'] at H3
          have := go h₃ (tk₂ + 1) (by rw [hxc]; exact H3)
          simp only [hxc] at this
          exact this
        | true =>
          rw [hxc] at ht
          obtain ⟨c, hc⟩ := Option.isSome_iff_exists.mp (cellsFrom_some scope.names (C + 1) cl (x := x) (.inl (ok.has hxc)))
          refine wpAny_assign_Name (st_cell H2 (fun h₃ H3 => ?_) hk ht hc)
          have e1' := e1 v
          have e2' := e2 v
          rw [hxc] at e1' e2'
          simp only [if_true] at e1' e2'
          rw [e1', e2'] at H3
          have := go h₃ tk₂ (by rw [hxc]; exact H3)
          simp only [hxc] at this
          exact this
      · have hin : i = n := Nat.le_antisymm hi (Nat.not_lt.mp hlt)
        subst hin
        refine W.done _ _ _ w1 fun h₂ tk₂ kp => ?_
        have H2 := (H1.perm (List.Perm.swap _ _ _)).dropJunk fresh fun a o na e => kp a o (fun q => na (mIn q)) e
        have hmc : ∀ q ∈ cl, mc₁ q.1 = mc q.1 := fun q hq => by
          have e2' := congrFun (e2 .none) q.1
          unfold tc at e2'
          cases hxc : xc with
          | false => rw [hxc] at e2'; exact e2'
          | true =>
            rw [hxc] at e2'
            simp only [if_true, up, if_neg (hxcl q hq)] at e2'
            exact e2'
        have Ho := H.outer ok.caught H2 (fun q hq => cells_acc _ _ _ _ hq) hmc ha1 fun q hq => .tail _ hq
        have CO := (H2.own C owns_L)
        have DO := (H2.own D (owns_mu (p := (D, oD)) (.head _)))
        obtain ⟨oC, esC, epC, hC2, rC⟩ := H2.ns
        have hC2 : h₂.get? C = some oC := hC2
        have hD2 := H2.mus (D, oD) (.head _)
        have freshC : s.heap.get? C = none := none_of_ge hle
        have Ho1 := Ho.adopt hD2 (H.muAddr ha1 freshD) DO.1 (H.h0fresh freshD)
        have hCD : C ≠ D := H2.ne_of_mu _ owns_L
        have Ho2 := Ho1.adopt hC2 (fun q => by
          have : C = D ∨ C ∈ owns env mu₁ := by
            unfold owns at q ⊢
            rcases List.mem_cons.mp q with q | q
            · exact .inr (q ▸ .head _)
            · rcases List.mem_append.mp q with q | q
              · exact .inr (.tail _ (List.mem_append_left _ q))
              · rcases List.mem_cons.mp q with q | q
                · exact .inl q
                · exact .inr (.tail _ (List.mem_append_right _ q))
          rcases this with q | q
          · exact hCD q
          · exact H.muAddr ha1 freshC q) CO.1 (H.h0fresh freshC)
        exact fin g₁ mu₁ ys C oC D oD m₁ h₂ tk₂ gs gp le1 ha1 j1 hl1 isl ⟨oC, esC, epC, hC2, rC⟩ (H.h0fresh freshC) (H.h0fresh freshD) Ho2
    · refine ⟨0, g, mu, [], no, _, _, oI, H₄, s.toks, s.gens, rfl, gp0, rfl, Nat.zero_le _, w4, .refl g, rfl, j0, rfl, ⟨rfl, 0, rfl, rfl⟩, fun v => ?_, fun v => ?_, Hi2⟩
      · unfold tm; cases xc <;> rfl
      · unfold tc; cases xc
        · rfl
        · simp only [if_true]
          funext y; unfold up; split
          · rfl
          · rename_i h; exact if_neg h
  exact codeAny_compStart_list (main _ rfl) (W.self 0 _ _ _ w4 (main _ rfl))
end
end Mine
namespace Mine
section
variable {prog : Program} {w : World} {b : Heap}
variable {S : List Addr} {g0 : FM} {h0 : Heap} {env : Env} {g : FM} {m mc : Str → Option Value} {mu : List (Addr × Obj)}
variable {A : Around} {s : Shared} {E : Value → Shared → Prop}

-- blocks
abbrev LcGo (prog : Program) (w : World) (A : Around) (E : Value → Shared → Prop) (env : Env) (scope : Scope) (cl : List (Str × Addr)) (e : Expr) (use : Option (Value → Sem Unit)) (Q : Value → Shared → Prop) (xv : Value) (s : Shared) : Prop :=
  wpAny (model prog w) A (pyIter xv) (fun it s₂ => wpAny (model prog w) A (newList []) (fun acc s₃ => wpAny (model prog w) A (newFunctionEnv scope env.globals cl [] env.qual none .none (some env)) (fun cenv s₄ =>
      codeAny (model prog w) A (.compStart e 0 it acc { cenv with scope := relabel scope env }) (compPost (model prog w) A E use Q acc cenv.locals) s₄) E s₃) E s₂) E s

theorem ev_lc {elt iter : Expr} {x : Str} {px : Pos} {scope : Scope} {cl : List (Str × Addr)} {cn : List Str} {xc : Bool} {pos : Pos} {Q : Value → Shared → Prop} (ok : CompOk env scope cl cn x xc)
    (h : CompOk env scope cl cn x xc → wpAny (model prog w) A (eval iter env) (LcGo prog w A E env scope cl (.ListComp elt [⟨.Name x px, iter, [], 0⟩] scope pos) none Q) E s) (hs : ∀ x, foldedSetIterable iter env x = pure x := by intro _; rfl) :
    wpAny (model prog w) A (eval (.ListComp elt [⟨.Name x px, iter, [], 0⟩] scope pos) env) Q E s := by
  rw [eval_ListComp]
  exact wpAny_comprehension_free (use := none) rfl hs ok.clos ok.kind ok.loc (h ok)

theorem as_lc {elt iter : Expr} {x y : Str} {px py : Pos} {scope : Scope} {cl : List (Str × Addr)} {cn : List Str} {xc : Bool} {pos spos : Pos} {Q : Flow → Shared → Prop} (ok : CompOk env scope cl cn x xc)
    (h : CompOk env scope cl cn x xc → wpAny (model prog w) A (eval iter env) (LcGo prog w A E env scope cl (.ListComp elt [⟨.Name x px, iter, [], 0⟩] scope pos) (some (assign (.Name y py) env)) (fun _ => Q .next)) E s)
    (hsw : swapsWith (.ListComp elt [⟨.Name x px, iter, [], 0⟩] scope pos) (some (.Name y py)) spos.line env = pure true := by with_unfolding_all rfl) (hs : ∀ x, foldedSetIterable iter env x = pure x := by intro _; rfl) :
    wpAny (model prog w) A (exec (.Assign [.Name y py] (.ListComp elt [⟨.Name x px, iter, [], 0⟩] scope pos) spos) env) Q E s := by
  rw [exec_Assign_Name_used _ _ _ _ hsw]
  refine wpAny_bind (wpAny_standAt (wpAny_bind ?_))
  show wpAny _ A (do let _ ← comprehension (.ListComp elt [⟨.Name x px, iter, [], 0⟩] scope pos) scope env _ (newList []) false (eval iter env) (some (assign (.Name y py) env))) _ _ s
  exact wpAny_bind (wpAny_mono (wpAny_comprehension_free (use := some (assign (.Name y py) env)) (Q := fun _ s' => Q .next s') rfl hs ok.clos ok.kind ok.loc (h ok)) (fun _ s' hq => wpAny_pure (wpAny_pure hq)) fun _ _ e => e)

theorem lc_runG {elt iter : Expr} {x : Str} {px : Pos} {scope : Scope} {cl : List (Str × Addr)} {cn : List Str} {xc : Bool} {pos : Pos} {n : Nat} {P : Nat → Value → Prop} {xv : Value} {Q : Value → Shared → Prop} {GP : Array GenState → Prop} (gp0 : GP s.gens)
    (ok : CompOk env scope cl cn x xc) (H : St b S g0 h0 env g m mc mu s.heap) (src : Src prog w A n P g xv s.heap) (hn : n ≤ sizeLine)
    (J : Nat → FM → List (Addr × Obj) → List Value → Prop) (j0 : J 0 g mu [])
    (turn : ∀ i v C D oD I oI g₁ mu₁ ys h₁ tk gs E', GP gs → i < n → P i v → g.le g₁ → mu₁.map (·.1) = mu.map (·.1) → J i g₁ mu₁ ys → ys.length = i →
      St b (cl.map (·.2) ++ mu.map (·.1)) g s.heap (cenvOf scope cl C env) g₁ (tm xc x v) (tc xc x v mc) ((D, oD) :: (I, oI) :: mu₁) h₁ →
      wpAny (model prog w) A (eval elt (cenvOf scope cl C env)) (EltEndG GP b (cl.map (·.2) ++ mu.map (·.1)) g s.heap (cenvOf scope cl C env) (tm xc x v) (tc xc x v mc) s g₁ (D, oD) (I, oI) (mu.map (·.1)) fun y g₂ mu₂ => J (i + 1) g₂ mu₂ (ys ++ [y])) E' { s with heap := h₁, toks := tk, gens := gs })
    (done : ∀ g₁ mu₁ ys D oD h₁ tk gs, GP gs → g.le g₁ → mu₁.map (·.1) = mu.map (·.1) → J n g₁ mu₁ ys → ys.length = n → IsL oD ys → h0.get? D = none → St b S g0 h0 env g₁ m mc ((D, oD) :: mu₁) h₁ → Q (.ref D) { s with heap := h₁, toks := tk, gens := gs }) :
    LcGo prog w A E env scope cl (.ListComp elt [⟨.Name x px, iter, [], 0⟩] scope pos) none Q xv s :=
  comp_core gp0 ok H src hn J j0 turn fun g₁ mu₁ ys C oC D oD mC h₁ tk gs gp le ha j hl isl nsC fC fD H1 =>
    ⟨mC, nsC, fun h' hs => done g₁ mu₁ ys D oD h' tk gs gp le ha j hl isl fD (H1.dropJunk fC fun a o na e => hs.extBut a o na e)⟩

theorem lc_run {elt iter : Expr} {x : Str} {px : Pos} {scope : Scope} {cl : List (Str × Addr)} {cn : List Str} {xc : Bool} {pos : Pos} {n : Nat} {P : Nat → Value → Prop} {xv : Value} {Q : Value → Shared → Prop}
    (ok : CompOk env scope cl cn x xc) (H : St b S g0 h0 env g m mc mu s.heap) (src : Src prog w A n P g xv s.heap) (hn : n ≤ sizeLine)
    (J : Nat → FM → List (Addr × Obj) → List Value → Prop) (j0 : J 0 g mu [])
    (turn : ∀ i v C D oD I oI g₁ mu₁ ys h₁ tk E', i < n → P i v → g.le g₁ → mu₁.map (·.1) = mu.map (·.1) → J i g₁ mu₁ ys → ys.length = i →
      St b (cl.map (·.2) ++ mu.map (·.1)) g s.heap (cenvOf scope cl C env) g₁ (tm xc x v) (tc xc x v mc) ((D, oD) :: (I, oI) :: mu₁) h₁ →
      wpAny (model prog w) A (eval elt (cenvOf scope cl C env)) (EltEnd b (cl.map (·.2) ++ mu.map (·.1)) g s.heap (cenvOf scope cl C env) (tm xc x v) (tc xc x v mc) s g₁ (D, oD) (I, oI) (mu.map (·.1)) fun y g₂ mu₂ => J (i + 1) g₂ mu₂ (ys ++ [y])) E' { s with heap := h₁, toks := tk })
    (done : ∀ g₁ mu₁ ys D oD h₁ tk, g.le g₁ → mu₁.map (·.1) = mu.map (·.1) → J n g₁ mu₁ ys → ys.length = n → IsL oD ys → h0.get? D = none → St b S g0 h0 env g₁ m mc ((D, oD) :: mu₁) h₁ → Q (.ref D) { s with heap := h₁, toks := tk }) :
    LcGo prog w A E env scope cl (.ListComp elt [⟨.Name x px, iter, [], 0⟩] scope pos) none Q xv s :=
  lc_runG (GP := fun gs => gs = s.gens) rfl ok H src hn J j0 (fun i v C D oD I oI g₁ mu₁ ys h₁ tk gs E' gp => by subst gp; exact turn i v C D oD I oI g₁ mu₁ ys h₁ tk E') (fun g₁ mu₁ ys D oD h₁ tk gs gp => by subst gp; exact done g₁ mu₁ ys D oD h₁ tk)

theorem lc_runAG {elt iter : Expr} {x y : Str} {px py : Pos} {scope : Scope} {cl : List (Str × Addr)} {cn : List Str} {xc : Bool} {pos : Pos} {n : Nat} {P : Nat → Value → Prop} {xv : Value} {Q : Value → Shared → Prop} {GP : Array GenState → Prop} (gp0 : GP s.gens)
    (ok : CompOk env scope cl cn x xc) (H : St b S g0 h0 env g m mc mu s.heap) (src : Src prog w A n P g xv s.heap) (hn : n ≤ sizeLine)
    (J : Nat → FM → List (Addr × Obj) → List Value → Prop) (j0 : J 0 g mu [])
    (turn : ∀ i v C D oD I oI g₁ mu₁ ys h₁ tk gs E', GP gs → i < n → P i v → g.le g₁ → mu₁.map (·.1) = mu.map (·.1) → J i g₁ mu₁ ys → ys.length = i →
      St b (cl.map (·.2) ++ mu.map (·.1)) g s.heap (cenvOf scope cl C env) g₁ (tm xc x v) (tc xc x v mc) ((D, oD) :: (I, oI) :: mu₁) h₁ →
      wpAny (model prog w) A (eval elt (cenvOf scope cl C env)) (EltEndG GP b (cl.map (·.2) ++ mu.map (·.1)) g s.heap (cenvOf scope cl C env) (tm xc x v) (tc xc x v mc) s g₁ (D, oD) (I, oI) (mu.map (·.1)) fun y g₂ mu₂ => J (i + 1) g₂ mu₂ (ys ++ [y])) E' { s with heap := h₁, toks := tk, gens := gs })
    (done : ∀ g₁ mu₁ ys D oD h₁ tk gs, GP gs → g.le g₁ → mu₁.map (·.1) = mu.map (·.1) → J n g₁ mu₁ ys → ys.length = n → IsL oD ys → h0.get? D = none → St b S g0 h0 env g₁ (up y (.ref D) m) mc ((D, oD) :: mu₁) h₁ → Q .none { s with heap := h₁, toks := tk, gens := gs })
    (hk : env.scope.kind = .function := by with_unfolding_all rfl) (hl : env.kindOf y = some .local := by with_unfolding_all rfl) :
    LcGo prog w A E env scope cl (.ListComp elt [⟨.Name x px, iter, [], 0⟩] scope pos) (some (assign (.Name y py) env)) Q xv s :=
  comp_core gp0 ok H src hn J j0 turn fun g₁ mu₁ ys C oC D oD mC h₁ tk gs gp le ha j hl' isl nsC fC fD H1 => by
    obtain ⟨oC', es, ep, hC, rC⟩ := nsC
    have hC0 : h₁.get? C = some oC := H1.mus (C, oC) (.head _)
    rw [hC0] at hC; cases hC
    refine wpAny_assign_Name (st_loc (s := { s with heap := h₁, toks := tk, gens := gs }) H1 (fun h₂ H2 => ?_) hk hl)
    exact ⟨mC, ⟨oC, es, ep, H2.mus (C, oC) (.head _), rC⟩, fun h' hs => done g₁ mu₁ ys D oD h' (tk + 1) gs gp le ha j hl' isl fD (H2.dropJunk fC fun a o na e => hs.extBut a o na e)⟩

theorem lc_runA {elt iter : Expr} {x y : Str} {px py : Pos} {scope : Scope} {cl : List (Str × Addr)} {cn : List Str} {xc : Bool} {pos : Pos} {n : Nat} {P : Nat → Value → Prop} {xv : Value} {Q : Value → Shared → Prop}
    (ok : CompOk env scope cl cn x xc) (H : St b S g0 h0 env g m mc mu s.heap) (src : Src prog w A n P g xv s.heap) (hn : n ≤ sizeLine)
    (J : Nat → FM → List (Addr × Obj) → List Value → Prop) (j0 : J 0 g mu [])
    (turn : ∀ i v C D oD I oI g₁ mu₁ ys h₁ tk E', i < n → P i v → g.le g₁ → mu₁.map (·.1) = mu.map (·.1) → J i g₁ mu₁ ys → ys.length = i →
      St b (cl.map (·.2) ++ mu.map (·.1)) g s.heap (cenvOf scope cl C env) g₁ (tm xc x v) (tc xc x v mc) ((D, oD) :: (I, oI) :: mu₁) h₁ →
      wpAny (model prog w) A (eval elt (cenvOf scope cl C env)) (EltEnd b (cl.map (·.2) ++ mu.map (·.1)) g s.heap (cenvOf scope cl C env) (tm xc x v) (tc xc x v mc) s g₁ (D, oD) (I, oI) (mu.map (·.1)) fun y g₂ mu₂ => J (i + 1) g₂ mu₂ (ys ++ [y])) E' { s with heap := h₁, toks := tk })
    (done : ∀ g₁ mu₁ ys D oD h₁ tk, g.le g₁ → mu₁.map (·.1) = mu.map (·.1) → J n g₁ mu₁ ys → ys.length = n → IsL oD ys → h0.get? D = none → St b S g0 h0 env g₁ (up y (.ref D) m) mc ((D, oD) :: mu₁) h₁ → Q .none { s with heap := h₁, toks := tk })
    (hk : env.scope.kind = .function := by with_unfolding_all rfl) (hl : env.kindOf y = some .local := by with_unfolding_all rfl) :
    LcGo prog w A E env scope cl (.ListComp elt [⟨.Name x px, iter, [], 0⟩] scope pos) (some (assign (.Name y py) env)) Q xv s :=
  lc_runAG (GP := fun gs => gs = s.gens) rfl ok H src hn J j0 (fun i v C D oD I oI g₁ mu₁ ys h₁ tk gs E' gp => by subst gp; exact turn i v C D oD I oI g₁ mu₁ ys h₁ tk E') (fun g₁ mu₁ ys D oD h₁ tk gs gp => by subst gp; exact done g₁ mu₁ ys D oD h₁ tk) hk hl

-- for
theorem loop_forG {x : Str} {px : Pos} {body : List Stmt} {n : Nat} {P : Nat → Value → Prop} {xv : Value} {Q : Flow → Shared → Prop} {pE : Value → Shared → Prop} {GP : Array GenState → Prop} (gp0 : GP s.gens)
    (H : St b S g0 h0 env g m mc mu s.heap) (src : Src prog w A n P g xv s.heap) (J : Nat → Inv) (j0 : J 0 g m mc mu)
    (turn : ∀ i v I oI g₁ m₁ mc₁ mu₁ h₁ tk gs E', GP gs → i < n → P i v → g.le g₁ → J i g₁ m₁ mc₁ mu₁ → St b S g0 h0 env g₁ (up x v m₁) mc₁ ((I, oI) :: mu₁) h₁ →
      wpAny (model prog w) A (execs body env) (LoopEndG GP b S g0 h0 env s g₁ (I, oI) (J (i + 1)) Q) E' { s with heap := h₁, toks := tk, gens := gs })
    (done : ∀ g₁ m₁ mc₁ mu₁ h₁ tk gs, GP gs → g.le g₁ → J n g₁ m₁ mc₁ mu₁ → St b S g0 h0 env g₁ m₁ mc₁ mu₁ h₁ → Q .next { s with heap := h₁, toks := tk, gens := gs })
    (hk : env.scope.kind = .function := by with_unfolding_all rfl) (hl : env.kindOf x = some .local := by with_unfolding_all rfl) :
    wpAny (model prog w) A (pyIter xv) (fun it s₂ => codeAny (model prog w) A (.forLoop (.Name x px) it body [] env) (fun r s' => match r with | .ok f => Q f s' | .error e => pE e s') s₂) E s :=
  loop_gen gp0 (up x) (fun _ mc => mc) (fun v g₁ m₁ mc₁ mu₁ s₁ Q E H k => wpAny_assign_Name (st_loc H (fun h' H' => k h' _ H') hk hl)) (fun _ _ => rfl) H src J j0 turn done
theorem loop_for {x : Str} {px : Pos} {body : List Stmt} {n : Nat} {P : Nat → Value → Prop} {xv : Value} {Q : Flow → Shared → Prop} {pE : Value → Shared → Prop}
    (H : St b S g0 h0 env g m mc mu s.heap) (src : Src prog w A n P g xv s.heap) (J : Nat → Inv) (j0 : J 0 g m mc mu)
    (turn : ∀ i v I oI g₁ m₁ mc₁ mu₁ h₁ tk E', i < n → P i v → g.le g₁ → J i g₁ m₁ mc₁ mu₁ → St b S g0 h0 env g₁ (up x v m₁) mc₁ ((I, oI) :: mu₁) h₁ →
      wpAny (model prog w) A (execs body env) (LoopEnd b S g0 h0 env s g₁ (I, oI) (J (i + 1)) Q) E' { s with heap := h₁, toks := tk })
    (done : ∀ g₁ m₁ mc₁ mu₁ h₁ tk, g.le g₁ → J n g₁ m₁ mc₁ mu₁ → St b S g0 h0 env g₁ m₁ mc₁ mu₁ h₁ → Q .next { s with heap := h₁, toks := tk })
    (hk : env.scope.kind = .function := by with_unfolding_all rfl) (hl : env.kindOf x = some .local := by with_unfolding_all rfl) :
    wpAny (model prog w) A (pyIter xv) (fun it s₂ => codeAny (model prog w) A (.forLoop (.Name x px) it body [] env) (fun r s' => match r with | .ok f => Q f s' | .error e => pE e s') s₂) E s :=
  loop_forG (GP := fun gs => gs = s.gens) rfl H src J j0 (fun i v I oI g₁ m₁ mc₁ mu₁ h₁ tk gs E' gp => by subst gp; exact turn i v I oI g₁ m₁ mc₁ mu₁ h₁ tk E') (fun g₁ m₁ mc₁ mu₁ h₁ tk gs gp => by subst gp; exact done g₁ m₁ mc₁ mu₁ h₁ tk) hk hl
theorem loop_forCG {x : Str} {px : Pos} {c : Addr} {body : List Stmt} {n : Nat} {P : Nat → Value → Prop} {xv : Value} {Q : Flow → Shared → Prop} {pE : Value → Shared → Prop} {GP : Array GenState → Prop} (gp0 : GP s.gens)
    (H : St b S g0 h0 env g m mc mu s.heap) (src : Src prog w A n P g xv s.heap) (J : Nat → Inv) (j0 : J 0 g m mc mu)
    (turn : ∀ i v I oI g₁ m₁ mc₁ mu₁ h₁ tk gs E', GP gs → i < n → P i v → g.le g₁ → J i g₁ m₁ mc₁ mu₁ → St b S g0 h0 env g₁ m₁ (up x v mc₁) ((I, oI) :: mu₁) h₁ →
      wpAny (model prog w) A (execs body env) (LoopEndG GP b S g0 h0 env s g₁ (I, oI) (J (i + 1)) Q) E' { s with heap := h₁, toks := tk, gens := gs })
    (done : ∀ g₁ m₁ mc₁ mu₁ h₁ tk gs, GP gs → g.le g₁ → J n g₁ m₁ mc₁ mu₁ → St b S g0 h0 env g₁ m₁ mc₁ mu₁ h₁ → Q .next { s with heap := h₁, toks := tk, gens := gs })
    (hk : env.scope.kind = .function := by with_unfolding_all rfl) (hl : env.kindOf x = some .cell := by with_unfolding_all rfl) (hc : env.cells.lookup x = some c := by with_unfolding_all rfl) :
    wpAny (model prog w) A (pyIter xv) (fun it s₂ => codeAny (model prog w) A (.forLoop (.Name x px) it body [] env) (fun r s' => match r with | .ok f => Q f s' | .error e => pE e s') s₂) E s :=
  loop_gen gp0 (fun _ m => m) (up x) (fun v g₁ m₁ mc₁ mu₁ s₁ Q E H k => wpAny_assign_Name (st_cell H (fun h' H' => k h' _ H') hk hl hc)) (fun _ _ => rfl) H src J j0 turn done
theorem loop_forC {x : Str} {px : Pos} {c : Addr} {body : List Stmt} {n : Nat} {P : Nat → Value → Prop} {xv : Value} {Q : Flow → Shared → Prop} {pE : Value → Shared → Prop}
    (H : St b S g0 h0 env g m mc mu s.heap) (src : Src prog w A n P g xv s.heap) (J : Nat → Inv) (j0 : J 0 g m mc mu)
    (turn : ∀ i v I oI g₁ m₁ mc₁ mu₁ h₁ tk E', i < n → P i v → g.le g₁ → J i g₁ m₁ mc₁ mu₁ → St b S g0 h0 env g₁ m₁ (up x v mc₁) ((I, oI) :: mu₁) h₁ →
      wpAny (model prog w) A (execs body env) (LoopEnd b S g0 h0 env s g₁ (I, oI) (J (i + 1)) Q) E' { s with heap := h₁, toks := tk })
    (done : ∀ g₁ m₁ mc₁ mu₁ h₁ tk, g.le g₁ → J n g₁ m₁ mc₁ mu₁ → St b S g0 h0 env g₁ m₁ mc₁ mu₁ h₁ → Q .next { s with heap := h₁, toks := tk })
    (hk : env.scope.kind = .function := by with_unfolding_all rfl) (hl : env.kindOf x = some .cell := by with_unfolding_all rfl) (hc : env.cells.lookup x = some c := by with_unfolding_all rfl) :
    wpAny (model prog w) A (pyIter xv) (fun it s₂ => codeAny (model prog w) A (.forLoop (.Name x px) it body [] env) (fun r s' => match r with | .ok f => Q f s' | .error e => pE e s') s₂) E s :=
  loop_forCG (GP := fun gs => gs = s.gens) rfl H src J j0 (fun i v I oI g₁ m₁ mc₁ mu₁ h₁ tk gs E' gp => by subst gp; exact turn i v I oI g₁ m₁ mc₁ mu₁ h₁ tk E') (fun g₁ m₁ mc₁ mu₁ h₁ tk gs gp => by subst gp; exact done g₁ m₁ mc₁ mu₁ h₁ tk) hk hl hc

-- range
theorem call_range1 {n : Int} {t : Tok} {Q : Value → Shared → Prop} (H : St b S g0 h0 env g m mc mu s.heap)
    (h : ∀ h' tk r t₁ u₁ v₁, IsRange h' r 0 n 1 t₁ u₁ v₁ → St b S g0 h0 env g m mc mu h' → Q (.ref r) { s with heap := h', toks := tk }) : wpAny (model prog w) A (call (.type "range") [.int n t]) Q E s :=
  range1_rows (news := []) (frame0 H.ns) (fun _ q => nomatch q) fun h' tk t₁ u₁ v₁ hr _ _ kp => h h' tk _ t₁ u₁ v₁ hr (H.keeps kp)
theorem call_range2 {a c : Int} {t u : Tok} {Q : Value → Shared → Prop} (H : St b S g0 h0 env g m mc mu s.heap)
    (h : ∀ h' tk r t₁ u₁ v₁, IsRange h' r a c 1 t₁ u₁ v₁ → St b S g0 h0 env g m mc mu h' → Q (.ref r) { s with heap := h', toks := tk }) : wpAny (model prog w) A (call (.type "range") [.int a t, .int c u]) Q E s :=
  range2_rows (news := []) (frame0 H.ns) (fun _ q => nomatch q) fun h' tk t₁ u₁ v₁ hr _ _ kp => h h' tk _ t₁ u₁ v₁ hr (H.keeps kp)
end
end Mine
namespace Mine
section
variable {prog : Program} {w : World} {b : Heap}
variable {S : List Addr} {g0 : FM} {h0 : Heap} {env : Env} {g : FM} {m mc : Str → Option Value} {mu pre post : List (Addr × Obj)} {h h' : Heap}
variable {A : Around} {s : Shared} {E : Value → Shared → Prop}

theorem St.keepsL (H : St b S g0 h0 env g m mc mu h) (ns : h'.Ns env.locals m) (k : ∀ a o, a ≠ env.locals → h.get? a = some o → h'.get? a = some o) : St b S g0 h0 env g m mc mu h' := by
  have nd := H.nd
  unfold owns at nd
  have nL := (List.nodup_cons.mp nd).1
  have gL := (H.own _ owns_L).1
  refine H.move ⟨.refl g, fun _ _ e => .inl e, fun a o n e => k a o (fun q => n (q ▸ owns_L)) e, fun a o e => ?_, fun a o e => k a o (fun q => by subst q; rw [gL] at e; cases e) (H.on a o e)⟩ ns
    (fun x c hc => ?_) (fun p hp => k _ _ (fun q => nL (q ▸ List.mem_append_right _ (List.mem_map_of_mem hp))) (H.mus p hp)) rfl
  · by_cases q : a = env.locals
    · subst q; obtain ⟨o', _, _, e', _⟩ := ns; exact ⟨o', e'⟩
    · exact ⟨o, k a o q e⟩
  · obtain ⟨o, e, r⟩ := H.cell x c hc
    exact ⟨o, k _ _ (fun q => nL (q ▸ List.mem_append_left _ (List.mem_map.mpr ⟨(x, c), hc, rfl⟩))) e, r⟩

/-- a new object by a rule over a ledger -/
theorem St.madeF {a : Addr} {o : Obj} (H : St b S g0 h0 env g m mc mu h) (fa : h.get? a = none) (F : Fr noHeap env.locals h' m) (N : News noHeap env.locals h' ((a, o) :: restOf h [env.locals])) :
    St b S g0 h0 env g m mc ((a, o) :: mu) h' ∧ h0.get? a = none := by
  have H' := H.keepsL F.ns fun x p n e => (N (x, p) (.tail _ (mem_restOf.mpr ⟨by simpa using n, e⟩))).1
  exact ⟨H'.adopt (N (a, o) (.head _)).1 (H.not_owned fa) (H.gfresh fa) (H.h0fresh fa), H.h0fresh fa⟩
theorem restN (h : Heap) (L : Addr) : News noHeap L h (restOf h [L]) := news0 (.head _)

-- lists
abbrev lst (vs : List Value) : Obj := { cls := .type "list", data := .seq vs.toArray }
theorem IsL.lst (vs : List Value) : IsL (Mine.lst vs) vs := ⟨rfl, 0, rfl, rfl⟩
theorem sub_list {value slice : Expr} {l : Addr} {vs : List Value} {k : Int} {t : Tok} {v : Value} {Q : Value → Shared → Prop} (hl : s.heap.IsList l vs.toArray) (h0 : 0 ≤ k) (hk : k < 2 ^ 63) (hx : vs[k.toNat]? = some v) (h : Q v s)
    (hs : subscripted slice false (.ref l) (.int k t) = operate [.ref l, .int k t] (getItem (.ref l) (.int k t)) := by with_unfolding_all rfl) :
    wpAny (model prog w) A (subscriptTail value slice (.ref l) (.int k t)) Q E s :=
  tail_any hl.typeIs slot_list_getitem.lookup (wpAny_getItem_list hl h0 hk (by simpa using hx) h) hs
theorem set_list {a : Addr} {o : Obj} {vs : List Value} {k : Int} {t : Tok} {v : Value} {Q : Unit → Shared → Prop} (H : St b S g0 h0 env g m mc (pre ++ (a, o) :: post) s.heap) (isl : IsL o vs) (hk0 : 0 ≤ k) (hk : k < 2 ^ 63) (hn : k.toNat < vs.length)
    (h : ∀ h' o', IsL o' (vs.set k.toNat v) → St b S g0 h0 env g m mc (pre ++ (a, o') :: post) h' → Q () { s with heap := h' }) : wpAny (model prog w) A (setItem (.ref a) (.int k t) v) Q E s := by
  obtain ⟨_, n, _, eo⟩ := isl
  subst eo
  have ho : PySem.IsL s.heap a vs.toArray n := H.muAt
  refine ki_setAt ho hk0 hk (by rw [List.size_toArray]; omega) ?_
  have q := PySem.IsL.update ho (fun xs => xs.setIfInBounds k.toNat v)
  have e : vs.toArray.setIfInBounds k.toNat v = (vs.set k.toNat v).toArray := by simp
  rw [e] at q
  exact h _ _ ⟨rfl, _, rfl, rfl⟩ (H.updAt q (Heap.SameBut.update ..).extBut)
theorem add_lists {l r : Addr} {vs us : List Value} {Q : Value → Shared → Prop} (H : St b S g0 h0 env g m mc mu s.heap) (hl : s.heap.IsList l vs.toArray) (hr : s.heap.IsList r us.toArray) (hsz : vs.length + us.length ≤ sizeLine)
    (h : ∀ a h', h0.get? a = none → s.heap.get? a = none → St b S g0 h0 env g m mc ((a, lst (vs ++ us)) :: mu) h' → Q (.ref a) { s with heap := h' }) : wpAny (model prog w) A (binaryOp .Add (.ref l) (.ref r)) Q E s := by
  refine add_arrays (frame0 H.ns) (restN _ _) hl hr (fun h' F N => ?_) (by rw [List.size_toArray, List.size_toArray]; exact hsz)
  have f := none_of_ge (h := s.heap) (Nat.le_refl _)
  obtain ⟨H', f0⟩ := H.madeF f F N
  exact h _ h' f0 f H'
theorem foldl_rep {v : Value} (n : Nat) : ∀ acc : Array Value, (List.replicate n #[v]).foldl (fun x1 x2 => x1 ++ x2) acc = acc ++ (List.replicate n v).toArray := by
  induction n with
  | zero => intro acc; simp
  | succ n ih => intro acc; rw [List.replicate_succ, List.foldl_cons, ih]; apply Array.ext'; simp [List.replicate_succ]
theorem mul_one {l : Addr} {v : Value} {x : Int} {u : Tok} {Q : Value → Shared → Prop} (H : St b S g0 h0 env g m mc ((l, lst [v]) :: mu) s.heap) (hlo : -(2 ^ 63) ≤ x) (hx : x ≤ 16777216)
    (h : ∀ a h', h0.get? a = none → s.heap.get? a = none → St b S g0 h0 env g m mc ((a, lst (List.replicate x.toNat v)) :: mu) h' → Q (.ref a) { s with heap := h' }) : wpAny (model prog w) A (binaryOp .Mult (.ref l) (.int x u)) Q E s := by
  refine mul_list (frame0 H.ns) (restN _ _) (H.mus (l, lst [v]) (.head _)) hlo (by omega) (by simp; omega) fun h' F N => ?_
  have f := none_of_ge (h := s.heap) (Nat.le_refl _)
  obtain ⟨H', f0⟩ := H.madeF f F N
  refine h _ h' f0 f ?_
  have e : (List.replicate (if ([v] : List Value).toArray.isEmpty = true then 0 else x.toNat) ([v] : List Value).toArray).foldl (fun x1 x2 => x1 ++ x2) #[] = (List.replicate x.toNat v).toArray := by
    rw [show (([v] : List Value).toArray.isEmpty) = false from rfl, if_neg (by decide)]
    have := foldl_rep (v := v) x.toNat #[]
    simpa using this
  rw [e] at H'
  exact (H'.perm (List.Perm.swap _ _ _)).drop
theorem copy_list {l : Addr} {vs : List Value} {Q : Value → Shared → Prop} (H : St b S g0 h0 env g m mc mu s.heap) (hl : s.heap.IsList l vs.toArray) (hsz : vs.length ≤ sizeLine)
    (h : ∀ a o h', IsL o vs → h0.get? a = none → St b S g0 h0 env g m mc ((a, o) :: mu) h' → Q (.ref a) { s with heap := h' }) : wpAny (model prog w) A (call (.type "list") [.ref l]) Q E s := by
  refine list_copyK (frame0 H.ns) (restN _ _) hl (fun D c h' F N lt => ?_) (by rw [List.size_toArray]; exact hsz)
  have f : s.heap.get? D = none := by
    cases q : s.heap.get? D with
    | none => rfl
    | some o =>
      by_cases e : D = env.locals
      · exact absurd e (N _ (.head _)).2.1
      · exact absurd (lt (D, o) (mem_restOf.mpr ⟨by simpa using e, q⟩)) (Nat.lt_irrefl _)
  obtain ⟨H', f0⟩ := H.madeF f F N
  exact h _ _ h' ⟨rfl, c, rfl, rfl⟩ f0 H'
theorem len_list {l : Addr} {vs : List Value} {Q : Value → Shared → Prop} (hl : s.heap.IsList l vs.toArray) (hsz : vs.length ≤ 16777216) (h : Q (.int vs.length (s.toks + 1)) { s with toks := s.toks + 1 + 1 }) :
    wpAny (model prog w) A (call (.builtin "len") [.ref l]) Q E s :=
  call_len_list hl (by rw [List.size_toArray]; omega) (by rw [List.size_toArray]; exact h)
end
end Mine
namespace Mine
section
variable {b : Heap} {S : List Addr} {g0 : FM} {h0 : Heap} {env : Env} {g g' : FM} {m mc : Str → Option Value} {mu mu' pre : List (Addr × Obj)} {h h' : Heap}
theorem St.muFacts (H : St b S g0 h0 env g m mc (pre ++ mu) h) : (∀ q ∈ mu, h.get? q.1 = some q.2 ∧ g q.1 = none) ∧ (mu.map (·.1)).Nodup := by
  refine ⟨fun q hq => ⟨H.mus q (List.mem_append_right _ hq), (H.own _ (owns_mu (List.mem_append_right _ hq))).1⟩, ?_⟩
  have nd := H.nd
  unfold owns at nd
  rw [List.map_append] at nd
  exact (List.nodup_append.mp (List.nodup_append.mp (List.nodup_cons.mp nd).2).2.1).2.1
theorem St.callMu (H : St b S g0 h0 env g m mc (pre ++ mu) h) (e : Ev (mu.map (·.1)) g h g' h') (ad : mu'.map (·.1) = mu.map (·.1)) (mus : ∀ q ∈ mu', h'.get? q.1 = some q.2) : St b S g0 h0 env g' m mc (pre ++ mu') h' := by
  have nd := H.nd
  unfold owns at nd
  rw [List.map_append] at nd
  have nd2 := List.nodup_append.mp (List.nodup_append.mp (List.nodup_cons.mp nd).2).2.1
  refine H.call e (fun a ha => by rw [List.map_append]; exact List.mem_append_right _ ha) (fun q hq => ?_) (by rw [List.map_append, List.map_append, ad])
  rcases List.mem_append.mp hq with hq | hq
  · exact e.keep _ _ (fun z => nd2.2.2 q.1 (List.mem_map_of_mem hq) q.1 z rfl) (H.mus q (List.mem_append_left _ hq))
  · exact mus q hq
end

section
variable {prog : Program} {w : World} {b : Heap} {S : List Addr} {g0 : FM} {h0 : Heap} {env : Env} {g : FM} {m mc : Str → Option Value} {mu : List (Addr × Obj)} {A : Around} {s : Shared} {E : Value → Shared → Prop}
theorem sub_mu {value slice : Expr} {l : Addr} {o : Obj} {vs : List Value} {k : Int} {t : Tok} {v : Value} {Q : Value → Shared → Prop} (H : St b S g0 h0 env g m mc mu s.heap) (hm : (l, o) ∈ mu) (isl : IsL o vs) (h0 : 0 ≤ k) (hk : k < 2 ^ 63) (hx : vs[k.toNat]? = some v) (h : Q v s)
    (hs : subscripted slice false (.ref l) (.int k t) = operate [.ref l, .int k t] (getItem (.ref l) (.int k t)) := by with_unfolding_all rfl) :
    wpAny (model prog w) A (subscriptTail value slice (.ref l) (.int k t)) Q E s := sub_list (isl.at_ (H.mus _ hm)) h0 hk hx h hs
theorem len_mu {l : Addr} {o : Obj} {vs : List Value} {Q : Value → Shared → Prop} (H : St b S g0 h0 env g m mc mu s.heap) (hm : (l, o) ∈ mu) (isl : IsL o vs) (hsz : vs.length ≤ 16777216) (h : Q (.int vs.length (s.toks + 1)) { s with toks := s.toks + 1 + 1 }) :
    wpAny (model prog w) A (call (.builtin "len") [.ref l]) Q E s := len_list (isl.at_ (H.mus _ hm)) hsz h
theorem mod_pos {a c : Int} {t u : Tok} {Q : Value → Shared → Prop} (hc : 0 < c) (h : Q (.int (a % c) s.toks) { s with toks := s.toks + 1 }) : wpAny (model prog w) A (binaryOp .Mod (.int a t) (.int c u)) Q E s :=
  PyProof.Rows.mod_int' (by omega) (by rw [Int.fmod_eq_emod_of_nonneg _ (by omega)]; exact h)
theorem div_pos {a c : Int} {t u : Tok} {Q : Value → Shared → Prop} (hc : 0 < c) (hc2 : c < 1073741824) (h : Q (.int (a / c) s.toks) { s with toks := s.toks + 1 }) : wpAny (model prog w) A (binaryOp .FloorDiv (.int a t) (.int c u)) Q E s :=
  PyProof.Rows.floordiv_int (by omega) (by rw [Int.fdiv_eq_ediv_of_nonneg _ (by omega)]; exact h) (.inl (PyProof.noPylong_small (by omega)))
theorem mul_lit {a c : Int} {t u : Tok} {Q : Value → Shared → Prop} (hc : Builtin.Int.intBits c ≤ 64) (h : Q (.int (a * c) s.toks) { s with toks := s.toks + 1 }) : wpAny (model prog w) A (binaryOp .Mult (.int a t) (.int c u)) Q E s :=
  PyProof.Rows.mul_int h (IntMulOk.of_right hc)
end

/-- the draws' state: a counter and the cells -/
def StOk (st cl : Addr) (mu : List (Addr × Obj)) : Prop := ∃ oS oC k tk vs ns, mu = [(st, oS), (cl, oC)] ∧ IsL oS [.int k tk, .ref cl] ∧ IsL oC vs ∧ IntsAre vs ns ∧ 0 < vs.length ∧ vs.length ≤ 64
theorem StOk.adr {st cl : Addr} {mu : List (Addr × Obj)} (x : StOk st cl mu) : mu.map (·.1) = [st, cl] := by obtain ⟨_, _, _, _, _, _, rfl, _⟩ := x; rfl
end Mine
namespace Mine
-- the library's nodes, their side conditions shown by unfolding
section
variable {M : Model} {prog : Program} {w : World} {env : Env} {A : Around} {s : Shared} {E : Value → Shared → Prop}
theorem x_assign {x pos' value pos} {Q : Flow → Shared → Prop} (h : wpAny M A (eval value env) (fun v s₁ => wpAny M A (storeName env x v) (fun _ => Q .next) E s₁) E s)
    (hs : swapsWith value (some (.Name x pos')) pos.line env = pure false := by with_unfolding_all rfl) : wpAny M A (exec (.Assign [.Name x pos'] value pos) env) Q E s := wpAny_Assign_Name h hs
theorem x_assignSub {o i pos' value pos} {Q : Flow → Shared → Prop}
    (h : wpAny M A (eval value env) (fun v s₁ => wpAny M A (eval o env) (fun ov s₂ => wpAny M A (eval i env) (fun iv s₃ => wpAny M A (setItem ov iv v) (fun _ => Q .next) E s₃) E s₂) E s₁) E s)
    (hs : swapsWith value (some (.Subscript o i pos')) pos.line env = pure false := by with_unfolding_all rfl) : wpAny M A (exec (.Assign [.Subscript o i pos'] value pos) env) Q E s := wpAny_Assign_Subscript h hs
theorem x_builtin {pos : Pos} {id : String} {e : Expr} {rest : List Expr} {Q : Value → Shared → Prop}
    (h : wpAny M A (spliced (backTo pos (starEach (e :: rest) env))) (fun vs s₁ => wpAny M A (call (.builtin id) vs) Q E s₁) E s)
    (he : starEach (e :: rest) env = (false, eval e env) :: starEach rest env := by with_unfolding_all rfl) (hplain : (backTo pos (starEach rest env)).any (·.1) = false := by with_unfolding_all rfl) :
    wpAny M A (callWith pos (.builtin id) [] (backTo pos (starEach (e :: rest) env)) []) Q E s := PyProof.Rows.callWith_builtin1 h he hplain
theorem x_type {pos : Pos} {T : String} {e : Expr} {rest : List Expr} {Q : Value → Shared → Prop}
    (h : wpAny M A (spliced (backTo pos (starEach (e :: rest) env))) (fun vs s₁ => wpAny M A (call (.type T) vs) Q E s₁) E s)
    (he : starEach (e :: rest) env = (false, eval e env) :: starEach rest env := by with_unfolding_all rfl) (hplain : (backTo pos (starEach rest env)).any (·.1) = false := by with_unfolding_all rfl) :
    wpAny M A (callWith pos (.type T) [] (backTo pos (starEach (e :: rest) env)) []) Q E s := PyProof.Rows.callWith_type1 h he hplain
theorem x_arg {e : Expr} {rest : List Expr} {pos : Pos} {Q : List Value → Shared → Prop} (h : wpAny M A (eval e env) (fun v s₁ => wpAny M A (spliced (backTo pos (starEach rest env))) (fun vs s₂ => Q (v :: vs) s₂) E s₁) E s)
    (he : starEach (e :: rest) env = (false, eval e env) :: starEach rest env := by with_unfolding_all rfl) : wpAny M A (spliced (backTo pos (starEach (e :: rest) env))) Q E s := spliced_more h he
theorem x_attr {value : Expr} {attr : Str} {pos : Pos} {Q : Value → Shared → Prop} (h : wpAny (model prog w) A (eval value env) (fun o s₁ => wpAny (model prog w) A (getAttr o attr true) Q E s₁) E s)
    (he : eval (.Attribute value attr pos) env = (do
      let o ← eval value env
      standAt pos.atName
      let r ← holding [o] (getAttr o attr true)
      letTemporaryGo value o r
      pure r) := by with_unfolding_all rfl) : wpAny (model prog w) A (eval (.Attribute value attr pos) env) Q E s := Attribute_any_ h he
theorem x_meth {o : Expr} {name : Str} {apos pos : Pos} {args : List Expr} {pl : Sem Bool} {Q : Value → Shared → Prop}
    (h : wpAny M A (eval o env) (fun ov s₁ => wpAny M A (getMethod ov name pl) (fun fx s₂ => wpAny M A (callWith pos fx.1 fx.2 (backTo pos (starEach args env)) []) Q E s₂) E s₁) E s)
    (he : eval (.Call (.Attribute o name apos) args [] pos) env = (do
      let ov ← eval o env
      standAt apos.atName
      let (f, first) ← holding [ov] (getMethod ov name pl)
      callWith pos f first (backTo pos (starEach args env)) []) := by with_unfolding_all rfl) :
    wpAny M A (eval (.Call (.Attribute o name apos) args [] pos) env) Q E s := MethodCall_ h he
theorem x_cmp {l op r pos} {Q : Value → Shared → Prop} (h : wpAny M A (eval l env) (fun a s₁ => wpAny M A (eval r env) (fun b s₂ => wpAny M A (compareOp op a b) Q E s₂) E s₁) E s)
    (hm : behindInMarks op r = false := by with_unfolding_all rfl) : wpAny M A (eval (.Compare l [op] [r] pos) env) Q E s := wpAny_Compare1 h hm
theorem x_fn {K : Frag} {b : Heap} {p : Program} {loose : List Str} {mean : ExcName → Option Value} {mg mb : Str → Option Value} {f : Value} {first : List Value} {pos : Pos} {e : Expr} {rest : List Expr} {Q : Value → Shared → Prop}
    (W : Wd K p loose mean mg mb b) (hk : keepIn K f = true) (h : wpAny M A (spliced (backTo pos (starEach (e :: rest) env))) (fun vs s₁ => K.In s₁.heap ∧ wpAny M A (call f (first ++ vs)) Q E s₁) E s)
    (he : starEach (e :: rest) env = (false, eval e env) :: starEach rest env := by with_unfolding_all rfl) (hplain : (backTo pos (starEach rest env)).any (·.1) = false := by with_unfolding_all rfl) :
    wpAny M A (callWith pos f first (backTo pos (starEach (e :: rest) env)) []) Q E s := callWith_K (h₀ := b) W.X hk h he hplain
end
end Mine
namespace Mine
theorem ints_set {vs : List Value} {ns : List Int} (h : IntsAre vs ns) (i : Nat) (x : Int) (t : Tok) : IntsAre (vs.set i (.int x t)) (ns.set i x) := by
  induction h generalizing i with
  | nil => exact .nil
  | cons n t' h ih => cases i with
    | zero => exact .cons x t h
    | succ i => exact .cons n t' (ih i)
end Mine
namespace Mine
def IntL (g : FM) (a : Addr) (ns : List Int) : Prop := ∃ vs o k, g a = some o ∧ o.cls = .type "list" ∧ (o.data = .seq (List.toArray vs) k ∧ o = { cls := .type "list", data := .seq (List.toArray vs) k }) ∧ IntsAre vs ns
/-- the same, of a list that another made -/
def IntL0 (g : FM) (a : Addr) (ns : List Int) : Prop := ∃ vs o k, g a = some o ∧ o.cls = .type "list" ∧ o.data = .seq (List.toArray vs) k ∧ IntsAre vs ns
theorem IntL0.list {g : FM} {h : Heap} {a : Addr} {ns : List Int} (I : IntL0 g a ns) (on : g.le h.get?) : ∃ vs, h.IsList a vs.toArray ∧ IntsAre vs ns := let ⟨vs, o, k, e, c, d, i⟩ := I; ⟨vs, ⟨o, on _ _ e, c, k, d⟩, i⟩
theorem IntL.mono {g g' : FM} {a : Addr} {ns : List Int} (I : IntL g a ns) (le : g.le g') : IntL g' a ns := let ⟨vs, o, k, e, r⟩ := I; ⟨vs, o, k, le _ _ e, r⟩
def Ring (C : Addr) (g : FM) (x : Addr) (q n : Int) : Prop := ∃ h1 t1 u1 h2 t2 u2, Inst g x C [⟨h1, .str "q" t1, .int q u1⟩, ⟨h2, .str "n" t2, .int n u2⟩]
theorem Ring.mono {C : Addr} {g g' : FM} {x : Addr} {q n : Int} (I : Ring C g x q n) (le : g.le g') : Ring C g' x q n := let ⟨h1, t1, u1, h2, t2, u2, i⟩ := I; ⟨h1, t1, u1, h2, t2, u2, i.mono le⟩
def Poly (C : Addr) (g : FM) (x r : Addr) (cs : List Int) : Prop := ∃ h1 t1 h2 t2 l, Inst g x C [⟨h1, .str "parent" t1, .ref r⟩, ⟨h2, .str "coeffs" t2, .ref l⟩] ∧ IntL g l cs
theorem Poly.mono {C : Addr} {g g' : FM} {x r : Addr} {cs : List Int} (I : Poly C g x r cs) (le : g.le g') : Poly C g' x r cs := let ⟨h1, t1, h2, t2, l, i, j⟩ := I; ⟨h1, t1, h2, t2, l, i.mono le, j.mono le⟩
theorem IntL.list {g : FM} {h : Heap} {a : Addr} {ns : List Int} (I : IntL g a ns) (on : g.le h.get?) : ∃ vs, h.IsList a vs.toArray ∧ IntsAre vs ns := let ⟨vs, o, k, e, c, d, i⟩ := I; ⟨vs, ⟨o, on _ _ e, c, k, d.1⟩, i⟩
theorem IntL.mk {g : FM} {a : Addr} {o : Obj} {vs : List Value} {ns : List Int} (e : g a = some o) (isl : IsL o vs) (i : IntsAre vs ns) : IntL g a ns := let ⟨c, k, d⟩ := isl; ⟨vs, o, k, e, c, d, i⟩
end Mine
namespace Mine
section
variable {prog : Program} {w : World} {K : Frag} {p : Program} {loose : List Str} {mean : ExcName → Option Value} {mg mb : Str → Option Value} {b : Heap}
variable {S : List Addr} {g0 : FM} {h0 : Heap} {env : Env} {g : FM} {m mc : Str → Option Value} {mu : List (Addr × Obj)}
variable {A : Around} {s : Shared} {E : Value → Shared → Prop}

theorem St.F (H : St b S g0 h0 env g m mc mu s.heap) : Fr b env.locals s.heap m := ⟨H.ns, H.base, H.lo⟩

/-- its two objects told -/
structure At (g : FM) (x C d : Addr) (es : List DictEntry) (n : Nat) : Prop where
  x : g x = some (instObj C d)
  d : g d = some (dictOf es n)
theorem At.mono {g g' : FM} {x C d : Addr} {es : List DictEntry} {n : Nat} (I : At g x C d es n) (le : g.le g') : At g' x C d es n := ⟨le _ _ I.x, le _ _ I.d⟩
theorem At.I {h : Heap} {x C d : Addr} {es : List DictEntry} {n : Nat} (I : At h.get? x C d es n) : InstAt h x (instObj C d) C (some (dictOf es n)) := ⟨I.x, rfl, rfl, I.d⟩

-- an object called
theorem x_icall {pos : Pos} {x C d f : Addr} {es : List DictEntry} {n : Nat} {first : List Value} {e : Expr} {rest : List Expr} {Q : Value → Shared → Prop} (X : K.In s.heap) (I : At s.heap.get? x C d es n) (hs : findIn K (.ref C) "__call__" = some (some (.ref f)))
    (h : wpAny (model prog w) A (spliced (backTo pos (starEach (e :: rest) env))) (fun vs s₁ => (K.In s₁.heap ∧ At s₁.heap.get? x C d es n) ∧ wpAny (model prog w) A (call (.ref x) (first ++ vs)) Q E s₁) E s)
    (he : starEach (e :: rest) env = (false, eval e env) :: starEach rest env := by with_unfolding_all rfl) (hplain : (backTo pos (starEach rest env)).any (·.1) = false := by with_unfolding_all rfl) :
    wpAny (model prog w) A (callWith pos (.ref x) first (backTo pos (starEach (e :: rest) env)) []) Q E s :=
  kco_callWith X I.I rfl hs (wpAny_mono h (fun vs s₁ z => ⟨⟨z.1.1, z.1.2.I⟩, z.2⟩) fun _ _ z => z) he hplain
theorem icall {x C d f : Addr} {es : List DictEntry} {n : Nat} {vs : List Value} {Q : Value → Shared → Prop} (X : K.In s.heap) (I : At s.heap.get? x C d es n) (hs : findIn K (.ref C) "__call__" = some (some (.ref f))) (hf : isFn K (.ref f) = true) (hfn : fnIn K f = true)
    (h : codeAny (model prog w) A (.call (.ref f) ⟨.ref x :: vs, []⟩) (fun r s' => match r with | .ok (.ret v) => Q v s' | .ok _ => False | .error e => E e s') s) : wpAny (model prog w) A (call (.ref x) vs) Q E s :=
  wpAny_call (kco_code X I.I rfl hs hf hfn h)

-- operators of a class
theorem bin_same {op : Operator} {x y C f : Addr} {es es' : List DictEntry} {Q : Value → Shared → Prop} (W : Wd K p loose mean mg mb b) (H : St b S g0 h0 env g m mc mu s.heap) (I : Inst g x C es) (J : Inst g y C es') (hc : selfFirst K C = true)
    (hs : findIn K (.ref C) (PySem.dunder op.info.2) = some (some (.ref f))) (hf : isFn K (.ref f) = true) (h : wpAny (model prog w) A (call (.ref f) [.ref x, .ref y]) (PySem.W.CmpBack Q) E s) : wpAny (model prog w) A (binaryOp op (.ref x) (.ref y)) Q E s := by
  obtain ⟨d, n, i⟩ := (I.mono H.on).at_
  obtain ⟨d', n', j⟩ := (J.mono H.on).at_
  exact binop_K H.F W.X i j.type hc hs hf h
-- isinstance, type
theorem isi_list {l : Addr} {o : Obj} {c : Value} {r : Bool} {Q : Value → Shared → Prop} (X : K.In s.heap) (ho : s.heap.get? l = some o) (hc : o.cls = .type "list") (e : kitOne K (.type "list") c = some r) (h : ∀ tk, Q (.bool r) { s with toks := tk }) :
    wpAny (model prog w) A (call (.builtin "isinstance") [.ref l, c]) Q E s := kia_one kitx_list X ⟨o, ho, hc⟩ e (by intro q; cases q) h
theorem isi_int {k : Int} {t : Tok} {c : Value} {r : Bool} {Q : Value → Shared → Prop} (X : K.In s.heap) (e : kitOne K (.type "int") c = some r) (h : ∀ tk, Q (.bool r) { s with toks := tk }) :
    wpAny (model prog w) A (call (.builtin "isinstance") [.int k t, c]) Q E s := kia_one kitx_int X trivial e (by intro q; cases q) h
theorem isi_inst {x C : Addr} {es : List DictEntry} {c : Value} {r : Bool} {Q : Value → Shared → Prop} (X : K.In s.heap) (I : Inst s.heap.get? x C es) (e : kitOne K (.ref C) c = some r)
    (hg : plainGet K C "__class__" = true) (hdct : hasDictIn K C = true) (ha : findIn K (.ref C) "__class__" = some (some (.builtin "object.__class__")))
    (hn : specialIn K (.builtin "object.__class__") "__get__" = some (some (.builtin "getset_descriptor.__get__"))) (htk : takesIn K (.builtin "object.__class__") = some true) (hm : mroIn K C (.type "object") = some true)
    (h : ∀ tk, Q (.bool r) { s with toks := tk }) : wpAny (model prog w) A (call (.builtin "isinstance") [.ref x, c]) Q E s := by
  obtain ⟨d, n, i⟩ := I.at_
  exact kia_one (kitx_own hg hdct ha hn htk hm) X i e (by intro q; cases q) h
theorem type_inst {x C : Addr} {es : List DictEntry} {Q : Value → Shared → Prop} (I : Inst s.heap.get? x C es) (h : Q (.ref C) s) : wpAny (model prog w) A (call (.type "type") [.ref x]) Q E s := by
  obtain ⟨d, n, i⟩ := I.at_
  exact kto_own i h

-- a slice from the start
theorem sub_upto {value : Expr} {slice : Expr} {l : Addr} {vs : List Value} {ns : List Int} {y : Int} {t : Tok} {Q : Value → Shared → Prop} (H : St b S g0 h0 env g m mc mu s.heap) (hl : s.heap.IsList l vs.toArray) (hi : IntsAre vs ns) (hy : 0 ≤ y) (hz : vs.length ≤ sizeLine)
    (h : ∀ D o ws h', IsL o ws → IntsAre ws (ns.take y.toNat) → h0.get? D = none → St b S g0 h0 env g m mc ((D, o) :: mu) h' → Q (.ref D) { s with heap := h' })
    (hs : subscripted slice false (.ref l) (.ref s.heap.objs.size) = operate [.ref s.heap.objs.size, .ref l] (getItem (.ref l) (.ref s.heap.objs.size)) := by with_unfolding_all rfl) (ht : ∀ r, letTemporaryGo value (.ref l) r = pure () := by intro _; with_unfolding_all rfl) :
    wpAny (model prog w) A (subscriptTail value slice (.ref l) (.ref s.heap.objs.size)) Q E { s with heap := s.heap.push { cls := .type "slice", data := .fields #[.none, .int y t, .none] } } := by
  refine kmk_slice_ints (frame0 H.ns) (restN _ _) hl .none (.int y t) hi (kmk_upto hi hy) rfl (fun D ws h' F N lt hw _ _ => ?_) hs ht (by rw [List.size_toArray]; exact hz)
  have f : s.heap.get? D = none := by
    cases q : s.heap.get? D with
    | none => rfl
    | some o =>
      by_cases e : D = env.locals
      · exact absurd e (N _ (.head _)).2.1
      · exact absurd (lt (D, o) (mem_restOf.mpr ⟨by simpa using e, q⟩)) (Nat.lt_irrefl _)
  obtain ⟨H', f0⟩ := H.madeF f F N
  exact h D _ ws h' ⟨rfl, 0, rfl, rfl⟩ hw f0 H'
end
end Mine
namespace Mine

theorem codeAny_compLoop_own {prog : Program} {w : World} {A : Around} {R : Result → Shared → Prop} {s : Shared} {elt target iter : Expr} {scope : Scope} {pos : Pos} {it acc : Value} {env : Env} (I : Nat → Shared → Prop)
    (turn : ∀ n s, I n s → wpAny (model prog w) A (pyNext it) (fun r s₁ => match r with
      | none => R (.ok .next) s₁
      | some v => wpAny (model prog w) A (letOwnedTupleGo target it v) (fun _ s₁ => wpAny (model prog w) A (assign target env v) (fun _ s₂ => wpAny (model prog w) A (eval elt env) (fun x s₃ =>
          wpAny (model prog w) A (call (.builtin "list.append") [acc, x]) (fun _ s₄ => ∃ m, m < n ∧ I m s₄) (notedBy (model prog w) A env fun e s' => R (.error e) s') s₃)
          (notedBy (model prog w) A env fun e s' => R (.error e) s') s₂) (notedBy (model prog w) A env fun e s' => R (.error e) s') s₁) (notedBy (model prog w) A env fun e s' => R (.error e) s') s₁) (notedBy (model prog w) A env fun e s' => R (.error e) s') s)
    (n : Nat) (h : I n s) :
    codeAny (model prog w) A (.compLoop (.ListComp elt [⟨target, iter, [], 0⟩] scope pos) 0 it acc env) R s := by
  refine codeAny_loop rfl I (fun n s hI => ?_) n h
  show wpAny _ _ ((compTurn (.ListComp elt [⟨target, iter, [], 0⟩] scope pos) 0 it acc env).onRaise (fun x => do noteFrame x env; theTreesLotGoes x)) _ _ s
  refine wpAny_noted ?_
  rw [compTurn_list1]
  refine wpAny_bind (wpAny_standAt (wpAny_bind (wpAny_mono (turn n s hI) (fun r s₁ h₁ => ?_) fun _ _ h' => h')))
  cases r with
  | none => exact wpAny_pure h₁
  | some v =>
    exact wpAny_bind (wpAny_mono h₁ (fun _ s₁ h₁ => wpAny_bind (wpAny_mono h₁ (fun _ s₂ h₂ => wpAny_bind (wpAny_bind (wpAny_mono h₂ (fun x s₃ h₃ => wpAny_bind (wpAny_mono h₃
      (fun _ s₄ h₄ => wpAny_pure (wpAny_pure ⟨rfl, h₄⟩)) fun _ _ h' => h')) fun _ _ h' => h'))) fun _ _ h' => h')) fun _ _ h' => h')

section
variable {prog : Program} {w : World} {b : Heap}
variable {S : List Addr} {g0 : FM} {h0 : Heap} {env : Env} {g : FM} {m mc : Str → Option Value} {mu its : List (Addr × Obj)} {h hb : Heap}
variable {A : Around} {s : Shared} {E : Value → Shared → Prop}

theorem owns_append {a : Addr} (q : a ∈ owns env (its ++ mu)) : a ∈ its.map (·.1) ∨ a ∈ owns env mu := by
  unfold owns at q ⊢
  rcases List.mem_cons.mp q with q | q
  · exact .inr (q ▸ .head _)
  · rcases List.mem_append.mp q with q | q
    · exact .inr (.tail _ (List.mem_append_left _ q))
    · rw [List.map_append] at q
      rcases List.mem_append.mp q with q | q
      · exact .inl q
      · exact .inr (.tail _ (List.mem_append_right _ q))

theorem St.adopts : ∀ {its : List (Addr × Obj)}, St b S g0 h0 env g m mc mu h → (∀ q ∈ its, h.get? q.1 = some q.2 ∧ q.1 ∉ owns env mu ∧ g q.1 = none ∧ h0.get? q.1 = none) → (its.map (·.1)).Nodup → St b S g0 h0 env g m mc (its ++ mu) h
  | [], H, _, _ => H
  | q :: r, H, hq, nd => by
    rw [List.map_cons] at nd
    have ih := St.adopts (its := r) H (fun x hx => hq x (.tail _ hx)) (List.nodup_cons.mp nd).2
    obtain ⟨h1, h2, h3, h4⟩ := hq q (.head _)
    exact ih.adopt h1 (fun z => (owns_append z).elim (List.nodup_cons.mp nd).1 h2) h3 h4

theorem its_of {h : Heap} : ∀ (wr : List Addr), (∀ a ∈ wr, ∃ o, h.get? a = some o) → ∃ its : List (Addr × Obj), its.map (·.1) = wr ∧ ∀ q ∈ its, h.get? q.1 = some q.2
  | [], _ => ⟨[], rfl, fun _ q => nomatch q⟩
  | a :: r, hl => by
    obtain ⟨o, e⟩ := hl a (.head _)
    obtain ⟨its, e1, e2⟩ := its_of r fun x hx => hl x (.tail _ hx)
    refine ⟨(a, o) :: its, by rw [List.map_cons, e1], fun q hq => ?_⟩
    rcases List.mem_cons.mp hq with rfl | hq
    · exact e
    · exact e2 q hq

theorem St.dropJunks {h h' : Heap} : ∀ {its : List (Addr × Obj)}, St b S g0 h0 env g m mc (its ++ mu) h → (∀ q ∈ its, h0.get? q.1 = none) → (∀ x p, x ∉ its.map (·.1) → h.get? x = some p → h'.get? x = some p) → St b S g0 h0 env g m mc mu h' := by
  intro its H f kp
  have nd := H.nd
  have notin : ∀ x ∈ owns env mu, x ∉ its.map (·.1) := fun x hx q => by
    unfold owns at nd hx
    rw [List.map_append] at nd
    have n2 := List.nodup_append.mp (List.nodup_cons.mp nd).2
    have n3 := List.nodup_append.mp n2.2.1
    rcases List.mem_cons.mp hx with e | e
    · exact (List.nodup_cons.mp nd).1 (e ▸ List.mem_append_right _ (List.mem_append_left _ q))
    · rcases List.mem_append.mp e with e | e
      · exact n2.2.2 x e x (List.mem_append_left _ q) rfl
      · exact n3.2.2 x q x e rfl
  have gn : ∀ x ∈ its.map (·.1), g x = none := fun x hx => (H.own x (.tail _ (List.mem_append_right _ (by rw [List.map_append]; exact List.mem_append_left _ hx)))).1
  have h0n : ∀ x ∈ its.map (·.1), h0.get? x = none := fun x hx => by
    obtain ⟨q, hq, rfl⟩ := List.mem_map.mp hx
    exact f q hq
  have sub : (owns env mu).Sublist (owns env (its ++ mu)) := by
    unfold owns
    rw [List.map_append]
    exact List.Sublist.cons_cons _ (List.Sublist.append_left (List.sublist_append_right _ _) _)
  refine ⟨?_, fun x c hc => ?_, H.bg, H.lo, ⟨H.ev.gg, H.ev.new, fun x p n e => kp x p (fun q => by rw [h0n x q] at e; cases e) (H.ev.keep x p n e), fun x p e => ?_, fun x p e => kp x p (fun q => by rw [gn x q] at e; cases e) (H.on x p e)⟩,
    fun p hp => kp _ _ (notin _ (owns_mu hp)) (H.mus p (List.mem_append_right _ hp)), H.nd.sublist sub, H.nn, fun a ha => H.own a (sub.subset ha)⟩
  · obtain ⟨oL, es, ep, e, r⟩ := H.ns; exact ⟨oL, es, ep, kp _ _ (notin _ owns_L) e, r⟩
  · obtain ⟨oc, e, r⟩ := H.cell x c hc
    exact ⟨oc, kp _ _ (notin _ (.tail _ (List.mem_append_left _ (List.mem_map.mpr ⟨(x, c), hc, rfl⟩)))) e, r⟩
  · obtain ⟨p', e'⟩ := H.ev.live x p e
    exact ⟨p', kp x p' (fun q => by rw [h0n x q] at e; cases e) e'⟩

theorem St.callIts {h' : Heap} {g' : FM} {pre its its' : List (Addr × Obj)} (H : St b S g0 h0 env g m mc (pre ++ (its ++ mu)) h) (e : Ev (its.map (·.1)) g h g' h') (ad : its'.map (·.1) = its.map (·.1)) (mus : ∀ q ∈ its', h'.get? q.1 = some q.2) : St b S g0 h0 env g' m mc (pre ++ (its' ++ mu)) h' := by
  have nd := H.nd
  unfold owns at nd
  rw [List.map_append, List.map_append] at nd
  have n2 := List.nodup_append.mp (List.nodup_append.mp (List.nodup_cons.mp nd).2).2.1
  have n3 := List.nodup_append.mp n2.2.1
  refine H.call e (fun a ha => by rw [List.map_append, List.map_append]; exact List.mem_append_right _ (List.mem_append_left _ ha)) (fun q hq => ?_) (by rw [List.map_append, List.map_append, List.map_append, List.map_append, ad])
  rcases List.mem_append.mp hq with hq | hq
  · exact e.keep _ _ (fun z => n2.2.2 q.1 (List.mem_map_of_mem hq) q.1 (List.mem_append_left _ z) rfl) (H.mus q (List.mem_append_left _ hq))
  · rcases List.mem_append.mp hq with hq | hq
    · exact mus q hq
    · exact e.keep _ _ (fun z => n3.2.2 q.1 z q.1 (List.mem_map_of_mem hq) rfl) (H.mus q (List.mem_append_right _ (List.mem_append_right _ hq)))
end
end Mine
namespace Mine

structure CompZ (env : Env) (scope : Scope) (cl : List (Str × Addr)) (cn : List Str) (xa xb : Str) : Prop where
  clos : closureFor scope env = pure cl
  caught : Caught env cl
  names : cl.map (·.1) = cn
  nd : ((cellsFrom 0 scope.names (cn.map fun x => (x, 0))).map (·.1)).Nodup
  kind : scope.kind = .function
  loc : ∀ y ∈ scope.names, y.2 = .local → scope.names.lookup y.1 = some .local
  own : ∀ y ∈ scope.names, y.2 ≠ .cell
  ta : (relabel scope env).names.lookup xa = some .local
  tb : (relabel scope env).names.lookup xb = some .local

section
variable {prog : Program} {w : World} {b : Heap}
variable {S : List Addr} {g0 : FM} {h0 : Heap} {env : Env} {g : FM} {m mc : Str → Option Value} {mu : List (Addr × Obj)} {hb : Heap}
variable {A : Around} {s : Shared} {E : Value → Shared → Prop}

def ZipEnd (b : Heap) (S : List Addr) (g0 : FM) (h0 : Heap) (cenv : Env) (m mc : Str → Option Value) (s : Shared) (g₁ : FM) (q : Addr × Obj) (mu : List (Addr × Obj)) (J : Value → FM → Prop) (y : Value) (s' : Shared) : Prop :=
  ∃ g₂ h₂ tk₂, s' = { s with heap := h₂, toks := tk₂ } ∧ g₁.le g₂ ∧ St b S g0 h0 cenv g₂ m mc (q :: mu) h₂ ∧ J y g₂
theorem ZipEnd.mk {cenv : Env} {s : Shared} {g₁ g₂ : FM} {q : Addr × Obj} {J : Value → FM → Prop} {y : Value} {h₂ : Heap} {tk₂ : Nat}
    (le : g₁.le g₂) (H : St b S g0 h0 cenv g₂ m mc (q :: mu) h₂) (j : J y g₂) : ZipEnd b S g0 h0 cenv m mc s g₁ q mu J y { s with heap := h₂, toks := tk₂ } :=
  ⟨g₂, h₂, tk₂, rfl, le, H, j⟩

/-- what a zip's parts look like, i items in -/
def ZAt (h : Heap) (z TI TO i1 i2 l1 l2 : Addr) (i : Nat) (f0 : Value) : Prop :=
  IsZip h z TI TO f0 ∧ IsPair h TI (.ref i1) (.ref i2) ∧ (∃ a b, IsPair h TO a b) ∧ h.IsListIter i1 l1 i ∧ h.IsListIter i2 l2 i
theorem ZAt.kept {h h' : Heap} {z TI TO i1 i2 l1 l2 : Addr} {i : Nat} {f0 : Value} (x : ZAt h z TI TO i1 i2 l1 l2 i f0) (k : ∀ a ∈ [z, TI, TO, i1, i2], ∀ o, h.get? a = some o → h'.get? a = some o) : ZAt h' z TI TO i1 i2 l1 l2 i f0 := by
  obtain ⟨a1, a2, ⟨u, v, a3⟩, ⟨o4, a4, r4⟩, ⟨o5, a5, r5⟩⟩ := x
  exact ⟨k _ (.head _) _ a1, k _ (.tail _ (.head _)) _ a2, ⟨u, v, k _ (.tail _ (.tail _ (.head _))) _ a3⟩, ⟨o4, k _ (.tail _ (.tail _ (.tail _ (.head _)))) _ a4, r4⟩, ⟨o5, k _ (.tail _ (.tail _ (.tail _ (.tail _ (.head _))))) _ a5, r5⟩⟩
theorem ZAt.live {h : Heap} {z TI TO i1 i2 l1 l2 : Addr} {i : Nat} {f0 : Value} (x : ZAt h z TI TO i1 i2 l1 l2 i f0) : ∀ a ∈ [z, TI, TO, i1, i2], ∃ o, h.get? a = some o := by
  obtain ⟨a1, a2, ⟨u, v, a3⟩, ⟨o4, a4, r4⟩, ⟨o5, a5, r5⟩⟩ := x
  intro a ha
  simp only [List.mem_cons, List.not_mem_nil, or_false] at ha
  rcases ha with rfl | rfl | rfl | rfl | rfl
  · exact ⟨_, a1⟩
  · exact ⟨_, a2⟩
  · exact ⟨_, a3⟩
  · exact ⟨_, a4⟩
  · exact ⟨_, a5⟩

theorem comp_zip {elt iter : Expr} {xa xb : Str} {pa pb pt : Pos} {kt : Nat} {scope : Scope} {cl : List (Str × Addr)} {cn : List Str} {pos : Pos} {z TI TO i1 i2 l1 l2 : Addr} {vs1 vs2 : List Value} {use : Option (Value → Sem Unit)} {Q : Value → Shared → Prop}
    (hh : A.handled = none) (ok : CompZ env scope cl cn xa xb) (H : St b S g0 h0 env g m mc mu hb) (kb : ∀ a o, hb.get? a = some o → s.heap.get? a = some o) (hsz : hb.objs.size ≤ s.heap.objs.size)
    (D : ZipApart z TI TO i1 i2 l1 l2) (za : ZAt s.heap z TI TO i1 i2 l1 l2 0 .none) (fr : ∀ a ∈ [z, TI, TO, i1, i2], hb.get? a = none)
    {o1 o2 : Obj} (g1 : g l1 = some o1) (g2 : g l2 = some o2) (L1 : IsL o1 vs1) (L2 : IsL o2 vs2) (hl : vs1.length = vs2.length) (hn : vs1.length ≤ sizeLine)
    (J : Nat → FM → List Value → Prop) (j0 : J 0 g [])
    (turn : ∀ i v1 v2 C Dl oD mu' g₁ ys h₁ tk E', i < vs1.length → vs1[i]? = some v1 → vs2[i]? = some v2 → g.le g₁ → J i g₁ ys → ys.length = i →
      St b (cl.map (·.2) ++ mu.map (·.1)) g hb (cenvOf scope cl C env) g₁ (up xb v2 (up xa v1 no)) mc ((Dl, oD) :: mu') h₁ →
      wpAny (model prog w) A (eval elt (cenvOf scope cl C env)) (ZipEnd b (cl.map (·.2) ++ mu.map (·.1)) g hb (cenvOf scope cl C env) (up xb v2 (up xa v1 no)) mc s g₁ (Dl, oD) mu' fun y g₂ => J (i + 1) g₂ (ys ++ [y])) E' { s with heap := h₁, toks := tk })
    (fin : ∀ g₁ ys C oC Dl oD mC h₁ tk, g.le g₁ → J vs1.length g₁ ys → ys.length = vs1.length → IsL oD ys → h₁.Ns C mC → h0.get? C = none → h0.get? Dl = none → St b S g0 h0 env g₁ m mc ((C, oC) :: (Dl, oD) :: mu) h₁ →
      compPost (model prog w) A E use Q (.ref Dl) C (.ok .next) { s with heap := h₁, toks := tk }) :
    wpAny (model prog w) A (pyIter (.ref z)) (fun it s₂ => wpAny (model prog w) A (newList []) (fun acc s₃ => wpAny (model prog w) A (newFunctionEnv scope env.globals cl [] env.qual none .none (some env)) (fun cenv s₄ =>
      codeAny (model prog w) A (.compStart (.ListComp elt [⟨.Tuple [.Name xa pa, .Name xb pb] kt pt, iter, [], 0⟩] scope pos) 0 it acc { cenv with scope := relabel scope env }) (compPost (model prog w) A E use Q acc cenv.locals) s₄) E s₃) E s₂) E s := by
  refine wpAny_pyIter_zip za.1 (wpAny_newList ?_)
  simp only [newFunctionEnv, Option.isSome_some, if_true]
  refine wpAny_bind (wpAny_alloc ?_)
  refine wpAny_bind (wpAny_layCells _ (fun name kind cells => by cases kind == NameKind.cell <;> simp) _ _ _ _ ?_)
  refine wpAny_bind ?_
  rw [List.forIn_nil]
  refine wpAny_pure (wpAny_pure ?_)
  dsimp only
  generalize hH3 : s.heap.push { cls := .type "list", data := .seq ([] : List Value).toArray } = H₃
  have sz3 : H₃.objs.size = s.heap.objs.size + 1 := by rw [← hH3, Heap.size_push]
  have h'3 : ∀ a o, s.heap.get? a = some o → H₃.get? a = some o := fun a o e => hH3 ▸ Heap.get?_push_of_some _ e
  have k3 : ∀ a o, hb.get? a = some o → H₃.get? a = some o := fun a o e => h'3 a o (kb a o e)
  have hD3 : H₃.get? s.heap.objs.size = some { cls := .type "list", data := .seq ([] : List Value).toArray } := hH3 ▸ Heap.get?_push_size _ rfl
  have sz4 : (H₃.push { cls := .type "dict", data := .dict #[] }).objs.size = H₃.objs.size + 1 := Heap.size_push ..
  rw [sz4]
  generalize hH4 : pushCells (H₃.push { cls := .type "dict", data := .dict #[] }) scope.names = H₄
  have k4 : ∀ a o, H₃.get? a = some o → H₄.get? a = some o := fun a o e => hH4 ▸ pushCells_keeps _ _ _ _ (Heap.get?_push_of_some _ e)
  have hle : hb.objs.size ≤ H₃.objs.size := by rw [sz3]; exact Nat.le_succ_of_le hsz
  have zlt : ∀ a ∈ [z, TI, TO, i1, i2], @LT.lt Nat _ a s.heap.objs.size := fun a ha => by obtain ⟨o, e⟩ := za.live a ha; exact Heap.lt_size e
  obtain ⟨Hi0, ow⟩ := H.inner (mc' := mc) ok.caught ok.names ok.nd k3 hle hH4.symm (fun q hq => rfl) (fun y hy => absurd rfl (ok.own _ hy))
  have za4 : ZAt H₄ z TI TO i1 i2 l1 l2 0 .none := za.kept fun a _ o e => k4 _ _ (h'3 _ _ e)
  have znd : [z, TI, TO, i1, i2].Nodup := by
    simp only [List.nodup_cons, List.mem_cons, List.not_mem_nil, or_false, not_or, not_false_eq_true, List.nodup_nil, and_true]
    exact ⟨⟨D.TIz.symm, D.TOz.symm, D.i1z.symm, D.i2z.symm⟩, ⟨D.TITO, D.TIi1, D.TIi2⟩, ⟨D.TOi1, D.TOi2⟩, D.i12⟩
  obtain ⟨its0, hits, its4⟩ := its_of (h := H₄) [z, TI, TO, i1, i2] za4.live
  have Hi1 := Hi0.adopts (its := its0) (fun q hq => by
    have hm : q.1 ∈ [z, TI, TO, i1, i2] := hits ▸ List.mem_map_of_mem hq
    refine ⟨its4 q hq, fun n => ?_, H.gfresh (fr _ hm), fr _ hm⟩
    rcases ow _ n with ⟨o, e⟩ | n
    · rw [fr _ hm] at e; cases e
    · have := zlt _ hm
      rw [sz3] at n
      exact absurd (Nat.lt_of_lt_of_le this (Nat.le_of_succ_le n)) (Nat.lt_irrefl _)) (by rw [hits]; exact znd)
  have freshD : hb.get? s.heap.objs.size = none := none_of_ge hsz
  have nD : s.heap.objs.size ∉ owns (cenvOf scope cl H₃.objs.size env) (its0 ++ mu) := fun q => by
    rcases owns_append q with q | q
    · rw [hits] at q; exact Nat.lt_irrefl _ (zlt _ q)
    · rcases ow _ q with ⟨o, e⟩ | q
      · rw [freshD] at e; cases e
      · rw [sz3] at q; exact Nat.not_succ_le_self _ q
  have Hi2 := Hi1.adopt (k4 _ _ hD3) nD (H.gfresh freshD) freshD
  generalize hDD : s.heap.objs.size = Dl at *
  generalize hCC : H₃.objs.size = C at *
  have main : ∀ s₃ : Shared, s₃ = { s with heap := H₄ } → codeAny (model prog w) A (.compLoop (.ListComp elt [⟨.Tuple [.Name xa pa, .Name xb pb] kt pt, iter, [], 0⟩] scope pos) 0 (.ref z) (.ref Dl) (cenvOf scope cl C env)) (compPost (model prog w) A E use Q (.ref Dl) C) s₃ := by
    rintro s₃ rfl
    refine codeAny_compLoop_own (fun k s' => ∃ i g₁ its ys m₁ oD h₁ tk, s' = { s with heap := h₁, toks := tk } ∧ k = vs1.length - i ∧ i ≤ vs1.length ∧ ZAt h₁ z TI TO i1 i2 l1 l2 i .none ∧ g.le g₁ ∧ its.map (·.1) = [z, TI, TO, i1, i2] ∧ J i g₁ ys ∧ ys.length = i ∧ IsL oD ys ∧
      (∀ v1 v2, up xb v2 (up xa v1 m₁) = up xb v2 (up xa v1 no)) ∧
      St b (cl.map (·.2) ++ mu.map (·.1)) g hb (cenvOf scope cl C env) g₁ m₁ mc ((Dl, oD) :: (its ++ mu)) h₁) ?_ vs1.length ?_
    · rintro k s' ⟨i, g₁, its, ys, m₁, oD, h₁, tk, rfl, rfl, hi, w1, le1, ha1, j1, hl1, isl, e1, H1⟩
      have hlist1 : h₁.IsList l1 vs1.toArray := L1.at_ (H1.on _ _ (le1 _ _ g1))
      have hlist2 : h₁.IsList l2 vs2.toArray := L2.at_ (H1.on _ _ (le1 _ _ g2))
      obtain ⟨wz, wTI, ⟨oa, ob, wTO⟩, wi1, wi2⟩ := w1
      have inIts : ∀ x, x ∈ [z, TI, TO, i1, i2] → x ∈ its.map (·.1) := fun x hx => ha1 ▸ hx
      have gD : g₁ Dl = none := (H1.own Dl (owns_mu (p := (Dl, oD)) (.head _))).1
      have gI : ∀ x ∈ [z, TI, TO, i1, i2], g₁ x = none := fun x hx => (H1.own x (.tail _ (List.mem_append_right _ (by rw [List.map_cons, List.map_append]; exact .tail _ (List.mem_append_left _ (inIts x hx)))))).1
      have nDI : Dl ∉ [z, TI, TO, i1, i2] := fun q => by
        have nd := H1.nd
        unfold owns at nd
        rw [List.map_cons, List.map_append] at nd
        exact (List.nodup_cons.mp (List.nodup_append.mp (List.nodup_cons.mp nd).2).2.1).1 (List.mem_append_left _ (inIts _ q))
      by_cases hlt : i < vs1.length
      · obtain ⟨v1, hv1⟩ : ∃ v1, vs1[i]? = some v1 := ⟨_, List.getElem?_eq_getElem hlt⟩
        obtain ⟨v2, hv2⟩ : ∃ v2, vs2[i]? = some v2 := ⟨_, List.getElem?_eq_getElem (hl ▸ hlt)⟩
        refine wpAny_pyNext_zip_item D wz wTI wTO wi1 wi2 hlist1 hlist2 (by simpa using hv1) (by simpa using hv2) fun h₂ z2 TO2 i12 i22 T2 sz2 kp2 => ?_
        have TI2 : IsPair h₂ TI (.ref i1) (.ref i2) := kp2 _ _ D.TIz D.TITO D.TIi1 D.TIi2 wTI
        refine wpAny_letOwnedTupleGo_zip z2 fun h₃ z3 hs3 => ?_
        have w3 : ZAt h₃ z TI TO i1 i2 l1 l2 (i + 1) .none :=
          ⟨z3, hs3.extBut _ _ D.TIz TI2, ⟨_, _, hs3.extBut _ _ D.TOz TO2⟩, (let ⟨o, e, r⟩ := i12; ⟨o, hs3.extBut _ _ D.i1z e, r⟩), (let ⟨o, e, r⟩ := i22; ⟨o, hs3.extBut _ _ D.i2z e, r⟩)⟩
        obtain ⟨its3, hits3, its3m⟩ := its_of (h := h₃) [z, TI, TO, i1, i2] w3.live
        have keep3 : ∀ a o, a ∉ [z, TI, TO, i1, i2] → h₁.get? a = some o → h₃.get? a = some o := fun a o n e => by
          simp only [List.mem_cons, List.not_mem_nil, or_false, not_or] at n
          exact hs3.extBut _ _ n.1 (kp2 a o n.1 n.2.2.1 n.2.2.2.1 n.2.2.2.2 e)
        have H3 : St b (cl.map (·.2) ++ mu.map (·.1)) g hb (cenvOf scope cl C env) g₁ m₁ mc ((Dl, oD) :: (its3 ++ mu)) h₃ := by
          refine H1.callIts (pre := [(Dl, oD)]) (its' := its3) ⟨.refl _, fun _ _ e => .inl e, fun a o n e => keep3 a o (by rw [← ha1]; exact n) e, fun a o e => ?_, fun a o e => keep3 a o (fun q => by rw [gI a q] at e; cases e) (H1.on _ _ e)⟩ (by rw [hits3, ha1]) its3m
          by_cases q : a ∈ [z, TI, TO, i1, i2]
          · exact w3.live a q
          · exact ⟨o, keep3 a o q e⟩
        have hT3 : h₃.get? h₁.objs.size = some { cls := .type "tuple", data := .seq #[v1, v2] } := hs3.extBut _ _ (fun q => by
          have : h₁.get? z = some _ := wz
          have := Heap.lt_size this
          rw [← q] at this; exact Nat.lt_irrefl _ this) T2
        refine wpAny_assign_Tuple hh (items := #[v1, v2]) ⟨_, hT3, rfl, 0, rfl⟩ rfl rfl fun h₄ x4 => ?_
        have H4 : St b (cl.map (·.2) ++ mu.map (·.1)) g hb (cenvOf scope cl C env) g₁ m₁ mc ((Dl, oD) :: (its3 ++ mu)) h₄ := H3.keeps fun a o e => x4 a o (fun q => by rw [q] at e; exact absurd (Heap.lt_size e) (Nat.lt_irrefl _)) e
        have w4 : ZAt h₄ z TI TO i1 i2 l1 l2 (i + 1) .none := w3.kept fun a _ o e => x4 a o (fun q => by rw [q] at e; exact absurd (Heap.lt_size e) (Nat.lt_irrefl _)) e
        refine wpAny_assignInOrder_more (wpAny_assign_Name (st_loc H4 (fun h₅ H5 => ?_) ok.kind ok.ta))
        refine wpAny_assignInOrder_more (wpAny_assign_Name (st_loc H5 (fun h₆ H6 => ?_) ok.kind ok.tb))
        refine wpAny_pure ?_
        rw [e1] at H6
        have w6 : ZAt h₆ z TI TO i1 i2 l1 l2 (i + 1) .none := w4.kept fun a ha o e => by
          have ha : a ∈ its3.map (·.1) := hits3 ▸ ha
          obtain ⟨q, hq, rfl⟩ := List.mem_map.mp ha
          have hm : q ∈ (Dl, oD) :: (its3 ++ mu) := .tail _ (List.mem_append_left _ hq)
          have e4 := H4.mus q hm
          rw [e] at e4; cases e4
          exact H6.mus q hm
        refine wpAny_mono (turn i v1 v2 C Dl oD (its3 ++ mu) g₁ ys h₆ _ _ hlt hv1 hv2 le1 j1 hl1 H6) (fun y s₄ zz => ?_) fun _ _ zz => zz
        obtain ⟨g₂, h₇, tk₇, rfl, le2, H7, j2⟩ := zz
        have w7 : ZAt h₇ z TI TO i1 i2 l1 l2 (i + 1) .none := w6.kept fun a ha o e => by
          have ha : a ∈ its3.map (·.1) := hits3 ▸ ha
          obtain ⟨q, hq, rfl⟩ := List.mem_map.mp ha
          have hm : q ∈ (Dl, oD) :: (its3 ++ mu) := .tail _ (List.mem_append_left _ hq)
          have e4 := H6.mus q hm
          rw [e] at e4; cases e4
          exact H7.mus q hm
        have hDl : h₇.get? Dl = some oD := H7.mus (Dl, oD) (.head _)
        refine wpAny_list_append_plain (isl.plain hDl) (fun h₈ hL8 hs8 => ?_) (by rw [List.size_toArray, hl1]; omega)
        obtain ⟨oD', hD8, isl8⟩ := plain_isl (ys := ys ++ [y]) hL8 (by simp)
        have H8 := H7.upd hD8 hs8.extBut
        exact ⟨vs1.length - (i + 1), Nat.sub_lt_sub_left hlt (Nat.lt_succ_self i), i + 1, g₂, its3, ys ++ [y], _, oD', h₈, tk₇, rfl, rfl, hlt, w7.kept fun a ha o e => hs8.extBut a o (fun q => nDI (q ▸ ha)) e, le1.trans le2, hits3, j2, by rw [List.length_append, hl1]; rfl, isl8, fun v1' v2' => (by
          funext y
          unfold up no
          by_cases q1 : y = xb
          · simp [q1]
          · by_cases q2 : y = xa
            · simp [q2]
            · simp [q1, q2]), H8⟩
      · have hin : i = vs1.length := Nat.le_antisymm hi (Nat.not_lt.mp hlt)
        subst hin
        refine wpAny_pyNext_zip_end hh D wz wTI wTO wi1 wi2 hlist1 hlist2 (.inl (by simp)) fun h₂ kp => ?_
        have H2 : St b (cl.map (·.2) ++ mu.map (·.1)) g hb (cenvOf scope cl C env) g₁ m₁ mc ((Dl, oD) :: mu) h₂ := by
          refine St.dropJunks (its := its) (H1.perm (List.perm_middle (l₁ := its)).symm) (fun q hq => fr _ (ha1 ▸ List.mem_map_of_mem hq)) fun x p n e => ?_
          rw [ha1] at n
          simp only [List.mem_cons, List.not_mem_nil, or_false, not_or] at n
          exact kp x p n.1 n.2.2.1 n.2.2.2.1 n.2.2.2.2 e
        have Ho := H.outer ok.caught H2 (fun q hq => cells_acc _ _ _ _ hq) (fun _ _ => rfl) rfl fun q hq => .tail _ hq
        have CO := (H2.own C owns_L)
        have DO := (H2.own Dl (owns_mu (p := (Dl, oD)) (.head _)))
        obtain ⟨oC, esC, epC, hC2, rC⟩ := H2.ns
        have hC2 : h₂.get? C = some oC := hC2
        have hD2 := H2.mus (Dl, oD) (.head _)
        have freshC : hb.get? C = none := none_of_ge hle
        have Ho1 := Ho.adopt hD2 (H.not_owned freshD) DO.1 (H.h0fresh freshD)
        have hCD : C ≠ Dl := H2.ne_of_mu _ owns_L
        have Ho2 := Ho1.adopt hC2 (fun q => by
          rcases owns_append (its := [(Dl, oD)]) q with q | q
          · exact hCD (List.mem_singleton.mp q)
          · exact H.not_owned freshC q) CO.1 (H.h0fresh freshC)
        exact fin g₁ ys C oC Dl oD m₁ h₂ tk le1 j1 hl1 isl ⟨oC, esC, epC, hC2, rC⟩ (H.h0fresh freshC) (H.h0fresh freshD) Ho2
    · exact ⟨0, g, its0, [], no, _, H₄, s.toks, rfl, rfl, Nat.zero_le _, za4, .refl g, hits, j0, rfl, ⟨rfl, 0, rfl, rfl⟩, fun _ _ => rfl, Hi2⟩
  exact codeAny_compStart_list (main _ rfl) (wpAny_pyIter_zip za4.1 (main _ rfl))

theorem as_lcz {elt iter : Expr} {xa xb y : Str} {pa pb pt py : Pos} {kt : Nat} {scope : Scope} {cl : List (Str × Addr)} {cn : List Str} {pos spos : Pos} {Q : Flow → Shared → Prop} (ok : CompZ env scope cl cn xa xb)
    (h : CompZ env scope cl cn xa xb → wpAny (model prog w) A (eval iter env) (LcGo prog w A E env scope cl (.ListComp elt [⟨.Tuple [.Name xa pa, .Name xb pb] kt pt, iter, [], 0⟩] scope pos) (some (assign (.Name y py) env)) (fun _ => Q .next)) E s)
    (hsw : swapsWith (.ListComp elt [⟨.Tuple [.Name xa pa, .Name xb pb] kt pt, iter, [], 0⟩] scope pos) (some (.Name y py)) spos.line env = pure true := by with_unfolding_all rfl) (hs : ∀ x, foldedSetIterable iter env x = pure x := by intro _; rfl) :
    wpAny (model prog w) A (exec (.Assign [.Name y py] (.ListComp elt [⟨.Tuple [.Name xa pa, .Name xb pb] kt pt, iter, [], 0⟩] scope pos) spos) env) Q E s := by
  rw [exec_Assign_Name_used _ _ _ _ hsw]
  refine wpAny_bind (wpAny_standAt (wpAny_bind ?_))
  show wpAny _ A (do let _ ← comprehension (.ListComp elt [⟨.Tuple [.Name xa pa, .Name xb pb] kt pt, iter, [], 0⟩] scope pos) scope env _ (newList []) false (eval iter env) (some (assign (.Name y py) env))) _ _ s
  exact wpAny_bind (wpAny_mono (wpAny_comprehension_free (use := some (assign (.Name y py) env)) (Q := fun _ s' => Q .next s') rfl hs ok.clos ok.kind ok.loc (h ok)) (fun _ s' hq => wpAny_pure (wpAny_pure hq)) fun _ _ e => e)

/-- zip called on two lists that stand for good, and its block run, stored into a name -/
theorem zip_runA {elt iter : Expr} {xa xb y : Str} {pa pb pt py : Pos} {kt : Nat} {scope : Scope} {cl : List (Str × Addr)} {cn : List Str} {pos : Pos} {l1 l2 : Addr} {vs1 vs2 : List Value} {Q : Value → Shared → Prop}
    (hh : A.handled = none) (ok : CompZ env scope cl cn xa xb) (H : St b S g0 h0 env g m mc mu s.heap)
    {o1 o2 : Obj} (g1 : g l1 = some o1) (g2 : g l2 = some o2) (L1 : IsL o1 vs1) (L2 : IsL o2 vs2) (hl : vs1.length = vs2.length) (hn : vs1.length ≤ sizeLine)
    (J : Nat → FM → List Value → Prop) (j0 : J 0 g [])
    (turn : ∀ s' i v1 v2 C Dl oD mu' g₁ ys h₁ tk E', i < vs1.length → vs1[i]? = some v1 → vs2[i]? = some v2 → g.le g₁ → J i g₁ ys → ys.length = i →
      St b (cl.map (·.2) ++ mu.map (·.1)) g s.heap (cenvOf scope cl C env) g₁ (up xb v2 (up xa v1 no)) mc ((Dl, oD) :: mu') h₁ →
      wpAny (model prog w) A (eval elt (cenvOf scope cl C env)) (ZipEnd b (cl.map (·.2) ++ mu.map (·.1)) g s.heap (cenvOf scope cl C env) (up xb v2 (up xa v1 no)) mc s' g₁ (Dl, oD) mu' fun y g₂ => J (i + 1) g₂ (ys ++ [y])) E' { s' with heap := h₁, toks := tk })
    (done : ∀ g₁ ys D oD h₁ tk, g.le g₁ → J vs1.length g₁ ys → ys.length = vs1.length → IsL oD ys → h0.get? D = none → St b S g0 h0 env g₁ (up y (.ref D) m) mc ((D, oD) :: mu) h₁ → Q .none { s with heap := h₁, toks := tk })
    (hk : env.scope.kind = .function := by with_unfolding_all rfl) (hl' : env.kindOf y = some .local := by with_unfolding_all rfl) :
    wpAny (model prog w) A (call (.type "zip") [.ref l1, .ref l2]) (LcGo prog w A E env scope cl (.ListComp elt [⟨.Tuple [.Name xa pa, .Name xb pb] kt pt, iter, [], 0⟩] scope pos) (some (assign (.Name y py) env)) Q) E s := by
  have b1 : @LT.lt Nat _ l1 s.heap.objs.size := Heap.lt_size (H.on _ _ g1)
  have b2 : @LT.lt Nat _ l2 s.heap.objs.size := Heap.lt_size (H.on _ _ g2)
  refine call_zip_2 (L1.at_ (H.on _ _ g1)) (L2.at_ (H.on _ _ g2)) fun h' az aTI aTO ai1 ai2 sz kp => ?_
  refine comp_zip (s := { s with heap := h' }) hh ok H kp (by show s.heap.objs.size ≤ h'.objs.size; rw [sz]; exact Nat.le_add_right _ _) (zipApart_new b1 b2) ⟨az, aTI, ⟨_, _, aTO⟩, ai1, ai2⟩ (fun a ha => ?_) g1 g2 L1 L2 hl hn J j0 (turn _) ?_
  · simp only [List.mem_cons, List.not_mem_nil, or_false] at ha
    rcases ha with rfl | rfl | rfl | rfl | rfl <;> exact none_of_ge (by first | exact Nat.le_refl _ | exact Nat.le_add_right _ _)
  · intro g₁ ys C oC Dl oD mC h₁ tk le j hl'' isl nsC fC fD H1
    obtain ⟨oC', es, ep, hC, rC⟩ := nsC
    have hC0 : h₁.get? C = some oC := H1.mus (C, oC) (.head _)
    rw [hC0] at hC; cases hC
    refine wpAny_assign_Name (st_loc (s := { s with heap := h₁, toks := tk }) H1 (fun h₂ H2 => ?_) hk hl')
    exact ⟨mC, ⟨oC, es, ep, H2.mus (C, oC) (.head _), rC⟩, fun h' hs => done g₁ ys Dl oD h' (tk + 1) le j hl'' isl fD (H2.dropJunk fC fun a o na e => hs.extBut a o na e)⟩
end
end Mine
namespace Mine

/-- an object made and filled: nothing of the old is turned -/
theorem Ev.made {g g2 : FM} {h h1 h2 : Heap} {x dx : Addr} {o od od2 : Obj} (on : g.on h) (fx : h.get? x = none) (fd : h.get? dx = none) (ne : x ≠ dx) (k1 : ∀ a p, h.get? a = some p → h1.get? a = some p)
    (hd1 : h1.get? dx = some od) (e : Ev [dx] (g.put x o) h1 g2 h2) (hd : h2.get? dx = some od2) : Ev [] g h (g2.put dx od2) h2 ∧ g2.le (g2.put dx od2) := by
  have gx : g x = none := by
    cases q : g x with
    | none => rfl
    | some o' => rw [on _ _ q] at fx; cases fx
  have gd : g dx = none := by
    cases q : g dx with
    | none => rfl
    | some o' => rw [on _ _ q] at fd; cases fd
  have g2d : g2 dx = none := by
    cases q : g2 dx with
    | none => rfl
    | some o' =>
      rcases e.new _ _ q with q | q
      · unfold FM.put at q; rw [if_neg ne.symm, gd] at q; cases q
      · rw [hd1] at q; cases q
  have le := FM.put_le (o := od2) g2d
  refine ⟨⟨((FM.put_le gx).trans e.gg).trans le, fun a p q => ?_, fun a p _ q => e.keep a p (fun r => by rw [List.mem_singleton.mp r] at q; rw [fd] at q; cases q) (k1 a p q), fun a p q => ⟨p, e.keep a p (fun r => by rw [List.mem_singleton.mp r] at q; rw [fd] at q; cases q) (k1 a p q)⟩, fun a p q => ?_⟩, le⟩
  · unfold FM.put at q
    by_cases r : a = dx
    · subst r; exact .inr fd
    · rw [if_neg r] at q
      rcases e.new a p q with q | q
      · unfold FM.put at q
        by_cases r' : a = x
        · subst r'; exact .inr fx
        · rw [if_neg r'] at q; exact .inl q
      · refine .inr ?_
        cases z : h.get? a with
        | none => rfl
        | some o' => rw [k1 _ _ z] at q; cases q
  · unfold FM.put at q
    by_cases r : a = dx
    · subst r; rw [if_pos rfl] at q; exact hd.trans q
    · rw [if_neg r] at q; exact e.on a p q

theorem Bg.put {b : Heap} {g : FM} {h h1 : Heap} {x : Addr} {o : Obj} (B : Bg b g h) (fx : h.get? x = none) (hx : h1.get? x = some o) (k1 : ∀ a p, h.get? a = some p → h1.get? a = some p) (sz : h.objs.size ≤ h1.objs.size) : Bg b (g.put x o) h1 := by
  have gx : g x = none := by
    cases q : g x with
    | none => rfl
    | some o' => rw [B.on _ _ q] at fx; cases fx
  refine ⟨fun a p e => FM.put_le gx _ _ (B.bg a p e), Nat.le_trans B.lo sz, fun a p q => ?_⟩
  unfold FM.put at q
  by_cases r : a = x
  · subst r; rw [if_pos rfl] at q; exact hx.trans q
  · rw [if_neg r] at q; exact k1 _ _ (B.on _ _ q)

section
variable {M : Model} {prog : Program} {w : World} {env : Env} {A : Around} {s : Shared} {E : Value → Shared → Prop}
theorem x_assignAttr {o attr pos' value pos} {Q : Flow → Shared → Prop}
    (h : wpAny M A (eval value env) (fun v s₁ => wpAny M A (eval o env) (fun ov s₂ => wpAny M A (setAttr ov attr v) (fun _ => Q .next) E s₂) E s₁) E s)
    (hs : swapsWith value (some (.Attribute o attr pos')) pos.line env = pure false := by with_unfolding_all rfl) : wpAny M A (exec (.Assign [.Attribute o attr pos'] value pos) env) Q E s := plainObj_wpAny_Assign_Attribute h hs
theorem x_assignTup {elts k tpos value pos} {Q : Flow → Shared → Prop}
    (h : wpAny M A (eval value env) (fun v s₁ => wpAny M A (assign (.Tuple elts k tpos) env v) (fun _ => Q .next) E s₁) E s)
    (hs : swapsWithSole [.Tuple elts k tpos] value pos.line env = pure false := by with_unfolding_all rfl)
    (hw : swappedStores [.Tuple elts k tpos] value env = pure none := by with_unfolding_all rfl) :
    wpAny M A (exec (.Assign [.Tuple elts k tpos] value pos) env) Q E s := Assign_Tuple h hs hw
theorem x_assignSwap {elts k tpos value pos} {names : List Str} {Q : Flow → Shared → Prop} (hw : swappedStores [.Tuple elts k tpos] value env = pure (some names))
    (h : wpAny M A (eval value env) (fun v s₁ => wpAny M A (unpackItems v names.length none) (fun items s₂ =>
      wpAny M A (assignInOrder (names.reverse.map fun n => bindName env n) items.reverse) (fun _ => Q .next) E s₂) E s₁) E s)
    (hs : swapsWithSole [.Tuple elts k tpos] value pos.line env = pure false := by with_unfolding_all rfl) :
    wpAny M A (exec (.Assign [.Tuple elts k tpos] value pos) env) Q E s := Assign_Tuple_swapped h hs hw
theorem x_isTrue {e : Expr} {whole : Sem Value} {Q : Bool → Shared → Prop} (h : wpAny M A whole (fun v s₁ => wpAny M A (truthy v) Q E s₁) E s)
    (he : isTrue e env whole = (do let v ← whole; standAt e.pos; holding [v] (truthy v)) := by with_unfolding_all rfl) : wpAny M A (isTrue e env whole) Q E s := wpAny_isTrue_value h he
theorem if_t {P P' : Prop} (h : P) : (if true = true then P else P') := by rw [if_pos rfl]; exact h
theorem if_f {P P' : Prop} (h : P') : (if false = true then P else P') := by rw [if_neg Bool.false_ne_true]; exact h
theorem if_nt {P P' : Prop} (h : P') : (if (!true) = true then P else P') := by rw [if_neg (by decide)]; exact h
theorem if_nf {P P' : Prop} (h : P) : (if (!false) = true then P else P') := h
theorem x_list {elts : List Expr} {pos : Pos} {Q : Value → Shared → Prop}
    (h : wpAny M A (spliced (backTo pos (starEach elts env))) (fun vs s₁ => vs.length ≤ sizeLine ∧ ∀ a h', a = s₁.heap.objs.size → h' = s₁.heap.push (lst vs) → Q (.ref a) { s₁ with heap := h' }) E s) : wpAny M A (eval (.List elts pos) env) Q E s :=
  wpAny_List (wpAny_mono h (fun vs s₁ z => ⟨z.1, z.2 _ _ rfl rfl⟩) fun _ _ z => z)
theorem x_tuple {elts : List Expr} {k : Nat} {pos : Pos} {Q : Value → Shared → Prop}
    (h : wpAny M A (spliced (backTo pos (starEach elts env))) (fun vs s₁ => vs.length ≤ sizeLine ∧ ∀ a h', a = s₁.heap.objs.size → h' = s₁.heap.push { cls := .type "tuple", data := .seq vs.toArray } → Q (.ref a) { s₁ with heap := h' }) E s) : wpAny M A (eval (.Tuple elts k pos) env) Q E s :=
  wpAny_Tuple (wpAny_mono h (fun vs s₁ z => ⟨z.1, z.2 _ _ rfl rfl⟩) fun _ _ z => z)
theorem x_for {target iter body orelse pos} {Q : Flow → Shared → Prop}
    (h : wpAny M A (eval iter env) (fun x s₁ => wpAny M A (pyIter x) (fun it s₂ =>
      codeAny M A (.forLoop target it body orelse env) (fun r s' => match r with | .ok f => Q f s' | .error e => cameBackBy M A env E e s') s₂) E s₁) E s)
    (hs : ∀ x, foldedSetIterable iter env x = pure x := by intro _; with_unfolding_all rfl) :
    wpAny M A (exec (.For target iter body orelse pos) env) Q E s := wpAny_For h hs
theorem x_augSub {o i value : Expr} {tpos pos : Pos} {op : Operator} {Q : Flow → Shared → Prop}
    (h : wpAny M A (eval o env) (fun ov s₁ => wpAny M A (eval i env) (fun iv s₂ => wpAny M A (getItem ov iv) (fun old s₃ =>
          wpAny M A (eval value env) (fun v s₄ => wpAny M A (inplaceOp op old v) (fun new s₅ =>
            wpAny M A (setItem ov iv new) (fun _ => Q .next) E s₅) E s₄) E s₃) E s₂) E s₁) E s)
    (hi : ∀ ov iv new, augStore i ov iv new = (do holding [new, ov, iv] (setItem ov iv new); release [new, ov, iv] []; pure .next) := by intros; with_unfolding_all rfl) :
    wpAny M A (exec (.AugAssign (.Subscript o i tpos) op value pos) env) Q E s := wpAny_AugAssign_SubscriptAny h hi
theorem x_order {t : Value → Sem Unit} {ts : List (Value → Sem Unit)} {x : Value} {xs : List Value} {Q : Unit → Shared → Prop}
    (h : wpAny M A (t x) (fun _ s₁ => wpAny M A (assignInOrder ts xs) Q E s₁) E s) : wpAny M A (assignInOrder (t :: ts) (x :: xs)) Q E s := wpAny_assignInOrder_more h
theorem x_order0 {Q : Unit → Shared → Prop} (h : Q () s) : wpAny M A (assignInOrder [] []) Q E s := wpAny_pure h
end
section
variable {prog : Program} {w : World} {b : Heap} {S : List Addr} {g0 : FM} {h0 : Heap} {env : Env} {g : FM} {m mc : Str → Option Value} {mu : List (Addr × Obj)} {A : Around} {s : Shared} {E : Value → Shared → Prop}
theorem St.mkL {vs : List Value} {a : Addr} {h h' : Heap} (H : St b S g0 h0 env g m mc mu h) (ea : a = h.objs.size) (eh : h' = h.push (lst vs)) : h0.get? a = none ∧ St b S g0 h0 env g m mc ((a, lst vs) :: mu) h' := by
  subst ea; subst eh
  have f := none_of_ge (h := h) (Nat.le_refl _)
  exact ⟨H.h0fresh f, H.alloc f (Heap.get?_push_size _ rfl) fun _ _ e => Heap.get?_push_of_some _ e⟩
theorem St.mkT {vs : List Value} {a : Addr} {h h' : Heap} (H : St b S g0 h0 env g m mc mu h) (ea : a = h.objs.size) (eh : h' = h.push { cls := .type "tuple", data := .seq vs.toArray }) :
    ∃ g', g.le g' ∧ IsTup h' a vs.toArray ∧ (∃ o, g' a = some o ∧ o.cls = .type "tuple" ∧ ∃ k, o.data = .seq vs.toArray k) ∧ St b S g0 h0 env g' m mc mu h' := by
  subst ea; subst eh
  have f := none_of_ge (h := h) (Nat.le_refl _)
  have e := Heap.get?_push_size h (o := { cls := .type "tuple", data := .seq vs.toArray }) rfl
  have K := H.allocG f e fun _ _ e => Heap.get?_push_of_some _ e
  exact ⟨_, K.2, ⟨_, e, rfl, 0, rfl⟩, ⟨_, FM.put_self .., rfl, 0, rfl⟩, K.1⟩
theorem tup_assign {elts : List Expr} {x1} {pos : Pos} {t : Addr} {items : Array Value} {Q : Unit → Shared → Prop} (hh : A.handled = none) (H : St b S g0 h0 env g m mc mu s.heap) (ht : IsTup s.heap t items)
    (h : ∀ h', St b S g0 h0 env g m mc mu h' → wpAny (model prog w) A (assignInOrder ((assignEach elts env).map (·.2)) items.toList) Q E { s with heap := h' })
    (hn : (assignEach elts env).length = items.size := by with_unfolding_all rfl) (hstar : (assignEach elts env).findIdx? (·.1) = none := by with_unfolding_all rfl) :
    wpAny (model prog w) A (assign (.Tuple elts x1 pos) env (.ref t)) Q E s :=
  wpAny_assign_Tuple hh ht hn hstar fun h' x => h h' (H.keeps fun a o e => x a o (fun q => by rw [q] at e; exact absurd (Heap.lt_size e) (Nat.lt_irrefl _)) e)
theorem tup_unpack {t : Addr} {items : Array Value} {n : Nat} {Q : List Value → Shared → Prop} (hh : A.handled = none) (H : St b S g0 h0 env g m mc mu s.heap) (ht : IsTup s.heap t items) (hn : n = items.size)
    (h : ∀ h', St b S g0 h0 env g m mc mu h' → Q items.toList { s with heap := h' }) : wpAny (model prog w) A (unpackItems (.ref t) n none) Q E s := by
  subst hn
  exact unpackItems_tuple hh ht fun h' x => h h' (H.keeps fun a o e => x a o (fun q => by rw [q] at e; exact absurd (Heap.lt_size e) (Nat.lt_irrefl _)) e)
theorem imul_ok {a c : Int} {t u : Tok} {Q : Value → Shared → Prop} (hm : IntMulOk a c) (h : Q (.int (a * c) s.toks) { s with toks := s.toks + 1 }) : wpAny (model prog w) A (binaryOp .Mult (.int a t) (.int c u)) Q E s :=
  PyProof.Rows.mul_int h hm
theorem get_mu {l : Addr} {o : Obj} {vs : List Value} {k : Int} {t : Tok} {v : Value} {Q : Value → Shared → Prop} (H : St b S g0 h0 env g m mc mu s.heap) (hm : (l, o) ∈ mu) (isl : IsL o vs) (h0 : 0 ≤ k) (hk : k < 2 ^ 63) (hx : vs[k.toNat]? = some v) (h : Q v s) :
    wpAny (model prog w) A (getItem (.ref l) (.int k t)) Q E s := wpAny_getItem_list (isl.at_ (H.mus _ hm)) h0 hk (by simpa using hx) h
/-- a list of ints that stands for good, read at a place -/
theorem sub_il {value slice : Expr} {l : Addr} {ns : List Int} {k : Int} {t : Tok} {x : Int} {Q : Value → Shared → Prop} (H : St b S g0 h0 env g m mc mu s.heap) (I : IntL g l ns) (h0 : 0 ≤ k) (hk : k < 2 ^ 63) (hx : ns[k.toNat]? = some x) (h : ∀ u, Q (.int x u) s)
    (hs : subscripted slice false (.ref l) (.int k t) = operate [.ref l, .int k t] (getItem (.ref l) (.int k t)) := by with_unfolding_all rfl) :
    wpAny (model prog w) A (subscriptTail value slice (.ref l) (.int k t)) Q E s := by
  obtain ⟨vs, hl, hi⟩ := (I.mono H.on).list (.refl _)
  obtain ⟨u, hu⟩ := hi.get k.toNat x hx
  exact sub_list hl h0 hk hu (h u) hs
theorem len_il {l : Addr} {ns : List Int} {Q : Value → Shared → Prop} (H : St b S g0 h0 env g m mc mu s.heap) (I : IntL g l ns) (hsz : ns.length ≤ 16777216) (h : Q (.int ns.length (s.toks + 1)) { s with toks := s.toks + 1 + 1 }) :
    wpAny (model prog w) A (call (.builtin "len") [.ref l]) Q E s := by
  obtain ⟨vs, hl, hi⟩ := (I.mono H.on).list (.refl _)
  have := hi.length
  exact len_list hl (by omega) (by rw [this]; exact h)
end
end Mine
namespace Mine
/-- a finite sum -/
def sm : Nat → (Nat → Int) → Int
  | 0, _ => 0
  | n + 1, f => sm n f + f n
theorem sm_succ (n : Nat) (f : Nat → Int) : sm (n + 1) f = sm n f + f n := rfl
theorem sm_congr {n : Nat} {f g : Nat → Int} (h : ∀ i, i < n → f i = g i) : sm n f = sm n g := by
  induction n with
  | zero => rfl
  | succ n ih => rw [sm_succ, sm_succ, ih fun i hi => h i (Nat.lt_succ_of_lt hi), h n (Nat.lt_succ_self n)]
theorem sm_zero (n : Nat) : sm n (fun _ => 0) = 0 := by
  induction n with
  | zero => rfl
  | succ n ih => rw [sm_succ, ih]; rfl
theorem sm_zero' {n : Nat} {f : Nat → Int} (h : ∀ i, i < n → f i = 0) : sm n f = 0 := by rw [sm_congr h, sm_zero]
theorem sm_add (n : Nat) (f g : Nat → Int) : sm n (fun i => f i + g i) = sm n f + sm n g := by
  induction n with
  | zero => rfl
  | succ n ih => rw [sm_succ, sm_succ, sm_succ, ih]; omega
theorem sm_sub (n : Nat) (f g : Nat → Int) : sm n (fun i => f i - g i) = sm n f - sm n g := by
  induction n with
  | zero => rfl
  | succ n ih => rw [sm_succ, sm_succ, sm_succ, ih]; omega
theorem sm_swap (n k : Nat) (f : Nat → Nat → Int) : sm n (fun i => sm k (fun j => f i j)) = sm k (fun j => sm n (fun i => f i j)) := by
  induction n with
  | zero => exact (sm_zero k).symm
  | succ n ih => rw [sm_succ, ih, ← sm_add]; rfl
/-- X^i X^j at the place k, X^n being -1 -/
def cf (n i j k : Nat) : Int := if i + j = k then 1 else if i + j = k + n then -1 else 0
/-- the product of two rows, X^n being -1 -/
def nc (n : Nat) (a b : Nat → Int) (k : Nat) : Int := sm n fun i => sm n fun j => cf n i j k * (a i * b j)

theorem cf_comm (n i j k : Nat) : cf n i j k = cf n j i k := by unfold cf; rw [Nat.add_comm]
theorem nc_comm (n : Nat) (a b : Nat → Int) (k : Nat) : nc n a b k = nc n b a k := by
  unfold nc
  rw [sm_swap]
  exact sm_congr fun i _ => sm_congr fun j _ => by rw [cf_comm, Int.mul_comm (a j)]
-- modulo q
-- rows
def lf (n : Nat) (f : Nat → Int) : List Int := (List.range n).map f
theorem lf_length (n : Nat) (f : Nat → Int) : (lf n f).length = n := by unfold lf; simp
theorem lf_get {n i : Nat} (f : Nat → Int) (h : i < n) : (lf n f)[i]? = some (f i) := by unfold lf; simp [h]
theorem lf_none {n i : Nat} (f : Nat → Int) (h : n ≤ i) : (lf n f)[i]? = none := by unfold lf; simp [h]
theorem lf_ext {n : Nat} {f g : Nat → Int} (h : ∀ i, i < n → f i = g i) : lf n f = lf n g := by
  unfold lf; exact List.map_congr_left fun i hi => h i (List.mem_range.mp hi)
theorem lf_of {n : Nat} {cs : List Int} (h : cs.length = n) : cs = lf n fun i => cs.getD i 0 := by
  refine List.ext_getElem? fun i => ?_
  by_cases q : i < n
  · rw [lf_get _ q]; simp [List.getD, h ▸ q]
  · rw [lf_none _ (by omega)]; exact List.getElem?_eq_none (by omega)
theorem lf_set (n i : Nat) (f : Nat → Int) (x : Int) : (lf n f).set i x = lf n fun k => if i = k then x else f k := by
  refine List.ext_getElem? fun k => ?_
  by_cases q : k < n
  · rw [lf_get _ q, List.getElem?_set]
    by_cases r : i = k
    · rw [if_pos r, if_pos r, if_pos (by rw [lf_length]; omega)]
    · rw [if_neg r, if_neg r, lf_get _ q]
  · rw [lf_none _ (by omega)]; exact List.getElem?_eq_none (by rw [List.length_set, lf_length]; omega)
theorem lf_succ (n : Nat) (f : Nat → Int) : lf (n + 1) f = lf n f ++ [f n] := by unfold lf; rw [List.range_succ, List.map_append]; rfl
theorem lf_rep (n : Nat) (x : Int) : List.replicate n x = lf n fun _ => x := by
  refine List.ext_getElem? fun k => ?_
  by_cases q : k < n
  · rw [lf_get _ q]; simp [q]
  · rw [lf_none _ (by omega)]; simp; omega
end Mine
namespace Mine
theorem sm_split (m k : Nat) (f : Nat → Int) : sm (m + k) f = sm m f + sm k fun u => f (m + u) := by
  induction k with
  | zero => show sm m f = sm m f + 0; omega
  | succ k ih => rw [← Nat.add_assoc, sm_succ, sm_succ, ih]; omega
theorem sm_trunc {m n : Nat} {f : Nat → Int} (h : m ≤ n) (z : ∀ j, m ≤ j → j < n → f j = 0) : sm n f = sm m f := by
  obtain ⟨k, rfl⟩ := Nat.exists_eq_add_of_le h
  rw [sm_split, sm_zero' (n := k) fun i hi => z _ (Nat.le_add_right _ _) (by omega)]; omega

/-- the two runs of the schoolbook product, i rows in, j places in -/
def sA (n : Nat) (a b : Nat → Int) (i k : Nat) : Int := sm i fun i' => sm (n - i') fun j => if i' + j = k then a i' * b j else 0
def sB (n : Nat) (a b : Nat → Int) (t k : Nat) : Int := sm t fun t' => sm (t' + 1) fun u => if u = k then a (n - (1 + t') + u) * b (1 + t') else 0

theorem school_eq {n k : Nat} (a b : Nat → Int) (hk : k < n) : sA n a b n k - sB n a b (n - 1) k = nc n a b k := by
  have e : nc n a b k = (sm n fun i => sm n fun j => if i + j = k then a i * b j else 0) - (sm n fun j => sm n fun i => if i + j = k + n then a i * b j else 0) := by
    rw [sm_swap n n fun j i => if i + j = k + n then a i * b j else 0, ← sm_sub]
    refine sm_congr fun i hi => ?_
    rw [← sm_sub]
    refine sm_congr fun j hj => ?_
    unfold cf
    by_cases q : i + j = k
    · rw [if_pos q, if_pos q, if_neg (by omega)]; omega
    · rw [if_neg q, if_neg q]
      by_cases q' : i + j = k + n
      · rw [if_pos q', if_pos q']; omega
      · rw [if_neg q', if_neg q']; omega
  rw [e]
  have e1 : sA n a b n k = sm n fun i => sm n fun j => if i + j = k then a i * b j else 0 :=
    sm_congr fun i hi => (sm_trunc (Nat.sub_le _ _) fun j hj hj' => if_neg fun (z : i + j = k) => Nat.lt_irrefl k (Nat.lt_of_lt_of_le hk (z ▸ Nat.sub_le_iff_le_add'.mp hj))).symm
  have e2 : sB n a b (n - 1) k = sm n fun j => sm n fun i => if i + j = k + n then a i * b j else 0 := by
    obtain ⟨r, rfl⟩ : ∃ r, n = 1 + r := ⟨n - 1, (Nat.add_sub_of_le (Nat.succ_le_of_lt (Nat.lt_of_le_of_lt (Nat.zero_le k) hk))).symm⟩
    rw [sm_split 1 r]
    have z : (sm 1 fun j => sm (1 + r) fun i => if i + j = k + (1 + r) then a i * b j else 0) = 0 := by
      refine sm_zero' fun j hj => sm_zero' fun i hi => if_neg ?_
      obtain rfl : j = 0 := Nat.lt_one_iff.mp hj
      exact Nat.ne_of_lt (Nat.lt_of_lt_of_le hi (Nat.le_add_left (1 + r) k))
    rw [z, Nat.add_sub_cancel_left]
    unfold sB
    rw [Int.zero_add]
    refine sm_congr fun t ht => ?_
    have sp := sm_split (1 + r - (1 + t)) (t + 1) (fun i => if i + (1 + t) = k + (1 + r) then a i * b (1 + t) else 0)
    have hM : 1 + r - (1 + t) + (1 + t) = 1 + r := Nat.sub_add_cancel (Nat.add_le_add_left (Nat.le_of_lt ht) 1)
    rw [Nat.add_comm t 1, hM] at sp
    rw [Nat.add_comm t 1, sp, sm_zero' (n := 1 + r - (1 + t)) fun i hi => if_neg (Nat.ne_of_lt (Nat.lt_of_lt_of_le (Nat.add_lt_of_lt_sub hi) (Nat.le_add_left (1 + r) k))), Int.zero_add]
    refine sm_congr fun u hu => ?_
    have key : 1 + r - (1 + t) + u + (1 + t) = u + (1 + r) := (Nat.add_right_comm _ u (1 + t)).trans (by rw [hM]; exact Nat.add_comm _ _)
    by_cases q : u = k
    · rw [if_pos q, if_pos (key.trans (by rw [q]))]
    · rw [if_neg q, if_neg fun z => q (Nat.add_right_cancel (key.symm.trans z))]
  rw [e1, e2]

/-- the run of the law's own product -/
def sP (n : Nat) (a b : Nat → Int) (i k : Nat) : Int := sm i fun j => sm n fun l => if j + l < n then (if j + l = k then a j * b l else 0) else if j + l - n = k then 0 - a j * b l else 0
theorem sP_eq {n k : Nat} (a b : Nat → Int) (hk : k < n) : sP n a b n k = nc n a b k := by
  refine sm_congr fun i hi => sm_congr fun j hj => ?_
  unfold cf
  by_cases h : i + j < n
  · rw [if_pos h]
    by_cases q : i + j = k
    · rw [if_pos q, if_pos q]; exact (Int.one_mul _).symm
    · rw [if_neg q, if_neg q, if_neg fun (z : i + j = k + n) => Nat.lt_irrefl _ (Nat.lt_of_le_of_lt (Nat.le_add_left n k) (z ▸ h))]; exact (Int.zero_mul _).symm
  · rw [if_neg h]
    have hl : n ≤ i + j := Nat.not_lt.mp h
    have hn : i + j ≠ k := fun z => Nat.lt_irrefl _ (Nat.lt_of_lt_of_le hk (z ▸ hl))
    by_cases q : i + j - n = k
    · rw [if_pos q, if_neg hn, if_pos ((Nat.sub_eq_iff_eq_add hl).mp q), Int.zero_sub]; exact (Int.neg_one_mul _).symm
    · rw [if_neg q, if_neg hn, if_neg fun z => q ((Nat.sub_eq_iff_eq_add hl).mpr z)]; exact (Int.zero_mul _).symm

end Mine
namespace Mine
end Mine
namespace Mine
theorem ints_ext {ys : List Value} {n : Nat} {f f' : Nat → Int} (h : IntsAre ys (lf n f)) (e : ∀ k, k < n → f k = f' k) : IntsAre ys (lf n f') := lf_ext e ▸ h
theorem ints_push {ys : List Value} {n : Nat} {f : Nat → Int} {x : Int} {t : Tok} (h : IntsAre ys (lf n f)) (e : x = f n) : IntsAre (ys ++ [.int x t]) (lf (n + 1) f) := by
  rw [lf_succ, ← e]; exact h.append (.cons _ _ .nil)
theorem ints_put {ys : List Value} {n i : Nat} {f f' : Nat → Int} {x : Int} {t : Tok} (h : IntsAre ys (lf n f)) (e : ∀ k, k < n → (if i = k then x else f k) = f' k) : IntsAre (ys.set i (.int x t)) (lf n f') := by
  have := ints_set h i x t
  rw [lf_set] at this
  exact ints_ext this e
theorem ints_at {ys : List Value} {n i : Nat} {f : Nat → Int} (h : IntsAre ys (lf n f)) (hi : i < n) : ∃ t, ys[i]? = some (.int (f i) t) := h.get i (f i) (lf_get f hi)
theorem ints_rep (n : Nat) (x : Int) (t : Tok) : IntsAre (List.replicate n (.int x t)) (lf n fun _ => x) := by
  rw [← lf_rep]
  induction n with
  | zero => exact .nil
  | succ n ih => exact .cons _ _ ih
theorem ints_len {ys : List Value} {n : Nat} {f : Nat → Int} (h : IntsAre ys (lf n f)) : ys.length = n := by rw [h.length, lf_length]
section
variable {prog : Program} {w : World} {b : Heap} {S : List Addr} {g0 : FM} {h0 : Heap} {env : Env} {g : FM} {m mc : Str → Option Value} {mu pre post : List (Addr × Obj)} {A : Around} {s : Shared} {E : Value → Shared → Prop}
/-- a row that is turned, read at a place; and written -/
theorem row_get {l : Addr} {o : Obj} {ys : List Value} {n i : Nat} {f : Nat → Int} {k : Int} {t : Tok} {Q : Value → Shared → Prop} (H : St b S g0 h0 env g m mc mu s.heap) (hm : (l, o) ∈ mu) (isl : IsL o ys) (hf : IntsAre ys (lf n f)) (hk : k = i) (hi : i < n) (hn : n ≤ 1000) (h : ∀ u, Q (.int (f i) u) s) :
    wpAny (model prog w) A (getItem (.ref l) (.int k t)) Q E s := by
  obtain ⟨u, hu⟩ := ints_at hf hi
  subst hk
  exact get_mu H hm isl (by omega) (by omega) hu (h u)
theorem row_sub {value slice : Expr} {l : Addr} {o : Obj} {ys : List Value} {n i : Nat} {f : Nat → Int} {k : Int} {t : Tok} {Q : Value → Shared → Prop} (H : St b S g0 h0 env g m mc mu s.heap) (hm : (l, o) ∈ mu) (isl : IsL o ys) (hf : IntsAre ys (lf n f)) (hk : k = i) (hi : i < n) (hn : n ≤ 1000) (h : ∀ u, Q (.int (f i) u) s)
    (hs : subscripted slice false (.ref l) (.int k t) = operate [.ref l, .int k t] (getItem (.ref l) (.int k t)) := by with_unfolding_all rfl) :
    wpAny (model prog w) A (subscriptTail value slice (.ref l) (.int k t)) Q E s := by
  obtain ⟨u, hu⟩ := ints_at hf hi
  subst hk
  exact sub_mu H hm isl (by omega) (by omega) hu (h u) hs
theorem row_set {a : Addr} {o : Obj} {ys : List Value} {n i : Nat} {f : Nat → Int} {k x : Int} {t u : Tok} {Q : Unit → Shared → Prop} (H : St b S g0 h0 env g m mc (pre ++ (a, o) :: post) s.heap) (isl : IsL o ys) (hf : IntsAre ys (lf n f)) (hk : k = i) (hi : i < n) (hn : n ≤ 1000)
    (h : ∀ h' o' ys', IsL o' ys' → (∀ f' : Nat → Int, (∀ k, k < n → (if i = k then x else f k) = f' k) → IntsAre ys' (lf n f')) → St b S g0 h0 env g m mc (pre ++ (a, o') :: post) h' → Q () { s with heap := h' }) : wpAny (model prog w) A (setItem (.ref a) (.int k t) (.int x u)) Q E s := by
  have hl := ints_len hf
  subst hk
  refine set_list H isl (by omega) (by omega) (by omega) fun h' o' isl' H' => ?_
  exact h h' o' _ isl' (fun f' e => by
    have := ints_put (i := i) (x := x) (t := u) hf e
    rwa [show ((i : Int)).toNat = i by omega]) H'
/-- a row that stands for good, read at a place -/
theorem row_il {value slice : Expr} {l : Addr} {n i : Nat} {f : Nat → Int} {k : Int} {t : Tok} {Q : Value → Shared → Prop} (H : St b S g0 h0 env g m mc mu s.heap) (I : IntL g l (lf n f)) (hk : k = i) (hi : i < n) (hn : n ≤ 1000) (h : ∀ u, Q (.int (f i) u) s)
    (hs : subscripted slice false (.ref l) (.int k t) = operate [.ref l, .int k t] (getItem (.ref l) (.int k t)) := by with_unfolding_all rfl) :
    wpAny (model prog w) A (subscriptTail value slice (.ref l) (.int k t)) Q E s := by
  subst hk
  exact sub_il H I (by omega) (by omega) (by rw [show ((i : Int)).toNat = i by omega]; exact lf_get f hi) h hs
theorem x_fn0 {K : Frag} {p : Program} {loose : List Str} {mean : ExcName → Option Value} {mg mb : Str → Option Value} {f : Value} {first : List Value} {pos : Pos} {Q : Value → Shared → Prop}
    (W : Wd K p loose mean mg mb b) (H : St b S g0 h0 env g m mc mu s.heap) (hk : keepIn K f = true) (h : wpAny (model prog w) A (call f (first ++ [])) Q E s) :
    wpAny (model prog w) A (callWith pos f first (backTo pos (starEach [] env)) []) Q E s := callWith_K0 (H.X W) hk h
theorem eq_il {l l' : Addr} {ns ms : List Int} {Q : Value → Shared → Prop} {n : Nat} (H : St b S g0 h0 env g m mc mu s.heap) (hA : Ao n A) (I : IntL g l ns) (J : IntL g l' ms) (h : Q (.bool (decide (ns = ms))) s) : wpAny (model prog w) A (compareOp .Eq (.ref l) (.ref l')) Q E s := by
  obtain ⟨vs, hl, hi⟩ := (I.mono H.on).list (.refl _)
  obtain ⟨us, hl', hi'⟩ := (J.mono H.on).list (.refl _)
  exact eq_intsK hl hi hl' hi' (by have := hA.un; unfold cLine; omega) h
/-- list(row), of a row that stands for good -/
theorem copy_il {l : Addr} {ns : List Int} {Q : Value → Shared → Prop} (H : St b S g0 h0 env g m mc mu s.heap) (I : IntL g l ns) (hz : ns.length ≤ 1000000)
    (h : ∀ l' g' h', g.le g' → IntL g' l' ns → St b S g0 h0 env g' m mc mu h' → Q (.ref l') { s with heap := h' }) : wpAny (model prog w) A (call (.type "list") [.ref l]) Q E s := by
  obtain ⟨vs, hl, hi⟩ := (I.mono H.on).list (.refl _)
  refine copy_list H hl (by rw [hi.length, sizeLine_eq]; omega) fun a o h' isl fa H' => ?_
  obtain ⟨H2, le⟩ := H'.freeze fa
  exact h a _ h' le (IntL.mk (FM.put_self ..) isl hi) H2
theorem tup_swap2 {x y : Str} {t : Addr} {u v : Value} {Q : Unit → Shared → Prop} (hh : A.handled = none) (H : St b S g0 h0 env g m mc mu s.heap) (ht : IsTup s.heap t [u, v].toArray)
    (h : ∀ h', St b S g0 h0 env g m mc mu h' → wpAny (model prog w) A (storeName env y v) (fun _ s₁ => wpAny (model prog w) A (storeName env x u) Q E s₁) E { s with heap := h' }) :
    wpAny (model prog w) A (unpackItems (.ref t) [x, y].length none) (fun items s₂ => wpAny (model prog w) A (assignInOrder ([x, y].reverse.map fun n => bindName env n) items.reverse) Q E s₂) E s :=
  tup_unpack hh H ht rfl fun h' H' => x_order (bindName_ (wpAny_mono (h h' H') (fun _ s₁ z => x_order (bindName_ (wpAny_mono z (fun _ _ z => x_order0 z) fun _ _ z => z))) fun _ _ z => z))
theorem tup_assign2 {x y : Str} {px py pos : Pos} {x1} {t : Addr} {u v : Value} {Q : Unit → Shared → Prop} (hh : A.handled = none) (H : St b S g0 h0 env g m mc mu s.heap) (ht : IsTup s.heap t [u, v].toArray)
    (h : ∀ h', St b S g0 h0 env g m mc mu h' → wpAny (model prog w) A (storeName env x u) (fun _ s₁ => wpAny (model prog w) A (storeName env y v) Q E s₁) E { s with heap := h' }) :
    wpAny (model prog w) A (assign (.Tuple [.Name x px, .Name y py] x1 pos) env (.ref t)) Q E s :=
  tup_assign hh H ht fun h' H' => x_order (wpAny_assign_Name (wpAny_mono (h h' H') (fun _ s₁ z => x_order (wpAny_assign_Name (wpAny_mono z (fun _ _ z => x_order0 z) fun _ _ z => z))) fun _ _ z => z))
theorem IntL.row {g : FM} {l : Addr} {ns : List Int} {n : Nat} {lo hi : Int} (I : IntL g l ns) (hl : ns.length = n) (hb : ∀ x ∈ ns, lo ≤ x ∧ x ≤ hi) : ∃ a, IntL g l (lf n a) ∧ ∀ i, i < n → lo ≤ a i ∧ a i ≤ hi := by
  refine ⟨_, lf_of hl ▸ I, fun i h => hb _ ?_⟩
  have : ns.getD i 0 = ns[i]'(by omega) := by simp [List.getD, hl ▸ h]
  rw [this]
  exact List.getElem_mem _
/-- the draws' state, made by a call -/
theorem St.draws {h' : Heap} {g' : FM} {mu' : List (Addr × Obj)} {h : Heap} (H : St b S g0 h0 env g m mc mu h) (ev : Ev [] g h g' h') (live : ∀ q ∈ mu', h'.get? q.1 = some q.2 ∧ h.get? q.1 = none ∧ g' q.1 = none) (nd : (mu'.map (·.1)).Nodup) : St b S g0 h0 env g' m mc (mu' ++ mu) h' :=
  St.adopts (H.call0 ev) (fun q hq => ⟨(live q hq).1, H.not_owned (live q hq).2.1, (live q hq).2.2, H.h0fresh (live q hq).2.1⟩) nd
theorem rng {n : Nat} (h : n ≤ 100000) : Builtin.Range.small 0 (n : Int) 1 = true := small_one (by decide) (by decide) (by omega) (by omega)
theorem rngN {n : Nat} (h : n ≤ 1000) : Builtin.Range.small 0 (n : Int) 1 = true := rng (Nat.le_trans h (by decide))
theorem lfl {n k : Nat} {f : Nat → Int} (h : n ≤ 1000) (hk : 1000 ≤ k := by decide) : (lf n f).length ≤ k := by rw [lf_length]; exact Nat.le_trans h hk
theorem nlo (n : Nat) : -(2 ^ 63) ≤ (n : Int) := Int.le_trans (by decide) (Int.natCast_nonneg n)
theorem nhi {n : Nat} (h : n ≤ 1000) : (n : Int) ≤ 16777216 := Int.ofNat_le.mpr (Nat.le_trans h (by decide))
theorem len_lt {a i n : Nat} (e : a = i) (h : i < n) (hn : n ≤ 1000) : a ≤ 1000 := e ▸ Nat.le_trans (Nat.le_of_lt h) hn
theorem rng2 {a c : Int} (h1 : 0 ≤ a) (h2 : a ≤ 1000) (h3 : 0 ≤ c) (h4 : c ≤ 1000) : Builtin.Range.small a c 1 = true := small_one (by omega) (by omega) (by omega) (by omega)
theorem nat0 (n : Nat) : (0 : Int) ≤ (n : Int) := Int.natCast_nonneg n
theorem to_nat0 (n : Nat) : ((n : Int) - 0).toNat = n := by omega
theorem szl {n : Nat} (h : n ≤ 1000) : n ≤ sizeLine := by rw [sizeLine_eq]; omega
theorem sz1 {n : Nat} (h : n.ble 10 = true) : n ≤ sizeLine := by rw [sizeLine_eq]; have := Nat.le_of_ble_eq_true h; omega
end
end Mine
namespace Mine
section
variable {prog : Program} {w : World} {b : Heap} {S : List Addr} {g0 : FM} {h0 : Heap} {env : Env} {g : FM} {m mc : Str → Option Value} {mu pre post : List (Addr × Obj)} {A : Around} {s : Shared} {E : Value → Shared → Prop}
theorem St.Xh {K : Frag} {p : Program} {loose : List Str} {mean : ExcName → Option Value} {mg mb : Str → Option Value} {h : Heap} (H : St b S g0 h0 env g m mc mu h) (W : Wd K p loose mean mg mb b) : K.In h := W.X.keeps H.base
theorem eq_same {l l' : Addr} {ns ms : List Int} {Q : Value → Shared → Prop} {n : Nat} (H : St b S g0 h0 env g m mc mu s.heap) (hA : Ao n A) (I : IntL g l ns) (J : IntL g l' ms) (e : ns = ms) (h : Q (.bool true) s) : wpAny (model prog w) A (compareOp .Eq (.ref l) (.ref l')) Q E s :=
  eq_il H hA I J (by rw [decide_eq_true e]; exact h)
/-- a turned object turns no more, its maker's word apart -/
theorem St.freeze' {a : Addr} {o : Obj} {h : Heap} (H : St b S g0 h0 env g m mc ((a, o) :: mu) h) (h0a : h0.get? a = none) : ∃ g', g.le g' ∧ g' a = some o ∧ St b S g0 h0 env g' m mc mu h :=
  ⟨_, (H.freeze h0a).2, FM.put_self .., (H.freeze h0a).1⟩
end
end Mine
namespace Mine
-- a generator's block: what stands, and what it turns
/-- the frozen part, and all that was made since h₁, but Z -/
def gh (g : FM) (h₁ : Heap) (Z : Addr) (h : Heap) : FM := fun a => match g a with
  | some o => some o
  | none => if (h₁.get? a).isNone && a != Z then h.get? a else none
section
variable {g : FM} {h₁ h h' : Heap} {Z : Addr}
theorem gh_le : g.le (gh g h₁ Z h) := fun a o e => by unfold gh; rw [e]
theorem gh_cases {a : Addr} {o : Obj} (e : gh g h₁ Z h a = some o) : g a = some o ∨ (g a = none ∧ h₁.get? a = none ∧ a ≠ Z ∧ h.get? a = some o) := by
  unfold gh at e
  cases q : g a with
  | some o' => rw [q] at e; exact .inl e
  | none =>
    rw [q] at e
    dsimp only at e
    split at e
    · rename_i c
      simp only [Bool.and_eq_true, Option.isNone_iff_eq_none, bne_iff_ne] at c
      exact .inr ⟨rfl, c.1, c.2, e⟩
    · cases e
theorem gh_new {a : Addr} {o : Obj} (hg : g a = none) (h1 : h₁.get? a = none) (hz : a ≠ Z) (e : h.get? a = some o) : gh g h₁ Z h a = some o := by
  unfold gh
  rw [hg]
  dsimp only
  rw [if_pos (by simp [h1, hz]), e]
theorem gh_on (on : g.on h) : (gh g h₁ Z h).on h := fun a o e => (gh_cases e).elim (fun e => on a o e) fun e => e.2.2.2
theorem gh_step {S : List Addr} {g₃ : FM} (on : g.on h) (lv : ∀ a o, h₁.get? a = some o → ∃ o', h.get? a = some o') (z : ∃ o, h.get? Z = some o) (e : Ev S (gh g h₁ Z h) h g₃ h') : g₃.le (gh g h₁ Z h') := fun a o q => by
  have q' := e.on a o q
  rcases e.new a o q with r | r
  · rcases gh_cases r with r | ⟨r1, r2, r3, _⟩
    · exact gh_le a o r
    · exact gh_new r1 r2 r3 q'
  · refine gh_new ?_ ?_ ?_ q'
    · cases s : g a with
      | none => rfl
      | some o' => rw [on a o' s] at r; cases r
    · cases s : h₁.get? a with
      | none => rfl
      | some o' => obtain ⟨o'', s'⟩ := lv a o' s; rw [r] at s'; cases s'
    · rintro rfl; obtain ⟨o', z⟩ := z; rw [r] at z; cases z
theorem gh_mono (k : ∀ a o, h₁.get? a = none → a ≠ Z → h.get? a = some o → h'.get? a = some o) : (gh g h₁ Z h).le (gh g h₁ Z h') := fun a o e => by
  rcases gh_cases e with r | ⟨r1, r2, r3, r4⟩
  · exact gh_le a o r
  · exact gh_new r1 r2 r3 (k a o r2 r3 r4)
end

section
variable {prog : Program} {w : World} {b : Heap} {S : List Addr} {g0 : FM} {h0 : Heap} {env : Env} {g : FM} {m mc : Str → Option Value} {mu : List (Addr × Obj)} {A : Around} {s : Shared} {E : Value → Shared → Prop}
theorem ev_free {x : Str} {pos : Pos} {c : Addr} {v : Value} {Q : Value → Shared → Prop} {M : Model} (H : St b S g0 h0 env g m mc mu s.heap) (hv : mc x = some v) (h : Q v s)
    (hk : env.scope.kind = .function := by with_unfolding_all rfl) (hl : env.kindOf x = some .free := by with_unfolding_all rfl) (hc : env.cells.lookup x = some c := by with_unfolding_all rfl) (hd : (x == ("__debug__" : Str)) = false := by decide) (hn : (x == ("__classdict__" : Str)) = false := by decide) :
    wpAny M A (eval (.Name x pos) env) Q E s := wpAny_Name (wpAny_loadName_free hk hl hc (hv ▸ H.cell x c (mem_of_lookup hc)) h hn) hd

/-- a generator's frame, as it stands between its turns -/
structure GI (h₁ : Heap) (C I Z : Addr) (cl : List (Str × Addr)) (mc : Str → Option Value) (Ws : Nat → Heap → Prop) (i : Nat) (h : Heap) : Prop where
  it : Ws i h
  ns : ∃ m, h.Ns C m
  cell : ∀ q ∈ cl, h.IsCell q.2 (mc q.1)
  keep : ∀ a o, a ∉ C :: I :: cl.map (·.2) → h₁.get? a = some o → h.get? a = some o
  z : ∃ o, h.get? Z = some o
theorem GI.live {h₁ h : Heap} {C I Z : Addr} {cl : List (Str × Addr)} {Ws : Nat → Heap → Prop} {i : Nat} (x : GI h₁ C I Z cl mc Ws i h) (lv : ∀ i h, Ws i h → ∃ o, h.get? I = some o) : ∀ a o, h₁.get? a = some o → ∃ o', h.get? a = some o' := fun a o e => by
  by_cases q : a ∈ C :: I :: cl.map (·.2)
  · rcases List.mem_cons.mp q with rfl | q
    · obtain ⟨_, o', _, _, e', _⟩ := x.ns; exact ⟨o', e'⟩
    · rcases List.mem_cons.mp q with rfl | q
      · exact lv _ _ x.it
      · obtain ⟨p, hp, rfl⟩ := List.mem_map.mp q
        obtain ⟨o', e', _⟩ := x.cell p hp; exact ⟨o', e'⟩
  · exact ⟨o, x.keep a o q e⟩

/-- what stays the same while a generator goes -/
structure GBase (b : Heap) (g : FM) (h₁ : Heap) (C I Z : Addr) (cl : List (Str × Addr)) (fp : List Addr) (Ws : Nat → Heap → Prop) : Prop where
  bg : ∀ a o, b.get? a = some o → g a = some o
  lo : b.objs.size ≤ C
  on : g.on h₁
  gC : g C = none
  gI : g I = none
  gc : ∀ q ∈ cl, g q.2 = none
  hC : ∃ o, h₁.get? C = some o
  hI : ∃ o, h₁.get? I = some o
  hc : ∀ q ∈ cl, ∃ o, h₁.get? q.2 = some o
  nd : (C :: I :: cl.map (·.2)).Nodup
  nn : (cl.map (·.1)).Nodup
  lv : ∀ i h, Ws i h → ∃ o, h.get? I = some o
  frz : ∀ a ∈ fp, a ≠ I → ∃ o, g a = some o

theorem GBase.onh {h₁ h : Heap} {C I Z : Addr} {cl : List (Str × Addr)} {fp : List Addr} {Ws : Nat → Heap → Prop} {i : Nat} (B : GBase b g h₁ C I Z cl fp Ws) (x : GI h₁ C I Z cl mc Ws i h) : g.on h := fun a o e => by
  refine x.keep a o (fun q => ?_) (B.on a o e)
  rcases List.mem_cons.mp q with rfl | q
  · rw [B.gC] at e; cases e
  · rcases List.mem_cons.mp q with rfl | q
    · rw [B.gI] at e; cases e
    · obtain ⟨p, hp, rfl⟩ := List.mem_map.mp q
      rw [B.gc p hp] at e; cases e

/-- the frame of a turn, once its target is stored -/
theorem GBase.st {h₁ h : Heap} {C I Z : Addr} {cl : List (Str × Addr)} {fp : List Addr} {Ws : Nat → Heap → Prop} {cenv : Env} (B : GBase b g h₁ C I Z cl fp Ws) (eL : cenv.locals = C) (eC : cenv.cells = cl) (on : g.on h) (hn : h.Ns C m) (hc : ∀ q ∈ cl, h.IsCell q.2 (mc q.1)) :
    St b (C :: cl.map (·.2)) (gh g h₁ Z h) h cenv (gh g h₁ Z h) m mc [] h := by
  have nd := B.nd
  have ng : ∀ a, g a = none → (∃ o, h₁.get? a = some o) → gh g h₁ Z h a = none := fun a e1 ⟨o, e2⟩ => by
    cases q : gh g h₁ Z h a with
    | none => rfl
    | some o' =>
      rcases gh_cases q with r | ⟨_, r, _⟩
      · rw [e1] at r; cases r
      · rw [e2] at r; cases r
  refine ⟨(by rw [eL]; exact hn), (fun x c q => hc (x, c) (by rw [eC] at q; exact q)), (fun a o e => gh_le a o (B.bg a o e)), (by rw [eL]; exact B.lo), Ev.refl (gh_on on), (fun _ q => (nomatch q)), ?_, (by rw [eC]; exact B.nn), fun a ha => ?_⟩
  · unfold owns
    rw [eL, eC, List.map_nil, List.append_nil]
    obtain ⟨n1, n2⟩ := List.nodup_cons.mp nd
    exact List.nodup_cons.mpr ⟨fun q => n1 (.tail _ q), (List.nodup_cons.mp n2).2⟩
  · unfold owns at ha
    rw [eL, eC, List.map_nil, List.append_nil] at ha
    refine ⟨?_, .inr ha⟩
    rcases List.mem_cons.mp ha with rfl | q
    · exact ng _ B.gC B.hC
    · obtain ⟨p, hp, rfl⟩ := List.mem_map.mp q
      exact ng _ (B.gc p hp) (B.hc p hp)

def YP (g : FM) (h₁ : Heap) (C I Z : Addr) (cl : List (Str × Addr)) (mc : Str → Option Value) (Ws : Nat → Heap → Prop) (n : Nat) (J : Nat → FM → Value → Prop) : Protocol := fun k s₀ v s kap =>
  (∃ h tk, s = { s₀ with heap := h, toks := tk }) ∧ (∀ a o, a ∉ C :: I :: cl.map (·.2) → s₀.heap.get? a = some o → s.heap.get? a = some o) ∧
    ∃ i, k + i + 1 = n ∧ GI h₁ C I Z cl mc Ws (i + 1) s.heap ∧ J i (gh g h₁ Z s.heap) v ∧ ∀ s'' : Shared, GI h₁ C I Z cl mc Ws (i + 1) s''.heap → kap (.send .none) s''
def RP (I : Addr) (n : Nat) (s₀ : Shared) (r : Result) (s : Shared) : Prop :=
  r = .ok .next ∧ n = 0 ∧ (∃ h tk, s = { s₀ with heap := h, toks := tk }) ∧ ∀ a o, a ≠ I → s₀.heap.get? a = some o → s.heap.get? a = some o

theorem seg_gen {elt iter : Expr} {x : Str} {px : Pos} {scope : Scope} {pos : Pos} {C I Z : Addr} {cl : List (Str × Addr)} {fp : List Addr} {n : Nat} {P : Nat → Value → Prop} {Ws : Nat → Heap → Prop} {cenv : Env} {h₁ : Heap} {J : Nat → FM → Value → Prop} {k : Nat}
    (hA : Ao (k + 1) A) (W₀ : ∀ A' : Around, A'.handled = none → Walks prog w A' I fp [I] n P Ws) (B : GBase b g h₁ C I Z cl fp Ws) (Jm : ∀ i g g' v, J i g v → g.le g' → J i g' v)
    (eL : cenv.locals = C) (eC : cenv.cells = cl) (hx : cenv.kindOf x = some .local) (hk : cenv.scope.kind = .function) (hco : cenv.scope.isCoroutine = false)
    (elt_ : ∀ (A' : Around) E' i v (s₂ : Shared) g₂ m', Ao k A' → i < n → P i v → g.le g₂ → St b (C :: cl.map (·.2)) g₂ s₂.heap cenv g₂ (up x v m') mc [] s₂.heap →
      wpAny (model prog w) A' (eval elt cenv) (fun y s₃ => ∃ g₃ h₃ tk₃, s₃ = { s₂ with heap := h₃, toks := tk₃ } ∧ St b (C :: cl.map (·.2)) g₂ s₂.heap cenv g₃ (up x v m') mc [] h₃ ∧ J i g₃ y) E' s₂) :
    ∀ (r i : Nat) (s : Shared), n - i = r → i ≤ n → GI h₁ C I Z cl mc Ws i s.heap →
      Seg (model prog w) A (RP I) (YP g h₁ C I Z cl mc Ws n J) (n - i) s (.compLoop (.GeneratorExp elt [⟨.Name x px, iter, [], 0⟩] scope pos) 0 (.ref I) .none cenv)
        ((model prog w).den (.compLoop (.GeneratorExp elt [⟨.Name x px, iter, [], 0⟩] scope pos) 0 (.ref I) .none cenv)) [] s := by
  have hA' : Ao k (A.over (.compLoop (.GeneratorExp elt [⟨.Name x px, iter, [], 0⟩] scope pos) 0 (.ref I) .none cenv) []) := by
    refine ⟨hA.hh, ?_, ?_⟩
    · have := hA.dp
      show A.depth + 1 + 10 * k ≤ 990
      omega
    · have := hA.un
      show A.units + 3 + 100 * k ≤ 9800
      omega
  have nI : I ∉ C :: cl.map (·.2) := fun q => by
    obtain ⟨n1, n2⟩ := List.nodup_cons.mp B.nd
    rcases List.mem_cons.mp q with q | q
    · exact n1 (q ▸ .head _)
    · exact (List.nodup_cons.mp n2).1 q
  have nC : C ∉ I :: cl.map (·.2) := (List.nodup_cons.mp B.nd).1
  have cf : ∀ a ∈ fp, a ≠ I → a ∉ C :: cl.map (·.2) := fun a ha n q => by
    obtain ⟨o, e⟩ := B.frz a ha n
    rcases List.mem_cons.mp q with rfl | q
    · rw [B.gC] at e; cases e
    · obtain ⟨p, hp, rfl⟩ := List.mem_map.mp q
      rw [B.gc p hp] at e; cases e
  intro r
  induction r with
  | zero =>
    intro i s hr hi G
    obtain rfl : i = n := rm_done hr hi
    rw [Nat.sub_self]
    show Seg _ A _ _ _ s _ ((compTurn (.GeneratorExp elt [⟨.Name x px, iter, [], 0⟩] scope pos) 0 (.ref I) .none cenv).onRaise (leaving cenv)) [] s
    rw [compTurn_gen, Sem.onRaise_eq_wrap]
    refine seg_bind_wrap (wpAny_standAt ?_)
    refine seg_bind_wrap ((W₀ _ hA'.hh).done s _ _ G.it fun h' tk hk' => ?_)
    exact seg_end (.ok .next) ⟨rfl, rfl, ⟨_, _, rfl⟩, fun a o ha e => hk' a o (fun q => ha (List.mem_singleton.mp q)) e⟩
  | succ r ih =>
    intro i s hr hi G
    have hlt : i < n := rm_lt hr
    rw [rm_succ hlt]
    show Seg _ A _ _ _ s _ ((compTurn (.GeneratorExp elt [⟨.Name x px, iter, [], 0⟩] scope pos) 0 (.ref I) .none cenv).onRaise (leaving cenv)) [] s
    rw [compTurn_gen, Sem.onRaise_eq_wrap]
    refine seg_bind_wrap (wpAny_standAt ?_)
    refine seg_bind_wrap ((W₀ _ hA'.hh).item i s _ _ hlt G.it fun v h₂ tk₂ hP w2 kp => ?_)
    have kp : ∀ a o, a ≠ I → s.heap.get? a = some o → h₂.get? a = some o := fun a o ha e => kp a o (fun q => ha (List.mem_singleton.mp q)) e
    refine seg_bind_wrap (wpAny_of_eq (rfl : letOwnedTupleGo (.Name x px) (.ref I) v = pure ()) ?_)
    obtain ⟨m', hns⟩ := G.ns
    have hns2 : h₂.Ns C m' := hns.at' fun o e => kp C o (fun q => nC (q ▸ .head _)) e
    refine seg_bind_wrap (wpAny_assign_Name (wpAny_storeName_local (m := m') hx (eL.symm ▸ hns2) (fun h₃ hn₃ hs₃ => ?_) (by rw [hk]; rfl)))
    rw [eL] at hn₃ hs₃
    have k3 : ∀ a o, a ≠ C → a ≠ I → s.heap.get? a = some o → h₃.get? a = some o := fun a o n1 n2 e => hs₃.extBut a o n1 (kp a o n2 e)
    have w3 : Ws (i + 1) h₃ := (W₀ A hA.hh).frame _ _ _ w2 fun a ha o e => hs₃.extBut a o (fun q => by
      by_cases z : a = I
      · exact nC (q ▸ z ▸ .head _)
      · exact cf a ha z (q ▸ .head _)) e
    have c3 : ∀ q ∈ cl, h₃.IsCell q.2 (mc q.1) := fun q hq => by
      obtain ⟨o, e, d⟩ := G.cell q hq
      have hm : q.2 ∈ cl.map (·.2) := List.mem_map_of_mem hq
      exact ⟨o, k3 _ _ (fun z => nC (z ▸ .tail _ hm)) (fun z => nI (z ▸ .tail _ hm)) e, d⟩
    have on3 : g.on h₃ := fun a o e => k3 a o (fun q => by subst q; rw [B.gC] at e; cases e) (fun q => by subst q; rw [B.gI] at e; cases e) (B.onh G a o e)
    have z3 : ∃ o, h₃.get? Z = some o := by
      obtain ⟨o, e⟩ := G.z
      by_cases q1 : Z = C
      · rw [q1]; obtain ⟨o', _, _, e', _⟩ := hn₃; exact ⟨o', e'⟩
      · by_cases q2 : Z = I
        · rw [q2]; exact B.lv _ _ w3
        · exact ⟨o, k3 _ _ q1 q2 e⟩
    have lv3 : ∀ a o, h₁.get? a = some o → ∃ o', h₃.get? a = some o' := fun a o e => by
      by_cases q1 : a = C
      · rw [q1]; obtain ⟨o', _, _, e', _⟩ := hn₃; exact ⟨o', e'⟩
      · by_cases q2 : a = I
        · rw [q2]; exact B.lv _ _ w3
        · obtain ⟨o', e'⟩ := G.live B.lv a o e; exact ⟨o', k3 _ _ q1 q2 e'⟩
    have H3 : St b (C :: cl.map (·.2)) (gh g h₁ Z h₃) h₃ cenv (gh g h₁ Z h₃) (up x v m') mc [] h₃ := B.st eL eC on3 hn₃ c3
    simp only [List.forIn_nil]
    refine seg_bind_wrap (wpAny_pure ?_)
    simp only [if_true]
    have hy : ∀ v, yieldOut cenv v = yieldValue v := fun v => by simp only [yieldOut, hco, Bool.false_eq_true, if_false]
    simp only [hy]
    rw [Sem.bind_eq_wrap', Sem.bind_eq_wrap', Sem.wrap_wrap, Sem.wrap_wrap]
    refine seg_wrap (wpAny_mono (elt_ _ _ i v _ _ m' hA' hlt hP gh_le H3) (fun y s₄ zz => ?_) fun _ _ e => e)
    obtain ⟨g₄, h₄, tk₄, rfl, H4, jy⟩ := zz
    have k4 : ∀ a o, a ∉ C :: cl.map (·.2) → h₃.get? a = some o → h₄.get? a = some o := fun a o n e => H4.ev.keep a o n e
    have G4 : GI h₁ C I Z cl mc Ws (i + 1) h₄ := by
      refine ⟨(W₀ A hA.hh).frame _ _ _ w3 fun a ha o e => ?_, ⟨_, eL ▸ H4.ns⟩, fun q hq => H4.cell q.1 q.2 (eC.symm ▸ hq), fun a o ha e => ?_, ?_⟩
      · by_cases z : a = I
        · subst z; exact k4 a o nI e
        · exact k4 a o (cf a ha z) e
      · have h1 : a ≠ C := fun q => ha (q ▸ .head _)
        have h2 : a ≠ I := fun q => ha (q ▸ .tail _ (.head _))
        have h3 : a ∉ C :: cl.map (·.2) := fun q => by
          rcases List.mem_cons.mp q with q | q
          · exact h1 q
          · exact ha (.tail _ (.tail _ q))
        exact k4 a o h3 (k3 a o h1 h2 (G.keep a o ha e))
      · obtain ⟨o, e⟩ := z3
        obtain ⟨o', e'⟩ := H4.ev.live Z o e
        exact ⟨o', e'⟩
    refine seg_at (seg_yield rfl rfl rfl ⟨⟨_, _, rfl⟩, fun a o ha e => ?_, i, by omega, G4, Jm _ _ _ _ jy (gh_step on3 lv3 z3 H4.ev), fun s'' G'' => ?_⟩)
    · have h1 : a ≠ C := fun q => ha (q ▸ .head _)
      have h2 : a ≠ I := fun q => ha (q ▸ .tail _ (.head _))
      exact k4 a o (fun q => by
        rcases List.mem_cons.mp q with q | q
        · exact h1 q
        · exact ha (.tail _ (.tail _ q))) (k3 a o h1 h2 e)
    · exact seg_again rfl (ih (i + 1) s'' (rm_next hr) hlt G'')
end
end Mine
set_option maxRecDepth 100000
namespace Mine
/-- what is iterated, whoever asks for its items -/
def SrcA (prog : Program) (w : World) (A : Around) (n : Nat) (P : Nat → Value → Prop) (g : FM) (xv : Value) (h : Heap) : Prop :=
  ∀ (s : Shared) (Q : Value → Shared → Prop) (E : Value → Shared → Prop), s.heap = h →
    (∀ I fp Ws h', (∀ A' : Around, A'.handled = none → Walks prog w A' I fp [I] n P Ws) → Ws 0 h' → (∀ i h, Ws i h → ∃ o, h.get? I = some o) → h.get? I = none → (∀ a ∈ fp, a ≠ I → ∃ o, g a = some o) →
      (∀ a o, h.get? a = some o → h'.get? a = some o) → h.objs.size ≤ h'.objs.size → Q (.ref I) { s with heap := h' }) → wpAny (model prog w) A (pyIter xv) Q E s
theorem SrcA.range {prog : Program} {w : World} {A : Around} {g : FM} {h : Heap} {r : Addr} {a c : Int} {t u v : Tok} (hr : IsRange h r a c 1 t u v) (hsmall : Builtin.Range.small a c 1 = true) (hac : a ≤ c) :
    SrcA prog w A (c - a).toNat (fun i v => ∃ t, v = .int (a + i) t) g (.ref r) h := by
  intro s Q E hs k
  subst hs
  refine wpAny_pyIter_range hr hsmall ?_
  have hsz : Builtin.Range.rangeSize a c 1 = ((c - a).toNat : Int) := by
    rw [rangeSize_one]; split <;> omega
  have W := fun (A' : Around) (hh : A'.handled = none) => Walks.range (prog := prog) (w := w) hh s.heap.objs.size a 1 (c - a).toNat
  refine k s.heap.objs.size [s.heap.objs.size] _ _ (fun A' hh => ⟨(W A' hh).sub, (W A' hh).frame, fun i s Q E hi st hQ => (W A' hh).item i s Q E hi st fun v h' tk hp => hQ v h' tk (by obtain ⟨t, e⟩ := hp; exact ⟨t, by rw [e, Int.mul_one]⟩), (W A' hh).done, (W A' hh).self⟩) ?_ (fun i h e => ⟨_, e⟩)
    (none_of_ge (Nat.le_refl _)) (fun x hx n => absurd (List.mem_singleton.mp hx) n) (fun _ _ e => Heap.get?_push_of_some _ e) (by rw [Heap.size_push]; exact Nat.le_succ _)
  · have e1 : (a + ((0 : Nat) : Int) * 1) = a := by simp
    have e2 : (((c - a).toNat : Int) - ((0 : Nat) : Int)) = Builtin.Range.rangeSize a c 1 := by rw [hsz]; simp
    show IsRangeIter _ _ (a + ((0 : Nat) : Int) * 1) (((c - a).toNat : Int) - ((0 : Nat) : Int)) 1
    rw [e1, e2]
    exact Heap.get?_push_size _ rfl

section
variable {b : Heap} {S : List Addr} {g0 : FM} {h0 : Heap} {env : Env} {g : FM} {m mc : Str → Option Value} {mu : List (Addr × Obj)} {h₁ h' : Heap} {C I Z : Addr} {cl : List (Str × Addr)}
/-- the frame outside, after a generator went -/
theorem St.after (H : St b S g0 h0 env g m mc mu h₁) (nC : C ∉ owns env mu) (nI : I ∉ owns env mu) (fC : h0.get? C = none) (fI : h0.get? I = none) (gC : g C = none) (gI : g I = none) (hcl : ∀ q ∈ cl, q ∈ env.cells)
    (keep : ∀ a o, a ∉ C :: I :: cl.map (·.2) → h₁.get? a = some o → h'.get? a = some o) (cell : ∀ q ∈ cl, h'.IsCell q.2 (mc q.1)) (lv : ∀ a o, a ≠ I → h₁.get? a = some o → ∃ o', h'.get? a = some o') : St b S g0 h0 env (gh g h₁ Z h') m mc mu h' := by
  have nd := H.nd
  unfold owns at nd
  obtain ⟨nd1, nd2⟩ := List.nodup_cons.mp nd
  obtain ⟨nd3, nd4, nd5⟩ := List.nodup_append.mp nd2
  have inO : ∀ q ∈ cl, q.2 ∈ owns env mu := fun q hq => .tail _ (List.mem_append_left _ (List.mem_map_of_mem (hcl q hq)))
  have nin : ∀ a ∈ owns env mu, a ∉ cl.map (·.2) → a ∉ C :: I :: cl.map (·.2) := fun a ha n q => by
    rcases List.mem_cons.mp q with rfl | q
    · exact nC ha
    · rcases List.mem_cons.mp q with rfl | q
      · exact nI ha
      · exact n q
  have gn : ∀ a o, g a = some o → a ∉ C :: I :: cl.map (·.2) := fun a o e q => by
    rcases List.mem_cons.mp q with rfl | q
    · rw [gC] at e; cases e
    · rcases List.mem_cons.mp q with rfl | q
      · rw [gI] at e; cases e
      · obtain ⟨p, hp, rfl⟩ := List.mem_map.mp q
        rw [(H.own _ (inO p hp)).1] at e; cases e
  have on' : g.on h' := fun a o e => keep a o (gn a o e) (H.on a o e)
  have cm : ∀ q ∈ cl, q.2 ∈ env.cells.map (·.2) := fun q hq => List.mem_map_of_mem (hcl q hq)
  refine ⟨?_, fun x c hc => ?_, fun a o e => gh_le a o (H.bg a o e), H.lo, ⟨H.ev.gg.trans gh_le, fun a o e => ?_, fun a o n e => ?_, fun a o e => ?_, gh_on on'⟩, fun p hp => ?_, H.nd, H.nn, fun a ha => ⟨?_, (H.own a ha).2⟩⟩
  · obtain ⟨o, es, ep, e, r⟩ := H.ns
    refine ⟨o, es, ep, keep _ _ (nin _ owns_L fun q => ?_) e, r⟩
    obtain ⟨p, hp, e⟩ := List.mem_map.mp q
    exact nd1 (List.mem_append_left _ (e ▸ cm p hp))
  · by_cases q : c ∈ cl.map (·.2)
    · obtain ⟨p, hp, rfl⟩ := List.mem_map.mp q
      have : x = p.1 := cell_inj nd3 hc (hcl p hp)
      rw [this]; exact cell p hp
    · obtain ⟨o, e, d⟩ := H.cell x c hc
      exact ⟨o, keep _ _ (nin _ (.tail _ (List.mem_append_left _ (List.mem_map.mpr ⟨(x, c), hc, rfl⟩))) q) e, d⟩
  · rcases gh_cases e with e | ⟨_, e, _⟩
    · exact H.ev.new a o e
    · cases r : h0.get? a with
      | none => exact .inr rfl
      | some o' => obtain ⟨o'', r'⟩ := H.ev.live a o' r; rw [e] at r'; cases r'
  · refine keep a o (fun q => ?_) (H.ev.keep a o n e)
    rcases List.mem_cons.mp q with rfl | q
    · rw [fC] at e; cases e
    · rcases List.mem_cons.mp q with rfl | q
      · rw [fI] at e; cases e
      · obtain ⟨p, hp, rfl⟩ := List.mem_map.mp q
        rcases (H.own _ (inO p hp)).2 with r | r
        · rw [e] at r; cases r
        · exact n r
  · obtain ⟨o', e'⟩ := H.ev.live a o e; exact lv a o' (fun q => by rw [q, fI] at e; cases e) e'
  · refine keep _ _ (nin _ (owns_mu hp) fun q => ?_) (H.mus p hp)
    obtain ⟨r, hr, e⟩ := List.mem_map.mp q
    exact nd5 _ (e ▸ cm r hr) _ (List.mem_map_of_mem hp) rfl
  · cases q : gh g h₁ Z h' a with
    | none => rfl
    | some o =>
      rcases gh_cases q with r | ⟨_, r, _⟩
      · rw [(H.own a ha).1] at r; cases r
      · obtain ⟨o', e⟩ := H.liveO ha; rw [r] at e; cases e
end

section
variable {prog : Program} {w : World} {b : Heap} {S : List Addr} {g0 : FM} {h0 : Heap} {env : Env} {g : FM} {m mc : Str → Option Value} {mu : List (Addr × Obj)} {A : Around} {s : Shared} {E : Value → Shared → Prop}

/-- a generator, made and not yet asked -/
structure GenOf (prog : Program) (w : World) (b : Heap) (h0 : Heap) (env : Env) (g : FM) (mc : Str → Option Value) (mu : List (Addr × Obj)) (n : Nat) (J : Nat → FM → Value → Prop) (k : Nat) (a gi C I : Addr) (cl : List (Str × Addr)) (fp : List Addr) (P : Nat → Value → Prop) (Ws : Nat → Heap → Prop) (s : Shared) : Prop where
  isg : s.heap.IsGen a gi
  gs : ∃ gs, s.gens[gi]? = some gs ∧ ∀ Z A1, Ao (k + 2) A1 → ∀ s'' : Shared, GI s.heap C I Z cl mc Ws 0 s''.heap → gs.Goes (model prog w) A1.in1 (RP I) (YP g s.heap C I Z cl mc Ws n J) n (.send .none) s''
  base : ∀ Z, GBase b g s.heap C I Z cl fp Ws
  wk : ∀ A' : Around, A'.handled = none → Walks prog w A' I fp [I] n P Ws
  w0 : Ws 0 s.heap
  ns : ∃ m, s.heap.Ns C m
  nC : C ∉ owns env mu
  nI : I ∉ owns env mu
  fC : h0.get? C = none
  fI : h0.get? I = none
  aC : a ∉ C :: I :: cl.map (·.2)
  cls : ∀ q ∈ cl, q ∈ env.cells
  bare : AllBare s.gens

def GRdy (prog : Program) (w : World) (A1 : Around) (g : FM) (h₁ : Heap) (C I Z a gi : Addr) (cl : List (Str × Addr)) (mc : Str → Option Value) (Ws : Nat → Heap → Prop) (n : Nat) (J : Nat → FM → Value → Prop) (i : Nat) (s : Shared) : Prop :=
  s.heap.IsGen a gi ∧ ∃ gs, s.gens[gi]? = some gs ∧ ∀ s'' : Shared, GI h₁ C I Z cl mc Ws i s''.heap → gs.Goes (model prog w) A1.in1 (RP I) (YP g h₁ C I Z cl mc Ws n J) (n - i) (.send .none) s''

theorem bare_set {s : Shared} {gi : Nat} {x : GenState} (h : AllBare s.gens) (hx : x.bare = true) : AllBare (s.setGen gi x).gens := by
  intro y hy
  obtain ⟨i, hi, e⟩ := Array.mem_iff_getElem.mp hy
  have hi' : i < s.gens.size := by simpa [Shared.setGen] using hi
  have e2 : (s.setGen gi x).gens[i]'hi = if gi = i then x else s.gens[i]'hi' := by simp only [Shared.setGen]; rw [Array.getElem_setIfInBounds]
  rw [e2] at e
  split at e
  · exact e ▸ hx
  · exact e ▸ h _ (Array.getElem_mem hi')

theorem next_item {C I Z a gi : Addr} {cl : List (Str × Addr)} {h₁ : Heap} {Ws : Nat → Heap → Prop} {n i : Nat} {J : Nat → FM → Value → Prop} {Q : Option Value → Shared → Prop} {k : Nat} (hA : Ao (k + 2) A) (nl : s.heap.NoLimit) (hi : i < n) (R : GRdy prog w A g h₁ C I Z a gi cl mc Ws n J i s) (G : GI h₁ C I Z cl mc Ws i s.heap) (hb : AllBare s.gens) (aC : a ∉ C :: I :: cl.map (·.2))
    (h : ∀ v h' tk gs', AllBare gs' → (∀ a o, a ∉ C :: I :: cl.map (·.2) → s.heap.get? a = some o → h'.get? a = some o) → GI h₁ C I Z cl mc Ws (i + 1) h' → J i (gh g h₁ Z h') v → GRdy prog w A g h₁ C I Z a gi cl mc Ws n J (i + 1) { s with heap := h', toks := tk, gens := gs' } →
      Q (some v) { s with heap := h', toks := tk, gens := gs' }) : wpAny (model prog w) A (pyNext (.ref a)) Q E s := by
  obtain ⟨hg, gs, hgs, hgo⟩ := R
  obtain ⟨r, hr⟩ : ∃ r, n - i = r + 1 := ⟨n - (i + 1), rm_succ hi⟩
  rw [hr] at hgo
  refine wpAny_pyNext_genexpQ (n := r + 1) (P := fun n s₀ s => n = 0 ∧ (∃ h tk, s = { s₀ with heap := h, toks := tk }) ∧ ∀ a o, a ≠ I → s₀.heap.get? a = some o → s.heap.get? a = some o) (Y := YP g h₁ C I Z cl mc Ws n J) hA.hh nl hA.room hg hgs (hgo (s.setGen gi .running) G) (fun v s₁ gs' hb' hv => ?_) (fun s₁ hp h' hk => ?_)
  · obtain ⟨⟨h', tk, rfl⟩, kp, i', ei, G', j, kap⟩ := hv
    obtain rfl : i' = i := by omega
    refine h v h' tk ((s.setGen gi .running).gens.setIfInBounds gi gs') (bare_set (s := { s.setGen gi .running with heap := h', toks := tk }) (bare_set (s := s) hb rfl) hb') kp G' j ⟨?_, gs', ?_, fun s'' G'' => ?_⟩
    · obtain ⟨o, nm, qn, e, r⟩ := hg; exact ⟨o, nm, qn, kp a o aC e, r⟩
    · exact setGen_self (s := { s.setGen gi .running with heap := h', toks := tk }) (gs := .running) (setGen_self (s := s) hgs)
    · rw [rm_next hr]
      exact kap s'' G''
  · exact absurd hp.1 (Nat.succ_ne_zero r)

theorem next_done {C I Z a gi : Addr} {cl : List (Str × Addr)} {h₁ : Heap} {Ws : Nat → Heap → Prop} {n : Nat} {J : Nat → FM → Value → Prop} {Q : Option Value → Shared → Prop} {k : Nat} (hA : Ao (k + 2) A) (nl : s.heap.NoLimit) (R : GRdy prog w A g h₁ C I Z a gi cl mc Ws n J n s) (G : GI h₁ C I Z cl mc Ws n s.heap) (hb : AllBare s.gens)
    (h : ∀ h' tk gs', AllBare gs' → (∀ a o, a ≠ I → s.heap.get? a = some o → h'.get? a = some o) → Q none { s with heap := h', toks := tk, gens := gs' }) : wpAny (model prog w) A (pyNext (.ref a)) Q E s := by
  obtain ⟨hg, gs, hgs, hgo⟩ := R
  rw [Nat.sub_self] at hgo
  refine wpAny_pyNext_genexpQ (n := 0) (P := fun n s₀ s => n = 0 ∧ (∃ h tk, s = { s₀ with heap := h, toks := tk }) ∧ ∀ a o, a ≠ I → s₀.heap.get? a = some o → s.heap.get? a = some o) (Y := YP g h₁ C I Z cl mc Ws n J) hA.hh nl hA.room hg hgs (hgo (s.setGen gi .running) G) (fun v s₁ gs' hb' hv => ?_) (fun s₁ hp h' hk => ?_)
  · obtain ⟨_, _, i', ei, G', _, kap⟩ := hv
    exact False.elim (kap s₁ G')
  · obtain ⟨_, ⟨h2, tk, rfl⟩, kp⟩ := hp
    exact h h' tk ((s.setGen gi .running).gens.setIfInBounds gi .finished) (bare_set (s := { s.setGen gi .running with heap := h2, toks := tk }) (bare_set (s := s) hb rfl) rfl) fun a o n e => hk a o (kp a o n e)
end
end Mine
set_option maxRecDepth 100000
namespace Mine
section
variable {prog : Program} {w : World} {b : Heap} {S : List Addr} {g0 : FM} {h0 : Heap} {env : Env} {g : FM} {m mc : Str → Option Value} {mu : List (Addr × Obj)} {A : Around} {s : Shared} {E : Value → Shared → Prop}

theorem GI.keeps {h₁ h h' : Heap} {C I Z : Addr} {cl : List (Str × Addr)} {fp : List Addr} {P : Nat → Value → Prop} {Ws : Nat → Heap → Prop} {i n : Nat} {A' : Around} (x : GI h₁ C I Z cl mc Ws i h) (W : Walks prog w A' I fp [I] n P Ws) (hz : Z ∉ fp) (zC : Z ∉ C :: I :: cl.map (·.2)) (z1 : h₁.get? Z = none)
    (k : ∀ a o, a ≠ Z → h.get? a = some o → h'.get? a = some o) (z' : ∃ o, h'.get? Z = some o) : GI h₁ C I Z cl mc Ws i h' := by
  refine ⟨W.frame _ _ _ x.it fun a ha o e => k a o (fun q => hz (q ▸ ha)) e, ?_, fun q hq => ?_, fun a o n e => k a o (fun q => by rw [q, z1] at e; cases e) (x.keep a o n e), z'⟩
  · obtain ⟨m', hm⟩ := x.ns
    exact ⟨m', hm.at' fun o e => k C o (fun q => zC (q ▸ .head _)) e⟩
  · obtain ⟨o, e, d⟩ := x.cell q hq
    exact ⟨o, k _ _ (fun z => zC (z ▸ .tail _ (.tail _ (List.mem_map_of_mem hq)))) e, d⟩

theorem sum_loop {C I Z a gi : Addr} {cl : List (Str × Addr)} {h₁ : Heap} {fp : List Addr} {P : Nat → Value → Prop} {Ws : Nat → Heap → Prop} {n : Nat} {J Acc : Nat → FM → Value → Prop} {k : Nat} {R : Result → Shared → Prop} {cenv : Env}
    (hA : Ao (k + 3) A) (nl : ∀ h : Heap, (∀ a o, b.get? a = some o → h.get? a = some o) → h.NoLimit) (B : GBase b g h₁ C I Z cl fp Ws) (W₀ : ∀ A' : Around, A'.handled = none → Walks prog w A' I fp [I] n P Ws)
    (aC : a ∉ C :: I :: cl.map (·.2)) (aZ : a ≠ Z) (zf : Z ∉ fp) (zC : Z ∉ C :: I :: cl.map (·.2)) (z1 : h₁.get? Z = none) (eL : cenv.locals = C) (eC : cenv.cells = cl)
    (jr : ∀ i g v, J i g v → ∃ y, v = .ref y) (ar : ∀ i g v, 0 < i → Acc i g v → ∃ y, v = .ref y) (Am : ∀ i g g' v, Acc i g v → g.le g' → Acc i g' v) (Jm : ∀ i g g' v, J i g v → g.le g' → J i g' v)
    (add : ∀ (A' : Around) E' i acc v (s₂ : Shared) S' g₂ m', Ao (k + 2) A' → i < n → g.le g₂ → Acc i g₂ acc → J i g₂ v → St b S' g₂ s₂.heap cenv g₂ m' mc [] s₂.heap →
      wpAny (model prog w) A' (binaryOp .Add acc v) (fun z s₃ => ∃ g₃ h₃ tk₃, s₃ = { s₂ with heap := h₃, toks := tk₃ } ∧ Ev [] g₂ s₂.heap g₃ h₃ ∧ Acc (i + 1) g₃ z) E' s₂) :
    ∀ (r i : Nat) (s : Shared) (acc : Value) (c : Nat) (st : Int), ((i = 0 ∧ st = 0 ∧ ∃ t, acc = .int 0 t) ∨ (0 < i ∧ st = 2)) → n - i = r → i ≤ n → GI h₁ C I Z cl mc Ws i s.heap → GRdy prog w A.in1 g h₁ C I Z a gi cl mc Ws n J i s → AllBare s.gens →
      s.heap.get? Z = some { cls := .type "list", dict := none, data := .seq #[acc] c, slots := #[] } → Acc i (gh g h₁ Z s.heap) acc →
      (∀ h' tk gs' acc', AllBare gs' → (∀ a o, a ∉ C :: I :: cl.map (·.2) → h₁.get? a = some o → h'.get? a = some o) → (∀ q ∈ cl, h'.IsCell q.2 (mc q.1)) → (∀ a o, a ≠ I → h₁.get? a = some o → ∃ o', h'.get? a = some o') → Acc n (gh g h₁ Z h') acc' → R (.ok (.ret acc')) { s with heap := h', toks := tk, gens := gs' }) →
      codeAny (model prog w) A (.builtin "sum.loop" ⟨[.ref a, .ref Z, rawInt st, rawInt 0], []⟩) R s := by
  have hA1 : Ao (k + 2) A.in1 := hA.in1
  have fin : ∀ (E : Value → Shared → Prop) (s : Shared) (acc : Value), GI h₁ C I Z cl mc Ws n s.heap → GRdy prog w A.in1 g h₁ C I Z a gi cl mc Ws n J n s → AllBare s.gens → Acc n (gh g h₁ Z s.heap) acc →
      (∀ h' tk gs' acc', AllBare gs' → (∀ a o, a ∉ C :: I :: cl.map (·.2) → h₁.get? a = some o → h'.get? a = some o) → (∀ q ∈ cl, h'.IsCell q.2 (mc q.1)) → (∀ a o, a ≠ I → h₁.get? a = some o → ∃ o', h'.get? a = some o') → Acc n (gh g h₁ Z h') acc' → R (.ok (.ret acc')) { s with heap := h', toks := tk, gens := gs' }) →
      wpAny (model prog w) A.in1 (pyNext (.ref a)) (fun v s' => v = none ∧ R (.ok (.ret acc)) s') E s := by
    intro E s acc G Rd hb ha hR
    refine next_done hA1 (nl _ fun a o e => B.onh G a o (B.bg a o e)) Rd G hb fun h' tk gs' hb' kp => ⟨rfl, hR h' tk gs' acc hb' (fun a o n e => kp a o (fun q => n (q ▸ .tail _ (.head _))) (G.keep a o n e)) (fun q hq => ?_) (fun a o q e => ?_) (Am _ _ _ _ ha (gh_mono fun a o n1 n2 e => kp a o (fun q => ?_) e))⟩
    · obtain ⟨o, e, d⟩ := G.cell q hq
      refine ⟨o, kp _ _ (fun z => ?_) e, d⟩
      have nd := B.nd
      rw [List.nodup_cons, List.nodup_cons] at nd
      exact nd.2.1 (z ▸ List.mem_map_of_mem hq)
    · obtain ⟨o', e'⟩ := G.live B.lv a o e
      exact ⟨o', kp _ _ q e'⟩
    · obtain ⟨o', e'⟩ := B.hI
      rw [q, e'] at n1; cases n1
  -- a turn: the item asked for, added, and the sum put back
  have turn : ∀ (Rr : Result → Shared → Prop) (i : Nat) (s' : Shared) (acc v : Value) (c : Nat), i < n → GI h₁ C I Z cl mc Ws (i + 1) s'.heap → GRdy prog w A.in1 g h₁ C I Z a gi cl mc Ws n J (i + 1) s' → AllBare s'.gens →
      s'.heap.get? Z = some { cls := .type "list", dict := none, data := .seq #[acc] c, slots := #[] } → Acc i (gh g h₁ Z s'.heap) acc → J i (gh g h₁ Z s'.heap) v → (next : Value → Int) → (∀ x, next (.ref x) = 2) →
      (∀ (s'' : Shared) z c', (∃ h tk, s'' = { s' with heap := h, toks := tk }) → GI h₁ C I Z cl mc Ws (i + 1) s''.heap → GRdy prog w A.in1 g h₁ C I Z a gi cl mc Ws n J (i + 1) s'' → s''.heap.get? Z = some { cls := .type "list", dict := none, data := .seq #[z] c', slots := #[] } → Acc (i + 1) (gh g h₁ Z s''.heap) z →
        codeAny (model prog w) A (.builtin "sum.loop" ⟨[.ref a, .ref Z, rawInt 2, rawInt 0], []⟩) Rr s'') →
      wpAny (model prog w) A.in1 (do
        match ← (holding [v] (binaryOp .Add acc v)).attempt with
        | .ok r => updateSeq Z fun _ => #[r]; letGo [acc, v]; (do updateSeq Z fun _ => #[r]; again (.builtin "sum.loop" ⟨[.ref a, .ref Z, rawInt (next r), rawInt 0], []⟩) : Sem Fin)
        | .error e => updateSeq Z fun _ => #[]; letGo [acc, v] [e]; throw e) (fun fin s' => match fin with | .done f => Rr (.ok f) s' | .again c' => c'.quiet = true ∧ codeAny (model prog w) A c' Rr s') (fun e s' => Rr (.error e) s') s' := by
    intro Rr i s' acc v c hi G Rd hb hZ ha hj next hnext go
    have onG := B.onh G
    have H := B.st (Z := Z) (cenv := cenv) (m := G.ns.choose) (mc := mc) eL eC onG G.ns.choose_spec G.cell
    refine wpAny_bind (wpAny_attempt (wpAny_holding (wpAny_mono (add _ _ i acc v s' _ _ _ hA1 hi gh_le ha hj H) (fun z s₃ hz => ?_) fun _ _ e => e)))
    · obtain ⟨g₃, h₃, tk₃, rfl, ev, az⟩ := hz
      obtain ⟨y, rfl⟩ := ar (i + 1) _ _ (Nat.succ_pos _) az
      have lv1 := G.live B.lv
      have az' := Am _ _ _ _ az (gh_step onG lv1 G.z ev)
      have hZ3 := ev.keep _ _ (fun q => nomatch q) hZ
      have k3 : ∀ a o, s'.heap.get? a = some o → h₃.get? a = some o := fun a o e => ev.keep a o (fun q => nomatch q) e
      refine wpAny_bind (wpAny_updateSeq hZ3 rfl ?_)
      have hZ4 := Heap.get?_update_self (Obj.mapSeq fun _ => #[Value.ref y]) hZ3 rfl
      refine wpAny_bind (wpAny_letGo ?_)
      refine wpAny_bind (wpAny_updateSeq hZ4 rfl ?_)
      have hZ5 := Heap.get?_update_self (Obj.mapSeq fun _ => #[Value.ref y]) hZ4 rfl
      have k5 : ∀ a o, a ≠ Z → s'.heap.get? a = some o → ((h₃.update Z (Obj.mapSeq fun _ => #[Value.ref y])).update Z (Obj.mapSeq fun _ => #[Value.ref y])).get? a = some o := fun a o n e =>
        (Heap.get?_update_other _ _ (Ne.symm n)).trans ((Heap.get?_update_other _ _ (Ne.symm n)).trans (k3 a o e))
      refine wpAny_pure ⟨plainId_quiet F.plain_sum_loop _, ?_⟩
      rw [hnext y]
      refine go { s' with heap := (h₃.update Z (Obj.mapSeq fun _ => #[Value.ref y])).update Z (Obj.mapSeq fun _ => #[Value.ref y]), toks := tk₃ } (.ref y) _ ⟨_, _, rfl⟩ (G.keeps (W₀ _ hA.hh) zf zC z1 k5 ⟨_, hZ5⟩) ⟨?_, Rd.2⟩ hZ5 (Am _ _ _ _ az' (gh_mono fun a o n1 n2 e => ?_))
      · obtain ⟨o, nm, qn, e, r⟩ := Rd.1; exact ⟨o, nm, qn, k5 a o aZ e, r⟩
      · exact (Heap.get?_update_other _ _ (Ne.symm n2)).trans ((Heap.get?_update_other _ _ (Ne.symm n2)).trans e)
  intro r
  induction r with
  | zero =>
    intro i s acc c st hst hr hi G Rd hb hZ ha hR
    obtain rfl : i = n := rm_done hr hi
    refine codeAny_builtin F.entry_sum_loop ?_
    rw [Around.under_plainId F.plain_sum_loop _]
    show wpAny _ A.in1 (seqItems? (.ref Z) >>= _) _ _ s
    refine wpAny_bind (wpAny_seqItems hZ rfl ?_)
    show wpAny _ A.in1 (tryCatch (pyNext (.ref a)) _ >>= _) _ _ s
    refine wpAny_bind (wpAny_tryCatch (wpAny_mono (fin _ s acc G Rd hb ha hR) (fun v s' hv => ?_) fun _ _ e => e))
    obtain ⟨rfl, hv⟩ := hv
    rcases hst with ⟨rfl, rfl, t, rfl⟩ | ⟨hi0, rfl⟩
    · exact wpAny_pure hv
    · obtain ⟨y, rfl⟩ := ar _ _ _ hi0 ha
      exact wpAny_pure hv
  | succ r ih =>
    intro i s acc c st hst hr hi G Rd hb hZ ha hR
    have hlt : i < n := rm_lt hr
    refine codeAny_builtin F.entry_sum_loop ?_
    rw [Around.under_plainId F.plain_sum_loop _]
    show wpAny _ A.in1 (seqItems? (.ref Z) >>= _) _ _ s
    refine wpAny_bind (wpAny_seqItems hZ rfl ?_)
    show wpAny _ A.in1 (tryCatch (pyNext (.ref a)) _ >>= _) _ _ s
    refine wpAny_bind (wpAny_tryCatch (next_item hA1 (nl _ fun a o e => B.onh G a o (B.bg a o e)) hlt Rd G hb aC fun v h' tk gs' hb' kp G' hj Rd' => ?_))
    obtain ⟨y, rfl⟩ := jr _ _ _ hj
    have hZ' := kp Z _ zC hZ
    have ha' := Am _ _ _ _ ha (gh_mono (g := g) (h₁ := h₁) (Z := Z) (h := s.heap) (h' := h') fun a o n1 n2 e => kp a o (fun q => by
      rcases List.mem_cons.mp q with rfl | q
      · obtain ⟨o', e'⟩ := B.hC; rw [e'] at n1; cases n1
      · rcases List.mem_cons.mp q with rfl | q
        · obtain ⟨o', e'⟩ := B.hI; rw [e'] at n1; cases n1
        · obtain ⟨p, hp, rfl⟩ := List.mem_map.mp q
          obtain ⟨o', e'⟩ := B.hc p hp; rw [e'] at n1; cases n1) e)
    have go : ∀ (s'' : Shared) z c', (∃ h tk, s'' = { s with heap := h, toks := tk, gens := gs' }) → GI h₁ C I Z cl mc Ws (i + 1) s''.heap → GRdy prog w A.in1 g h₁ C I Z a gi cl mc Ws n J (i + 1) s'' → s''.heap.get? Z = some { cls := .type "list", dict := none, data := .seq #[z] c', slots := #[] } → Acc (i + 1) (gh g h₁ Z s''.heap) z →
        codeAny (model prog w) A (.builtin "sum.loop" ⟨[.ref a, .ref Z, rawInt 2, rawInt 0], []⟩) R s'' := by
      rintro s'' z c' ⟨h2, tk2, rfl⟩ G2 Rd2 hZ2 az
      exact ih (i + 1) { s with heap := h2, toks := tk2, gens := gs' } z c' 2 (.inr ⟨Nat.succ_pos _, rfl⟩) (rm_next hr) hlt G2 Rd2 hb' hZ2 az fun h3 tk3 gs3 acc3 => hR h3 tk3 gs3 acc3
    rcases hst with ⟨rfl, rfl, t, rfl⟩ | ⟨hi0, rfl⟩
    · show wpAny _ A.in1 (rule _ >>= _) _ _ _
      refine wpAny_bind (wpAny_rule ?_)
      exact turn R 0 { s with heap := h', toks := tk, gens := gs' } _ _ c hlt G' Rd' hb' hZ' ha' hj (fun | .float .. => 1 | _ => 2) (fun _ => rfl) fun s'' z c' ⟨h2, tk2, e⟩ => go s'' z c' ⟨h2, tk2, e⟩
    · obtain ⟨x, rfl⟩ := ar _ _ _ hi0 ha
      exact turn R i { s with heap := h', toks := tk, gens := gs' } _ _ c hlt G' Rd' hb' hZ' ha' hj (fun _ => 2) (fun _ => rfl) fun s'' z c' ⟨h2, tk2, e⟩ => go s'' z c' ⟨h2, tk2, e⟩
end
end Mine
set_option maxRecDepth 100000
namespace Mine
section
variable {prog : Program} {w : World} {K : Frag} {p : Program} {loose : List Str} {mean : ExcName → Option Value} {mg mb : Str → Option Value} {b : Heap} {S : List Addr} {g0 : FM} {h0 : Heap} {env : Env} {g : FM} {m mc : Str → Option Value} {mu : List (Addr × Obj)} {A : Around} {s : Shared} {E : Value → Shared → Prop}

theorem call_sum {C I a gi : Addr} {cl : List (Str × Addr)} {fp : List Addr} {P : Nat → Value → Prop} {Ws : Nat → Heap → Prop} {n : Nat} {J Acc : Nat → FM → Value → Prop} {k : Nat} {Q : Value → Shared → Prop}
    (W : Wd K p loose mean mg mb b) (hA : Ao (k + 3) A) (H : St b S g0 h0 env g m mc mu s.heap) (G : GenOf prog w b h0 env g mc mu n J k a gi C I cl fp P Ws s)
    (jr : ∀ i g v, J i g v → ∃ y, v = .ref y) (ar : ∀ i g v, 0 < i → Acc i g v → ∃ y, v = .ref y) (Am : ∀ i g g' v, Acc i g v → g.le g' → Acc i g' v) (Jm : ∀ i g g' v, J i g v → g.le g' → J i g' v) (a0 : ∀ g t, Acc 0 g (.int 0 t))
    (add : ∀ (A' : Around) E' i acc v (s₂ : Shared) S' env' g₂ m', Ao (k + 2) A' → i < n → g.le g₂ → Acc i g₂ acc → J i g₂ v → St b S' g₂ s₂.heap env' g₂ m' mc [] s₂.heap →
      wpAny (model prog w) A' (binaryOp .Add acc v) (fun z s₃ => ∃ g₃ h₃ tk₃, s₃ = { s₂ with heap := h₃, toks := tk₃ } ∧ Ev [] g₂ s₂.heap g₃ h₃ ∧ Acc (i + 1) g₃ z) E' s₂)
    (done : ∀ h' tk gs' acc g', g.le g' → AllBare gs' → St b S g0 h0 env g' m mc mu h' → Acc n g' acc → Q acc { s with heap := h', toks := tk, gens := gs' }) :
    wpAny (model prog w) A (call (.builtin "sum") [.ref a]) Q E s := by
  have B := G.base s.heap.objs.size
  have liveLt : ∀ x : Addr, (∃ o, s.heap.get? x = some o) → x ≠ s.heap.objs.size := fun x ⟨o, e⟩ q => absurd (q ▸ Heap.lt_size e) (Nat.lt_irrefl _)
  have z1 : s.heap.get? s.heap.objs.size = none := none_of_ge (Nat.le_refl _)
  have zf : s.heap.objs.size ∉ fp := fun q => by
    by_cases e : s.heap.objs.size = I
    · exact liveLt I B.hI e.symm
    · obtain ⟨o, e'⟩ := B.frz _ q e
      exact liveLt _ ⟨o, H.on _ _ e'⟩ rfl
  have zC : s.heap.objs.size ∉ C :: I :: cl.map (·.2) := fun q => by
    rcases List.mem_cons.mp q with q | q
    · exact liveLt C B.hC q.symm
    · rcases List.mem_cons.mp q with q | q
      · exact liveLt I B.hI q.symm
      · obtain ⟨p, hp, e⟩ := List.mem_map.mp q
        exact liveLt _ (B.hc p hp) e
  have aL : ∃ o, s.heap.get? a = some o := by obtain ⟨o, nm, qn, e, _⟩ := G.isg; exact ⟨o, e⟩
  obtain ⟨gs, hgs, hgo⟩ := G.gs
  refine call_function_tree F.kind_sum F.plain_sum F.entry_sum (F.args_sum1 _) ?_
  unfold Builtin.«sum»
  simp only [List.length_cons, List.length_nil]
  rw [if_neg (by decide)]
  refine wpAny_bind (wpAny_of_eq (show Builtin.Builtins.bindParams "sum" ["start"] 0 { } = pure [none] from rfl) ?_)
  refine wpAny_bind (wpAny_pyIter_gen G.isg ?_)
  refine wpAny_bind (wpAny_mkInt ?_)
  refine wpAny_bind (wpAny_pure ?_)
  simp only [List.forIn_cons, List.forIn_nil]
  refine wpAny_bind (wpAny_bind (wpAny_bind (wpAny_isInstance (T := "int") (b := false) (typeIs_int _ _ _) PySem.sub_int_str ?_)))
  simp only [Bool.false_eq_true, if_false]
  refine wpAny_pure (wpAny_bind (wpAny_bind (wpAny_isInstance (T := "int") (b := false) (typeIs_int _ _ _) PySem.sub_int_bytes ?_)))
  simp only [Bool.false_eq_true, if_false]
  refine wpAny_pure (wpAny_bind (wpAny_bind (wpAny_isInstance (T := "int") (b := false) (typeIs_int _ _ _) PySem.sub_int_bytearray ?_)))
  simp only [Bool.false_eq_true, if_false]
  refine wpAny_pure (wpAny_pure ?_)
  refine wpAny_bind (wpAny_newObj_type ?_)
  refine wpAny_pure ⟨plainId_quiet F.plain_sum_loop _, ?_⟩
  have kp : ∀ x o (o' : Obj), s.heap.get? x = some o → (s.heap.push o').get? x = some o := fun x o o' e => Heap.get?_push_of_some _ e
  have G0 : GI s.heap C I s.heap.objs.size cl mc Ws 0 (s.heap.push { cls := .type "list", dict := none, data := .seq #[.int 0 s.toks] 0, slots := #[] }) := by
    refine ⟨(G.wk _ hA.hh).frame _ _ _ G.w0 fun x _ o e => kp x o _ e, ?_, fun q hq => ?_, fun x o _ e => kp x o _ e, ⟨_, Heap.get?_push_size _ rfl⟩⟩
    · obtain ⟨m', hm⟩ := G.ns
      exact ⟨m', hm.at' fun o e => kp _ o _ e⟩
    · obtain ⟨o, e, d⟩ := H.cell q.1 q.2 (G.cls q hq)
      exact ⟨o, kp _ _ _ e, d⟩
  refine sum_loop (cenv := { env with locals := C, cells := cl }) hA (fun h hb => W.T.nolimit.keeps hb) B G.wk G.aC (liveLt a aL) zf zC z1 rfl rfl jr ar Am Jm (fun A' E' i acc v s₂ S' g₂ m' => add A' E' i acc v s₂ S' _ g₂ m') n 0 _ (.int 0 s.toks) 0 0 (.inl ⟨rfl, rfl, _, rfl⟩) rfl (Nat.zero_le _) G0 ⟨?_, gs, hgs, fun s'' G'' => hgo _ _ hA.in1 s'' G''⟩ G.bare (Heap.get?_push_size _ rfl) (a0 _ _) fun h' tk gs' acc hb' k1 k2 k3 ha => ?_
  · obtain ⟨o, nm, qn, e, r⟩ := G.isg; exact ⟨o, nm, qn, kp _ _ _ e, r⟩
  · exact done h' tk gs' acc _ gh_le hb' (H.after G.nC G.nI G.fC G.fI B.gC B.gI G.cls k1 k2 k3) ha
end
end Mine
set_option maxRecDepth 100000
namespace Mine
section
variable {prog : Program} {w : World} {K : Frag} {p : Program} {loose : List Str} {mean : ExcName → Option Value} {mg mb : Str → Option Value} {b : Heap} {S : List Addr} {g0 : FM} {h0 : Heap} {env : Env} {g : FM} {m mc : Str → Option Value} {mu pre post : List (Addr × Obj)} {A : Around} {s : Shared} {E : Value → Shared → Prop}

theorem seg_start {elt iter : Expr} {x : Str} {px : Pos} {scope : Scope} {pos : Pos} {C I Z : Addr} {cl : List (Str × Addr)} {fp : List Addr} {n : Nat} {P : Nat → Value → Prop} {Ws : Nat → Heap → Prop} {cenv : Env} {h₁ : Heap} {J : Nat → FM → Value → Prop} {k : Nat}
    (hA : Ao (k + 1) A) (W₀ : ∀ A' : Around, A'.handled = none → Walks prog w A' I fp [I] n P Ws) (G : GI h₁ C I Z cl mc Ws 0 s.heap)
    (loop : Seg (model prog w) A (RP I) (YP g h₁ C I Z cl mc Ws n J) n s (.compLoop (.GeneratorExp elt [⟨.Name x px, iter, [], 0⟩] scope pos) 0 (.ref I) .none cenv)
        ((model prog w).den (.compLoop (.GeneratorExp elt [⟨.Name x px, iter, [], 0⟩] scope pos) 0 (.ref I) .none cenv)) [] s) :
    Seg (model prog w) A (RP I) (YP g h₁ C I Z cl mc Ws n J) n s (.compStart (.GeneratorExp elt [⟨.Name x px, iter, [], 0⟩] scope pos) 0 (.ref I) .none cenv)
        ((model prog w).den (.compStart (.GeneratorExp elt [⟨.Name x px, iter, [], 0⟩] scope pos) 0 (.ref I) .none cenv)) [] s := by
  have hA' : (A.over (.compStart (.GeneratorExp elt [⟨.Name x px, iter, [], 0⟩] scope pos) 0 (.ref I) .none cenv) []).handled = none := hA.hh
  show Seg _ A _ _ _ s _ ((compStart (.GeneratorExp elt [⟨.Name x px, iter, [], 0⟩] scope pos) 0 (.ref I) .none cenv).onRaise (leaving cenv)) [] s
  unfold compStart
  rw [Sem.onRaise_eq_wrap]
  show Seg _ A _ _ _ s _ ((ask >>= _).wrap _ _ _ _) [] s
  refine seg_bind_wrap (wpAny_askSetting ?_)
  split
  · exact seg_again rfl loop
  · refine seg_bind_wrap (wpAny_rule ?_)
    show Seg _ A _ _ _ s _ ((standAt iter.pos >>= _).wrap _ _ _ _) [] s
    exact seg_bind_wrap (wpAny_standAt (seg_bind_wrap ((W₀ _ hA').self 0 s _ _ G.it (seg_again rfl loop))))

structure GeOk (env : Env) (scope : Scope) (cl : List (Str × Addr)) (x : Str) : Prop where
  co : scope.isCoroutine = false
  clos : closureFor scope env = pure cl
  caught : Caught env cl
  cell : ∀ y ∈ scope.names, y.2 ≠ .cell
  l0 : scope.names.lookup (".0" : Str) = some NameKind.local
  lx : scope.names.lookup x = some .local
  kind : scope.kind = .function
  nn : (cl.map (·.1)).Nodup

abbrev GenGo (prog : Program) (w : World) (A : Around) (E : Value → Shared → Prop) (env : Env) (scope : Scope) (cl : List (Str × Addr)) (elt iter : Expr) (x : Str) (px pos : Pos) (Q : Value → Shared → Prop) (xv : Value) (s : Shared) : Prop :=
  wpAny (model prog w) A (pyIter xv) (fun it s₂ => s₂.heap.NoLimit ∧
      wpAny (model prog w) A (genexprCode env pos (env.qual ++ "<genexpr>") scope) (fun code s₃ => wpAny (model prog w) A (builtinsFor env.globals env.builtins) (fun bi s₄ =>
        ∀ h', h'.Ns s₄.heap.objs.size (fun y => if y = ".0" then some it else none) → Heap.SameBut s₄.heap.objs.size (s₄.heap.push { cls := .type "frame", data := .dict #[] }) h' →
          Q (.ref h'.objs.size) { s₄ with
            gens := s₄.gens.push (.fresh (.compStart (.GeneratorExp elt [⟨.Name x px, iter, [], 0⟩] scope pos) 0 it .none (genEnv scope cl s₄.heap.objs.size code bi env))),
            toks := s₄.toks + 1 + 1 + 1,
            heap := h'.push { cls := .type "generator", data := .fields #[.int s₄.gens.size 0, .str "<genexpr>" (s₄.toks + 1), .str (env.qual ++ "<genexpr>") (s₄.toks + 1 + 1)] } }) E s₃) E s₂) E s

theorem ev_ge {elt iter : Expr} {x : Str} {px pos : Pos} {scope : Scope} {cl : List (Str × Addr)} {Q : Value → Shared → Prop} {n : Nat} (hA : Ao n A) (ok : GeOk env scope cl x)
    (h : GeOk env scope cl x → wpAny (model prog w) A (eval iter env) (GenGo prog w A E env scope cl elt iter x px pos Q) E s) (hs : ∀ x, genFold iter env x = pure x := by intro _; rfl) :
    wpAny (model prog w) A (eval (.GeneratorExp elt [⟨.Name x px, iter, [], 0⟩] scope pos) env) Q E s :=
  wpAny_GeneratorExp_make ok.co ok.clos ok.cell ok.l0 ok.kind hA.room (h ok) hs

theorem gen_run {elt iter : Expr} {x : Str} {px pos : Pos} {scope : Scope} {cl : List (Str × Addr)} {Q : Value → Shared → Prop} {n : Nat} {P : Nat → Value → Prop} {xv : Value} {J : Nat → FM → Value → Prop} {k : Nat} {T c : Addr} {ps : Array Value}
    (W : Wd K p loose mean mg mb b) (ok : GeOk env scope cl x) (H : St b S g0 h0 env g m mc (pre ++ (T, tabObj ps) :: post) s.heap) (ht : TriplesOk ps.toList) (hcd : codeHdIn K c T = true) (hb : AllBare s.gens) (src : SrcA prog w A n P g xv s.heap) (Jm : ∀ i g g' v, J i g v → g.le g' → J i g' v)
    (elt_ : ∀ (C : Addr) (code : Value) (A' : Around) E' i v (s₂ : Shared) g₂ m', Ao k A' → i < n → P i v → g.le g₂ → St b (C :: cl.map (·.2)) g₂ s₂.heap (genEnv scope cl C code builtinsNs env) g₂ (up x v m') mc [] s₂.heap →
      wpAny (model prog w) A' (eval elt (genEnv scope cl C code builtinsNs env)) (fun y s₃ => ∃ g₃ h₃ tk₃, s₃ = { s₂ with heap := h₃, toks := tk₃ } ∧ St b (C :: cl.map (·.2)) g₂ s₂.heap (genEnv scope cl C code builtinsNs env) g₃ (up x v m') mc [] h₃ ∧ J i g₃ y) E' s₂)
    (done : ∀ a gi C I fp Ws ps' h₁ tk gs, TriplesOk ps'.toList → St b S g0 h0 env g m mc (pre ++ (T, tabObj ps') :: post) h₁ → GenOf prog w b h0 env g mc (pre ++ (T, tabObj ps') :: post) n J k a gi C I cl fp P Ws { s with heap := h₁, toks := tk, gens := gs } → Q (.ref a) { s with heap := h₁, toks := tk, gens := gs })
    (hc : env.code = .ref c := by with_unfolding_all rfl) (hg : env.globals = mainGlobals := by with_unfolding_all rfl) :
    GenGo prog w A E env scope cl elt iter x px pos Q xv s := by
  refine src s _ _ rfl fun I fp Ws h' Wk w0 live fresh frz keep hsz => ?_
  have H' := H.keeps keep
  have hT' := H'.muAt
  have hd := codeHd_of_K (H'.Xh W) hcd
  have gT : g T = none := (H'.own T (owns_mu (p := (T, tabObj ps)) (List.mem_append_right _ (.head _)))).1
  have IT : I ≠ T := fun q => by
    have := H.muAt
    rw [← q, fresh] at this; cases this
  refine ⟨W.T.nolimit.keeps H'.base, ?_⟩
  have rest : ∀ (code : Value) (ps' : Array Value) (h₃ : Heap) (tk₃ : Nat), TriplesOk ps'.toList → Heap.ExtBut T h' h₃ → h'.objs.size ≤ h₃.objs.size → St b S g0 h0 env g m mc (pre ++ (T, tabObj ps') :: post) h₃ →
      wpAny (model prog w) A (builtinsFor env.globals env.builtins) (fun bi s₄ =>
        ∀ h', h'.Ns s₄.heap.objs.size (fun y => if y = ".0" then some (.ref I) else none) → Heap.SameBut s₄.heap.objs.size (s₄.heap.push { cls := .type "frame", data := .dict #[] }) h' →
          Q (.ref h'.objs.size) { s₄ with
            gens := s₄.gens.push (.fresh (.compStart (.GeneratorExp elt [⟨.Name x px, iter, [], 0⟩] scope pos) 0 (.ref I) .none (genEnv scope cl s₄.heap.objs.size code bi env))),
            toks := s₄.toks + 1 + 1 + 1,
            heap := h'.push { cls := .type "generator", data := .fields #[.int s₄.gens.size 0, .str "<genexpr>" (s₄.toks + 1), .str (env.qual ++ "<genexpr>") (s₄.toks + 1 + 1)] } }) E { s with heap := h₃, toks := tk₃ } := by
    intro code ps' h₃ tk₃ ht' hx₃ hs₃ H3
    obtain ⟨bm, ob, M0⟩ := W.M
    have M := M0.keeps H3.base
    refine wpAny_builtinsFor (m := mg) (by rw [hg]; exact M.ns) M.name M.ne M.obj M.cls M.dict M.data ?_
    intro h4 hns hsb
    have sz4 : h4.objs.size = h₃.objs.size + 1 := by have := hsb.1; rw [this, Heap.size_push]
    have kp4 : ∀ a o, h₃.get? a = some o → h4.get? a = some o := fun a o e => hsb.extBut a o (fun q => absurd (q ▸ Heap.lt_size e) (Nat.lt_irrefl _)) (Heap.get?_push_of_some _ e)
    have kp1 : ∀ a o (o' : Obj), h₃.get? a = some o → (h4.push o').get? a = some o := fun a o o' e => Heap.get?_push_of_some _ (kp4 a o e)
    have fC : h₃.get? h₃.objs.size = none := none_of_ge (Nat.le_refl _)
    have w3 : Ws 0 h₃ := (Wk callerA rfl).frame _ _ _ w0 fun a ha o e => hx₃ a o (fun q => by
      by_cases z : a = I
      · exact IT (z ▸ q)
      · obtain ⟨o', e'⟩ := frz a ha z
        rw [q, gT] at e'; cases e') e
    obtain ⟨oI, hI⟩ := live 0 _ w3
    have lt3 : ∀ a, (∃ o, h₃.get? a = some o) → a < h₃.objs.size := fun a ⟨o, e⟩ => Heap.lt_size e
    have clE : ∀ q ∈ cl, q ∈ env.cells := fun q hq => mem_of_lookup (ok.caught.all q hq)
    have cL : ∀ q ∈ cl, ∃ o, h₃.get? q.2 = some o := fun q hq => by obtain ⟨o, e, _⟩ := H3.cell q.1 q.2 (clE q hq); exact ⟨o, e⟩
    have nI : I ∉ owns env (pre ++ (T, tabObj ps') :: post) := fun q => by
      have : I ∉ owns env (pre ++ (T, tabObj ps) :: post) := H.not_owned fresh
      refine this ?_
      unfold owns at q ⊢
      rw [List.map_append, List.map_cons] at q ⊢
      exact q
    have cIn : ∀ q ∈ cl, q.2 ∈ owns env (pre ++ (T, tabObj ps') :: post) := fun q hq => .tail _ (List.mem_append_left _ (List.mem_map_of_mem (clE q hq)))
    have nd3 := H3.nd
    unfold owns at nd3
    have ndc : (env.cells.map (·.2)).Nodup := (List.nodup_append.mp (List.nodup_cons.mp nd3).2).1
    have clA : (cl.map (·.2)).Nodup := by
      have : ∀ l : List (Str × Addr), (l.map (·.1)).Nodup → (∀ p ∈ l, p ∈ env.cells) → (l.map (·.2)).Nodup := by
        intro l
        induction l with
        | nil => exact fun _ _ => List.nodup_nil
        | cons p r ih =>
          intro h1 h2
          rw [List.map_cons] at h1 ⊢
          obtain ⟨h3, h4⟩ := List.nodup_cons.mp h1
          refine List.nodup_cons.mpr ⟨fun q => ?_, ih h4 fun x hx => h2 x (.tail _ hx)⟩
          obtain ⟨x, hx, e⟩ := List.mem_map.mp q
          have : x.1 = p.1 := cell_inj ndc (c := p.2) (e ▸ h2 x (.tail _ hx)) (h2 p (.head _))
          exact h3 (this ▸ List.mem_map_of_mem hx)
      exact this cl ok.nn clE
    have H1 := fun (o' : Obj) => H3.keeps (fun a o e => kp1 a o o' e)
    have hCn : ∀ q ∈ I :: cl.map (·.2), h₃.objs.size ≠ q := fun q hq e => by
      rcases List.mem_cons.mp hq with r | r
      · exact absurd (e ▸ r ▸ lt3 I ⟨oI, hI⟩) (Nat.lt_irrefl _)
      · obtain ⟨p, hp, r⟩ := List.mem_map.mp r
        exact absurd (e ▸ r ▸ lt3 p.2 (cL p hp)) (Nat.lt_irrefl _)
    refine done h4.objs.size s.gens.size h₃.objs.size I fp Ws ps' _ _ _ ht' (H1 _) ?_
    have base : ∀ (o' : Obj) (Z : Addr), GBase b g (h4.push o') h₃.objs.size I Z cl fp Ws := fun o' Z =>
      { bg := H3.bg
        lo := H3.Bg.lo
        on := (H1 o').on
        gC := H3.gfresh fC
        gI := H.gfresh fresh
        gc := fun q hq => (H3.own _ (cIn q hq)).1
        hC := by obtain ⟨o, _, _, e, _⟩ := hns; exact ⟨o, Heap.get?_push_of_some _ e⟩
        hI := ⟨_, kp1 _ _ _ hI⟩
        hc := fun q hq => by obtain ⟨o, e⟩ := cL q hq; exact ⟨o, kp1 _ _ _ e⟩
        nd := List.nodup_cons.mpr ⟨fun q => hCn _ q rfl, List.nodup_cons.mpr ⟨fun q => by
          obtain ⟨p, hp, e⟩ := List.mem_map.mp q
          exact nI (e ▸ cIn p hp), clA⟩⟩
        nn := ok.nn
        lv := live
        frz := frz }
    exact
      { isg := ⟨_, _, _, Heap.get?_push_size _ rfl, rfl, rfl, rfl⟩
        gs := ⟨_, Array.getElem?_push_size .., fun Z A1 hA1 s'' G'' => ⟨rfl, by
          have B := base { cls := .type "generator", data := .fields #[.int s.gens.size 0, .str "<genexpr>" (tk₃ + 1), .str (env.qual ++ "<genexpr>") (tk₃ + 1 + 1)] } Z
          refine seg_start (k := k) hA1.in1 Wk G'' ?_
          have := seg_gen (iter := iter) (px := px) (scope := scope) (pos := pos) (cenv := genEnv scope cl h₃.objs.size code builtinsNs env) hA1.in1 Wk B Jm rfl rfl ok.lx ok.kind ok.co (fun A' E' i v s₂ g₂ m' => elt_ _ code A' E' i v s₂ g₂ m') n 0 s'' rfl (Nat.zero_le _) G''
          exact this⟩⟩
        base := base _
        wk := Wk
        w0 := (Wk callerA rfl).frame _ _ _ w3 fun a _ o e => kp1 a o _ e
        ns := ⟨_, hns.push _⟩
        nC := fun q => H3.not_owned fC q
        nI := nI
        fC := H3.h0fresh fC
        fI := H.h0fresh fresh
        aC := fun q => by
          rcases List.mem_cons.mp q with r | r
          · rw [sz4] at r; exact absurd r (Nat.succ_ne_self _)
          · have l : ∀ q ∈ I :: cl.map (·.2), @LT.lt Nat _ q h₃.objs.size := fun q hq => by
              rcases List.mem_cons.mp hq with e | e
              · exact e ▸ lt3 I ⟨oI, hI⟩
              · obtain ⟨p, hp, e⟩ := List.mem_map.mp e
                exact e ▸ lt3 p.2 (cL p hp)
            have := l _ r
            rw [sz4] at this
            exact absurd this (by exact Nat.not_lt.mpr (Nat.le_succ _))
        cls := clE
        bare := hb.push rfl }
  cases hq : codeAmong pos ps.toList with
  | some c' => exact wpAny_genexprCode_hit hc (hd.code hT' ht) hq (rest c' ps h' _ ht (fun _ _ _ e => e) (Nat.le_refl _) H')
  | none =>
    refine wpAny_genexprCodeX hc (hd.code hT' ht) (hd.tab hT') hq fun c' h₃ tk₃ hx₃ hge hlt hcode₃ _ htab₃ _ => ?_
    refine rest (.ref c') _ h₃ tk₃ ?_ hx₃ (Nat.le_trans hge (Nat.le_of_lt hlt)) (H'.updAt htab₃.2 hx₃)
    obtain ⟨_, _, _, _, _, _, _, _, _, op, _, _, _, _, _, _, _, hop, hpd, htr, _⟩ := hcode₃
    exact htr
end
end Mine
set_option maxRecDepth 100000
namespace Mine
theorem SrcA.list {prog : Program} {w : World} {A : Around} {g : FM} {h : Heap} {l : Addr} {o : Obj} {vs : List Value} (hg : g l = some o) (on : g.on h) (hl : h.IsList l vs.toArray) : SrcA prog w A vs.length (fun i v => vs[i]? = some v) g (.ref l) h := by
  intro s Q E hs k
  subst hs
  refine wpAny_pyIter_list hl ?_
  have hlt : l < s.heap.objs.size := by obtain ⟨_, e, _⟩ := hl; exact Heap.lt_size e
  have W := fun (A' : Around) (hh : A'.handled = none) => Walks.list (prog := prog) (w := w) hh s.heap.objs.size l (Nat.ne_of_lt hlt) vs.toArray
  have e : vs.toArray.size = vs.length := List.size_toArray ..
  rw [e] at W
  refine k s.heap.objs.size [s.heap.objs.size, l] (fun i h => h.IsListIter s.heap.objs.size l i ∧ h.IsList l vs.toArray) _ (fun A' hh => ⟨(W A' hh).sub, (W A' hh).frame, fun i s Q E hi st hQ => (W A' hh).item i s Q E hi st fun v h' tk hp => hQ v h' tk (by simpa using hp), (W A' hh).done, (W A' hh).self⟩)
    ⟨⟨_, Heap.get?_push_size _ rfl, rfl, rfl⟩, hl.push _⟩ (fun i h e => ⟨_, e.1.choose_spec.1⟩) (none_of_ge (Nat.le_refl _)) (fun x hx n => ?_) (fun _ _ e => Heap.get?_push_of_some _ e) (by rw [Heap.size_push]; exact Nat.le_succ _)
  rcases List.mem_cons.mp hx with rfl | hx
  · exact absurd rfl n
  · exact ⟨o, (List.mem_singleton.mp hx) ▸ hg⟩

section
variable {prog : Program} {w : World} {K : Frag} {p : Program} {loose : List Str} {mean : ExcName → Option Value} {mg mb : Str → Option Value} {b : Heap} {S : List Addr} {g0 : FM} {h0 : Heap} {env : Env} {g : FM} {m mc : Str → Option Value} {mu : List (Addr × Obj)} {A : Around} {s : Shared} {E : Value → Shared → Prop}

theorem all_loop {C I a gi : Addr} {cl : List (Str × Addr)} {h₁ : Heap} {fp : List Addr} {Ws : Nat → Heap → Prop} {n : Nat} {J : Nat → FM → Value → Prop} {k : Nat} {R : Result → Shared → Prop}
    (hA : Ao (k + 3) A) (nl : ∀ h : Heap, (∀ a o, b.get? a = some o → h.get? a = some o) → h.NoLimit) (B : GBase b g h₁ C I C cl fp Ws) (aC : a ∉ C :: I :: cl.map (·.2)) (jt : ∀ i g v, J i g v → v = .bool true) :
    ∀ (r i : Nat) (s : Shared), n - i = r → i ≤ n → GI h₁ C I C cl mc Ws i s.heap → GRdy prog w A.in1 g h₁ C I C a gi cl mc Ws n J i s → AllBare s.gens →
      (∀ h' tk gs', AllBare gs' → (∀ a o, a ∉ C :: I :: cl.map (·.2) → h₁.get? a = some o → h'.get? a = some o) → (∀ q ∈ cl, h'.IsCell q.2 (mc q.1)) → (∀ a o, a ≠ I → h₁.get? a = some o → ∃ o', h'.get? a = some o') → R (.ok (.ret (.bool true))) { s with heap := h', toks := tk, gens := gs' }) →
      codeAny (model prog w) A (.builtin "all.loop" ⟨[.ref a], []⟩) R s := by
  have hA1 : Ao (k + 2) A.in1 := hA.in1
  intro r
  induction r with
  | zero =>
    intro i s hr hi G Rd hb hR
    obtain rfl : i = n := rm_done hr hi
    refine codeAny_builtin F.entry_all_loop ?_
    rw [Around.under_plainId F.plain_all_loop _]
    show wpAny _ A.in1 (pyNext (.ref a) >>= _) _ _ s
    refine wpAny_bind (next_done hA1 (nl _ fun a o e => B.onh G a o (B.bg a o e)) Rd G hb fun h' tk gs' hb' kp => ?_)
    refine wpAny_bind (wpAny_rule (wpAny_pure (hR h' tk gs' hb' (fun a o n e => kp a o (fun q => n (q ▸ .tail _ (.head _))) (G.keep a o n e)) (fun q hq => ?_) fun a o q e => ?_)))
    · obtain ⟨o, e, d⟩ := G.cell q hq
      refine ⟨o, kp _ _ (fun z => ?_) e, d⟩
      have nd := B.nd
      rw [List.nodup_cons, List.nodup_cons] at nd
      exact nd.2.1 (z ▸ List.mem_map_of_mem hq)
    · obtain ⟨o', e'⟩ := G.live B.lv a o e
      exact ⟨o', kp _ _ q e'⟩
  | succ r ih =>
    intro i s hr hi G Rd hb hR
    refine codeAny_builtin F.entry_all_loop ?_
    rw [Around.under_plainId F.plain_all_loop _]
    show wpAny _ A.in1 (pyNext (.ref a) >>= _) _ _ s
    refine wpAny_bind (next_item hA1 (nl _ fun a o e => B.onh G a o (B.bg a o e)) (rm_lt hr) Rd G hb aC fun v h' tk gs' hb' kp G' hj Rd' => ?_)
    obtain rfl := jt _ _ _ hj
    refine wpAny_bind (wpAny_holding (wpAny_truthy_bool ?_))
    refine wpAny_bind (wpAny_letGo ?_)
    simp only [if_true]
    exact wpAny_pure ⟨plainId_quiet F.plain_all_loop _, ih (i + 1) { s with heap := h', toks := tk, gens := gs' } (rm_next hr) (rm_lt hr) G' Rd' hb' fun h2 tk2 gs2 => hR h2 tk2 gs2⟩

theorem call_all {C I a gi : Addr} {cl : List (Str × Addr)} {fp : List Addr} {P : Nat → Value → Prop} {Ws : Nat → Heap → Prop} {n : Nat} {J : Nat → FM → Value → Prop} {k : Nat} {Q : Value → Shared → Prop}
    (W : Wd K p loose mean mg mb b) (hA : Ao (k + 3) A) (H : St b S g0 h0 env g m mc mu s.heap) (G : GenOf prog w b h0 env g mc mu n J k a gi C I cl fp P Ws s) (jt : ∀ i g v, J i g v → v = .bool true)
    (done : ∀ h' tk gs' g', g.le g' → AllBare gs' → St b S g0 h0 env g' m mc mu h' → Q (.bool true) { s with heap := h', toks := tk, gens := gs' }) :
    wpAny (model prog w) A (call (.builtin "all") [.ref a]) Q E s := by
  have B := G.base C
  obtain ⟨gs, hgs, hgo⟩ := G.gs
  refine call_function_tree F.kind_all F.plain_all F.entry_all (F.args_all1 _) ?_
  unfold Builtin.«all»
  refine wpAny_bind (m := oneArg "all" _) (wpAny_pure ?_)
  refine wpAny_bind (wpAny_pyIter_gen G.isg ?_)
  have G0 : GI s.heap C I C cl mc Ws 0 s.heap := ⟨G.w0, G.ns, fun q hq => H.cell q.1 q.2 (G.cls q hq), fun _ _ _ e => e, B.hC⟩
  refine wpAny_pure ⟨plainId_quiet F.plain_all_loop _, all_loop hA (fun h hb => W.T.nolimit.keeps hb) B G.aC jt n 0 s rfl (Nat.zero_le _) G0 ⟨G.isg, gs, hgs, fun s'' G'' => hgo _ _ hA.in1 s'' G''⟩ G.bare fun h' tk gs' hb' k1 k2 k3 => ?_⟩
  exact done h' tk gs' _ (gh_le (g := g) (h₁ := s.heap) (Z := C)) hb' (H.after G.nC G.nI G.fC G.fI B.gC B.gI G.cls k1 k2 k3)
end

-- lists of things
def Refs (P : Nat → Addr → Prop) (ys : List Value) : Prop := ∀ k v, ys[k]? = some v → ∃ x, v = .ref x ∧ P k x
theorem Refs.nil {P : Nat → Addr → Prop} : Refs P [] := fun k v e => by cases e
theorem Refs.push {P : Nat → Addr → Prop} {ys : List Value} {x : Addr} {n : Nat} (h : Refs P ys) (e : ys.length = n) (hx : P n x) : Refs P (ys ++ [.ref x]) := fun k v q => by
  subst e
  by_cases l : k < ys.length
  · rw [List.getElem?_append_left l] at q; exact h k v q
  · rw [List.getElem?_append_right (by omega)] at q
    have : k - ys.length = 0 := by
      rcases Nat.eq_zero_or_pos (k - ys.length) with r | r
      · exact r
      · rw [List.getElem?_eq_none (by simp; omega)] at q; cases q
    rw [this] at q
    have e : k = ys.length := by omega
    subst e
    exact ⟨x, (Option.some.inj q).symm, hx⟩
theorem Refs.mono {P P' : Nat → Addr → Prop} {ys : List Value} (h : Refs P ys) (i : ∀ k x, P k x → P' k x) : Refs P' ys := fun k v e => let ⟨x, r, p⟩ := h k v e; ⟨x, r, i k x p⟩
/-- a list of n things that stand for good -/
def LsOf (g : FM) (l : Addr) (n : Nat) (P : Nat → Addr → Prop) : Prop := ∃ vs o, g l = some o ∧ IsL o vs ∧ vs.length = n ∧ Refs P vs
theorem LsOf.mono {g g' : FM} {l : Addr} {n : Nat} {P P' : Nat → Addr → Prop} (h : LsOf g l n P) (le : g.le g') (i : ∀ k x, P k x → P' k x) : LsOf g' l n P' := let ⟨vs, o, e, a, b, c⟩ := h; ⟨vs, o, le _ _ e, a, b, c.mono i⟩
theorem LsOf.at {g : FM} {l : Addr} {n i : Nat} {P : Nat → Addr → Prop} (h : LsOf g l n P) (hi : i < n) : ∃ x, P i x := by
  obtain ⟨vs, o, e, a, rfl, c⟩ := h
  obtain ⟨x, _, p⟩ := c i _ (List.getElem?_eq_getElem hi)
  exact ⟨x, p⟩
section
variable {prog : Program} {w : World} {b : Heap} {S : List Addr} {g0 : FM} {h0 : Heap} {env : Env} {g : FM} {m mc : Str → Option Value} {mu : List (Addr × Obj)} {A : Around} {s : Shared} {E : Value → Shared → Prop}
theorem LsOf.isl {l : Addr} {n : Nat} {P : Nat → Addr → Prop} {h : Heap} (x : LsOf g l n P) (on : g.on h) : ∃ vs, h.IsList l vs.toArray ∧ vs.length = n ∧ Refs P vs := let ⟨vs, o, e, a, b, c⟩ := x; ⟨vs, a.at_ (on _ _ e), b, c⟩
theorem ls_sub {value slice : Expr} {l : Addr} {n i : Nat} {P : Nat → Addr → Prop} {k : Int} {t : Tok} {Q : Value → Shared → Prop} (H : St b S g0 h0 env g m mc mu s.heap) (I : LsOf g l n P) (hk : k = i) (hi : i < n) (hn : n ≤ 1000) (h : ∀ x, P i x → Q (.ref x) s)
    (hs : subscripted slice false (.ref l) (.int k t) = operate [.ref l, .int k t] (getItem (.ref l) (.int k t)) := by with_unfolding_all rfl) :
    wpAny (model prog w) A (subscriptTail value slice (.ref l) (.int k t)) Q E s := by
  subst hk
  obtain ⟨vs, hl, e, r⟩ := I.isl H.on
  obtain ⟨x, rx, px⟩ := r i _ (List.getElem?_eq_getElem (e ▸ hi))
  exact sub_list hl (by omega) (by omega) (v := .ref x) (by rw [show ((i : Int)).toNat = i by omega, List.getElem?_eq_getElem (e ▸ hi), rx]) (h x px) hs
theorem ls_len {l : Addr} {n : Nat} {P : Nat → Addr → Prop} {Q : Value → Shared → Prop} (H : St b S g0 h0 env g m mc mu s.heap) (I : LsOf g l n P) (hn : n ≤ 1000) (h : Q (.int n (s.toks + 1)) { s with toks := s.toks + 1 + 1 }) :
    wpAny (model prog w) A (call (.builtin "len") [.ref l]) Q E s := by
  obtain ⟨vs, hl, e, r⟩ := I.isl H.on
  exact len_list hl (by omega) (by rw [e]; exact h)
theorem ls_src {l : Addr} {n : Nat} {P : Nat → Addr → Prop} {h : Heap} (hh : A.handled = none) (I : LsOf g l n P) (on : g.on h) : Src prog w A n (fun i v => ∃ x, v = .ref x ∧ P i x) g (.ref l) h := by
  obtain ⟨vs, o, e, a, rfl, c⟩ := I
  intro s Q E hs k
  refine Src.list hh e on (a.at_ (on _ _ e)) s Q E hs fun I fp Ws h' W => k I fp Ws h' ⟨W.sub, W.frame, fun i s Q E hi st hQ => W.item i s Q E hi st fun v h' tk hp => hQ v h' tk (c i v hp), W.done, W.self⟩
theorem ls_srcA {l : Addr} {n : Nat} {P : Nat → Addr → Prop} {h : Heap} (I : LsOf g l n P) (on : g.on h) : SrcA prog w A n (fun i v => ∃ x, v = .ref x ∧ P i x) g (.ref l) h := by
  obtain ⟨vs, o, e, a, rfl, c⟩ := I
  intro s Q E hs k
  refine SrcA.list e on (a.at_ (on _ _ e)) s Q E hs fun I fp Ws h' W => k I fp Ws h' fun A' hh => ⟨(W A' hh).sub, (W A' hh).frame, fun i s Q E hi st hQ => (W A' hh).item i s Q E hi st fun v h' tk hp => hQ v h' tk (c i v hp), (W A' hh).done, (W A' hh).self⟩
/-- a list just made, put away for good -/
theorem St.freezeLs {a : Addr} {o : Obj} {vs : List Value} {n : Nat} {P : Nat → Addr → Prop} {h : Heap} (H : St b S g0 h0 env g m mc ((a, o) :: mu) h) (h0a : h0.get? a = none) (isl : IsL o vs) (e : vs.length = n) (r : Refs P vs) :
    ∃ g', g.le g' ∧ LsOf g' a n P ∧ St b S g0 h0 env g' m mc mu h :=
  ⟨_, (H.freeze h0a).2, ⟨vs, o, FM.put_self .., isl, e, r⟩, (H.freeze h0a).1⟩
end
end Mine
set_option maxRecDepth 100000
namespace Mine
section
variable {prog : Program} {w : World} {K : Frag} {A : Around} {E : Value → Shared → Prop} {s : Shared} {x C f : Addr} {ox : Obj} {od : Option Obj}
theorem ifBound_slot {M : Model} {T n id : String} {name : Str} {args : List Value} {Q : Option Value → Shared → Prop} (X : K.In s.heap) (I : InstAt s.heap x ox C od) (hs : findIn K (.ref C) name = some (some (.builtin id))) (hb : ∀ self, bindSpecial (.builtin id) self = pure (.builtin id, [self]))
    (h : wpAny M A (call (.builtin id) (.ref x :: args)) (fun v => Q (some v)) E s) : wpAny M A (callSpecialIfBound? (.ref x) name args) Q E s := by
  simp only [callSpecialIfBound?, bindSpecialIfBound?]
  refine wpAny_holding (wpAny_bind (wpAny_bind (wpAny_bind (I.type.here ((looks_findIn X hs).here ?_)))))
  refine wpAny_bind (wpAny_askSetting (wpAny_ite ?_))
  have fin : wpAny M A (call (.builtin id) ([.ref x] ++ args) >>= fun v => pure (some v)) Q E s := wpAny_bind (wpAny_mono h (fun v s' h' => wpAny_pure h') fun _ _ h' => h')
  have B : Looks M s.heap (bindSpecial (.builtin id) (.ref x)) (.builtin id, [.ref x]) := Looks.of_pure (hb _)
  split
  · exact wpAny_bind (B.here (wpAny_pure (by exact fin)))
  · exact wpAny_tryCatch (wpAny_bind (B.here (wpAny_pure (by exact fin))))

/-- an object told from itself: no -/
theorem ne_self {Q : Value → Shared → Prop} (X : K.In s.heap) (I : InstAt s.heap x ox C od) (hs : findIn K (.ref C) "__ne__" = some (some (.builtin "object.__ne__"))) (he : findIn K (.ref C) "__eq__" = some (some (.builtin "object.__eq__")))
    (hm : mroIn K C (.type "object") = some true) (hu : A.units + 1 < cLine) (h : Q (.bool false) s) : wpAny (model prog w) A (compareOp .NotEq (.ref x) (.ref x)) Q E s := by
  have hu0 : A.units < cLine := Nat.lt_of_succ_lt hu
  have sub : Looks (model prog w) s.heap (isInstance (.ref x) (.type "object")) true := I.type.andThen (looks_mroIn X hm)
  have ceq : ∀ {A : Around} {E : Value → Shared → Prop} {Q : Option Value → Shared → Prop}, Q (some (.bool true)) s → wpAny (model prog w) A (callSpecialIfBound? (.ref x) "__eq__" [.ref x]) Q E s := fun {A E Q} hq =>
    ifBound_slot (T := "object") (n := "__eq__") X I he PySem.F.cmp_object.eq.bind (wpAny_call (codeAny_call_builtin PySem.F.cmp_object.eq.plain PySem.F.cmpEntry_eq
      (@check_slot (model prog w) _ _ s "object.__eq__" "object" "__eq__" (.ref x) [.ref x] [] _ PySem.F.cmpKind_eq PySem.F.cmpSplit_eq sub (PySem.F.cmpArgs_eq _ _) (objEq_entry_same hq))))
  show wpAny (model prog w) A (richCompare .NotEq (.ref x) (.ref x)) Q E s
  unfold richCompare
  simp only [oneThing_ref, cmpInfo_NotEq]
  refine wpAny_holding (wpAny_bind (wpAny_cRoomFor hu0 ?_))
  refine wpAny_bind (I.type.here (wpAny_bind (I.type.here ?_)))
  simp only [bne_self_eq_false, Bool.false_eq_true, if_false]
  refine wpAny_bind (wpAny_pure ?_)
  simp only [Bool.false_eq_true, if_false]
  refine wpAny_bind ?_
  unfold tryCompare
  refine wpAny_bind (ifBound_slot (T := "object") (n := "__ne__") X I hs PySem.F.cmp_object.ne.bind (wpAny_call (codeAny_call_builtin PySem.F.cmp_object.ne.plain PySem.F.cmpEntry_ne
      (@check_slot (model prog w) _ _ s "object.__ne__" "object" "__ne__" (.ref x) [.ref x] [] _ PySem.F.cmpKind_ne PySem.F.cmpSplit_ne sub (PySem.F.cmpArgs_ne _ _) ?_))))
  unfold Builtin.«object.__ne__»
  repeat (first | with_reducible refine wpAny_cRoomFor (A := A.in1) hu ?_ | with_reducible refine ceq ?_ | wp_step)
  exact h

theorem int_add_ref {y : Addr} {o : Obj} {a : Int} {t : Tok} {Q : Value → Shared → Prop} (ho : s.heap.get? y = some o) (hd : o.data = .plain) (h : Q .notImplemented s) :
    wpAny (model prog w) A (call (.builtin "int.__add__") [.int a t, .ref y]) Q E s := by
  refine wpAny_call_entry PySem.F.slot_int_add (typeIs_int s a t) PySem.F.entry_int_add ?_ (PySem.F.args_int_add_2 _ _)
  unfold Builtin.«int.__add__» Builtin.Int.intBinary
  refine wpAny_bind (wpAny_pure ?_)
  refine wpAny_bind (wpAny_pure ?_)
  refine wpAny_bind (wpAny_bind (wpAny_load ho ?_))
  rw [hd]
  exact wpAny_pure (wpAny_bind (wpAny_rule (wpAny_pure ⟨_, rfl, h⟩)))

set_option maxHeartbeats 1000000 in
/-- a whole number and an object: the object's own word from the right -/
theorem bin_rint {L y : Addr} {h₀ : Heap} {m : Str → Option Value} {oy : Obj} {k : Int} {t : Tok} {fi : Addr} {Q : Value → Shared → Prop} (F : Fr h₀ L s.heap m) (X₀ : K.In h₀) (I : InstAt s.heap y oy C od) (hpl : oy.data = .plain) (hc : selfFirst K C = true)
    (hs : findIn K (.ref C) (PySem.dunder "add") = some (some (.ref fi))) (hr : findIn K (.ref C) (dunderR "add") = some (some (.ref f))) (hf : isFn K (.ref f) = true)
    (h2 : findIn K (.type "int") (dunderR "add") = some (some (.builtin "int.__radd__"))) (h1 : findIn K (.type "int") (PySem.dunder "add") = some (some (.builtin "int.__add__"))) (hsub : subIn K (.ref C) (.type "int") = some false)
    (h : wpAny (model prog w) A (call (.ref f) [.ref y, .int k t]) (PySem.W.CmpBack Q) E s) : wpAny (model prog w) A (binaryOp .Add (.int k t) (.ref y)) Q E s := by
  have X := X₀.keeps F.keep
  obtain ⟨cd, rest, hcd, hm⟩ := ksp_first hc
  have two := ksp_try X I hr hf h
  have one : ∀ {Q : Option Value → Shared → Prop}, Q none s → wpAny (model prog w) A (tryMethod (.int k t) (PySem.dunder "add") (.ref y)) Q E s := fun {Q} hq => by
    unfold tryMethod
    refine wpAny_bind (wpAny_callSpecial?_slot (typeIs_int s k t) PySem.F.slot_int_add (int_add_ref I.1 hpl ?_))
    exact wpAny_pure hq
  obtain ⟨hh, g, d, tt, os⟩ := s
  have L1 : Looks (model prog w) hh (typeOf (.ref y)) (.ref C) := I.type
  have L2 : Looks (model prog w) hh (typeOf (.int k t)) (.type "int") := Looks.of_pure rfl
  have L3 : Looks (model prog w) hh (fillsNumberSlot (.ref C) "add") true := fills_K X hcd hm hs
  have L4 : Looks (model prog w) hh (fillsNumberSlot (.type "int") "add") true := ksp_fillsT X h1 h2
  have L5 : Looks (model prog w) hh (isSubtype (.ref C) (.type "int")) false := looks_subIn X hsub
  have L7 : Looks (model prog w) hh (numberSlotInPython (.type "int") "add") false := Looks.of_pure rfl
  have hne : (Value.type "int" == Value.ref C) = false := Bool.eq_false_iff.mpr fun q => by cases beq_iff_eq.mp q
  simp only [binaryOp, show Operator.info .Add = ("+", "add") from rfl]
  refine wpAny_holding (wpAny_bind ?_)
  unfold binaryOp1
  refine wpAny_bind (L2.at (wpAny_bind (L1.at (wpAny_bind (L4.at ?_)))))
  simp only [hne, Bool.false_eq_true, if_false]
  repeat ((fail_if_success (with_reducible show wpAny _ _ (tryMethod _ _ _) _ _ _)); lk)
  refine one ?_
  repeat ((fail_if_success (with_reducible show wpAny _ _ (tryMethod _ _ _) _ _ _)); lk)
  refine wpAny_mono two (fun r s' hr' => ?_) fun _ _ e => e
  obtain ⟨v, rfl, hq⟩ := hr'
  repeat lk
  exact hq
end
end Mine
set_option maxRecDepth 100000
namespace Mine
section
variable {b : Heap} {S : List Addr} {g0 : FM} {h0 : Heap} {env : Env} {g g' : FM} {m mc : Str → Option Value} {mu mu' pre post : List (Addr × Obj)} {h h' : Heap}
theorem St.muFactsM (H : St b S g0 h0 env g m mc (pre ++ (mu ++ post)) h) : (∀ q ∈ mu, h.get? q.1 = some q.2 ∧ g q.1 = none) ∧ (mu.map (·.1)).Nodup := by
  refine ⟨fun q hq => ⟨H.mus q (List.mem_append_right _ (List.mem_append_left _ hq)), (H.own _ (owns_mu (List.mem_append_right _ (List.mem_append_left _ hq)))).1⟩, ?_⟩
  have nd := H.nd
  unfold owns at nd
  rw [List.map_append, List.map_append] at nd
  exact (List.nodup_append.mp (List.nodup_append.mp (List.nodup_append.mp (List.nodup_cons.mp nd).2).2.1).2.1).1
theorem St.callMid (H : St b S g0 h0 env g m mc (pre ++ (mu ++ post)) h) (e : Ev (mu.map (·.1)) g h g' h') (ad : mu'.map (·.1) = mu.map (·.1)) (mus : ∀ q ∈ mu', h'.get? q.1 = some q.2) : St b S g0 h0 env g' m mc (pre ++ (mu' ++ post)) h' := H.callIts e ad mus
end
/-- the two part tables that generators turn -/
def Tb (c d : Addr) (mu : List (Addr × Obj)) : Prop := ∃ p q, mu = [(c, tabObj p), (d, tabObj q)] ∧ TriplesOk p.toList ∧ TriplesOk q.toList
theorem Tb.adr {c d : Addr} {mu : List (Addr × Obj)} (x : Tb c d mu) : mu.map (·.1) = [c, d] := by obtain ⟨_, _, rfl, _⟩ := x; rfl
/-- a tuple that stands for good -/
def TupL (g : FM) (t : Addr) (vs : List Value) : Prop := ∃ o k, g t = some o ∧ o.cls = .type "tuple" ∧ o.data = .seq vs.toArray k
theorem TupL.mono {g g' : FM} {t : Addr} {vs : List Value} (x : TupL g t vs) (le : g.le g') : TupL g' t vs := let ⟨o, k, e, r⟩ := x; ⟨o, k, le _ _ e, r⟩
theorem TupL.tup {g : FM} {h : Heap} {t : Addr} {vs : List Value} (x : TupL g t vs) (on : g.on h) : IsTup h t vs.toArray := let ⟨o, k, e, c, d⟩ := x; ⟨o, on _ _ e, c, k, d⟩
section
variable {prog : Program} {w : World} {K : Frag} {p : Program} {loose : List Str} {mean : ExcName → Option Value} {mg mb : Str → Option Value} {b : Heap}
variable {S : List Addr} {g0 : FM} {h0 : Heap} {env : Env} {g : FM} {m mc : Str → Option Value} {mu pre post : List (Addr × Obj)} {A : Around} {s : Shared} {E : Value → Shared → Prop}
theorem St.mkTup {vs : List Value} {a : Addr} {h h' : Heap} (H : St b S g0 h0 env g m mc mu h) (ea : a = h.objs.size) (eh : h' = h.push { cls := .type "tuple", data := .seq vs.toArray }) :
    ∃ g', g.le g' ∧ TupL g' a vs ∧ St b S g0 h0 env g' m mc mu h' := by
  obtain ⟨g', le, _, ⟨o, e, c, k, d⟩, H'⟩ := H.mkT ea eh
  exact ⟨g', le, ⟨o, k, e, c, d⟩, H'⟩
theorem isi_tuple {t : Addr} {vs : List Value} {c : Value} {r : Bool} {Q : Value → Shared → Prop} (X : K.In s.heap) (H : St b S g0 h0 env g m mc mu s.heap) (I : TupL g t vs) (e : kitOne K (.type "tuple") c = some r) (h : ∀ tk, Q (.bool r) { s with toks := tk }) :
    wpAny (model prog w) A (call (.builtin "isinstance") [.ref t, c]) Q E s := by
  obtain ⟨o, k, eo, c, d⟩ := I
  exact kia_one kitx_tuple X ⟨o, H.on _ _ eo, c⟩ e (by intro q; cases q) h
theorem len_tup {t : Addr} {vs : List Value} {Q : Value → Shared → Prop} (H : St b S g0 h0 env g m mc mu s.heap) (I : TupL g t vs) (hz : vs.length ≤ 1000) (h : Q (.int vs.length (s.toks + 1)) { s with toks := s.toks + 1 + 1 }) :
    wpAny (model prog w) A (call (.builtin "len") [.ref t]) Q E s := by
  refine PyProof.Rows.len_tuple (I.tup H.on) (by rw [List.size_toArray]; omega) (by rw [List.size_toArray]; exact h)
theorem get_tup {t : Addr} {vs : List Value} {k : Int} {u : Tok} {v : Value} {Q : Value → Shared → Prop} (H : St b S g0 h0 env g m mc mu s.heap) (I : TupL g t vs) (h0 : 0 ≤ k) (hk : k ≤ 1000) (hx : vs[k.toNat]? = some v) (h : Q v s) :
    wpAny (model prog w) A (getItem (.ref t) (.int k u)) Q E s := by
  have hlt : k.toNat < vs.length := by
    rcases Nat.lt_or_ge k.toNat vs.length with q | q
    · exact q
    · rw [List.getElem?_eq_none q] at hx; cases hx
  refine getItem_tuple (I.tup H.on) (by omega) (by omega) (PySem.seqIndex_of h0 (by rw [List.size_toArray]; omega)) (by rw [List.getElem?_toArray]; exact hx) h
theorem sub_tup {value slice : Expr} {t : Addr} {vs : List Value} {k : Int} {u : Tok} {v : Value} {Q : Value → Shared → Prop} (H : St b S g0 h0 env g m mc mu s.heap) (I : TupL g t vs) (h0 : 0 ≤ k) (hk : k ≤ 1000) (hx : vs[k.toNat]? = some v) (h : Q v s)
    (hs : subscripted slice false (.ref t) (.int k u) = operate [.ref t, .int k u] (getItem (.ref t) (.int k u)) := by with_unfolding_all rfl) :
    wpAny (model prog w) A (subscriptTail value slice (.ref t) (.int k u)) Q E s := by
  exact tail_any (I.tup H.on).typeIs slot_tuple_getitem.lookup (get_tup H I h0 hk hx h) hs
theorem tl_assign2 {x y : Str} {px py pos : Pos} {x1} {t : Addr} {u v : Value} {Q : Unit → Shared → Prop} (hh : A.handled = none) (H : St b S g0 h0 env g m mc mu s.heap) (I : TupL g t [u, v])
    (h : ∀ h', St b S g0 h0 env g m mc mu h' → wpAny (model prog w) A (storeName env x u) (fun _ s₁ => wpAny (model prog w) A (storeName env y v) Q E s₁) E { s with heap := h' }) :
    wpAny (model prog w) A (assign (.Tuple [.Name x px, .Name y py] x1 pos) env (.ref t)) Q E s := tup_assign2 hh H (I.tup H.on) h
theorem gm_append {l : Addr} {o : Obj} {vs : List Value} {pl : Sem Bool} {Q : Value × List Value → Shared → Prop} (H : St b S g0 h0 env g m mc mu s.heap) (hm : (l, o) ∈ mu) (isl : IsL o vs) (h : Q (.builtin "list.append", [.ref l]) s) :
    wpAny (model prog w) A (getMethod (.ref l) "append" pl) Q E s := by
  obtain ⟨c, k, d, e⟩ := isl
  exact getMethod_builtin ⟨o, H.mus _ hm, c⟩ PySem.F.plainAttrs_list PySem.F.slot_list_append PySem.F.type_list_append (fun a e' => by cases e'; exact ⟨o, H.mus _ hm, by rw [e]⟩) h
theorem do_append {l : Addr} {o : Obj} {vs : List Value} {v : Value} {Q : Value → Shared → Prop} (H : St b S g0 h0 env g m mc (pre ++ (l, o) :: post) s.heap) (isl : IsL o vs) (hz : vs.length ≤ 1000)
    (h : ∀ h' o', IsL o' (vs ++ [v]) → St b S g0 h0 env g m mc (pre ++ (l, o') :: post) h' → Q .none { s with heap := h' }) : wpAny (model prog w) A (call (.builtin "list.append") [.ref l, v]) Q E s := by
  refine wpAny_list_append_plain (isl.plain H.muAt) (fun h' hp hs => ?_) (by rw [List.size_toArray, sizeLine_eq]; omega)
  obtain ⟨o', e, i⟩ := plain_isl (ys := vs ++ [v]) hp (by simp)
  exact h h' o' i (H.updAt e hs.extBut)
theorem gm_copy {l : Addr} {ns : List Int} {pl : Sem Bool} {Q : Value × List Value → Shared → Prop} (H : St b S g0 h0 env g m mc mu s.heap) (I : IntL g l ns) (h : Q (.builtin "list.copy", [.ref l]) s) :
    wpAny (model prog w) A (getMethod (.ref l) "copy" pl) Q E s := by
  obtain ⟨vs, o, k, e, c, ⟨d, eo⟩, i⟩ := I
  exact getMethod_builtin ⟨o, H.on _ _ e, c⟩ PySem.F.plainAttrs_list PySem.F.slot_list_copy PySem.F.type_list_copy (fun a e' => by cases e'; exact ⟨o, H.on _ _ e, by rw [eo]⟩) h
theorem do_copy {l : Addr} {ns : List Int} {Q : Value → Shared → Prop} (H : St b S g0 h0 env g m mc mu s.heap) (I : IntL g l ns) (hz : ns.length ≤ 1000000)
    (h : ∀ a vs h', IntsAre vs ns → h0.get? a = none → St b S g0 h0 env g m mc ((a, lst vs) :: mu) h' → Q (.ref a) { s with heap := h' }) : wpAny (model prog w) A (call (.builtin "list.copy") [.ref l]) Q E s := by
  obtain ⟨vs, o, k, e, c, ⟨d, eo⟩, i⟩ := I
  refine PyProof.Rows.copy_list (frame0 H.ns) (restN _ _) (l := l) (vs := vs) ⟨o, H.on _ _ e, c, k, d⟩ (fun h' F N => ?_) (by rw [i.length, sizeLine_eq]; omega)
  obtain ⟨H', f0⟩ := H.madeF (none_of_ge (Nat.le_refl _)) F N
  exact h _ vs h' i f0 H'
end
section
variable {M : Model} {env : Env} {A : Around} {s : Shared} {E : Value → Shared → Prop}
theorem x_bm {pos : Pos} {id : String} {a : Value} {e : Expr} {rest : List Expr} {Q : Value → Shared → Prop}
    (h : wpAny M A (spliced (backTo pos (starEach (e :: rest) env))) (fun vs s₁ => wpAny M A (call (.builtin id) (a :: vs)) Q E s₁) E s)
    (he : starEach (e :: rest) env = (false, eval e env) :: starEach rest env := by with_unfolding_all rfl) (hplain : (backTo pos (starEach rest env)).any (·.1) = false := by with_unfolding_all rfl) :
    wpAny M A (callWith pos (.builtin id) [a] (backTo pos (starEach (e :: rest) env)) []) Q E s := by
  rw [he] at h ⊢
  exact callWith_builtin (by show (false || (backTo pos (starEach rest env)).any (·.1)) = false; rw [hplain]; rfl) (evalArgs_plain h)
theorem x_bm0 {pos : Pos} {id : String} {a : Value} {Q : Value → Shared → Prop} (h : wpAny M A (call (.builtin id) [a]) Q E s) :
    wpAny M A (callWith pos (.builtin id) [a] (backTo pos (starEach [] env)) []) Q E s := callWith_builtin rfl (evalArgs_nil3 h)
theorem x_assert {test : Expr} {msg : Option Expr} {pos : Pos} {Q : Flow → Shared → Prop} (h : wpAny M A (isTrue test env (eval test env)) (fun b s₁ => b = true ∧ Q .next s₁) E s) : wpAny M A (exec (.Assert test msg pos) env) Q E s := wpAny_Assert_holds h
end
end Mine
set_option maxRecDepth 100000
namespace Mine
/-- n things' data, in a row -/
def lsD (n : Nat) (d : Nat → PyData) : PyData := .list ((List.range n).map d)
theorem range_map_succ (n : Nat) (d : Nat → PyData) : (List.range (n + 1)).map d = d 0 :: (List.range n).map fun i => d (i + 1) := by
  rw [List.range_succ_eq_map, List.map_cons, List.map_map]; rfl
def Fine (k : Nat) (d : PyData) : Prop := d.canLay0 = true ∧ d.depth ≤ k ∧ PySem.SeqAt.noMix d d = true
theorem fine_int (x : Int) : Fine 0 (.int x) := ⟨by simp [PyData.canLay0], by simp [PyData.depth], by simp [PySem.SeqAt.noMix]⟩
theorem fine_all {k : Nat} : ∀ (n : Nat) (d : Nat → PyData), (∀ i, i < n → Fine k (d i)) → PyData.canLayAll0 ((List.range n).map d) = true ∧ PyData.depthAll ((List.range n).map d) ≤ k ∧ PySem.SeqAt.noMixAll ((List.range n).map d) ((List.range n).map d) = true
  | 0, d, _ => ⟨by simp [PyData.canLayAll0], by simp [PyData.depthAll], by simp [PySem.SeqAt.noMixAll]⟩
  | n + 1, d, h => by
    obtain ⟨a, b, c⟩ := fine_all n (fun i => d (i + 1)) fun i hi => h (i + 1) (by omega)
    obtain ⟨a', b', c'⟩ := h 0 (by omega)
    rw [range_map_succ]
    refine ⟨?_, ?_, ?_⟩
    · rw [PyData.canLayAll0, a', a]; rfl
    · rw [PyData.depthAll]; omega
    · rw [PySem.SeqAt.noMixAll, c', c]; rfl
theorem fine_list {k n : Nat} {d : Nat → PyData} (h : ∀ i, i < n → Fine k (d i)) : Fine (k + 1) (lsD n d) := by
  obtain ⟨a, b, c⟩ := fine_all n d h
  unfold lsD
  exact ⟨by rw [PyData.canLay0]; exact a, by rw [PyData.depth]; omega, by rw [PySem.SeqAt.noMix]; exact c⟩
theorem Fine.shaped {k : Nat} {d : PyData} (h : Fine k d) (hk : k ≤ 64) : PySem.SeqAt.shaped d = true := by
  unfold PySem.SeqAt.shaped
  rw [h.1, decide_eq_true (Nat.le_trans h.2.1 hk)]; rfl
theorem reads_all {h : Heap} : ∀ (vs : List Value) (d : Nat → PyData), (∀ i v, vs[i]? = some v → ∃ as, Reads h v (d i) as) → ∃ as, ReadsAll h vs ((List.range vs.length).map d) as
  | [], d, _ => ⟨[], .nil⟩
  | v :: r, d, k => by
    obtain ⟨as, ha⟩ := k 0 v rfl
    obtain ⟨bs, hb⟩ := reads_all r (fun i => d (i + 1)) fun i v e => k (i + 1) v (by rw [List.getElem?_cons_succ]; exact e)
    rw [List.length_cons, range_map_succ]
    exact ⟨_, .cons ha hb⟩
theorem LsOf.reads {h : Heap} {l : Addr} {n : Nat} {P : Nat → Addr → Prop} {d : Nat → PyData} (I : LsOf h.get? l n P) (k : ∀ i x, i < n → P i x → ∃ as, Reads h (.ref x) (d i) as) : ∃ as, Reads h (.ref l) (lsD n d) as := by
  obtain ⟨vs, o, e, ⟨c, q, dd, _⟩, rfl, r⟩ := I
  obtain ⟨as, ha⟩ := reads_all (h := h) vs d fun i v ev => by
    obtain ⟨x, rfl, p⟩ := r i v ev
    have hi : i < vs.length := by
      rcases Nat.lt_or_ge i vs.length with z | z
      · exact z
      · rw [List.getElem?_eq_none z] at ev; cases ev
    exact k i x hi p
  exact ⟨_, .list e c dd (by simpa using ha)⟩
theorem IntL.reads {h : Heap} {l : Addr} {n : Nat} {f : Nat → Int} (I : IntL h.get? l (lf n f)) : ∃ as, Reads h (.ref l) (lsD n fun i => .int (f i)) as := by
  obtain ⟨vs, hl, hi⟩ := I.list (h := h) (.refl _)
  have := reads_of_ints hl hi
  unfold lf at this
  rw [List.map_map] at this
  exact ⟨_, this⟩
/-- a grid of rows of ints, standing for good -/
def Grid (g : FM) (l : Addr) (n h w : Nat) (F : Nat → Nat → Nat → Int) : Prop := LsOf g l h fun i x => LsOf g x w fun j y => IntL g y (lf n (F i j))
theorem Grid.mono {g g' : FM} {l : Addr} {n h w : Nat} {F : Nat → Nat → Nat → Int} (I : Grid g l n h w F) (le : g.le g') : Grid g' l n h w F :=
  LsOf.mono I le fun _ _ p => LsOf.mono p le fun _ _ q => q.mono le
def gridD (n h w : Nat) (F : Nat → Nat → Nat → Int) : PyData := lsD h fun i => lsD w fun j => lsD n fun k => .int (F i j k)
theorem fine_grid (n h w : Nat) (F : Nat → Nat → Nat → Int) : Fine 3 (gridD n h w F) := fine_list fun _ _ => fine_list fun _ _ => fine_list fun _ _ => fine_int _
theorem lsD_ext {n : Nat} {d d' : Nat → PyData} (h : ∀ i, i < n → d i = d' i) : lsD n d = lsD n d' := by
  unfold lsD
  rw [List.map_congr_left fun a ha => h a (List.mem_range.mp ha)]
theorem gridD_ext {n h w : Nat} {F F' : Nat → Nat → Nat → Int} (e : ∀ i j k, i < h → j < w → k < n → F i j k = F' i j k) : gridD n h w F = gridD n h w F' :=
  lsD_ext fun i hi => lsD_ext fun j hj => lsD_ext fun k hk => by rw [e i j k hi hj hk]
theorem Grid.reads {h : Heap} {l : Addr} {n a c : Nat} {F : Nat → Nat → Nat → Int} (I : Grid h.get? l n a c F) : ∃ as, Reads h (.ref l) (gridD n a c F) as :=
  LsOf.reads I fun _ _ _ p => p.reads fun _ _ _ q => q.reads
section
variable {prog : Program} {w : World} {b : Heap} {S : List Addr} {g0 : FM} {h0 : Heap} {env : Env} {g : FM} {m mc : Str → Option Value} {mu : List (Addr × Obj)} {A : Around} {s : Shared} {E : Value → Shared → Prop}
theorem ne_grid {l l' : Addr} {n a c k : Nat} {F F' : Nat → Nat → Nat → Int} {Q : Value → Shared → Prop} (H : St b S g0 h0 env g m mc mu s.heap) (hA : Ao k A) (I : Grid g l n a c F) (I' : Grid g l' n a c F') (e : ∀ i j k, i < a → j < c → k < n → F i j k = F' i j k) (h : Q (.bool false) s) :
    wpAny (model prog w) A (compareOp .NotEq (.ref l) (.ref l')) Q E s := by
  obtain ⟨as, ra⟩ := (I.mono H.on.le).reads
  obtain ⟨bs, rb⟩ := (I'.mono H.on.le).reads
  rw [← gridD_ext e] at rb
  have f := fine_grid n a c F
  refine ne_dataH_same ra rb (f.shaped (by decide)) (f.shaped (by decide)) (by have := hA.un; unfold cLine; omega) f.2.2 ?_
  rw [PyProof.Rows.same_refl]; exact h
end
end Mine
set_option maxRecDepth 100000
namespace Mine
/-- a module over a ring -/
def Mod (C : Addr) (g : FM) (x r : Addr) : Prop := ∃ h1 t1, Inst g x C [⟨h1, .str "ring" t1, .ref r⟩]
theorem Mod.mono {C : Addr} {g g' : FM} {x r : Addr} (I : Mod C g x r) (le : g.le g') : Mod C g' x r := let ⟨h1, t1, i⟩ := I; ⟨h1, t1, i.mono le⟩
theorem Mod.at {C : Addr} {g : FM} {x r : Addr} (I : Mod C g x r) : ∃ d es k, At g x C d es k := let ⟨_, _, d, k, e1, e2⟩ := I; ⟨d, _, k, e1, e2⟩
/-- rows of polynomials -/
def Rows (C : Addr) (g : FM) (l r : Addr) (n h w : Nat) (F : Nat → Nat → Nat → Int) : Prop := LsOf g l h fun i x => LsOf g x w fun j y => Poly C g y r (lf n (F i j))
theorem Rows.mono {C : Addr} {g g' : FM} {l r : Addr} {n h w : Nat} {F : Nat → Nat → Nat → Int} (I : Rows C g l r n h w F) (le : g.le g') : Rows C g' l r n h w F :=
  LsOf.mono I le fun _ _ p => LsOf.mono p le fun _ _ q => q.mono le
/-- the rows as a matrix keeps them -/
def Stored (C : Addr) (g : FM) (l r : Addr) (n : Nat) (t : Bool) (h w : Nat) (F : Nat → Nat → Nat → Int) : Prop := match t with
  | false => Rows C g l r n h w F
  | true => Rows C g l r n w h fun i j => F j i
theorem Stored.mono {C : Addr} {g g' : FM} {l r : Addr} {n : Nat} {t : Bool} {h w : Nat} {F : Nat → Nat → Nat → Int} (I : Stored C g l r n t h w F) (le : g.le g') : Stored C g' l r n t h w F := by
  cases t
  · exact Rows.mono I le
  · exact Rows.mono I le
theorem Stored.turn {C : Addr} {g : FM} {l r : Addr} {n : Nat} {t : Bool} {h w : Nat} {F : Nat → Nat → Nat → Int} (I : Stored C g l r n t h w F) : Stored C g l r n (!t) w h fun i j => F j i := by
  cases t
  · exact I
  · exact I
theorem Stored.rows {C : Addr} {g : FM} {l r : Addr} {n : Nat} {t : Bool} {h w : Nat} {F : Nat → Nat → Nat → Int} (I : Stored C g l r n t h w F) : ∃ a c F', Rows C g l r n a c F' ∧ (h ≤ 1000 → w ≤ 1000 → a ≤ 1000 ∧ c ≤ 1000) ∧ (1 ≤ h → 1 ≤ w → 1 ≤ a ∧ 1 ≤ c) := by
  cases t
  · exact ⟨h, w, F, I, fun a b => ⟨a, b⟩, fun a b => ⟨a, b⟩⟩
  · exact ⟨w, h, _, I, fun a b => ⟨b, a⟩, fun a b => ⟨b, a⟩⟩
abbrev matD (h1 : Int) (t1 : Tok) (v : Addr) (h2 : Int) (t2 : Tok) (l : Addr) (h3 : Int) (t3 : Tok) (t : Bool) : List DictEntry := [⟨h1, .str "parent" t1, .ref v⟩, ⟨h2, .str "_data" t2, .ref l⟩, ⟨h3, .str "_transpose" t3, .bool t⟩]
/-- a matrix of h by w polynomials -/
def Mat (C CP : Addr) (g : FM) (x v r : Addr) (n h w : Nat) (F : Nat → Nat → Nat → Int) : Prop := ∃ h1 t1 h2 t2 h3 t3 l t, Inst g x C (matD h1 t1 v h2 t2 l h3 t3 t) ∧ Stored CP g l r n t h w F
theorem Mat.mono {C CP : Addr} {g g' : FM} {x v r : Addr} {n h w : Nat} {F : Nat → Nat → Nat → Int} (I : Mat C CP g x v r n h w F) (le : g.le g') : Mat C CP g' x v r n h w F :=
  let ⟨h1, t1, h2, t2, h3, t3, l, t, i, j⟩ := I; ⟨h1, t1, h2, t2, h3, t3, l, t, i.mono le, j.mono le⟩
theorem Mat.inst {C CP : Addr} {g : FM} {x v r : Addr} {n h w : Nat} {F : Nat → Nat → Nat → Int} (I : Mat C CP g x v r n h w F) : ∃ es, Inst g x C es := let ⟨_, _, _, _, _, _, _, _, i, _⟩ := I; ⟨_, i⟩
theorem LsOf.ext {g : FM} {l : Addr} {n : Nat} {P P' : Nat → Addr → Prop} (h : LsOf g l n P) (i : ∀ k x, k < n → P k x → P' k x) : LsOf g l n P' := by
  obtain ⟨vs, o, e, a, rfl, c⟩ := h
  refine ⟨vs, o, e, a, rfl, fun k v ev => ?_⟩
  obtain ⟨x, rfl, p⟩ := c k v ev
  refine ⟨x, rfl, i k x ?_ p⟩
  rcases Nat.lt_or_ge k vs.length with q | q
  · exact q
  · rw [List.getElem?_eq_none q] at ev; cases ev
theorem Rows.ext {C : Addr} {g : FM} {l r : Addr} {n h w : Nat} {F F' : Nat → Nat → Nat → Int} (I : Rows C g l r n h w F) (e : ∀ i j k, i < h → j < w → k < n → F i j k = F' i j k) : Rows C g l r n h w F' :=
  LsOf.ext I fun i x hi p => LsOf.ext p fun j y hj q => by rw [← lf_ext fun k hk => e i j k hi hj hk]; exact q
theorem Stored.ext {C : Addr} {g : FM} {l r : Addr} {n : Nat} {t : Bool} {h w : Nat} {F F' : Nat → Nat → Nat → Int} (I : Stored C g l r n t h w F) (e : ∀ i j k, i < h → j < w → k < n → F i j k = F' i j k) : Stored C g l r n t h w F' := by
  cases t
  · exact Rows.ext I e
  · exact Rows.ext I fun i j k hi hj hk => e j i k hj hi hk
theorem Mat.ext {C CP : Addr} {g : FM} {x v r : Addr} {n h w : Nat} {F F' : Nat → Nat → Nat → Int} (I : Mat C CP g x v r n h w F) (e : ∀ i j k, i < h → j < w → k < n → F i j k = F' i j k) : Mat C CP g x v r n h w F' :=
  let ⟨h1, t1, h2, t2, h3, t3, l, t, i, j⟩ := I; ⟨h1, t1, h2, t2, h3, t3, l, t, i, j.ext e⟩
end Mine
set_option maxRecDepth 100000
namespace Mine
theorem LsOf.pick {α : Type} [Inhabited α] {g : FM} {l : Addr} {n : Nat} {Q : α → Addr → Prop} (h : LsOf g l n fun _ x => ∃ a, Q a x) : ∃ f : Nat → α, LsOf g l n fun i x => Q (f i) x := by
  classical
  obtain ⟨vs, o, e, a, rfl, c⟩ := h
  refine ⟨fun i => if z : ∃ a : α, ∀ x, vs[i]? = some (.ref x) → Q a x then z.choose else default, vs, o, e, a, rfl, fun k v ev => ?_⟩
  obtain ⟨x, rfl, a, q⟩ := c k v ev
  have z : ∃ a : α, ∀ x, vs[k]? = some (.ref x) → Q a x := ⟨a, fun y ey => by rw [ev] at ey; cases ey; exact q⟩
  refine ⟨x, rfl, ?_⟩
  dsimp only
  rw [dif_pos z]
  exact z.choose_spec x ev
theorem LsOf.and {g : FM} {l : Addr} {n : Nat} {P : Nat → Addr → Prop} {R : Nat → Prop} (h : LsOf g l n fun i x => P i x ∧ R i) : LsOf g l n P ∧ ∀ i, i < n → R i := by
  refine ⟨LsOf.ext h fun _ _ _ p => p.1, fun i hi => ?_⟩
  obtain ⟨x, p⟩ := h.at hi
  exact p.2
/-- a grid whose parts are drawn -/
theorem Grid.pick {g : FM} {l : Addr} {n h w : Nat} {lo hi : Int} (I : LsOf g l h fun _ x => LsOf g x w fun _ y => ∃ a : Nat → Int, IntL g y (lf n a) ∧ ∀ k, k < n → lo ≤ a k ∧ a k ≤ hi) :
    ∃ F, Grid g l n h w F ∧ ∀ i j k, i < h → j < w → k < n → lo ≤ F i j k ∧ F i j k ≤ hi := by
  have I2 : LsOf g l h fun _ x => ∃ f : Nat → Nat → Int, LsOf g x w fun j y => IntL g y (lf n (f j)) ∧ ∀ k, k < n → lo ≤ f j k ∧ f j k ≤ hi := LsOf.ext I fun _ _ _ p => LsOf.pick (Q := fun a y => IntL g y (lf n a) ∧ ∀ k, k < n → lo ≤ a k ∧ a k ≤ hi) p
  obtain ⟨F, hF⟩ := LsOf.pick (Q := fun (f : Nat → Nat → Int) x => LsOf g x w fun j y => IntL g y (lf n (f j)) ∧ ∀ k, k < n → lo ≤ f j k ∧ f j k ≤ hi) I2
  have h2 : LsOf g l h fun i x => (LsOf g x w fun j y => IntL g y (lf n (F i j))) ∧ ∀ j, j < w → ∀ k, k < n → lo ≤ F i j k ∧ F i j k ≤ hi := LsOf.ext hF fun _ _ _ p => LsOf.and p
  obtain ⟨a, b⟩ := LsOf.and h2
  exact ⟨F, a, fun i j k hi hj hk => b i hi j hj k hk⟩
section
variable {prog : Program} {w : World} {A : Around} {s : Shared} {E : Value → Shared → Prop} {env : Env}
theorem x_expr {e pos} {Q : Flow → Shared → Prop} (h : wpAny (model prog w) A (eval e env) (fun _ => Q .next) E s)
    (hi : interactive env = false := by with_unfolding_all rfl) (hs : swapsWith e none pos.line env = pure false := by with_unfolding_all rfl) : wpAny (model prog w) A (exec (.Expr e pos) env) Q E s := wpAny_Expr_any h hi hs
end
section
variable {prog : Program} {w : World} {b : Heap} {S : List Addr} {g0 : FM} {h0 : Heap} {env : Env} {g : FM} {m mc : Str → Option Value} {mu pre post : List (Addr × Obj)} {A : Around} {s : Shared} {E : Value → Shared → Prop}
end
end Mine
set_option maxRecDepth 100000
namespace Mine
section
variable {h : Heap} {ts : List Addr}
theorem hide_get {a : Addr} {o : Obj} (T : ∀ P ∈ ts, h.get? P = some (tabObj #[])) (e : h.get? a = some o) (n : o ≠ tabObj #[]) : (hideAll h ts).get? a = some o :=
  hideAll_get ts e fun q => n (Option.some.inj (e.symm.trans (T a q)))
theorem hide_ns {a : Addr} {m : Str → Option Value} (T : ∀ P ∈ ts, h.get? P = some (tabObj #[])) (x : h.Ns a m) : (hideAll h ts).Ns a m := by
  obtain ⟨o, es, ep, e, d, r⟩ := x
  exact ⟨o, es, ep, hide_get T e (fun q => by rw [q] at d; cases d), d, r⟩
theorem hide_read {p : Program} {loose : List Str} {mg mb : Str → Option Value} (T : ∀ P ∈ ts, h.get? P = some (tabObj #[])) (x : TopRead p loose mg mb h) : TopRead p loose mg mb (hideAll h ts) := by
  obtain ⟨mc, h1, h2⟩ := x.nolimit
  exact ⟨hide_ns T x.g, hide_ns T x.b, ⟨mc, hide_ns T h1, h2⟩, x.builtins, x.free⟩
theorem hide_mod {g bm : Addr} {mg : Str → Option Value} {ob : Obj} (T : ∀ P ∈ ts, h.get? P = some (tabObj #[])) (x : BMod h g mg bm ob) : BMod (hideAll h ts) g mg bm ob :=
  ⟨hide_ns T x.ns, x.name, x.ne, hide_get T x.obj (fun q => by have := x.cls; rw [q] at this; cases this), x.cls, x.dict, x.data⟩
theorem hide_in {K : Frag} (X : K.In h) (n : ∀ P ∈ ts, K.lookup P = none) : K.In (hideAll h ts) := fun a o e => hideAll_get ts (X a o e) fun q => by rw [n a q] at e; cases e
theorem code_tab {K : Frag} {c P : Addr} (X : K.In h) (e : codeHdIn K c P = true) : isCodeTable h P := by
  obtain ⟨o, vs, _, _, _, _, _, _, _, a, b, d, f, _⟩ := codeHd_of_K X e
  exact ⟨c, o, vs, a, b, d, f⟩
theorem old_tabs {g g' : FM} {h' : Heap} (T : ∀ P ∈ ts, h.get? P = some (tabObj #[])) (C : ∀ P ∈ ts, isCodeTable h P) (ev : Ev ts g h g' h') (L : ∀ P ∈ ts, ∃ ps, h'.get? P = some (tabObj ps)) : OldK h h' := by
  refine ⟨fun a o e => ?_, ev.live⟩
  by_cases q : a ∈ ts
  · obtain ⟨ps, e'⟩ := L a q
    obtain rfl := Option.some.inj (e.symm.trans (T a q))
    exact .inr (.inl ⟨C a q, rfl, #[], ps, rfl, by rw [e']; simp⟩)
  · exact .inl (ev.keep a o q e)
end
theorem good_true {s s' : Shared} {cl : Str → Option Addr} {mean : ExcName → Option Value} {args : List WData} {c : ClaimW} (hr : ∀ k, c.raises args k = false) (hp : c.post args (.bool true) args = true)
    (k : OldK s.heap s'.heap) (os : s'.os = s.os) (gs : AllBare s'.gens) : GoodWG c cl mean args s (.ok (.ret (.bool true))) s' :=
  ⟨.inl ⟨_, _, [], rfl, hr, .bool true, hp, fun _ => ⟨.nil, fun _ q => nomatch q⟩⟩, k, os, gs⟩
end Mine
set_option maxRecDepth 100000
namespace Mine
def tupD (a c : Int) : PyData := .tuple [.int a, .int c]
theorem tup_shaped (a c : Int) : PySem.SeqAt.shaped (tupD a c) = true := by
  simp [PySem.SeqAt.shaped, tupD, PyData.canLay0, PyData.canLayAll0, PyData.depth, PyData.depthAll]
theorem tup_noMix (a c a' c' : Int) : PySem.SeqAt.noMix (tupD a c) (tupD a' c') = true := by simp [tupD, PySem.SeqAt.noMix, PySem.SeqAt.noMixAll]
theorem tup_same (a c a' c' : Int) : PySem.Spec.same (tupD a c) (tupD a' c') = decide (a = a' ∧ c = c') := by
  by_cases x : a = a' <;> by_cases y : c = c' <;> simp [tupD, PySem.Spec.same, PySem.Spec.sameAll, x, y]
theorem TupL.reads {h : Heap} {t : Addr} {a c : Int} {ta tc : Tok} (I : TupL h.get? t [.int a ta, .int c tc]) : ∃ as, Reads h (.ref t) (tupD a c) as := by
  obtain ⟨o, k, e, cl, d⟩ := I
  exact ⟨_, .tuple e cl d (.cons (.int _ _) (.cons (.int _ _) .nil))⟩
section
variable {prog : Program} {w : World} {b : Heap} {S : List Addr} {g0 : FM} {h0 : Heap} {env : Env} {g : FM} {m mc : Str → Option Value} {mu : List (Addr × Obj)} {A : Around} {s : Shared} {E : Value → Shared → Prop}
theorem ne_tup {t t' : Addr} {a c a' c' : Int} {ta tc ta' tc' : Tok} {r : Bool} {k : Nat} {Q : Value → Shared → Prop} (H : St b S g0 h0 env g m mc mu s.heap) (hA : Ao k A) (I : TupL g t [.int a ta, .int c tc]) (I' : TupL g t' [.int a' ta', .int c' tc']) (e : r = !decide (a = a' ∧ c = c')) (h : Q (.bool r) s) :
    wpAny (model prog w) A (compareOp .NotEq (.ref t) (.ref t')) Q E s := by
  obtain ⟨as, ra⟩ := (I.mono H.on.le).reads
  obtain ⟨bs, rb⟩ := (I'.mono H.on.le).reads
  refine ne_dataH_same ra rb (tup_shaped ..) (tup_shaped ..) (by have := hA.un; unfold cLine; omega) (tup_noMix ..) ?_
  rw [tup_same, ← e]; exact h
theorem eq_tup {t t' : Addr} {a c a' c' : Int} {ta tc ta' tc' : Tok} {r : Bool} {k : Nat} {Q : Value → Shared → Prop} (H : St b S g0 h0 env g m mc mu s.heap) (hA : Ao k A) (I : TupL g t [.int a ta, .int c tc]) (I' : TupL g t' [.int a' ta', .int c' tc']) (e : r = decide (a = a' ∧ c = c')) (h : Q (.bool r) s) :
    wpAny (model prog w) A (compareOp .Eq (.ref t) (.ref t')) Q E s := by
  obtain ⟨as, ra⟩ := (I.mono H.on.le).reads
  obtain ⟨bs, rb⟩ := (I'.mono H.on.le).reads
  refine eq_dataH_same ra rb (tup_shaped ..) (tup_shaped ..) (by have := hA.un; unfold cLine; omega) (tup_noMix ..) ?_
  rw [tup_same, ← e]; exact h
end
end Mine
set_option maxRecDepth 100000
namespace Mine
-- blocks with two clauses
section
variable {prog : Program} {w : World} {A : Around} {R : Result → Shared → Prop} {s : Shared}
theorem turn_in (elt it2 : Expr) (y : Str) (py : Pos) (g0 : Comprehension) (scope : Scope) (pos : Pos) (it acc : Value) (env : Env) :
    compTurn (.ListComp elt [g0, ⟨.Name y py, it2, [], 0⟩] scope pos) 1 it acc env = (standAt it2.pos >>= fun _ => pyNext it >>= fun r => match r with
      | none => pure (.done .next)
      | some v => letOwnedTupleGo (.Name y py) it v >>= fun _ => assign (.Name y py) env v >>= fun _ =>
        (eval elt env >>= fun x => call (.builtin "list.append") [acc, x] >>= fun _ => pure ()) >>= fun _ =>
          again (.compLoop (.ListComp elt [g0, ⟨.Name y py, it2, [], 0⟩] scope pos) 1 it acc env)) := by rfl
theorem turn_out (elt it1 it2 : Expr) (x y : Str) (px py : Pos) (scope : Scope) (pos : Pos) (it acc : Value) (env : Env) :
    compTurn (.ListComp elt [⟨.Name x px, it1, [], 0⟩, ⟨.Name y py, it2, [], 0⟩] scope pos) 0 it acc env = (standAt it1.pos >>= fun _ => pyNext it >>= fun r => match r with
      | none => pure (.done .next)
      | some v => letOwnedTupleGo (.Name x px) it v >>= fun _ => assign (.Name x px) env v >>= fun _ =>
        eval it2 env >>= fun z => standAt it2.pos >>= fun _ => foldedSetIterable it2 env z >>= fun z => holding [z] (pyIter z) >>= fun it' =>
          runOwn (.compStart (.ListComp elt [⟨.Name x px, it1, [], 0⟩, ⟨.Name y py, it2, [], 0⟩] scope pos) 1 it' acc env) env >>= fun _ =>
          again (.compLoop (.ListComp elt [⟨.Name x px, it1, [], 0⟩, ⟨.Name y py, it2, [], 0⟩] scope pos) 0 it acc env)) := by rfl
theorem start_in {elt it2 : Expr} {y : Str} {py : Pos} {g0 : Comprehension} {scope : Scope} {pos : Pos} {it acc : Value} {env : Env}
    (h0 : codeAny (model prog w) A (.compLoop (.ListComp elt [g0, ⟨.Name y py, it2, [], 0⟩] scope pos) 1 it acc env) R s)
    (h : wpAny (model prog w) A (pyIter it) (fun it' s' => codeAny (model prog w) A (.compLoop (.ListComp elt [g0, ⟨.Name y py, it2, [], 0⟩] scope pos) 1 it' acc env) R s') (notedBy (model prog w) A env fun x s' => R (.error x) s') s) :
    codeAny (model prog w) A (.compStart (.ListComp elt [g0, ⟨.Name y py, it2, [], 0⟩] scope pos) 1 it acc env) R s := by
  refine codeAny_of_tree ?_
  show wpAny _ _ ((compStart (.ListComp elt [g0, ⟨.Name y py, it2, [], 0⟩] scope pos) 1 it acc env).onRaise (fun x => do noteFrame x env; standAt theWindowsPlace)) _ _ s
  refine wpAny_notedAt ?_
  unfold compStart
  show wpAny _ _ (ask >>= _) _ _ s
  refine wpAny_bind (wpAny_askSetting (wpAny_ite ?_))
  split
  · exact wpAny_bind (wpAny_pure (wpAny_pure (And.intro rfl h0)))
  · first
      | exact wpAny_bind (wpAny_rule (wpAny_bind (wpAny_standAt (wpAny_bind (wpAny_mono h (fun it' s' h' => wpAny_pure (And.intro rfl h')) fun _ _ x => x)))))
      | (refine wpAny_bind (wpAny_rule ?_); show wpAny _ _ (standAt it2.pos >>= _) _ _ s; exact wpAny_bind (wpAny_standAt (wpAny_bind (wpAny_mono h (fun it' s' h' => wpAny_pure (And.intro rfl h')) fun _ _ x => x))))
end

section
variable {prog : Program} {w : World} {b : Heap}
variable {S : List Addr} {g0 : FM} {h0 : Heap} {env : Env} {g : FM} {m mc : Str → Option Value} {mu : List (Addr × Obj)}
variable {A : Around} {s : Shared} {E : Value → Shared → Prop}
theorem up_off {x y : Str} {v : Value} {m m₁ : Str → Option Value} (h : ∀ z, z ≠ y → m₁ z = m z) : ∀ z, z ≠ y → up y v m₁ z = m z := fun z hz => by
  unfold up
  rw [if_neg hz]; exact h z hz
/-- the inner clause's loop -/
theorem loop_in {elt it2 : Expr} {y : Str} {py : Pos} {gc : Comprehension} {scope : Scope} {pos : Pos} {D : Addr} {oD : Obj} {ys : List Value} {n : Nat} {P : Nat → Value → Prop} {xv : Value} {R : Result → Shared → Prop}
    (H : St b S g0 h0 env g m mc ((D, oD) :: mu) s.heap) (isl : IsL oD ys) (hlen : ys.length + n ≤ 1000) (src : Src prog w A n P g xv s.heap) (hk : env.scope.kind = .function) (hy : env.kindOf y = some .local)
    (J : Nat → FM → List Value → Prop) (j0 : J 0 g ys)
    (turn : ∀ j v I oI oD g₂ m₂ ys₂ h tk E', j < n → P j v → g.le g₂ → (∀ z, z ≠ y → m₂ z = m z) → J j g₂ ys₂ → St b S g0 h0 env g₂ (up y v m₂) mc ((D, oD) :: (I, oI) :: mu) h →
      wpAny (model prog w) A (eval elt env) (fun u s' => ∃ g₃ h₃ tk₃, s' = { s with heap := h₃, toks := tk₃ } ∧ g₂.le g₃ ∧ St b S g0 h0 env g₃ (up y v m₂) mc ((D, oD) :: (I, oI) :: mu) h₃ ∧ J (j + 1) g₃ (ys₂ ++ [u])) E' { s with heap := h, toks := tk })
    (done : ∀ g₂ m₂ ys₂ oD₂ h tk, g.le g₂ → (∀ z, z ≠ y → m₂ z = m z) → J n g₂ ys₂ → IsL oD₂ ys₂ → ys₂.length = ys.length + n → St b S g0 h0 env g₂ m₂ mc ((D, oD₂) :: mu) h → R (.ok .next) { s with heap := h, toks := tk }) :
    wpAny (model prog w) A (pyIter xv) (fun it s₃ => codeAny (model prog w) A (.compStart (.ListComp elt [gc, ⟨.Name y py, it2, [], 0⟩] scope pos) 1 it (.ref D) env) R s₃) E s := by
  refine src s _ _ rfl fun I fp Ws h' W w0 live fresh frz keep _ => ?_
  obtain ⟨oI, hI⟩ := live 0 h' w0
  have H' := (H.alloc fresh hI keep).perm (List.Perm.swap _ _ _)
  have mIn : ∀ {a : Addr}, a ∈ [I] → a = I := fun hp => List.mem_singleton.mp hp
  have main : ∀ s₃ : Shared, s₃ = { s with heap := h' } → codeAny (model prog w) A (.compLoop (.ListComp elt [gc, ⟨.Name y py, it2, [], 0⟩] scope pos) 1 (.ref I) (.ref D) env) R s₃ := by
    rintro s₃ rfl
    refine codeAny_loop rfl (fun k s' => ∃ i g₁ ys₁ m₁ oD oI h₁ tk, s' = { s with heap := h₁, toks := tk } ∧ k = n - i ∧ i ≤ n ∧ Ws i h₁ ∧ g.le g₁ ∧ (∀ z, z ≠ y → m₁ z = m z) ∧ J i g₁ ys₁ ∧ ys₁.length = ys.length + i ∧ IsL oD ys₁ ∧ St b S g0 h0 env g₁ m₁ mc ((D, oD) :: (I, oI) :: mu) h₁) ?_ n
      ⟨0, g, ys, m, oD, oI, h', s.toks, rfl, rfl, Nat.zero_le _, w0, .refl g, fun _ _ => rfl, j0, rfl, isl, H'⟩
    rintro k s' ⟨i, g₁, ys₁, m₁, oD₁, oI₁, h₁, tk, rfl, rfl, hi, w1, le1, em, j1, hl1, isl1, H1⟩
    show wpAny _ _ ((compTurn (.ListComp elt [gc, ⟨.Name y py, it2, [], 0⟩] scope pos) 1 (.ref I) (.ref D) env).onRaise (fun x => do noteFrame x env; theTreesLotGoes x)) _ _ _
    refine wpAny_noted ?_
    rw [turn_in]
    refine wpAny_bind (wpAny_standAt (wpAny_bind ?_))
    by_cases hlt : i < n
    · refine W.item i _ _ _ hlt w1 fun v h₂ tk₂ hP w2 kp => ?_
      obtain ⟨oI', hI'⟩ := live _ _ w2
      have H2 : St b S g0 h0 env g₁ m₁ mc ((D, oD₁) :: (I, oI') :: mu) h₂ := ((H1.perm (List.Perm.swap _ _ _)).upd hI' fun a o na e => kp a o (fun q => na (mIn q)) e).perm (List.Perm.swap _ _ _)
      dsimp only
      refine wpAny_bind (wpAny_of_eq (a := ()) rfl ?_)
      refine wpAny_bind (wpAny_assign_Name (st_loc H2 (fun h₃ H3 => ?_) hk hy))
      have w3 : Ws (i + 1) h₃ := W.frame _ _ _ w2 fun a ha o e => by
        by_cases q : a = I
        · subst q
          rw [hI'] at e; cases e; exact H3.mus (a, oI') (.tail _ (.head _))
        · obtain ⟨o', hg⟩ := frz a ha q
          have q2 := H2.on a o' (le1 a o' hg)
          have q3 := H3.on a o' (le1 a o' hg)
          rw [e] at q2; cases q2; exact q3
      refine wpAny_bind (wpAny_bind (wpAny_mono (turn i v I oI' oD₁ g₁ m₁ ys₁ h₃ _ _ hlt hP le1 em j1 H3) (fun u s₄ z => ?_) fun _ _ z => z))
      obtain ⟨g₂, h₄, tk₄, rfl, le2, H4, j2⟩ := z
      have w4 : Ws (i + 1) h₄ := W.frame _ _ _ w3 fun a ha o e => by
        by_cases q : a = I
        · subst q
          have q3 := H3.mus (a, oI') (.tail _ (.head _))
          rw [e] at q3; cases q3; exact H4.mus (a, oI') (.tail _ (.head _))
        · obtain ⟨o', hg⟩ := frz a ha q
          have q3 := H3.on a o' (le1 a o' hg)
          have q4 := H4.on a o' (le2 _ _ (le1 a o' hg))
          rw [e] at q3; cases q3; exact q4
      have hDl : h₄.get? D = some oD₁ := H4.mus (D, oD₁) (.head _)
      refine wpAny_bind (wpAny_list_append_plain (isl1.plain hDl) (fun h₅ hL5 hs5 => ?_) (by rw [List.size_toArray, hl1, sizeLine_eq]; omega))
      obtain ⟨oD', hD5, isl5⟩ := plain_isl (ys := ys₁ ++ [u]) hL5 (by simp)
      have H5 := H4.upd hD5 hs5.extBut
      have neI : ∀ x ∈ owns env ((D, oD₁) :: mu), x ≠ I := (H1.perm (List.Perm.swap _ _ _)).ne_of_mu
      have hDI : D ≠ I := neI _ (owns_mu (p := (D, oD₁)) (.head _))
      refine wpAny_pure (wpAny_pure ⟨rfl, n - (i + 1), Nat.sub_lt_sub_left hlt (Nat.lt_succ_self i), i + 1, g₂, ys₁ ++ [u], _, oD', oI', h₅, tk₄, rfl, rfl, hlt, W.frame _ _ _ w4 fun a ha o e => hs5.extBut a o (fun q => ?_) e, le1.trans le2, up_off (x := y) em, j2, by rw [List.length_append, hl1]; simp; omega, isl5, H5⟩)
      subst q
      obtain ⟨o', hg⟩ := frz a ha hDI
      have := (H5.own a (owns_mu (p := (a, oD')) (.head _))).1
      rw [le2 _ _ (le1 _ _ hg)] at this; cases this
    · have hin : i = n := Nat.le_antisymm hi (Nat.not_lt.mp hlt)
      subst hin
      refine W.done _ _ _ w1 fun h₂ tk₂ kp => ?_
      have H2 := (H1.perm (List.Perm.swap _ _ _)).dropJunk (H.h0fresh fresh) fun a o na e => kp a o (fun q => na (mIn q)) e
      exact wpAny_pure (done g₁ m₁ ys₁ oD₁ h₂ tk₂ le1 em j1 isl1 hl1 H2)
  exact start_in (main _ rfl) (W.self 0 _ _ _ w0 (main _ rfl))
abbrev Lc2Go (prog : Program) (w : World) (A : Around) (E : Value → Shared → Prop) (env : Env) (scope : Scope) (cl : List (Str × Addr)) (e : Expr) (Q : Value → Shared → Prop) (xv : Value) (s : Shared) : Prop :=
  wpAny (model prog w) A (pyIter xv) (fun it s₂ => wpAny (model prog w) A (newList []) (fun acc s₃ => wpAny (model prog w) A (newFunctionEnv scope env.globals cl [] env.qual none .none (some env)) (fun cenv s₄ =>
      codeAny (model prog w) A (.compStart e 0 it acc { cenv with scope := relabel scope env }) (compPost (model prog w) A E none Q acc cenv.locals) s₄) E s₃) E s₂) E s
theorem ev_lc2 {elt it1 it2 : Expr} {x y : Str} {px py : Pos} {scope : Scope} {cl : List (Str × Addr)} {cn : List Str} {pos : Pos} {Q : Value → Shared → Prop} (ok : CompOk env scope cl cn x false)
    (h : CompOk env scope cl cn x false → wpAny (model prog w) A (eval it1 env) (Lc2Go prog w A E env scope cl (.ListComp elt [⟨.Name x px, it1, [], 0⟩, ⟨.Name y py, it2, [], 0⟩] scope pos) Q) E s) (hs : ∀ x, foldedSetIterable it1 env x = pure x := by intro _; rfl) :
    wpAny (model prog w) A (eval (.ListComp elt [⟨.Name x px, it1, [], 0⟩, ⟨.Name y py, it2, [], 0⟩] scope pos) env) Q E s := by
  rw [eval_ListComp]
  exact wpAny_comprehension_free (use := none) rfl hs ok.clos ok.kind ok.loc (h ok)
theorem lc2_run {elt it1 it2 : Expr} {x y : Str} {px py : Pos} {scope : Scope} {cl : List (Str × Addr)} {cn : List Str} {pos : Pos} {n : Nat} {P : Nat → Value → Prop} {xv : Value} {Q : Value → Shared → Prop}
    (ok : CompOk env scope cl cn x false) (H : St b S g0 h0 env g m mc mu s.heap) (src : Src prog w A n P g xv s.heap)
    (J : Nat → FM → List Value → Prop) (j0 : J 0 g [])
    (turn : ∀ i v C D oD I oI g₁ m₁ ys h₁ tk E' (Ke : Value → Shared → Prop), i < n → P i v → g.le g₁ → J i g₁ ys → IsL oD ys → St b (cl.map (·.2) ++ mu.map (·.1)) g s.heap (cenvOf scope cl C env) g₁ (up x v m₁) mc ((D, oD) :: (I, oI) :: mu) h₁ →
      wpAny (model prog w) A (eval it2 (cenvOf scope cl C env)) (fun xv₂ s₂ => wpAny (model prog w) A (pyIter xv₂) (fun it s₃ => codeAny (model prog w) A (.compStart (.ListComp elt [⟨.Name x px, it1, [], 0⟩, ⟨.Name y py, it2, [], 0⟩] scope pos) 1 it (.ref D) (cenvOf scope cl C env)) (fun r s' => match r with
        | .ok _ => ∃ g₂ m₂ ys₂ oD₂ h₂ tk₂, s' = { s with heap := h₂, toks := tk₂ } ∧ g₁.le g₂ ∧ J (i + 1) g₂ ys₂ ∧ IsL oD₂ ys₂ ∧ St b (cl.map (·.2) ++ mu.map (·.1)) g s.heap (cenvOf scope cl C env) g₂ m₂ mc ((D, oD₂) :: (I, oI) :: mu) h₂
        | .error e => Ke e s') s₃) E' s₂) E' { s with heap := h₁, toks := tk })
    (done : ∀ g₁ ys D oD h₁ tk, g.le g₁ → J n g₁ ys → IsL oD ys → h0.get? D = none → St b S g0 h0 env g₁ m mc ((D, oD) :: mu) h₁ → Q (.ref D) { s with heap := h₁, toks := tk })
    (hs2 : ∀ C z, foldedSetIterable it2 (cenvOf scope cl C env) z = pure z := by intro _ _; rfl) :
    Lc2Go prog w A E env scope cl (.ListComp elt [⟨.Name x px, it1, [], 0⟩, ⟨.Name y py, it2, [], 0⟩] scope pos) Q xv s := by
  refine src s _ _ rfl fun I fp Ws h' W w0 live fresh frz keep hsz => wpAny_newList ?_
  simp only [newFunctionEnv, Option.isSome_some, if_true]
  refine wpAny_bind (wpAny_alloc ?_)
  refine wpAny_bind (wpAny_layCells _ (fun name kind cells => by cases kind == NameKind.cell <;> simp) _ _ _ _ ?_)
  refine wpAny_bind ?_
  rw [List.forIn_nil]
  refine wpAny_pure (wpAny_pure ?_)
  dsimp only
  generalize hH3 : h'.push { cls := .type "list", data := .seq ([] : List Value).toArray } = H₃
  have sz3 : H₃.objs.size = h'.objs.size + 1 := by rw [← hH3, Heap.size_push]
  have h'3 : ∀ a o, h'.get? a = some o → H₃.get? a = some o := fun a o e => hH3 ▸ Heap.get?_push_of_some _ e
  have k3 : ∀ a o, s.heap.get? a = some o → H₃.get? a = some o := fun a o e => h'3 a o (keep a o e)
  have hD3 : H₃.get? h'.objs.size = some { cls := .type "list", data := .seq ([] : List Value).toArray } := hH3 ▸ Heap.get?_push_size _ rfl
  have sz4 : (H₃.push { cls := .type "dict", data := .dict #[] }).objs.size = H₃.objs.size + 1 := Heap.size_push ..
  rw [sz4]
  generalize hH4 : pushCells (H₃.push { cls := .type "dict", data := .dict #[] }) scope.names = H₄
  have k4 : ∀ a o, H₃.get? a = some o → H₄.get? a = some o := fun a o e => hH4 ▸ pushCells_keeps _ _ _ _ (Heap.get?_push_of_some _ e)
  have hle : s.heap.objs.size ≤ H₃.objs.size := by rw [sz3]; exact Nat.le_succ_of_le hsz
  obtain ⟨oI, hI⟩ := live 0 h' w0
  have ltI : @LT.lt Nat _ I h'.objs.size := Heap.lt_size hI
  have hxcl : ∀ q ∈ cl, q.1 ≠ x := fun q hq e => ok.off (ok.names ▸ e ▸ List.mem_map_of_mem hq)
  obtain ⟨Hi0, ow⟩ := H.inner (mc' := mc) ok.caught ok.names ok.nd k3 hle hH4.symm (fun q hq => rfl) (fun y hy => by
      obtain ⟨h1, h2⟩ := ok.own (y, .cell) hy rfl
      cases h1)
  have nI : I ∉ owns (cenvOf scope cl H₃.objs.size env) mu := fun q => by
    rcases ow _ q with ⟨o, e⟩ | q
    · rw [fresh] at e; cases e
    · omega
  have Hi1 := Hi0.adopt (k4 _ _ (h'3 _ _ hI)) nI (H.gfresh fresh) fresh
  have freshD : s.heap.get? h'.objs.size = none := none_of_ge hsz
  have nD : h'.objs.size ∉ owns (cenvOf scope cl H₃.objs.size env) ((I, oI) :: mu) := fun q => by
    have : h'.objs.size = I ∨ h'.objs.size ∈ owns (cenvOf scope cl H₃.objs.size env) mu := by
      unfold owns at q ⊢
      rcases List.mem_cons.mp q with q | q
      · exact .inr (q ▸ .head _)
      · rcases List.mem_append.mp q with q | q
        · exact .inr (.tail _ (List.mem_append_left _ q))
        · rcases List.mem_cons.mp q with q | q
          · exact .inl q
          · exact .inr (.tail _ (List.mem_append_right _ q))
    rcases this with q | q
    · rw [← q] at ltI; exact Nat.lt_irrefl _ ltI
    · rcases ow _ q with ⟨o, e⟩ | q
      · rw [freshD] at e; cases e
      · omega
  have Hi2 := Hi1.adopt (k4 _ _ hD3) nD (H.gfresh freshD) freshD
  generalize hDD : h'.objs.size = D at *
  generalize hCC : H₃.objs.size = C at *
  have w4 : Ws 0 H₄ := W.frame _ _ _ w0 fun a _ o e => k4 a o (h'3 a o e)
  have mIn : ∀ {a : Addr}, a ∈ [I] → a = I := fun hp => List.mem_singleton.mp hp
  have main : ∀ s₃ : Shared, s₃ = { s with heap := H₄ } → codeAny (model prog w) A (.compLoop (.ListComp elt [⟨.Name x px, it1, [], 0⟩, ⟨.Name y py, it2, [], 0⟩] scope pos) 0 (.ref I) (.ref D) (cenvOf scope cl C env)) (compPost (model prog w) A E none Q (.ref D) C) s₃ := by
    rintro s₃ rfl
    refine codeAny_loop rfl (fun k s' => ∃ i g₁ ys m₁ oD oI h₁ tk, s' = { s with heap := h₁, toks := tk } ∧ k = n - i ∧ i ≤ n ∧ Ws i h₁ ∧ g.le g₁ ∧ J i g₁ ys ∧ IsL oD ys ∧ St b (cl.map (·.2) ++ mu.map (·.1)) g s.heap (cenvOf scope cl C env) g₁ m₁ mc ((D, oD) :: (I, oI) :: mu) h₁) ?_ n
      ⟨0, g, [], no, _, oI, H₄, s.toks, rfl, rfl, Nat.zero_le _, w4, .refl g, j0, ⟨rfl, 0, rfl, rfl⟩, Hi2⟩
    rintro k s' ⟨i, g₁, ys, m₁, oD₁, oI₁, h₁, tk, rfl, rfl, hi, w1, le1, j1, isl1, H1⟩
    show wpAny _ _ ((compTurn (.ListComp elt [⟨.Name x px, it1, [], 0⟩, ⟨.Name y py, it2, [], 0⟩] scope pos) 0 (.ref I) (.ref D) (cenvOf scope cl C env)).onRaise (fun x => do noteFrame x (cenvOf scope cl C env); theTreesLotGoes x)) _ _ _
    refine wpAny_noted ?_
    rw [turn_out]
    refine wpAny_bind (wpAny_standAt (wpAny_bind ?_))
    by_cases hlt : i < n
    · refine W.item i _ _ _ hlt w1 fun v h₂ tk₂ hP w2 kp => ?_
      obtain ⟨oI', hI'⟩ := live _ _ w2
      have H2 : St b (cl.map (·.2) ++ mu.map (·.1)) g s.heap (cenvOf scope cl C env) g₁ m₁ mc ((D, oD₁) :: (I, oI') :: mu) h₂ := ((H1.perm (List.Perm.swap _ _ _)).upd hI' fun a o na e => kp a o (fun q => na (mIn q)) e).perm (List.Perm.swap _ _ _)
      dsimp only
      refine wpAny_bind (wpAny_of_eq (a := ()) rfl ?_)
      have hk : (cenvOf scope cl C env).scope.kind = .function := ok.kind
      refine wpAny_bind (wpAny_assign_Name (st_loc H2 (fun h₃ H3 => ?_) hk ok.tgt))
      have w3 : Ws (i + 1) h₃ := W.frame _ _ _ w2 fun a ha o e => by
        by_cases q : a = I
        · subst q
          rw [hI'] at e; cases e; exact H3.mus (a, oI') (.tail _ (.head _))
        · obtain ⟨o', hg⟩ := frz a ha q
          have q2 := H2.on a o' (le1 a o' hg)
          have q3 := H3.on a o' (le1 a o' hg)
          rw [e] at q2; cases q2; exact q3
      refine wpAny_bind (wpAny_mono (turn i v C D oD₁ I oI' g₁ m₁ ys h₃ _ _ (cameBackBy (model prog w) A (cenvOf scope cl C env) (notedBy (model prog w) A (cenvOf scope cl C env) fun e s' => compPost (model prog w) A E none Q (.ref D) C (.error e) s')) hlt hP le1 j1 isl1 H3) (fun z s₄ hz => ?_) fun _ _ z => z)
      refine wpAny_bind (wpAny_standAt (wpAny_bind (wpAny_of_eq (hs2 C z) (wpAny_bind (wpAny_holding (wpAny_mono hz (fun it s₅ hz => ?_) fun _ _ z => z))))))
      refine wpAny_bind (wpAny_runOwn (codeAny_mono hz fun r s₆ hr => ?_))
      cases r with
      | error e => exact hr
      | ok f =>
        obtain ⟨g₂, m₂, ys₂, oD₂, h₄, tk₄, rfl, le2, j2, isl2, H4⟩ := hr
        refine wpAny_pure ⟨rfl, n - (i + 1), Nat.sub_lt_sub_left hlt (Nat.lt_succ_self i), i + 1, g₂, ys₂, m₂, oD₂, oI', h₄, tk₄, rfl, rfl, hlt, W.frame _ _ _ w3 fun a ha o e => ?_, le1.trans le2, j2, isl2, H4⟩
        by_cases q : a = I
        · subst q
          have q3 := H3.mus (a, oI') (.tail _ (.head _))
          rw [e] at q3; cases q3; exact H4.mus (a, oI') (.tail _ (.head _))
        · obtain ⟨o', hg⟩ := frz a ha q
          have q3 := H3.on a o' (le1 a o' hg)
          have q4 := H4.on a o' (le2 _ _ (le1 a o' hg))
          rw [e] at q3; cases q3; exact q4
    · have hin : i = n := Nat.le_antisymm hi (Nat.not_lt.mp hlt)
      subst hin
      refine W.done _ _ _ w1 fun h₂ tk₂ kp => ?_
      have H2 := (H1.perm (List.Perm.swap _ _ _)).dropJunk fresh fun a o na e => kp a o (fun q => na (mIn q)) e
      refine wpAny_pure ?_
      have Ho := H.outer ok.caught H2 (fun q hq => cells_acc _ _ _ _ hq) (fun _ _ => rfl) rfl fun q hq => .tail _ hq
      have CO := (H2.own C owns_L)
      have DO := (H2.own D (owns_mu (p := (D, oD₁)) (.head _)))
      obtain ⟨oC, esC, epC, hC2, rC⟩ := H2.ns
      have hC2 : h₂.get? C = some oC := hC2
      have hD2 := H2.mus (D, oD₁) (.head _)
      have freshC : s.heap.get? C = none := none_of_ge hle
      have Ho1 := Ho.adopt hD2 (H.muAddr rfl freshD) DO.1 (H.h0fresh freshD)
      have hCD : C ≠ D := H2.ne_of_mu _ owns_L
      have Ho2 := Ho1.adopt hC2 (fun q => by
        have : C = D ∨ C ∈ owns env mu := by
          unfold owns at q ⊢
          rcases List.mem_cons.mp q with q | q
          · exact .inr (q ▸ .head _)
          · rcases List.mem_append.mp q with q | q
            · exact .inr (.tail _ (List.mem_append_left _ q))
            · rcases List.mem_cons.mp q with q | q
              · exact .inl q
              · exact .inr (.tail _ (List.mem_append_right _ q))
        rcases this with q | q
        · exact hCD q
        · exact H.muAddr rfl freshC q) CO.1 (H.h0fresh freshC)
      exact ⟨_, ⟨oC, esC, epC, hC2, rC⟩, fun h' hs => done g₁ ys D oD₁ h' tk₂ le1 j1 isl1 (H.h0fresh freshD) (Ho2.dropJunk (H.h0fresh freshC) fun a o na e => hs.extBut a o na e)⟩
  exact codeAny_compStart_list (main _ rfl) (W.self 0 _ _ _ w4 (main _ rfl))
end
end Mine
set_option maxRecDepth 100000
namespace Mine
def AllT (vs : List Value) : Prop := ∀ v ∈ vs, v = .bool true
theorem AllT.nil : AllT [] := fun _ h => nomatch h
theorem AllT.push {vs : List Value} (h : AllT vs) : AllT (vs ++ [.bool true]) := fun v hv => by
  rcases List.mem_append.mp hv with q | q
  · exact h v q
  · exact List.mem_singleton.mp q
theorem AllT.bools : ∀ {vs : List Value}, AllT vs → PyProof.Rows.LSm.BoolsAre vs (List.replicate vs.length true)
  | [], _ => .nil
  | v :: r, h => by
    obtain rfl := h v (.head _)
    exact .cons _ (AllT.bools fun x hx => h x (.tail _ hx))
section
variable {prog : Program} {w : World} {K : Frag} {p : Program} {loose : List Str} {mean : ExcName → Option Value} {mg mb : Str → Option Value} {b : Heap}
variable {S : List Addr} {g0 : FM} {h0 : Heap} {env : Env} {g : FM} {m mc : Str → Option Value} {mu : List (Addr × Obj)} {A : Around} {s : Shared} {E : Value → Shared → Prop}
theorem all_mu {l : Addr} {o : Obj} {vs : List Value} {Q : Value → Shared → Prop} (hh : A.handled = none) (H : St b S g0 h0 env g m mc ((l, o) :: mu) s.heap) (isl : IsL o vs) (ht : AllT vs)
    (h : ∀ h' tk, St b S g0 h0 env g m mc mu h' → Q (.bool true) { s with heap := h', toks := tk }) : wpAny (model prog w) A (call (.builtin "all") [.ref l]) Q E s := by
  refine PyProof.Rows.LSm.all_bools (frame0 H.ns) (restN _ _) hh (isl.at_ (H.mus _ (.head _))) ht.bools fun h' tk F N => ?_
  have e : (List.replicate vs.length true).all id = true := by simp
  rw [e]
  have k : ∀ a o, a ≠ env.locals → s.heap.get? a = some o → h'.get? a = some o := fun a o ne e => (N (a, o) (mem_restOf.mpr ⟨by simpa using ne, e⟩)).1
  exact h h' tk (H.drop.keepsL F.ns fun a o ne e => k a o ne e)
/-- two objects of a class that says itself what is equal -/
theorem eq_own {x y C f : Addr} {es es' : List DictEntry} {Q : Value → Shared → Prop} {k : Nat} (W : Wd K p loose mean mg mb b) (H : St b S g0 h0 env g m mc mu s.heap) (hA : Ao k A) (I : Inst g x C es) (J : Inst g y C es') (hn : notFirst K C (.ref C) = true)
    (hs : findIn K (.ref C) "__eq__" = some (some (.ref f))) (hf : isFn K (.ref f) = true) (h : wpAny (model prog w) A (call (.ref f) [.ref x, .ref y]) (PySem.W.CmpBack Q) E s) : wpAny (model prog w) A (compareOp .Eq (.ref x) (.ref y)) Q E s := by
  obtain ⟨d, n, i⟩ := (I.mono H.on).at_
  obtain ⟨d', n', j⟩ := (J.mono H.on).at_
  exact cmp_ofEq (cmp_K (op := .Eq) (by have := hA.un; unfold cLine; omega) H.F W.X i j.type hn hs hf h)
end
end Mine
set_option maxRecDepth 100000
namespace Mine
section
variable {prog : Program} {w : World} {K : Frag} {p : Program} {loose : List Str} {mean : ExcName → Option Value} {mg mb : Str → Option Value} {b : Heap}
variable {S : List Addr} {g0 : FM} {h0 : Heap} {env : Env} {g g' : FM} {m mc : Str → Option Value} {mu : List (Addr × Obj)}
variable {M : Model} {A : Around} {s : Shared} {E : Value → Shared → Prop} {h h' : Heap}
/-- a def's entry, where it may raise -/
theorem enterE {name qual : Str} {params : Arguments} {body : List Stmt} {scope : Scope} {dV kV doc pm cdv ct oc : Value} {an od : Option Addr} {osl : Array (Option Value)} {f : Addr} {pos : List Value} {kw : List (Str × Value)} {binds : List (Str × Value)} {n : Nat} {R : Result → Shared → Prop}
    (W : Wd K p loose mean mg mb b) (hB : Bg b g s.heap) (hA : Ao (n + 1) A)
    (ho : K.lookup f = some ⟨oc, od, .func (fnOf name qual params body scope dV kV doc pm an cdv ct), osl⟩) (hcd : codeIn K cdv qual = true)
    (hbind : BindsTo s (fnOf name qual params body scope dV kV doc pm an cdv ct) ⟨pos, kw⟩ binds)
    (hkind : (binds.all fun y => scope.names.lookup y.1 == some .local || scope.names.lookup y.1 == some .cell) = true)
    (hnd : ((cellsFrom 0 scope.names []).map (·.1)).Nodup)
    (hmu : ∀ q ∈ mu, s.heap.get? q.1 = some q.2 ∧ g q.1 = none) (ndm : (mu.map (·.1)).Nodup)
    (hm : ∀ L, bindL (envOfC qual scope L f cdv).kindOf binds (fun _ => none) = m) (hmc : ∀ L, bindC (envOfC qual scope L f cdv).kindOf binds (fun _ => none) = mc)
    (h : ∀ L h₁ tk, Ao n (A.deeper (envOfC qual scope L f cdv)) → s.heap.get? L = none → St b (mu.map (·.1)) g s.heap (envOfC qual scope L f cdv) g m mc mu h₁ →
      wpAny (model prog w) (A.deeper (envOfC qual scope L f cdv)) (execs body (envOfC qual scope L f cdv)) (fun fl s' => R (.ok (.ret (match fl with | .ret v => v | _ => .none))) s')
        (fun e s' => wpAny (model prog w) (A.deeper (envOfC qual scope L f cdv)) (leaving (envOfC qual scope L f cdv) e) (fun _ s'' => R (.error e) s'') (fun e' s'' => R (.error e') s'') s') { s with heap := h₁, toks := tk })
    (hco : scope.isCoroutine = false := by with_unfolding_all rfl) (hgen : scope.isGenerator = false := by with_unfolding_all rfl) (hk : scope.kind = .function := by with_unfolding_all rfl) :
    codeAny (model prog w) A (.call (.ref f) ⟨pos, kw⟩) R s := by
  obtain ⟨hbg, hlo, on⟩ := hB
  have up : ∀ a o, b.get? a = some o → s.heap.get? a = some o := fun a o e => on a o (hbg a o e)
  refine codeAny_call_function hA.room (up _ _ (W.X _ _ ho)) rfl hco hgen rfl (codeRec_of (W.X.keeps up) hcd) (hbind _ _ _ _ ?_)
  refine wpAny_newFunctionEnv_cells hk (kindsX hkind _) fun env' he s' x => ?_
  subst he
  refine ⟨(W.T.nolimit.keeps up).keeps x.toInCall.keep, codeAny_func ?_⟩
  obtain ⟨h₁, tk, rfl⟩ := x.toInCall.same
  have keep := x.toInCall.keep
  have fresh : ∀ (a : Addr) (o : Obj), s.heap.get? a = some o → a < s.heap.objs.size := fun a o e => Heap.lt_size e
  have cge := cells_ge scope.names (s.heap.objs.size + 1) (s.heap.objs.size + 1) [] (Nat.le_refl _) (fun _ q => nomatch q)
  have none_of : ∀ a, s.heap.objs.size ≤ a → s.heap.get? a = none := fun a ha => by
    cases q : s.heap.get? a with
    | none => rfl
    | some o => exact absurd (fresh a o q) (Nat.not_lt.mpr ha)
  have gnone : ∀ a, s.heap.get? a = none → g a = none := fun a ha => by
    cases q : g a with
    | none => rfl
    | some o => rw [on a o q] at ha; cases ha
  have H : St b (mu.map (·.1)) g s.heap (envOfC qual scope s.heap.objs.size f cdv) g (bindL (envOfC qual scope s.heap.objs.size f cdv).kindOf binds fun _ => none) (bindC (envOfC qual scope s.heap.objs.size f cdv).kindOf binds fun _ => none) mu h₁ := by
    refine ⟨x.toInCall.ns, fun y c hc => ?_, hbg, hlo, Ev.keeps on keep, fun q hq => keep _ _ (hmu q hq).1, ?_, ?_, fun a ha => ?_⟩
    · have nn : ((cellsFrom (s.heap.objs.size + 1) scope.names []).map (·.1)).Nodup := by rw [cells_names scope.names _ 0 [] [] rfl]; exact hnd
      have hl : (cellsFrom (s.heap.objs.size + 1) scope.names []).lookup y = some c := by
        cases q : (cellsFrom (s.heap.objs.size + 1) scope.names []).lookup y with
        | none => exact absurd (List.lookup_eq_none_iff.mp q _ hc) (by simp)
        | some d => rw [cell_fun nn (mem_of_lookup q) hc]
      exact x.cell y c hl
    · show (s.heap.objs.size :: ((cellsFrom (s.heap.objs.size + 1) scope.names []).map (·.2) ++ mu.map (·.1))).Nodup
      refine List.nodup_cons.mpr ⟨fun q => ?_, List.nodup_append.mpr ⟨cells_nodup _ _ _ List.nodup_nil (fun _ q => nomatch q), ndm, fun y hy z hz e => ?_⟩⟩
      · rcases List.mem_append.mp q with q | q
        · obtain ⟨pr, hp, e⟩ := List.mem_map.mp q
          have := cge pr hp
          omega
        · obtain ⟨pr, hp, e⟩ := List.mem_map.mp q
          have := fresh _ _ (hmu pr hp).1
          exact absurd this (by rw [show pr.1 = s.heap.objs.size from e]; exact Nat.lt_irrefl _)
      · obtain ⟨pr, hp, e1⟩ := List.mem_map.mp hy
        obtain ⟨pr', hp', e2⟩ := List.mem_map.mp hz
        have h1 := cge pr hp
        have h2 := fresh _ _ (hmu pr' hp').1
        have e3 : pr.2 = pr'.1 := by rw [show pr.2 = y from e1, show pr'.1 = z from e2]; exact e
        rw [← e3] at h2
        exact absurd h2 (Nat.not_lt.mpr (Nat.le_of_succ_le h1))
    · show ((cellsFrom (s.heap.objs.size + 1) scope.names []).map (·.1)).Nodup
      rw [cells_names scope.names _ 0 [] [] rfl]; exact hnd
    · rcases List.mem_cons.mp ha with rfl | ha
      · have := none_of _ (Nat.le_refl _)
        exact ⟨gnone _ this, .inl this⟩
      · rcases List.mem_append.mp ha with ha | ha
        · obtain ⟨pr, hp, rfl⟩ := List.mem_map.mp ha
          have := none_of pr.2 (Nat.le_of_succ_le (cge pr hp))
          exact ⟨gnone _ this, .inl this⟩
        · obtain ⟨pr, hp, rfl⟩ := List.mem_map.mp ha
          exact ⟨(hmu pr hp).2, .inr (List.mem_map_of_mem hp)⟩
  exact h _ h₁ tk hA.deeper (none_of _ (Nat.le_refl _)) (hm s.heap.objs.size ▸ hmc s.heap.objs.size ▸ H)

/-- the frame's own object, its slots turned -/
theorem St.frame (H : St b S g0 h0 env g m mc mu h) (e : Ev [env.locals] g h g' h') {o o' : Obj} (h1 : h.get? env.locals = some o) (h2 : h'.get? env.locals = some o') (hd : o'.data = o.data) : St b S g0 h0 env g' m mc mu h' := by
  have nd := H.nd
  unfold owns at nd
  have nL := (List.nodup_cons.mp nd).1
  have nI : ∀ a, a ∈ env.cells.map (·.2) ++ mu.map (·.1) → a ∉ [env.locals] := fun a ha q => nL ((List.mem_singleton.mp q) ▸ ha)
  refine H.move (e.mono fun a q => (List.mem_singleton.mp q) ▸ owns_L) ?_ (fun x c hc => ?_) (fun p hp => e.keep _ _ (nI _ (List.mem_append_right _ (List.mem_map_of_mem hp))) (H.mus p hp)) rfl
  · obtain ⟨oL, es, ep, q, d, r⟩ := H.ns
    rw [h1] at q; cases q
    exact ⟨o', es, ep, h2, hd.trans d, r⟩
  · obtain ⟨oc, q, r⟩ := H.cell x c hc
    exact ⟨oc, e.keep _ _ (nI _ (List.mem_append_left _ (List.mem_map.mpr ⟨(x, c), hc, rfl⟩))) q, r⟩
theorem St.nsD (H : St b S g0 h0 env g m mc mu h) : ∃ o, h.get? env.locals = some o ∧ ∀ vs, o.data ≠ .fields vs := by
  obtain ⟨o, es, ep, e, d, _⟩ := H.ns
  exact ⟨o, e, fun vs q => by rw [d] at q; cases q⟩
/-- what a frame on the way is: a function's, alive, and none of the base's -/
theorem frames_one {base h : Heap} {env : Env} {o : Obj} {l : List Env} (hk : env.scope.kind ≠ .module) (hf : env.frame = some env.locals) (hb : base.get? env.locals = none) (ho : h.get? env.locals = some o) (hd : ∀ vs, o.data ≠ .fields vs) (r : h.FunFrames base l) :
    h.FunFrames base (env :: l) := ⟨hk, ⟨_, o, hf, hb, ho, hd⟩, r⟩
theorem made_of {h h' : Heap} {e : Addr} {cls : String} {args : List Value} (x : Heap.MadeExc h h' e cls args) : Heap.MadeExcOf h h' e (.type cls) args := ⟨x.keeps, x.new, x.there⟩
theorem x_args {f : Value} {pos : Pos} {e : Expr} {rest : List Expr} {Q : Args → Shared → Prop} (h : wpAny M A (spliced (backTo pos (starEach (e :: rest) env))) (fun vs s' => Q ⟨vs, []⟩ s') E s)
    (he : starEach (e :: rest) env = (false, eval e env) :: starEach rest env := by with_unfolding_all rfl) : wpAny M A (evalArgs f true (backTo pos (starEach (e :: rest) env)) []) Q E s := by
  rw [he] at h ⊢
  exact evalArgs_plain h
/-- two frames under way, their slots turned -/
theorem St.landed {envL : Env} {oL oR : Obj} {l : List Env} {e : Addr} {X v : Value} (H : St b S g0 h0 env g m mc [(envL.locals, oL)] h) (hc : env.cells = []) (eR : h.get? env.locals = some oR) (gR : g env.locals = none) (gL : g envL.locals = none) (dR : ∀ vs, oR.data ≠ .fields vs) (dL : ∀ vs, oL.data ≠ .fields vs)
    (fl : Heap.FlyingW (hideAll h [env.locals, envL.locals]) l e X v h') (u : h.UpToSlots h') : ∃ oL', h'.get? envL.locals = some oL' ∧ oL'.data = oL.data ∧ St b S g0 h0 env g m mc [(envL.locals, oL')] h' := by
  have e2L : h.get? envL.locals = some oL := H.mus _ (.head _)
  obtain ⟨sl, e3⟩ := u _ _ e2L dL
  obtain ⟨sr, e4⟩ := u _ _ eR dR
  have kp : ∀ a o, a ∉ [env.locals, envL.locals] → h.get? a = some o → h'.get? a = some o := fun a o n e => fl.1 a o (hideAll_get _ e n)
  have ow : ∀ a, a ∈ [env.locals, envL.locals] → a ∈ owns env [(envL.locals, oL)] := fun a q => by
    rcases List.mem_cons.mp q with rfl | q
    · exact owns_L
    · rw [List.mem_singleton.mp q]; exact owns_mu (p := (envL.locals, oL)) (.head _)
  refine ⟨_, e3, rfl, H.move (g' := g) ⟨.refl g, fun _ _ e => .inl e, fun a o n e => kp a o (fun q => n (ow a q)) e, fun a o e => ?_, fun a o e => kp a o (fun q => ?_) (H.on a o e)⟩ (u.ns H.ns) (fun x c hx => by rw [hc] at hx; cases hx) (fun p hp => by rw [List.mem_singleton.mp hp]; exact e3) rfl⟩
  · by_cases q : a ∈ [env.locals, envL.locals]
    · rcases List.mem_cons.mp q with rfl | q
      · exact ⟨_, e4⟩
      · rw [List.mem_singleton.mp q]; exact ⟨_, e3⟩
    · exact ⟨o, kp a o q e⟩
  · rcases List.mem_cons.mp q with rfl | q
    · rw [gR] at e; cases e
    · rw [List.mem_singleton.mp q, gL] at e; cases e
theorem exc_sub : isSubtype (.type "ValueError") (.type "BaseException") = pure true := PyProof.Rows.isSubtype_of_subB (by decide +kernel)
theorem exc_meta : isSubtype (.type ((Manifest.find? "ValueError").elim "type" fun x => x.metatype)) (.type "tuple") = pure false := PyProof.Rows.isSubtype_of_subB (by decide +kernel)
theorem exc_same : isSubtype (.type "ValueError") (.type "ValueError") = pure true := PyProof.Rows.isSubtype_of_subB (by decide +kernel)
end
end Mine
set_option maxRecDepth 100000
namespace Mine
section
variable {prog : Program} {w : World} {b : Heap}
variable {S : List Addr} {g0 : FM} {h0 : Heap} {env : Env} {g : FM} {m mc : Str → Option Value} {mu : List (Addr × Obj)}
variable {A : Around} {s : Shared} {E : Value → Shared → Prop}
/-- a loop over pairs that stand for good -/
theorem loop_pairs {elts : List Expr} {x1} {tp : Pos} {body : List Stmt} {l : Addr} {o : Obj} {vs : List Value} {Q : Flow → Shared → Prop} {pE : Value → Shared → Prop} {GP : Array GenState → Prop} (gp0 : GP s.gens) (am ac : Value → Value → (Str → Option Value) → Str → Option Value)
    (asg : ∀ t u z g₁ m₁ mc₁ mu₁ (s₁ : Shared) (Q : Unit → Shared → Prop) (E : Value → Shared → Prop), TupL g₁ t [u, z] → St b S g0 h0 env g₁ m₁ mc₁ mu₁ s₁.heap → (∀ h' tk, St b S g0 h0 env g₁ (am u z m₁) (ac u z mc₁) mu₁ h' → Q () { s₁ with heap := h', toks := tk }) →
      wpAny (model prog w) A (assign (.Tuple elts x1 tp) env (.ref t)) Q E s₁)
    (hh : A.handled = none) (H : St b S g0 h0 env g m mc mu s.heap) (hg : g l = some o) (isl : IsL o vs)
    (PP : Value → Value → Prop) (hv : ∀ (i : Nat) (v : Value), vs[i]? = some v → ∃ t u z, v = Value.ref t ∧ TupL g t [u, z] ∧ PP u z) (J : Nat → Inv) (j0 : J 0 g m mc mu)
    (turn : ∀ i u z I oI g₁ m₁ mc₁ mu₁ h₁ tk gs E', GP gs → i < vs.length → PP u z → g.le g₁ → J i g₁ m₁ mc₁ mu₁ → St b S g0 h0 env g₁ (am u z m₁) (ac u z mc₁) ((I, oI) :: mu₁) h₁ →
      wpAny (model prog w) A (execs body env) (LoopEndG GP b S g0 h0 env s g₁ (I, oI) (J (i + 1)) Q) E' { s with heap := h₁, toks := tk, gens := gs })
    (done : ∀ g₁ m₁ mc₁ mu₁ h₁ tk gs, GP gs → g.le g₁ → J vs.length g₁ m₁ mc₁ mu₁ → St b S g0 h0 env g₁ m₁ mc₁ mu₁ h₁ → Q .next { s with heap := h₁, toks := tk, gens := gs }) :
    wpAny (model prog w) A (pyIter (.ref l)) (fun it s₂ => codeAny (model prog w) A (.forLoop (.Tuple elts x1 tp) it body [] env) (fun r s' => match r with | .ok f => Q f s' | .error e => pE e s') s₂) E s := by
  have hl : s.heap.IsList l vs.toArray := by
    obtain ⟨c, k, d, _⟩ := isl
    exact ⟨o, H.on _ _ hg, c, k, d⟩
  refine wpAny_pyIter_list hl ?_
  have hlt : l < s.heap.objs.size := Heap.lt_size (H.on _ _ hg)
  have e : vs.toArray.size = vs.length := List.size_toArray ..
  generalize hI : s.heap.objs.size = I at hlt
  have W := Walks.list (prog := prog) (w := w) (A := A) hh I l (Nat.ne_of_lt hlt) vs.toArray
  rw [e] at W
  have fresh : s.heap.get? I = none := none_of_ge (Nat.le_of_eq hI)
  have nl : l ≠ I := Nat.ne_of_lt hlt
  subst hI
  obtain ⟨oN, hN, nf⟩ : ∃ oN : Obj, oN = { cls := .type "list_iterator", data := .fields #[.ref l, .int 0 0] } ∧ oN.isFreed = false := ⟨_, rfl, rfl⟩
  have H' : St b S g0 h0 env g m mc ((s.heap.objs.size, oN) :: mu) (s.heap.push oN) := H.alloc fresh (Heap.get?_push_size _ nf) (fun _ _ e => Heap.get?_push_of_some _ e)
  subst hN
  refine codeAny_forLoop_any (fun k s' => ∃ i g₁ m₁ mc₁ mu₁ oI h₁ tk gs, s' = { s with heap := h₁, toks := tk, gens := gs } ∧ GP gs ∧ k = vs.length - i ∧ i ≤ vs.length ∧ (h₁.IsListIter s.heap.objs.size l i ∧ h₁.IsList l vs.toArray) ∧ g.le g₁ ∧ St b S g0 h0 env g₁ m₁ mc₁ ((s.heap.objs.size, oI) :: mu₁) h₁ ∧ J i g₁ m₁ mc₁ mu₁) ?_ vs.length
    ⟨0, g, m, mc, mu, _, _, s.toks, s.gens, rfl, gp0, rfl, Nat.zero_le _, ⟨⟨_, Heap.get?_push_size _ rfl, rfl, rfl⟩, hl.push _⟩, .refl g, H', j0⟩
  rintro k s' ⟨i, g₁, m₁, mc₁, mu₁, oI, h₁, tk, gs, rfl, gp, rfl, hi, w1, le1, H1, j1⟩
  have hIo : ∀ {p}, p ∈ [s.heap.objs.size] → p = s.heap.objs.size := fun hp => List.mem_singleton.mp hp
  have fr : ∀ {h h' : Heap} {g₂ m₂ mc₂ mu₂ oI₂ g₃ m₃ mc₃ mu₃ i}, g.le g₂ → g₂.le g₃ → St b S g0 h0 env g₂ m₂ mc₂ ((s.heap.objs.size, oI₂) :: mu₂) h → St b S g0 h0 env g₃ m₃ mc₃ ((s.heap.objs.size, oI₂) :: mu₃) h' → (h.IsListIter s.heap.objs.size l i ∧ h.IsList l vs.toArray) → (h'.IsListIter s.heap.objs.size l i ∧ h'.IsList l vs.toArray) := by
    intro h h' g₂ m₂ mc₂ mu₂ oI₂ g₃ m₃ mc₃ mu₃ i le le' H H' st
    refine W.frame _ _ _ st fun a ha o' e => ?_
    rcases List.mem_cons.mp ha with rfl | ha
    · have e3 := H.mus (_, oI₂) (.head _)
      rw [e] at e3; cases e3
      exact H'.mus (_, oI₂) (.head _)
    · rw [List.mem_singleton.mp ha] at e ⊢
      have e2 := H.on _ _ (le _ _ hg)
      rw [e] at e2; cases e2
      exact H'.on _ _ (le' _ _ (le _ _ hg))
  by_cases hlt : i < vs.length
  · refine W.item i _ _ _ hlt w1 fun v h₂ tk₂ hP w2 kp => ?_
    obtain ⟨oI', hI', _⟩ := id w2.1
    have hvi : vs[i]? = some v := by simpa using hP
    obtain ⟨t, u, z, rfl, ht, hp⟩ := hv i v hvi
    have H2 : St b S g0 h0 env g₁ m₁ mc₁ ((s.heap.objs.size, oI') :: mu₁) h₂ := H1.upd hI' fun a o na e => kp a o (fun q => na (hIo q)) e
    refine wpAny_letOwnedTupleGo_listiter (i := i + 1) w2.1 ?_
    refine asg t u z g₁ m₁ mc₁ _ _ _ _ (ht.mono le1) H2 fun h₃ tk₃ H3 => ?_
    have w3 := fr le1 (.refl _) H2 H3 w2
    refine wpAny_mono (turn i u z _ oI' g₁ m₁ mc₁ mu₁ h₃ tk₃ gs _ gp hlt hp le1 j1 H3) (fun f s₃ z => ?_) fun _ _ z => z
    cases f with
    | ret v => exact z
    | brk => exact z
    | next | cont =>
      obtain ⟨g₂, m₂, mc₂, mu₂, h₄, tk₄, gs₄, rfl, gp₄, le2, H4, j2⟩ := z
      exact ⟨vs.length - (i + 1), Nat.sub_lt_sub_left hlt (Nat.lt_succ_self i), i + 1, g₂, m₂, mc₂, mu₂, oI', h₄, tk₄, gs₄, rfl, gp₄, rfl, hlt, fr le1 le2 H3 H4 w3, le1.trans le2, H4, j2⟩
  · have hin : i = vs.length := Nat.le_antisymm hi (Nat.not_lt.mp hlt)
    subst hin
    refine W.done _ _ _ w1 fun h₂ tk₂ kp => ?_
    refine wpAny_execs_nil ?_
    have h0I : h0.get? s.heap.objs.size = none := by
      cases q : h0.get? s.heap.objs.size with
      | none => rfl
      | some o => obtain ⟨o', e⟩ := H.ev.live _ _ q; rw [fresh] at e; cases e
    have H2 : St b S g0 h0 env g₁ m₁ mc₁ mu₁ h₂ := H1.dropJunk h0I fun a o na e => kp a o (fun q => na (hIo q)) e
    exact done g₁ m₁ mc₁ mu₁ h₂ tk₂ gs gp le1 j1 H2
theorem if_join {c : Prop} [Decidable c] {M : Model} {m1 m2 : Sem Flow} {Q : Flow → Shared → Prop} (PM : (Str → Option Value) → Prop) (H : St b S g0 h0 env g m mc mu s.heap)
    (h1 : c → wpAny M A m1 (fun f s' => f = .next ∧ ∃ m' h' tk, s' = { s with heap := h', toks := tk } ∧ PM m' ∧ St b S g0 h0 env g m' mc mu h') E s) (h2 : ¬ c → wpAny M A m2 (fun f s' => f = .next ∧ ∃ m' h' tk, s' = { s with heap := h', toks := tk } ∧ PM m' ∧ St b S g0 h0 env g m' mc mu h') E s)
    (k : ∀ m' h' tk, PM m' → St b S g0 h0 env g m' mc mu h' → Q .next { s with heap := h', toks := tk }) :
    if c then wpAny M A m1 Q E s else wpAny M A m2 Q E s := by
  by_cases q : c
  · rw [if_pos q]
    exact wpAny_mono (h1 q) (fun f s' z => by obtain ⟨rfl, m', h', tk, rfl, p, H'⟩ := z; exact k m' h' tk p H') fun _ _ z => z
  · rw [if_neg q]
    exact wpAny_mono (h2 q) (fun f s' z => by obtain ⟨rfl, m', h', tk, rfl, p, H'⟩ := z; exact k m' h' tk p H') fun _ _ z => z
theorem room13 : Ao 13 callerA := ⟨rfl, by decide, by decide⟩
end
end Mine
namespace Mine
end Mine
open PySem PySem.W PyProof.Rows PySem.Calls Mine
set_option hygiene false in
local macro_rules | `(tactic| walk_at "M1") => `(tactic| with_reducible first
  | ((guard_target = wpAny _ _ (eval _ _) _ _ _); first
    | refine ev_loc (by assumption) (by with_unfolding_all rfl) ?_
    | refine ev_cell (by assumption) (by with_unfolding_all rfl) ?_
    | refine ev_free (by assumption) (by with_unfolding_all rfl) ?_
    | refine ev_loc (by assumption) (by with_unfolding_all assumption) ?_
    | refine ev_cell (by assumption) (by with_unfolding_all assumption) ?_
    | (refine ev_blt (by assumption) (by assumption) (by with_unfolding_all k_is) (by with_unfolding_all boot_by_name) ?_)
    | (refine ev_glob (by assumption) (by assumption) (by with_unfolding_all k_is) ?_)
    | refine wpAny_Constant_int ?_
    | refine wpAny_Constant_bool ?_
    | refine wpAny_BinOp ?_
    | refine Subscript_ ?_
    | refine x_meth ?_
    | refine x_attr ?_
    | refine x_list ?_
    | refine x_tuple ?_
    | refine wpAny_UnaryOp ?_
    | refine wpAny_Call_NameR ?_
    | refine x_cmp ?_)
  | ((guard_target = wpAny _ _ (execs _ _) _ _ _); first
    | refine wpAny_execs_nil ?_
    | (refine wpAny_execs_cons ?_; try dsimp only))
  | ((guard_target = wpAny _ _ (exec _ _) _ _ _); first
    | refine wpAny_Return_some ?_
    | refine wpAny_If ?_
    | refine x_assign ?_
    | refine x_assignSub ?_
    | refine x_assignAttr ?_
    | refine x_assignTup ?_
    | refine x_assignSwap (by with_unfolding_all rfl) ?_
    | refine x_for ?_
    | refine x_assert ?_
    | refine x_expr ?_
    | refine x_augSub ?_)
  | ((guard_target = wpAny _ _ (isTrue _ _ _) _ _ _); first
    | refine wpAny_isTrue_Compare1 ?_
    | refine wpAny_isTrue_Not ?_
    | refine PyProof.Rows.isTrue_and ?_
    | refine PyProof.Rows.isTrue_or ?_
    | refine PyProof.Rows.isTrue_and_nil ?_
    | refine PyProof.Rows.isTrue_or_nil ?_
    | refine x_isTrue ?_)
  | refine wpAny_truthy_bool ?_
  | refine if_t ?_
  | refine if_f ?_
  | refine if_nt ?_
  | refine if_nf ?_
  | ((guard_target = wpAny _ _ (storeName _ _ _) _ _ _); first
    | (refine st_loc (by assumption) ?_; intro _ _)
    | (refine st_cell (by assumption) ?_; intro _ _))
  | ((guard_target = wpAny _ _ (callWith _ _ _ _ _) _ _ _); first
    | refine x_builtin ?_
    | refine x_type ?_
    | refine x_bm ?_
    | refine x_bm0 ?_
    | refine x_fn (by assumption) (by with_unfolding_all k_is) ?_)
  | ((show Frag.In _ _ ∧ _); refine ⟨St.X (by assumption) (by assumption), ?_⟩)
  | ((guard_target = wpAny _ _ (spliced _) _ _ _); first
    | refine spliced_none ?_
    | refine x_arg ?_)
  | ((guard_target = wpAny _ _ (binaryOp _ (Value.int _ _) _) _ _ _); first
    | refine PyProof.Rows.add_int ?_
    | refine PyProof.Rows.sub_int ?_
    | (refine mul_lit (by with_unfolding_all decide) ?_)
    | (refine mod_pos (by first | decide | assumption) ?_)
    | (refine div_pos (by first | decide | assumption) (by first | decide | omega) ?_))
  | ((guard_target = wpAny _ _ (compareOp _ (Value.int _ _) _) _ _ _); first
    | refine ge_int ?_
    | refine PyProof.Rows.gt_int ?_
    | refine PyProof.Rows.lt_int ?_
    | refine PyProof.Rows.eq_int ?_
    | refine PyProof.Rows.ne_int ?_)
  | refine PyProof.Rows.neg_int ?_
  | refine PyProof.Rows.not_of ?_
  | refine PyProof.Rows.iadd_int ?_
  | refine PyProof.Rows.isub_int ?_
  | refine call_int_int ?_
  | (refine sub_mu (by assumption) (by walk_at "mem") (by assumption) (by decide) (by decide) (by with_unfolding_all rfl) ?_)
  | (refine len_mu (by assumption) (by walk_at "mem") (by assumption) (by omega) ?_))
set_option hygiene false in
local macro_rules | `(tactic| walk_at "mem") => `(tactic| with_unfolding_all first | exact List.Mem.head _ | exact List.Mem.tail _ (List.Mem.head _) | exact List.Mem.tail _ (List.Mem.tail _ (List.Mem.head _)) | exact List.Mem.tail _ (List.Mem.tail _ (List.Mem.tail _ (List.Mem.head _))))
set_option hygiene false in
local macro_rules | `(tactic| walk_at "M") => `(tactic| repeat (walk_at "M1"))
set_option hygiene false in
local macro_rules | `(tactic| walk_at "ok") => `(tactic| exact ⟨by with_unfolding_all rfl, by repeat (first | exact trivial | refine ⟨by with_unfolding_all rfl, ?_⟩), by rfl, by decide, by rfl, by decide, by decide, by with_unfolding_all rfl, by first | decide | (intro _; rfl), by decide⟩)
set_option hygiene false in
local macro_rules | `(tactic| walk_at "okz") => `(tactic| exact ⟨by with_unfolding_all rfl, by repeat (first | exact trivial | refine ⟨by with_unfolding_all rfl, ?_⟩), by rfl, by decide, by rfl, by decide, by decide, by with_unfolding_all rfl, by with_unfolding_all rfl⟩)
set_option hygiene false in
local macro_rules | `(tactic| walk_at "okg") => `(tactic| exact ⟨by rfl, by with_unfolding_all rfl, by repeat (first | exact trivial | refine ⟨by with_unfolding_all rfl, ?_⟩), by decide, by decide, by decide, by rfl, by first | decide | (simp only [List.map_cons, List.map_nil]; decide)⟩)
namespace Mine
section
variable {prog : Program} {w : World} {p : Program} {loose : List Str} {mean : ExcName → Option Value} {mg mb : Str → Option Value} {b : Heap}
variable {S : List Addr} {g0 : FM} {h0 : Heap} {env : Env} {g : FM} {m mc : Str → Option Value} {mu : List (Addr × Obj)}
variable {A : Around} {s : Shared} {E : Value → Shared → Prop} {R : Result → Shared → Prop}

theorem ga_q {x : Addr} {q n : Int} {expr : Bool} {Q : Value → Shared → Prop} (W : Wd (Mine.hd.heap_39 w.params) p loose mean mg mb b) (H : St b S g0 h0 env g m mc mu s.heap) (I : Ring 59 g x q n)
    (h : ∀ t, Q (.int q t) { s with toks := s.toks + 1 }) : wpAny (model prog w) A (getAttr (.ref x) "q" expr) Q E s := by
  obtain ⟨h1, t1, u1, h2, t2, u2, i⟩ := I
  refine ga_own (attr := none) (H.X W) (i.mono H.on) ?a ?b ?c ?d rfl rfl (h _)
  case a => k_is
  case b => k_is
  case c => k_is
  case d => k_is
theorem ga_n {x : Addr} {q n : Int} {expr : Bool} {Q : Value → Shared → Prop} (W : Wd (Mine.hd.heap_39 w.params) p loose mean mg mb b) (H : St b S g0 h0 env g m mc mu s.heap) (I : Ring 59 g x q n)
    (h : ∀ t, Q (.int n t) { s with toks := s.toks + 1 }) : wpAny (model prog w) A (getAttr (.ref x) "n" expr) Q E s := by
  obtain ⟨h1, t1, u1, h2, t2, u2, i⟩ := I
  refine ga_own (attr := none) (H.X W) (i.mono H.on) ?a ?b ?c ?d rfl rfl (h _)
  case a => k_is
  case b => k_is
  case c => k_is
  case d => k_is
theorem ga_parent {x r : Addr} {cs : List Int} {expr : Bool} {Q : Value → Shared → Prop} (W : Wd (Mine.hd.heap_39 w.params) p loose mean mg mb b) (H : St b S g0 h0 env g m mc mu s.heap) (I : Poly 222 g x r cs)
    (h : Q (.ref r) { s with toks := s.toks + 1 }) : wpAny (model prog w) A (getAttr (.ref x) "parent" expr) Q E s := by
  obtain ⟨h1, t1, h2, t2, l, i, j⟩ := I
  refine ga_own (attr := none) (H.X W) (i.mono H.on) ?a ?b ?c ?d rfl rfl h
  case a => k_is
  case b => k_is
  case c => k_is
  case d => k_is
theorem ga_coeffs {x r : Addr} {cs : List Int} {expr : Bool} {Q : Value → Shared → Prop} (W : Wd (Mine.hd.heap_39 w.params) p loose mean mg mb b) (H : St b S g0 h0 env g m mc mu s.heap) (I : Poly 222 g x r cs)
    (h : ∀ l, IntL g l cs → Q (.ref l) { s with toks := s.toks + 1 }) : wpAny (model prog w) A (getAttr (.ref x) "coeffs" expr) Q E s := by
  obtain ⟨h1, t1, h2, t2, l, i, j⟩ := I
  refine ga_own (attr := none) (H.X W) (i.mono H.on) ?a ?b ?c ?d rfl rfl (h l j)
  case a => k_is
  case b => k_is
  case c => k_is
  case d => k_is

theorem add_mod_q (W : Wd (Mine.hd.heap_39 w.params) p loose mean mg mb b) (hB : Bg b g s.heap) (hA : Ao 2 A)
    {self r : Addr} {cs : List Int} {q n x y : Int} {tx ty : Tok} (hp : Poly 222 g self r cs) (hr : Ring 59 g r q n) (hq : q ≠ 0)
    (ret : ∀ t g' h' tk, Ev [] g s.heap g' h' → R (.ok (.ret (.int ((x + y).fmod q) t))) { s with heap := h', toks := tk }) :
    codeAny (model prog w) A (.call (.ref 110) ⟨[.ref self, .int x tx, .int y ty], []⟩) R s := by
  refine enter (mu := []) (binds := [("self", .ref self), ("x", .int x tx), ("y", .int y ty)]) (m := up "y" (.int y ty) (up "x" (.int x tx) (up "self" (.ref self) no))) (mc := no)
    W hB hA (by k_is) (by k_is) (BindsTo.of_eq rfl) rfl (by decide) (fun _ q => nomatch q) .nil (fun _ => rfl) (fun _ => rfl) ?_
  intro L h₁ tk E' hA' H
  refine wpAny_execs_cons (wpAny_Return_some (wpAny_BinOp (wpAny_BinOp ?_)))
  refine ev_loc H rfl ?_
  refine ev_loc H rfl ?_
  refine PyProof.Rows.add_int ?_
  refine Attribute_any_ (Attribute_any_ ?_)
  refine ev_loc H rfl ?_
  refine ga_parent W H hp ?_
  refine ga_q W H hr ?_
  intro t1
  refine PyProof.Rows.mod_int' hq ?_
  exact ret _ _ _ _ H.ev
end
end Mine
namespace Mine
section
variable {prog : Program} {w : World} {p : Program} {loose : List Str} {mean : ExcName → Option Value} {mg mb : Str → Option Value} {b : Heap}
variable {S : List Addr} {g0 : FM} {h0 : Heap} {env : Env} {g : FM} {m mc : Str → Option Value} {mu : List (Addr × Obj)}
variable {A : Around} {s : Shared} {E : Value → Shared → Prop} {R : Result → Shared → Prop}

theorem ga_parent0 {x dx r : Addr} {h1 : Int} {t1 : Tok} {nn : Nat} {expr : Bool} {Q : Value → Shared → Prop} (W : Wd (Mine.hd.heap_39 w.params) p loose mean mg mb b) (H : St b S g0 h0 env g m mc mu s.heap) (hx : g x = some (instObj 222 dx)) (hm : (dx, dictOf [⟨h1, .str "parent" t1, .ref r⟩] nn) ∈ mu)
    (h : Q (.ref r) { s with toks := s.toks + 1 }) : wpAny (model prog w) A (getAttr (.ref x) "parent" expr) Q E s := by
  refine ga_own (attr := none) (H.X W) ⟨dx, nn, H.on _ _ hx, H.mus _ hm⟩ ?a ?b ?c ?d rfl rfl h
  case a => k_is
  case b => k_is
  case c => k_is
  case d => k_is

theorem pi_a {n c : Nat} (h : c < n) (hn : n ≤ 1000) : 0 ≤ (n : Int) - c ∧ -2 ^ 62 ≤ (n : Int) - c ∧ (n : Int) - c < 2 ^ 62 ∧ ((n : Int) - c - 0).toNat = n - c ∧ c + (n - c) ≤ 16777216 := by omega
set_option maxHeartbeats 400000 in
theorem parse_spec (W : Wd (Mine.hd.heap_39 w.params) p loose mean mg mb b) (hB : Bg b g s.heap) (hA : Ao 2 A)
    {x dx r l : Addr} {cs : List Int} {q : Int} {n : Nat} {h1 : Int} {t1 : Tok} {nn : Nat} (hx : g x = some (instObj 222 dx)) (hd : s.heap.get? dx = some (dictOf [⟨h1, .str "parent" t1, .ref r⟩] nn)) (gd : g dx = none)
    (hr : Ring 59 g r q n) (hl : IntL g l cs) (hn : n ≤ 1000) (hc : cs.length ≤ n)
    (ret : ∀ l' g' h' tk, Ev [dx] g s.heap g' h' → h'.get? dx = some (dictOf [⟨h1, .str "parent" t1, .ref r⟩] nn) → IntL g' l' (cs ++ List.replicate (n - cs.length) 0) → R (.ok (.ret (.ref l'))) { s with heap := h', toks := tk }) :
    codeAny (model prog w) A (.call (.ref 96) ⟨[.ref x, .ref l], []⟩) R s := by
  refine enter (mu := [(dx, dictOf [⟨h1, .str "parent" t1, .ref r⟩] nn)]) (binds := [("self", .ref x), ("coefficients", .ref l)]) (m := up "coefficients" (.ref l) (up "self" (.ref x) no)) (mc := no)
    W hB hA (by k_is) (by k_is) (BindsTo.of_eq rfl) rfl (by decide) (fun q hq => by rw [List.mem_singleton.mp hq]; exact ⟨hd, gd⟩) (by simp) (fun _ => rfl) (fun _ => rfl) ?_
  intro L h₁ tk E' hA' H
  walk_at "M"
  refine len_il H hl (by omega) ?_
  walk_at "M"
  rename St _ _ _ _ _ _ _ _ _ _ => H1
  refine ga_parent0 W H1 hx (.head _) ?_
  refine ga_n W H1 hr ?_
  intro t2
  walk_at "M"
  split
  · rename_i hh
    have := of_decide_eq_true hh
    omega
  · walk_at "M"
    refine ga_parent0 W H1 hx (.head _) ?_
    refine ga_n W H1 hr ?_
    intro t3
    walk_at "M"
    split
    · rename_i hlt
      have hlt := of_decide_eq_true hlt
      obtain ⟨q1, q2, q3, hk, q5⟩ := pi_a (Int.ofNat_lt.mp hlt) hn
      walk_at "M"
      refine ev_lc (cl := []) (cn := []) (xc := false) (by walk_at "ok") fun ok => ?_
      walk_at "M"
      refine ga_parent0 W H1 hx (.head _) ?_
      refine ga_n W H1 hr ?_
      intro t4
      walk_at "M"
      refine call_range1 H1 ?_
      intro h2 tk2 rr t5 u5 v5 hrr H2
      refine lc_run ok H2 (Src.range hA'.hh hrr (small_one (by decide) (by decide) q2 q3) q1) (by rw [sizeLine_eq, hk]; exact Nat.le_trans (Nat.sub_le _ _) (Nat.le_trans hn (by decide))) (fun i g₁ mu₁ ys => mu₁ = [(dx, dictOf [⟨h1, .str "parent" t1, .ref r⟩] nn)] ∧ IntsAre ys (List.replicate i 0)) ⟨rfl, .nil⟩ ?_ ?_
      · rintro i v C D oD I oI g₁ mu₁ ys h₁ tk E' hi hP le ha ⟨rfl, hns⟩ hl H3
        walk_at "M"
        exact EltEnd.mk (.refl _) H3 rfl ⟨rfl, by rw [List.replicate_succ']; exact hns.append (.cons _ _ .nil)⟩
      · rintro g₁ mu₁ ys D oD h₁ tk le ha ⟨rfl, hns⟩ hl2 isl fD H3
        obtain ⟨vs, hvl, hvi⟩ := ((hl.mono le).mono H3.on).list (.refl _)
        have e1 := hvi.length
        refine add_lists H3 hvl (isl.at_ (H3.mus _ (.head _))) (by rw [sizeLine_eq, e1, hl2, hk]; exact q5) ?_
        intro a h3 fa _ H4
        walk_at "M"
        rename St _ _ _ _ _ _ _ _ _ _ => H5
        obtain ⟨H6, le6⟩ := H5.freeze fa
        rw [hk] at hns
        exact ret _ _ _ _ H6.ev (H6.mus _ (.tail _ (.head _))) (IntL.mk (FM.put_self ..) (IsL.lst _) (hvi.append hns))
    · rename_i hlt
      have hlt : ¬ ((cs.length : Int) < n) := fun z => hlt (decide_eq_true z)
      walk_at "M"
      rw [show n - cs.length = 0 by omega] at ret
      exact ret _ _ _ _ H1.ev (H1.mus _ (.head _)) (by simpa using hl)
end
end Mine
namespace Mine
section
variable {prog : Program} {w : World} {p : Program} {loose : List Str} {mean : ExcName → Option Value} {mg mb : Str → Option Value} {b : Heap}
variable {S : List Addr} {g0 : FM} {h0 : Heap} {env : Env} {g : FM} {m mc : Str → Option Value} {mu : List (Addr × Obj)}
variable {A : Around} {s : Shared} {E : Value → Shared → Prop} {R : Result → Shared → Prop}

set_option maxHeartbeats 400000 in
theorem poly_init (W : Wd (Mine.hd.heap_39 w.params) p loose mean mg mb b) (hB : Bg b g s.heap) (hA : Ao 3 A)
    {x dx r l : Addr} {cs : List Int} {q : Int} {n : Nat} (hx : g x = some (instObj 222 dx)) (hd : s.heap.get? dx = some (dictOf [] 0)) (gd : g dx = none)
    (hr : Ring 59 g r q n) (hl : IntL g l cs) (hn : n ≤ 1000) (hc : cs.length ≤ n)
    (ret : ∀ l' h1 t1 h2 t2 nn g' h' tk, Ev [dx] g s.heap g' h' → h'.get? dx = some (dictOf [⟨h1, .str "parent" t1, .ref r⟩, ⟨h2, .str "coeffs" t2, .ref l'⟩] nn) → IntL g' l' (cs ++ List.replicate (n - cs.length) 0) → R (.ok (.ret .none)) { s with heap := h', toks := tk }) :
    codeAny (model prog w) A (.call (.ref 77) ⟨[.ref x, .ref r, .ref l], []⟩) R s := by
  refine enter (mu := [(dx, dictOf [] 0)]) (binds := [("self", .ref x), ("parent", .ref r), ("coefficients", .ref l)]) (m := up "coefficients" (.ref l) (up "parent" (.ref r) (up "self" (.ref x) no))) (mc := no)
    W hB hA (by k_is) (by k_is) (BindsTo.of_eq rfl) rfl (by decide) (fun q hq => by rw [List.mem_singleton.mp hq]; exact ⟨hd, gd⟩) (by simp) (fun _ => rfl) (fun _ => rfl) ?_
  intro L h₁ tk E' hA' H
  walk_at "M"
  refine sa_own W H (H.on _ _ hx) (by k_is) (by k_is) (by k_is) (by k_is) (by rfl) (by rfl) (Nat.le_of_ble_eq_true rfl) ?_
  intro h2 H2
  walk_at "M"
  refine gm_fn (f := 96) (H2.X W) ⟨dx, _, H2.on _ _ hx, H2.mus _ (.head _)⟩ (by k_is) (by k_is) (by k_is) rfl ?_
  walk_at "M"
  refine wpAny_call (parse_spec W H2.Bg (hA'.le (by decide)) hx (H2.mus _ (.head _)) (H2.own _ (owns_mu (.head _))).1 hr hl hn hc ?_)
  intro l' g' h' tk' ev hd' hl'
  have H3 := H2.callMu (pre := []) (mu' := [(dx, _)]) ev rfl (fun q hq => by rw [List.mem_singleton.mp hq]; exact hd')
  walk_at "M"
  refine sa_own W H3 (H3.on _ _ (ev.gg _ _ hx)) (by k_is) (by k_is) (by k_is) (by k_is) (by rfl) (by rfl) (Nat.le_of_ble_eq_true rfl) ?_
  intro h4 H4
  walk_at "M"
  exact ret _ _ _ _ _ _ _ _ _ H4.ev (H4.mus _ (.head _)) hl'

theorem poly_make (W : Wd (Mine.hd.heap_39 w.params) p loose mean mg mb b) (hB : Bg b g s.heap) (hA : Ao 4 A)
    {r l : Addr} {cs : List Int} {q : Int} {n : Nat} {Q : Value → Shared → Prop} (hr : Ring 59 g r q n) (hl : IntL g l cs) (hn : n ≤ 1000) (hc : cs.length ≤ n)
    (ret : ∀ x g' h' tk, Ev [] g s.heap g' h' → Poly 222 g' x r (cs ++ List.replicate (n - cs.length) 0) → Q (.ref x) { s with heap := h', toks := tk }) :
    wpAny (model prog w) A (call (.ref 222) [.ref r, .ref l]) Q E s := by
  refine mk_inst (kw := []) (W.X.keeps fun a o e => hB.on _ _ (hB.bg a o e)) hB.on (by k_is) (by k_is) (by k_is) ?_
  intro x dx h1 fx fd ne hx hd k1 sz
  have gx : g x = none := by
    cases q : g x with
    | none => rfl
    | some o' => have := hB.on _ _ q; rw [fx] at this; cases this
  have le0 := FM.put_le (o := instObj 222 dx) gx
  refine poly_init W (hB.put fx hx k1 sz) hA.make (FM.put_self ..) hd ?_ (hr.mono le0) (hl.mono le0) hn hc ?_
  · unfold FM.put
    rw [if_neg ne.symm]
    cases q : g dx with
    | none => rfl
    | some o' => have := hB.on _ _ q; rw [fd] at this; cases this
  · intro l' a1 t1 a2 t2 nn g' h' tk ev hd' hl'
    obtain ⟨ev', le⟩ := ev.made hB.on fx fd ne k1 hd hd'
    exact ⟨rfl, ret _ _ _ _ ev' ⟨a1, t1, a2, t2, l', ⟨dx, nn, le _ _ (ev.gg _ _ (FM.put_self ..)), FM.put_self ..⟩, hl'.mono le⟩⟩

theorem ring_call (W : Wd (Mine.hd.heap_39 w.params) p loose mean mg mb b) (hB : Bg b g s.heap) (hA : Ao 5 A)
    {r l : Addr} {cs : List Int} {q : Int} {n : Nat} (hr : Ring 59 g r q n) (hl : IntL g l cs) (hn : n ≤ 1000) (hc : cs.length ≤ n)
    (ret : ∀ x g' h' tk, Ev [] g s.heap g' h' → Poly 222 g' x r (cs ++ List.replicate (n - cs.length) 0) → R (.ok (.ret (.ref x))) { s with heap := h', toks := tk }) :
    codeAny (model prog w) A (.call (.ref 56) ⟨[.ref r, .ref l], []⟩) R s := by
  refine enter (mu := []) (binds := [("self", .ref r), ("coefficients", .ref l)]) (m := up "coefficients" (.ref l) (up "self" (.ref r) no)) (mc := no)
    W hB hA (by k_is) (by k_is) (BindsTo.of_eq rfl) rfl (by decide) (fun _ q => nomatch q) .nil (fun _ => rfl) (fun _ => rfl) ?_
  intro L h₁ tk E' hA' H
  obtain ⟨vs, o, k, go, oc, od, hi⟩ := hl
  walk_at "M"
  refine isi_list (H.X W) (H.on _ _ go) oc (r := false) (by kit_is) ?_
  intro tk2
  walk_at "M"
  refine isi_list (H.X W) (H.on _ _ go) oc (r := true) (by kit_is) ?_
  intro tk3
  walk_at "M"
  refine poly_make W H.Bg hA' hr ⟨vs, o, k, go, oc, od, hi⟩ hn hc ?_
  intro x g' h' tk' ev hp
  have H2 := H.call0 ev
  walk_at "M"
  exact ret _ _ _ _ H2.ev hp

end
end Mine
namespace Mine
section
variable {prog : Program} {w : World} {p : Program} {loose : List Str} {mean : ExcName → Option Value} {mg mb : Str → Option Value} {b : Heap}
variable {S : List Addr} {g0 : FM} {h0 : Heap} {env : Env} {g : FM} {m mc : Str → Option Value} {mu : List (Addr × Obj)}
variable {A : Around} {s : Shared} {E : Value → Shared → Prop} {R : Result → Shared → Prop}

theorem sub_mod_q (W : Wd (Mine.hd.heap_39 w.params) p loose mean mg mb b) (hB : Bg b g s.heap) (hA : Ao 2 A)
    {self r : Addr} {cs : List Int} {q n x y : Int} {tx ty : Tok} (hp : Poly 222 g self r cs) (hr : Ring 59 g r q n) (hq : q ≠ 0)
    (ret : ∀ t g' h' tk, Ev [] g s.heap g' h' → R (.ok (.ret (.int ((x - y).fmod q) t))) { s with heap := h', toks := tk }) :
    codeAny (model prog w) A (.call (.ref 117) ⟨[.ref self, .int x tx, .int y ty], []⟩) R s := by
  refine enter (mu := []) (binds := [("self", .ref self), ("x", .int x tx), ("y", .int y ty)]) (m := up "y" (.int y ty) (up "x" (.int x tx) (up "self" (.ref self) no))) (mc := no)
    W hB hA (by k_is) (by k_is) (BindsTo.of_eq rfl) rfl (by decide) (fun _ q => nomatch q) .nil (fun _ => rfl) (fun _ => rfl) ?_
  intro L h₁ tk E' hA' H
  walk_at "M"
  refine ga_parent W H hp ?_
  refine ga_q W H hr ?_
  intro t1
  refine PyProof.Rows.mod_int' hq ?_
  exact ret _ _ _ _ H.ev

theorem Poly.inst {C x r : Addr} {cs : List Int} (hp : Poly C g x r cs) : ∃ es, Inst g x C es := let ⟨_, _, _, _, _, i, _⟩ := hp; ⟨_, i⟩
theorem Ring.at {C x : Addr} {q n : Int} (hr : Ring C g x q n) : ∃ d es k, At g x C d es k := let ⟨_, _, _, _, _, _, d, k, e1, e2⟩ := hr; ⟨d, _, k, e1, e2⟩

theorem gm_parent {x r : Addr} {cs : List Int} {pl : Sem Bool} {Q : Value × List Value → Shared → Prop} (W : Wd (Mine.hd.heap_39 w.params) p loose mean mg mb b) (H : St b S g0 h0 env g m mc mu s.heap) (I : Poly 222 g x r cs)
    (h : Q (.ref r, []) { s with toks := s.toks + 1 }) : wpAny (model prog w) A (getMethod (.ref x) "parent" pl) Q E s := by
  have I' := I
  obtain ⟨h1, t1, h2, t2, l, i, j⟩ := I
  obtain ⟨d, n, J⟩ := (i.mono H.on).at_
  have hg : plainGet (Mine.hd.heap_39 w.params) 222 "parent" = true := by k_is
  refine method_usual (r := none) (H.X W) J (plainGet_of hg).1 (plainGet_of hg).2 ?a rfl (ga_parent W H I' h)
  case a => k_is
/-- a method of the class, looked up -/
theorem gm_P {x r : Addr} {cs : List Int} {name : Str} {f : Addr} {pl : Sem Bool} {Q : Value × List Value → Shared → Prop} (W : Wd (Mine.hd.heap_39 w.params) p loose mean mg mb b) (H : St b S g0 h0 env g m mc mu s.heap) (I : Poly 222 g x r cs)
    (hg : plainGet (Mine.hd.heap_39 w.params) 222 name = true) (hf : findIn (Mine.hd.heap_39 w.params) (.ref 222) name = some (some (.ref f))) (ht : isFn (Mine.hd.heap_39 w.params) (.ref f) = true) (hn : ∀ (h1 : Int) (t1 : Tok) (r : Addr) (h2 : Int) (t2 : Tok) (l : Addr), getL name [⟨h1, .str "parent" t1, .ref r⟩, ⟨h2, .str "coeffs" t2, .ref l⟩] = some none)
    (h : Q (.ref f, [.ref x]) s) : wpAny (model prog w) A (getMethod (.ref x) name pl) Q E s := by
  obtain ⟨h1, t1, h2, t2, l, i, j⟩ := I
  exact gm_fn (f := f) (H.X W) (i.mono H.on) hg hf ht (hn _ _ _ _ _ _) h

/-- the ring called with a list -/
theorem rcall {r l : Addr} {cs : List Int} {q : Int} {n : Nat} {pos : Pos} {x : Expr} {Q : Value → Shared → Prop} (W : Wd (Mine.hd.heap_39 w.params) p loose mean mg mb b) (H : St b S g0 h0 env g m mc mu s.heap) (hA : Ao 5 A)
    (hr : Ring 59 g r q n) (hl : IntL g l cs) (hn : n ≤ 1000) (hc : cs.length ≤ n)
    (ret : ∀ x g' h' tk, Ev [] g s.heap g' h' → Poly 222 g' x r (cs ++ List.replicate (n - cs.length) 0) → Q (.ref x) { s with heap := h', toks := tk }) :
    wpAny (model prog w) A (call (.ref r) [.ref l]) Q E s := by
  obtain ⟨d, es, k, i⟩ := hr.at
  exact icall (f := 56) (H.X W) (i.mono H.on) (by k_is) (by k_is) (by k_is) (ring_call W H.Bg hA hr hl hn hc ret)

set_option maxHeartbeats 400000 in
theorem add_ (W : Wd (Mine.hd.heap_39 w.params) p loose mean mg mb b) (hB : Bg b g s.heap) (hA : Ao 3 A)
    {self other r r' : Addr} {q : Int} {n : Nat} {a c : Nat → Int} (hp : Poly 222 g self r (lf n a)) (ho : Poly 222 g other r' (lf n c)) (hr : Ring 59 g r q n) (hq : 0 < q) (hn : n ≤ 1000)
    (ret : ∀ l g' h' tk, Ev [] g s.heap g' h' → IntL g' l (lf n fun k => (a k + c k) % q) → R (.ok (.ret (.ref l))) { s with heap := h', toks := tk }) :
    codeAny (model prog w) A (.call (.ref 132) ⟨[.ref self, .ref other], []⟩) R s := by
  refine enter (mu := []) (binds := [("self", .ref self), ("other", .ref other)]) (m := up "other" (.ref other) no) (mc := up "self" (.ref self) no)
    W hB hA (by k_is) (by k_is) (BindsTo.of_eq rfl) rfl (by decide) (fun _ q => nomatch q) .nil (fun _ => rfl) (fun _ => rfl) ?_
  intro L h₁ tk E' hA' H
  walk_at "M"
  obtain ⟨es, I1⟩ := hp.inst
  obtain ⟨es', I2⟩ := ho.inst
  refine type_inst (I1.mono H.on) ?_
  walk_at "M"
  refine isi_inst (r := true) (H.X W) (I2.mono H.on) (by kit_is) (by k_is) (by k_is) (by k_is) (by k_is) (by k_is) (by k_is) ?_
  intro tk2
  walk_at "M"
  refine as_lcz (cl := [("self", L + 1)]) (cn := ["self"]) (by walk_at "okz") fun ok => ?_
  walk_at "M"
  refine ga_coeffs W H hp ?_
  intro la hla
  walk_at "M"
  refine ga_coeffs W H ho ?_
  intro lb hlb
  walk_at "M"
  obtain ⟨vs1, o1, k1, go1, oc1, od1, hi1⟩ := hla
  obtain ⟨vs2, o2, k2, go2, oc2, od2, hi2⟩ := hlb
  have n1 := ints_len hi1
  have n2 := ints_len hi2
  refine zip_runA hA'.hh ok H go1 go2 ⟨oc1, k1, od1⟩ ⟨oc2, k2, od2⟩ (by omega) (by rw [sizeLine_eq]; omega) (fun i g₁ ys => IntsAre ys (lf i fun k => (a k + c k) % q)) .nil ?_ ?_
  · intro s' i v1 v2 C Dl oD mu' g₁ ys h₁ tk E' hi hv1 hv2 le j hl H3
    obtain ⟨u1, e1⟩ := ints_at hi1 (show i < n by omega)
    obtain ⟨u2, e2⟩ := ints_at hi2 (show i < n by omega)
    rw [e1] at hv1; obtain rfl := Option.some.inj hv1
    rw [e2] at hv2; obtain rfl := Option.some.inj hv2
    walk_at "M"
    refine gm_P (f := 110) W H3 (hp.mono le) (by k_is) (by k_is) (by k_is) (fun _ _ _ _ _ _ => rfl) ?_
    walk_at "M"
    refine wpAny_call (add_mod_q W H3.Bg (hA'.le (by decide)) (hp.mono le) (hr.mono le) (by omega) ?_)
    intro t g' h' tk' ev
    have H4 := H3.call0 ev
    exact ZipEnd.mk ev.gg H4 (ints_push j (Int.fmod_eq_emod_of_nonneg _ (by omega)))
  · intro g₁ ys D oD h₁ tk le j hl isl fD H3
    rw [n1] at j
    obtain ⟨H4, le4⟩ := H3.freeze fD
    dsimp only
    walk_at "M"
    exact ret _ _ _ _ H4.ev (IntL.mk (FM.put_self ..) isl j)
end
end Mine
namespace Mine
section
variable {prog : Program} {w : World} {p : Program} {loose : List Str} {mean : ExcName → Option Value} {mg mb : Str → Option Value} {b : Heap}
variable {S : List Addr} {g0 : FM} {h0 : Heap} {env : Env} {g : FM} {m mc : Str → Option Value} {mu : List (Addr × Obj)}
variable {A : Around} {s : Shared} {E : Value → Shared → Prop} {R : Result → Shared → Prop}

theorem sc_a {n i : Nat} (hi : i < ((n : Int) - 0).toNat) (hn : n ≤ 1000) : i < n ∧ 0 ≤ (n : Int) - i ∧ (n : Int) - i ≤ 1000 ∧ ((n : Int) - i - 0).toNat = n - i := by
  rw [to_nat0] at hi
  omega
theorem sc_b {n i j : Nat} (hi : i < n) (hj : j < n - i) : i + j < n ∧ j < n := by omega
theorem sc_c {n j : Nat} (hj : j < ((n : Int) - 1).toNat) (hn : n ≤ 1000) : 1 + j < n ∧ 0 ≤ (n : Int) - (1 + j) ∧ (n : Int) - (1 + j) ≤ 1000 ∧ (n : Int) - (1 + j) ≤ n ∧ ((n : Int) - ((n : Int) - (1 + j))).toNat = j + 1 := by omega
theorem sc_d {n j u : Nat} (hj : 1 + j < n) (hu : u < j + 1) : u < n ∧ n - (1 + j) + u < n ∧ (n : Int) - (1 + j) + u = ((n - (1 + j) + u : Nat) : Int) := by omega
theorem to_nat1 {n : Nat} (h : 1 ≤ n) : ((n : Int) - 1).toNat = n - 1 := by omega
theorem sc_e {n j u : Int} : n - (1 + j) + u + (1 + j) - n = u := by omega
theorem cast_le {n k : Nat} (h : n ≤ k) : (n : Int) ≤ (k : Int) := Int.ofNat_le.mpr h
set_option maxHeartbeats 1000000 in
theorem school_spec (W : Wd (Mine.hd.heap_39 w.params) p loose mean mg mb b) (hB : Bg b g s.heap) (hA : Ao 2 A)
    {self other r r' : Addr} {q : Int} {n : Nat} {a c : Nat → Int} (hp : Poly 222 g self r (lf n a)) (ho : Poly 222 g other r' (lf n c)) (hr : Ring 59 g r q n) (hq : 0 < q) (hn : n ≤ 1000) (hn1 : 1 ≤ n) (hm : ∀ i j, i < n → j < n → IntMulOk (a i) (c j))
    (ret : ∀ l g' h' tk, Ev [] g s.heap g' h' → IntL g' l (lf n fun k => nc n a c k % q) → R (.ok (.ret (.ref l))) { s with heap := h', toks := tk }) :
    codeAny (model prog w) A (.call (.ref 122) ⟨[.ref self, .ref other], []⟩) R s := by
  refine enter (mu := []) (binds := [("self", .ref self), ("other", .ref other)]) (m := up "other" (.ref other) no) (mc := up "self" (.ref self) no)
    W hB hA (by k_is) (by k_is) (BindsTo.of_eq rfl) rfl (by decide) (fun _ q => nomatch q) .nil (fun _ => rfl) (fun _ => rfl) ?_
  intro L h₁ tk E' hA' H
  walk_at "M"
  refine ga_parent W H hp ?_
  refine ga_n W H hr ?_
  intro t1
  walk_at "M"
  rename St _ _ _ _ _ _ _ _ _ _ => H2
  refine ga_coeffs W H2 hp ?_
  intro la hla
  walk_at "M"
  rename St _ _ _ _ _ _ _ _ _ _ => H3
  refine ga_coeffs W H3 ho ?_
  intro lb hlb
  walk_at "M"
  refine as_lc (cl := []) (cn := []) (xc := false) (by walk_at "ok") fun ok => ?_
  walk_at "M"
  rename St _ _ _ _ _ _ _ _ _ _ => H4
  refine call_range1 H4 ?_
  intro h5 tk5 rr t5 u5 v5 hrr H5
  refine lc_runA ok H5 (Src.range hA'.hh hrr (rngN hn) (nat0 _)) (by rw [to_nat0]; exact szl hn) (fun i g₁ mu₁ ys => mu₁ = [] ∧ IntsAre ys (lf i fun _ => 0)) ⟨rfl, .nil⟩ ?_ ?_
  · rintro i v C D oD I oI g₁ mu₁ ys h₁ tk E' hi hP le ha ⟨rfl, hns⟩ hl H3
    walk_at "M"
    exact EltEnd.mk (.refl _) H3 rfl ⟨rfl, ints_push hns rfl⟩
  rintro g₁ mu₁ ys D oD h6 tk6 le ha ⟨rfl, hns⟩ hl2 isl fD H6
  rw [to_nat0] at hns
  replace hla := hla.mono le
  replace hlb := hlb.mono le
  replace hr := hr.mono le
  replace hp := hp.mono le
  dsimp only
  walk_at "M"
  refine call_range1 H6 ?_
  intro h7 tk7 rr7 t7 u7 v7 hrr7 H7
  refine loop_for H7 (Src.range hA'.hh hrr7 (rngN hn) (nat0 _)) (fun i g₁ m₁ mc₁ mu₁ => mc₁ = up "self" (.ref self) no ∧ m₁ "n" = some (.int n t1) ∧ m₁ "a" = some (.ref la) ∧ m₁ "b" = some (.ref lb) ∧ m₁ "new_coeffs" = some (.ref D) ∧ ∃ oD ys, mu₁ = [(D, oD)] ∧ IsL oD ys ∧ IntsAre ys (lf n fun k => sA n a c i k))
    ⟨rfl, by with_unfolding_all rfl, by with_unfolding_all rfl, by with_unfolding_all rfl, by with_unfolding_all rfl, oD, ys, rfl, isl, hns⟩ ?_ ?_
  · rintro i v I oI g₁ m₁ mc₁ mu₁ h₁ tk E' hi hP le1 ⟨rfl, e1, e2, e3, e4, oD, ys, rfl, isl, hns⟩ H8
    obtain ⟨ti, e⟩ := hP
    rw [Int.zero_add] at e
    subst e
    replace hla := hla.mono le1
    replace hlb := hlb.mono le1
    obtain ⟨hin, s1, s2, s3⟩ := sc_a hi hn
    walk_at "M"
    refine call_range2 H8 ?_
    intro h9 tk9 rr9 t9 u9 v9 hrr9 H9
    refine loop_for H9 (Src.range hA'.hh hrr9 (rng2 (by decide) (by decide) s1 s2) s1) (fun j g₁ m₁ mc₁ mu₁ => mc₁ = up "self" (.ref self) no ∧ m₁ "n" = some (.int n t1) ∧ m₁ "a" = some (.ref la) ∧ m₁ "b" = some (.ref lb) ∧ m₁ "new_coeffs" = some (.ref D) ∧ m₁ "i" = some (.int i ti) ∧ ∃ oD ys, mu₁ = [(I, oI), (D, oD)] ∧ IsL oD ys ∧ IntsAre ys (lf n fun k => sA n a c i k + sm j fun j' => if i + j' = k then a i * c j' else 0))
      ⟨rfl, by with_unfolding_all assumption, by with_unfolding_all assumption, by with_unfolding_all assumption, by with_unfolding_all assumption, by with_unfolding_all rfl, oD, ys, rfl, isl, ints_ext hns fun k _ => (Int.add_zero _).symm⟩ ?_ ?_
    · rintro j v I2 oI2 g₂ m₂ mc₂ mu₂ h₂ tk₂ E2 hj hP2 le2 ⟨rfl, f1, f2, f3, f4, f5, oD, ys, rfl, isl, hns⟩ H10
      obtain ⟨tj, e⟩ := hP2
      rw [Int.zero_add] at e
      subst e
      replace hla := hla.mono le2
      replace hlb := hlb.mono le2
      rw [s3] at hj
      obtain ⟨hjn, hj'⟩ := sc_b hin hj
      walk_at "M"
      refine row_get (i := i + j) H10 (by walk_at "mem") isl hns (by first | rfl | omega) hjn hn ?_
      intro u1
      walk_at "M"
      refine row_il (i := i) H10 hla rfl hin hn ?_
      intro u2
      walk_at "M"
      refine row_il (i := j) H10 hlb rfl hj' hn ?_
      intro u3
      walk_at "M"
      refine imul_ok (hm i j hin hj') ?_
      walk_at "M"
      refine row_set (i := i + j) (pre := [(I2, oI2), (I, oI)]) (post := []) H10 isl hns (by first | rfl | omega) hjn hn ?_
      intro h11 o11 ys11 isl11 hns11 H11
      walk_at "M"
      refine LoopEnd.mk (.refl _) H11 ⟨rfl, by with_unfolding_all assumption, by with_unfolding_all assumption, by with_unfolding_all assumption, by with_unfolding_all assumption, by with_unfolding_all assumption, o11, ys11, rfl, isl11, hns11 _ fun k hk => ?_⟩
      rw [sm_succ]
      by_cases z : i + j = k
      · subst z; rw [if_pos rfl, if_pos rfl]; exact Int.add_assoc _ _ _
      · rw [if_neg z, if_neg z, Int.add_zero]
    · rintro g₂ m₂ mc₂ mu₂ h₂ tk₂ le2 ⟨rfl, f1, f2, f3, f4, f5, oD, ys, rfl, isl, hns⟩ H10
      walk_at "M"
      refine LoopEnd.mk le2 H10 ⟨rfl, f1, f2, f3, f4, oD, ys, rfl, isl, ints_ext hns fun k hk => ?_⟩
      unfold sA
      rw [sm_succ, s3]
  rintro g₁ m₁ mc₁ mu₁ h8 tk8 le1 ⟨rfl, e1, e2, e3, e4, oD, ys, rfl, isl, hns⟩ H8
  rw [to_nat0] at hns
  replace hla := hla.mono le1
  replace hlb := hlb.mono le1
  replace hr := hr.mono le1
  replace hp := hp.mono le1
  walk_at "M"
  refine call_range2 H8 ?_
  intro h9 tk9 rr9 t9 u9 v9 hrr9 H9
  refine loop_for H9 (Src.range hA'.hh hrr9 (rng2 (by decide) (by decide) (nat0 n) (cast_le hn)) (cast_le hn1)) (fun j g₁ m₁ mc₁ mu₁ => mc₁ = up "self" (.ref self) no ∧ m₁ "n" = some (.int n t1) ∧ m₁ "a" = some (.ref la) ∧ m₁ "b" = some (.ref lb) ∧ m₁ "new_coeffs" = some (.ref D) ∧ ∃ oD ys, mu₁ = [(D, oD)] ∧ IsL oD ys ∧ IntsAre ys (lf n fun k => sA n a c n k - sB n a c j k))
    ⟨rfl, e1, e2, e3, e4, oD, ys, rfl, isl, ints_ext hns fun k _ => (Int.sub_zero _).symm⟩ ?_ ?_
  · rintro j v I oI g₁ m₁ mc₁ mu₁ h₁ tk E' hj hP le1 ⟨rfl, e1, e2, e3, e4, oD, ys, rfl, isl, hns⟩ H8
    obtain ⟨tj, e⟩ := hP
    subst e
    replace hla := hla.mono le1
    replace hlb := hlb.mono le1
    obtain ⟨hjn, s1, s2, s3, s4⟩ := sc_c hj hn
    walk_at "M"
    refine call_range2 H8 ?_
    intro h9 tk9 rr9 t9 u9 v9 hrr9 H9
    refine loop_for H9 (Src.range hA'.hh hrr9 (rng2 s1 s2 (nat0 n) (cast_le hn)) s3) (fun i g₁ m₁ mc₁ mu₁ => mc₁ = up "self" (.ref self) no ∧ m₁ "n" = some (.int n t1) ∧ m₁ "a" = some (.ref la) ∧ m₁ "b" = some (.ref lb) ∧ m₁ "new_coeffs" = some (.ref D) ∧ m₁ "j" = some (.int (1 + j) tj) ∧ ∃ oD ys, mu₁ = [(I, oI), (D, oD)] ∧ IsL oD ys ∧ IntsAre ys (lf n fun k => sA n a c n k - (sB n a c j k + sm i fun u => if u = k then a (n - (1 + j) + u) * c (1 + j) else 0)))
      ⟨rfl, by with_unfolding_all assumption, by with_unfolding_all assumption, by with_unfolding_all assumption, by with_unfolding_all assumption, by with_unfolding_all rfl, oD, ys, rfl, isl, ints_ext hns fun k _ => by show _ = _ - (_ + 0); rw [Int.add_zero]⟩ ?_ ?_
    · rintro u v I2 oI2 g₂ m₂ mc₂ mu₂ h₂ tk₂ E2 hu hP2 le2 ⟨rfl, f1, f2, f3, f4, f5, oD, ys, rfl, isl, hns⟩ H10
      obtain ⟨ti, e⟩ := hP2
      subst e
      replace hla := hla.mono le2
      replace hlb := hlb.mono le2
      rw [s4] at hu
      obtain ⟨hun, hi2, s5⟩ := sc_d hjn hu
      walk_at "M"
      refine row_get (i := u) H10 (by walk_at "mem") isl hns sc_e hun hn ?_
      intro u1
      walk_at "M"
      refine row_il (i := n - (1 + j) + u) H10 hla s5 hi2 hn ?_
      intro u2
      walk_at "M"
      refine row_il (i := 1 + j) H10 hlb rfl hjn hn ?_
      intro u3
      walk_at "M"
      refine imul_ok (hm _ _ hi2 hjn) ?_
      walk_at "M"
      refine row_set (i := u) (pre := [(I2, oI2), (I, oI)]) (post := []) H10 isl hns sc_e hun hn ?_
      intro h11 o11 ys11 isl11 hns11 H11
      walk_at "M"
      refine LoopEnd.mk (.refl _) H11 ⟨rfl, by with_unfolding_all assumption, by with_unfolding_all assumption, by with_unfolding_all assumption, by with_unfolding_all assumption, by with_unfolding_all assumption, o11, ys11, rfl, isl11, hns11 _ fun k hk => ?_⟩
      rw [sm_succ]
      by_cases z : u = k
      · subst z; rw [if_pos rfl, if_pos rfl, Int.sub_sub, Int.add_assoc]
      · rw [if_neg z, if_neg z, Int.add_zero]
    · rintro g₂ m₂ mc₂ mu₂ h₂ tk₂ le2 ⟨rfl, f1, f2, f3, f4, f5, oD, ys, rfl, isl, hns⟩ H10
      walk_at "M"
      refine LoopEnd.mk le2 H10 ⟨rfl, f1, f2, f3, f4, oD, ys, rfl, isl, ints_ext hns fun k hk => ?_⟩
      unfold sB
      rw [sm_succ, s4]
  rintro g₁ m₁ mc₁ mu₁ h10 tk10 le1 ⟨rfl, e1, e2, e3, e4, oD, ys, rfl, isl, hns⟩ H10
  replace hr := hr.mono le1
  replace hp := hp.mono le1
  obtain ⟨H11, le11⟩ := H10.freeze fD
  replace hr := hr.mono le11
  replace hp := hp.mono le11
  walk_at "M"
  refine ev_lc (cl := [("self", L + 1)]) (cn := ["self"]) (xc := false) (by walk_at "ok") fun ok => ?_
  walk_at "M"
  have hys := ints_len hns
  refine lc_run ok H11 (Src.list hA'.hh (FM.put_self ..) H11.on (isl.at_ (H11.on _ _ (FM.put_self ..)))) (by rw [hys]; exact szl hn) (fun i g₁ mu₁ zs => mu₁ = [] ∧ IntsAre zs (lf i fun k => nc n a c k % q)) ⟨rfl, .nil⟩ ?_ ?_
  · rintro i v C D2 oD2 I oI g₂ mu₁ zs h₁ tk E' hi hP le2 ha ⟨rfl, hzs⟩ hl H12
    have hin : i < n := hys ▸ hi
    obtain ⟨tv, hv⟩ := ints_at hns hin
    rw [hv] at hP
    obtain rfl := Option.some.inj hP
    walk_at "M"
    refine ga_parent W H12 (hp.mono le2) ?_
    refine ga_q W H12 (hr.mono le2) ?_
    intro tq
    walk_at "M"
    refine EltEnd.mk (.refl _) H12 rfl ⟨rfl, ints_push hzs ?_⟩
    rw [← school_eq a c hin, to_nat1 hn1]
  · rintro g₂ mu₁ zs D2 oD2 h₁ tk le2 ha ⟨rfl, hzs⟩ hl isl2 fD2 H12
    obtain ⟨H13, le13⟩ := H12.freeze fD2
    rw [hys] at hzs
    dsimp only
    exact ret _ _ _ _ H13.ev (IntL.mk (FM.put_self ..) isl2 hzs)
end
end Mine
namespace Mine
section
variable {prog : Program} {w : World} {p : Program} {loose : List Str} {mean : ExcName → Option Value} {mg mb : Str → Option Value} {b : Heap}
variable {S : List Addr} {g0 : FM} {h0 : Heap} {env : Env} {g : FM} {m mc : Str → Option Value} {mu : List (Addr × Obj)}
variable {A : Around} {s : Shared} {E : Value → Shared → Prop} {R : Result → Shared → Prop}
theorem pad_full {n : Nat} {f : Nat → Int} : lf n f ++ List.replicate (n - (lf n f).length) 0 = lf n f := by rw [lf_length, Nat.sub_self]; simp

set_option maxHeartbeats 400000 in
theorem padd_spec (W : Wd (Mine.hd.heap_39 w.params) p loose mean mg mb b) (hB : Bg b g s.heap) (hA : Ao 6 A)
    {self other r r' : Addr} {q : Int} {n : Nat} {a c : Nat → Int} (hp : Poly 222 g self r (lf n a)) (ho : Poly 222 g other r' (lf n c)) (hr : Ring 59 g r q n) (hq : 0 < q) (hn : n ≤ 1000)
    (ret : ∀ x g' h' tk, Ev [] g s.heap g' h' → Poly 222 g' x r (lf n fun k => (a k + c k) % q) → R (.ok (.ret (.ref x))) { s with heap := h', toks := tk }) :
    codeAny (model prog w) A (.call (.ref 139) ⟨[.ref self, .ref other], []⟩) R s := by
  refine enter (mu := []) (binds := [("self", .ref self), ("other", .ref other)]) (m := up "other" (.ref other) (up "self" (.ref self) no)) (mc := no)
    W hB hA (by k_is) (by k_is) (BindsTo.of_eq rfl) rfl (by decide) (fun _ q => nomatch q) .nil (fun _ => rfl) (fun _ => rfl) ?_
  intro L h₁ tk E' hA' H
  walk_at "M"
  refine gm_P (f := 132) W H hp (by k_is) (by k_is) (by k_is) (fun _ _ _ _ _ _ => rfl) ?_
  walk_at "M"
  refine wpAny_call (add_ W H.Bg (hA'.le (by decide)) hp ho hr hq hn ?_)
  intro l g' h' tk' ev hl
  have H2 := H.call0 ev
  walk_at "M"
  rename St _ _ _ _ _ _ _ _ _ _ => H3
  refine gm_parent W H3 (hp.mono ev.gg) ?_
  obtain ⟨d, es, k, i⟩ := (hr.mono ev.gg).at
  refine x_icall (H3.X W) (i.mono H3.on) (by k_is) ?_
  walk_at "M"
  refine ⟨⟨H3.X W, i.mono H3.on⟩, ?_⟩
  refine rcall (x := .Name "x" ⟨0, 0, 0, 0⟩) (pos := ⟨0, 0, 0, 0⟩) W H3 hA' (hr.mono ev.gg) hl hn (by rw [lf_length]; exact Nat.le_refl _) ?_
  intro x g2 h2 tk2 ev2 hx
  rw [pad_full] at hx
  have H4 := H3.call0 ev2
  walk_at "M"
  exact ret _ _ _ _ H4.ev hx

set_option maxHeartbeats 400000 in
theorem pmul_spec (W : Wd (Mine.hd.heap_39 w.params) p loose mean mg mb b) (hB : Bg b g s.heap) (hA : Ao 6 A)
    {self other r r' : Addr} {q : Int} {n : Nat} {a c : Nat → Int} (hp : Poly 222 g self r (lf n a)) (ho : Poly 222 g other r' (lf n c)) (hr : Ring 59 g r q n) (hq : 0 < q) (hn : n ≤ 1000) (hn1 : 1 ≤ n) (hm : ∀ i j, i < n → j < n → IntMulOk (a i) (c j))
    (ret : ∀ x g' h' tk, Ev [] g s.heap g' h' → Poly 222 g' x r (lf n fun k => nc n a c k % q) → R (.ok (.ret (.ref x))) { s with heap := h', toks := tk }) :
    codeAny (model prog w) A (.call (.ref 184) ⟨[.ref self, .ref other], []⟩) R s := by
  refine enter (mu := []) (binds := [("self", .ref self), ("other", .ref other)]) (m := no) (mc := up "other" (.ref other) (up "self" (.ref self) no))
    W hB hA (by k_is) (by k_is) (BindsTo.of_eq rfl) rfl (by decide) (fun _ q => nomatch q) .nil (fun _ => rfl) (fun _ => rfl) ?_
  intro L h₁ tk E' hA' H
  walk_at "M"
  obtain ⟨es, I1⟩ := hp.inst
  obtain ⟨es', I2⟩ := ho.inst
  refine type_inst (I1.mono H.on) ?_
  walk_at "M"
  refine isi_inst (r := true) (H.X W) (I2.mono H.on) (by kit_is) (by k_is) (by k_is) (by k_is) (by k_is) (by k_is) (by k_is) ?_
  intro tk2
  walk_at "M"
  refine gm_P (f := 122) W H hp (by k_is) (by k_is) (by k_is) (fun _ _ _ _ _ _ => rfl) ?_
  walk_at "M"
  refine wpAny_call (school_spec W H.Bg (hA'.le (by decide)) hp ho hr hq hn hn1 hm ?_)
  intro l g' h' tk' ev hl
  have H2 := H.call0 ev
  walk_at "M"
  rename St _ _ _ _ _ _ _ _ _ _ => H3
  refine gm_parent W H3 (hp.mono ev.gg) ?_
  obtain ⟨d, es, k, i⟩ := (hr.mono ev.gg).at
  refine x_icall (H3.X W) (i.mono H3.on) (by k_is) ?_
  walk_at "M"
  refine ⟨⟨H3.X W, i.mono H3.on⟩, ?_⟩
  refine rcall (x := .Name "x" ⟨0, 0, 0, 0⟩) (pos := ⟨0, 0, 0, 0⟩) W H3 hA' (hr.mono ev.gg) hl hn (by rw [lf_length]; exact Nat.le_refl _) ?_
  intro x g2 h2 tk2 ev2 hx
  rw [pad_full] at hx
  have H4 := H3.call0 ev2
  walk_at "M"
  exact ret _ _ _ _ H4.ev hx

end
end Mine
namespace Mine
section
variable {prog : Program} {w : World} {p : Program} {loose : List Str} {mean : ExcName → Option Value} {mg mb : Str → Option Value} {b : Heap}
variable {S : List Addr} {g0 : FM} {h0 : Heap} {env : Env} {g : FM} {m mc : Str → Option Value} {mu : List (Addr × Obj)}
variable {A : Around} {s : Shared} {E : Value → Shared → Prop} {R : Result → Shared → Prop}
/-- two polynomials of the class, multiplied and added -/
theorem bin_mul {x y r r' : Addr} {q : Int} {n : Nat} {a c : Nat → Int} {Q : Value → Shared → Prop} (W : Wd (Mine.hd.heap_39 w.params) p loose mean mg mb b) (H : St b S g0 h0 env g m mc mu s.heap) (hA : Ao 6 A)
    (hx : Poly 222 g x r (lf n a)) (hy : Poly 222 g y r' (lf n c)) (hr : Ring 59 g r q n) (hq : 0 < q) (hn : n ≤ 1000) (hn1 : 1 ≤ n) (hm : ∀ i j, i < n → j < n → IntMulOk (a i) (c j))
    (ret : ∀ z g' h' tk, Ev [] g s.heap g' h' → Poly 222 g' z r (lf n fun k => nc n a c k % q) → Q (.ref z) { s with heap := h', toks := tk }) :
    wpAny (model prog w) A (binaryOp .Mult (.ref x) (.ref y)) Q E s := by
  obtain ⟨es, I⟩ := hx.inst
  obtain ⟨es', J⟩ := hy.inst
  refine bin_same (f := 184) W H I J ?a ?b ?c (wpAny_call (pmul_spec W H.Bg hA hx hy hr hq hn hn1 hm fun z g' h' tk ev hz => ret z g' h' tk ev hz))
  case a => k_is
  case b => k_is
  case c => k_is
theorem bin_add {x y r r' : Addr} {q : Int} {n : Nat} {a c : Nat → Int} {Q : Value → Shared → Prop} (W : Wd (Mine.hd.heap_39 w.params) p loose mean mg mb b) (H : St b S g0 h0 env g m mc mu s.heap) (hA : Ao 6 A)
    (hx : Poly 222 g x r (lf n a)) (hy : Poly 222 g y r' (lf n c)) (hr : Ring 59 g r q n) (hq : 0 < q) (hn : n ≤ 1000)
    (ret : ∀ z g' h' tk, Ev [] g s.heap g' h' → Poly 222 g' z r (lf n fun k => (a k + c k) % q) → Q (.ref z) { s with heap := h', toks := tk }) :
    wpAny (model prog w) A (binaryOp .Add (.ref x) (.ref y)) Q E s := by
  obtain ⟨es, I⟩ := hx.inst
  obtain ⟨es', J⟩ := hy.inst
  refine bin_same (f := 139) W H I J ?a ?b ?c (wpAny_call (padd_spec W H.Bg hA hx hy hr hq hn fun z g' h' tk ev hz => ret z g' h' tk ev hz))
  case a => k_is
  case b => k_is
  case c => k_is
end
end Mine
namespace Mine
section
variable {prog : Program} {w : World} {p : Program} {loose : List Str} {mean : ExcName → Option Value} {mg mb : Str → Option Value} {b : Heap}
variable {S : List Addr} {g0 : FM} {h0 : Heap} {env : Env} {g : FM} {m mc : Str → Option Value} {mu : List (Addr × Obj)}
variable {A : Around} {s : Shared} {E : Value → Shared → Prop} {R : Result → Shared → Prop}

set_option maxHeartbeats 400000 in
theorem ring_init (W : Wd (Mine.hd.heap_39 w.params) p loose mean mg mb b) (hB : Bg b g s.heap) (hA : Ao 1 A)
    {x dx : Addr} {q n : Int} {tq tn : Tok} (hx : g x = some (instObj 59 dx)) (hd : s.heap.get? dx = some (dictOf [] 0)) (gd : g dx = none)
    (ret : ∀ h1 t1 u1 h2 t2 u2 nn h' tk, Ev [dx] g s.heap g h' → h'.get? dx = some (dictOf [⟨h1, .str "q" t1, .int q u1⟩, ⟨h2, .str "n" t2, .int n u2⟩] nn) → R (.ok (.ret .none)) { s with heap := h', toks := tk }) :
    codeAny (model prog w) A (.call (.ref 35) ⟨[.ref x, .int q tq, .int n tn], []⟩) R s := by
  refine enter (mu := [(dx, dictOf [] 0)]) (binds := [("self", .ref x), ("q", .int q tq), ("n", .int n tn)]) (m := up "n" (.int n tn) (up "q" (.int q tq) (up "self" (.ref x) no))) (mc := no)
    W hB hA (by k_is) (by k_is) (BindsTo.of_eq rfl) rfl (by decide) (fun q hq => by rw [List.mem_singleton.mp hq]; exact ⟨hd, gd⟩) (by simp) (fun _ => rfl) (fun _ => rfl) ?_
  intro L h₁ tk E' hA' H
  walk_at "M"
  refine sa_own W H (H.on _ _ hx) (by k_is) (by k_is) (by k_is) (by k_is) (by rfl) (by rfl) (Nat.le_of_ble_eq_true rfl) ?_
  intro h2 H2
  walk_at "M"
  refine sa_own W H2 (H2.on _ _ hx) (by k_is) (by k_is) (by k_is) (by k_is) (by rfl) (by rfl) (Nat.le_of_ble_eq_true rfl) ?_
  intro h3 H3
  walk_at "M"
  exact ret _ _ _ _ _ _ _ _ _ H3.ev (H3.mus _ (.head _))

theorem ring_make (W : Wd (Mine.hd.heap_39 w.params) p loose mean mg mb b) (hB : Bg b g s.heap) (hA : Ao 2 A)
    {q n : Int} {tq tn : Tok} {Q : Value → Shared → Prop}
    (ret : ∀ x g' h' tk, Ev [] g s.heap g' h' → Ring 59 g' x q n → Q (.ref x) { s with heap := h', toks := tk }) :
    wpAny (model prog w) A (call (.ref 59) [.int q tq, .int n tn]) Q E s := by
  refine mk_inst (kw := []) (W.X.keeps fun a o e => hB.on _ _ (hB.bg a o e)) hB.on (by k_is) (by k_is) (by k_is) ?_
  intro x dx h1 fx fd ne hx hd k1 sz
  refine ring_init W (hB.put fx hx k1 sz) hA.make (FM.put_self ..) hd ?_ ?_
  · unfold FM.put
    rw [if_neg ne.symm]
    cases q : g dx with
    | none => rfl
    | some o' => have := hB.on _ _ q; rw [fd] at this; cases this
  · intro a1 t1 u1 a2 t2 u2 nn h' tk ev hd'
    obtain ⟨ev', le⟩ := ev.made hB.on fx fd ne k1 hd hd'
    exact ⟨rfl, ret _ _ _ _ ev' ⟨a1, t1, u1, a2, t2, u2, dx, nn, le _ _ (ev.gg _ _ (FM.put_self ..)), FM.put_self ..⟩⟩
end
end Mine
namespace Mine
section
variable {prog : Program} {w : World} {p : Program} {loose : List Str} {mean : ExcName → Option Value} {mg mb : Str → Option Value} {b : Heap}
variable {S : List Addr} {g0 : FM} {h0 : Heap} {env : Env} {g : FM} {m mc : Str → Option Value} {mu : List (Addr × Obj)}
variable {A : Around} {s : Shared} {E : Value → Shared → Prop} {R : Result → Shared → Prop}

set_option maxHeartbeats 400000 in
theorem state_spec (W : Wd (Mine.hd.heap_39 w.params) p loose mean mg mb b) (hB : Bg b g s.heap) (hA : Ao 2 A)
    {l : Addr} {ns : List Int} (hl : IntL0 g l ns) (hn : ns.length ≤ 63)
    (ret : ∀ st cl mu' g' h' tk, Ev [] g s.heap g' h' → StOk st cl mu' → (∀ q ∈ mu', h'.get? q.1 = some q.2 ∧ s.heap.get? q.1 = none ∧ g' q.1 = none) → (mu'.map (·.1)).Nodup → R (.ok (.ret (.ref st))) { s with heap := h', toks := tk }) :
    codeAny (model prog w) A (.call (.ref 386) ⟨[.ref l], []⟩) R s := by
  refine enter (mu := []) (binds := [("script", .ref l)]) (m := up "script" (.ref l) no) (mc := no)
    W hB hA (by k_is) (by k_is) (BindsTo.of_eq rfl) rfl (by decide) (fun _ q => nomatch q) .nil (fun _ => rfl) (fun _ => rfl) ?_
  intro L h₁ tk E' hA' H
  have fin : ∀ {D : Addr} {o : Obj} {vs : List Value} {ns : List Int} {g2 : FM} {h2 : Heap} {tk2 t0 : Nat} {st : Addr} {h3 : Heap} {env : Env} {m mc : Str → Option Value}, St b [] g s.heap env g2 m mc [(D, o)] h2 → IsL o vs → IntsAre vs ns → 0 < vs.length → vs.length ≤ 63 →
      st = h2.objs.size → h3 = h2.push (lst [.int 0 t0, .ref D]) → R (.ok (.ret (.ref st))) { s with heap := h3, toks := tk2 } := by
    intro D o vs ns g2 h2 tk2 t0 st h3 env m mc H2 isl hi h0 h1 ea eh
    obtain ⟨f3, H3⟩ := H2.mkL ea eh
    obtain ⟨mf, nd⟩ := H3.muFacts (pre := [])
    refine ret st D _ _ _ _ H3.ev ⟨_, o, 0, t0, vs, ns, rfl, IsL.lst _, isl, hi, h0, by omega⟩ (fun q hq => ⟨(mf q hq).1, ?_, (mf q hq).2⟩) nd
    exact (H3.own q.1 (owns_mu hq)).2.elim id fun z => nomatch z
  walk_at "M"
  refine as_lc (cl := []) (cn := []) (xc := false) (by walk_at "ok") fun ok => ?_
  walk_at "M"
  refine wpAny_Slice (wpAny_evalPart_none (wpAny_evalPart_some (wpAny_Constant_int (wpAny_evalPart_none ?_))))
  obtain ⟨vs, hvl, hvi⟩ := hl.list H.on.le
  have e1 := hvi.length
  refine sub_upto (s := { s with heap := h₁, toks := _ }) H hvl hvi (by decide) (by rw [sizeLine_eq]; omega) ?_
  intro D o ws h2 isl hws fD H2
  have e2 : ws.length ≤ 63 := by rw [hws.length]; simp; omega
  obtain ⟨H3, le3⟩ := H2.freeze fD
  dsimp only
  refine lc_runA ok H3 (Src.list hA'.hh (FM.put_self ..) H3.on (isl.at_ (H3.on _ _ (FM.put_self ..)))) (by rw [sizeLine_eq]; omega) (fun i g₁ mu₁ zs => mu₁ = [] ∧ ∃ ns, IntsAre zs ns) ⟨rfl, [], .nil⟩ ?_ ?_
  · rintro i v C D2 oD2 I oI g₂ mu₁ zs h₁ tk E' hi hP le2 ha ⟨rfl, ms, hzs⟩ hl H12
    obtain ⟨x, tx, rfl⟩ : ∃ x t, v = .int x t := by
      have hk : i < (ns.take (63 : Int).toNat).length := by rw [← hws.length]; exact hi
      obtain ⟨t, ht⟩ := hws.get i _ (List.getElem?_eq_getElem hk)
      rw [ht] at hP
      exact ⟨_, t, (Option.some.inj hP).symm⟩
    walk_at "M"
    refine call_abs_int ?_
    intro u tk2
    exact EltEnd.mk (.refl _) H12 rfl ⟨rfl, _, hzs.append (.cons _ _ .nil)⟩
  rintro g₂ mu₁ zs D2 oD2 h₁ tk le2 ha ⟨rfl, ms, hzs⟩ hl isl2 fD2 H12
  dsimp only
  walk_at "M"
  split
  · walk_at "M"
    refine ⟨sz1 rfl, fun a h5 ea eh => ?_⟩
    obtain ⟨fa, H5⟩ := H12.mkL ea eh
    walk_at "M"
    rename St _ _ _ _ _ _ _ _ _ _ => H6
    refine ⟨sz1 rfl, fun a h7 ea eh => ?_⟩
    exact fin (vs := [_]) (H6.perm (List.Perm.swap _ _ _)).drop (IsL.lst _) (.cons _ _ .nil) (Nat.le_of_ble_eq_true rfl) (Nat.le_of_ble_eq_true rfl) ea eh
  · rename_i hz
    walk_at "M"
    refine ⟨sz1 rfl, fun a h7 ea eh => ?_⟩
    have hz : zs.length ≠ 0 := fun z => hz (by rw [z]; rfl)
    exact fin H12 isl2 hzs (by omega) (by omega) ea eh
end
end Mine
namespace Mine
section
variable {prog : Program} {w : World} {p : Program} {loose : List Str} {mean : ExcName → Option Value} {mg mb : Str → Option Value} {b : Heap}
variable {S : List Addr} {g0 : FM} {h0 : Heap} {env : Env} {g : FM} {m mc : Str → Option Value} {mu : List (Addr × Obj)}
variable {A : Around} {s : Shared} {E : Value → Shared → Prop} {R : Result → Shared → Prop}

theorem pr_a {n i j : Nat} (hi : i < n) (hj : j < n) (h : ¬ ((i : Int) + j < n)) : i + j - n < n ∧ ¬ i + j < n ∧ (i : Int) + j - n = ((i + j - n : Nat) : Int) := by omega
set_option maxHeartbeats 1000000 in
theorem product_spec (W : Wd (Mine.hd.heap_39 w.params) p loose mean mg mb b) (hB : Bg b g s.heap) (hA : Ao 2 A)
    {la lb : Addr} {q : Int} {tq : Tok} {n : Nat} {a c : Nat → Int} (hla : IntL g la (lf n a)) (hlb : IntL g lb (lf n c)) (hq : 0 < q) (hn : n ≤ 1000) (hm : ∀ i j, i < n → j < n → IntMulOk (a i) (c j))
    (ret : ∀ l g' h' tk, Ev [] g s.heap g' h' → IntL g' l (lf n fun k => nc n a c k % q) → R (.ok (.ret (.ref l))) { s with heap := h', toks := tk }) :
    codeAny (model prog w) A (.call (.ref 403) ⟨[.ref la, .ref lb, .int q tq], []⟩) R s := by
  refine enter (mu := []) (binds := [("one", .ref la), ("two", .ref lb), ("q", .int q tq)]) (m := up "two" (.ref lb) (up "one" (.ref la) no)) (mc := up "q" (.int q tq) no)
    W hB hA (by k_is) (by k_is) (BindsTo.of_eq rfl) rfl (by decide) (fun _ q => nomatch q) .nil (fun _ => rfl) (fun _ => rfl) ?_
  intro L h₁ tk E' hA' H
  walk_at "M"
  refine len_il H hla (lfl hn) ?_
  rw [lf_length]
  walk_at "M"
  rename St _ _ _ _ _ _ _ _ _ _ => H2
  refine ⟨sz1 rfl, fun a1 h3 ea eh => ?_⟩
  obtain ⟨fa, H3⟩ := H2.mkL ea eh
  walk_at "M"
  refine mul_one H3 (nlo n) (nhi hn) ?_
  intro D h4 fD _ H4
  walk_at "M"
  rename St _ _ _ _ _ _ _ _ _ _ => H5
  refine call_range1 H5 ?_
  intro h7 tk7 rr7 t7 u7 v7 hrr7 H7
  refine loop_for H7 (Src.range hA'.hh hrr7 (rngN hn) (nat0 _)) (fun i g₁ m₁ mc₁ mu₁ => mc₁ = up "q" (.int q tq) no ∧ (∃ tn, m₁ "n" = some (.int n tn)) ∧ m₁ "one" = some (.ref la) ∧ m₁ "two" = some (.ref lb) ∧ m₁ "row" = some (.ref D) ∧ ∃ oD ys, mu₁ = [(D, oD)] ∧ IsL oD ys ∧ IntsAre ys (lf n fun k => sP n a c i k))
    ⟨rfl, ⟨_, by with_unfolding_all rfl⟩, by with_unfolding_all rfl, by with_unfolding_all rfl, by with_unfolding_all rfl, _, _, rfl, IsL.lst _, by rw [Int.toNat_natCast]; exact ints_rep _ _ _⟩ ?_ ?_
  · rintro i v I oI g₁ m₁ mc₁ mu₁ h₁ tk E' hi hP le1 ⟨rfl, ⟨tn, e1⟩, e2, e3, e4, oD, ys, rfl, isl, hns⟩ H8
    obtain ⟨ti, e⟩ := hP
    rw [Int.zero_add] at e
    subst e
    replace hla := hla.mono le1
    replace hlb := hlb.mono le1
    walk_at "M"
    refine call_range1 H8 ?_
    intro h9 tk9 rr9 t9 u9 v9 hrr9 H9
    refine loop_for H9 (Src.range hA'.hh hrr9 (rngN hn) (nat0 _)) (fun j g₁ m₁ mc₁ mu₁ => mc₁ = up "q" (.int q tq) no ∧ m₁ "n" = some (.int n tn) ∧ m₁ "one" = some (.ref la) ∧ m₁ "two" = some (.ref lb) ∧ m₁ "row" = some (.ref D) ∧ m₁ "j" = some (.int i ti) ∧ ∃ oD ys, mu₁ = [(I, oI), (D, oD)] ∧ IsL oD ys ∧ IntsAre ys (lf n fun k => sP n a c i k + sm j fun l => if i + l < n then (if i + l = k then a i * c l else 0) else if i + l - n = k then 0 - a i * c l else 0))
      ⟨rfl, by with_unfolding_all assumption, by with_unfolding_all assumption, by with_unfolding_all assumption, by with_unfolding_all assumption, by with_unfolding_all rfl, oD, ys, rfl, isl, ints_ext hns fun k _ => (Int.add_zero _).symm⟩ ?_ ?_
    · rintro j v I2 oI2 g₂ m₂ mc₂ mu₂ h₂ tk₂ E2 hj hP2 le2 ⟨rfl, f1, f2, f3, f4, f5, oD, ys, rfl, isl, hns⟩ H10
      obtain ⟨tj, e⟩ := hP2
      rw [Int.zero_add] at e
      subst e
      replace hla := hla.mono le2
      replace hlb := hlb.mono le2
      have hjn : j < n := by rw [to_nat0] at hj; exact hj
      have hin : i < n := by rw [to_nat0] at hi; exact hi
      walk_at "M"
      split
      · rename_i hlt
        have hlt := of_decide_eq_true hlt
        have hjn' : i + j < n := Int.ofNat_lt.mp hlt
        walk_at "M"
        refine row_sub (i := i + j) H10 (by walk_at "mem") isl hns (by first | rfl | omega) hjn' hn ?_
        intro u1
        walk_at "M"
        refine row_il (i := i) H10 hla rfl hin hn ?_
        intro u2
        walk_at "M"
        refine row_il (i := j) H10 hlb rfl hjn hn ?_
        intro u3
        walk_at "M"
        refine imul_ok (hm i j hin hjn) ?_
        walk_at "M"
        refine row_set (i := i + j) (pre := [(I2, oI2), (I, oI)]) (post := []) H10 isl hns (by first | rfl | omega) hjn' hn ?_
        intro h11 o11 ys11 isl11 hns11 H11
        walk_at "M"
        refine LoopEnd.mk (.refl _) H11 ⟨rfl, by with_unfolding_all assumption, by with_unfolding_all assumption, by with_unfolding_all assumption, by with_unfolding_all assumption, by with_unfolding_all assumption, o11, ys11, rfl, isl11, hns11 _ fun k hk => ?_⟩
        rw [sm_succ, if_pos hjn']
        by_cases z : i + j = k
        · subst z; rw [if_pos rfl, if_pos rfl]; exact Int.add_assoc _ _ _
        · rw [if_neg z, if_neg z, Int.add_zero]
      · rename_i hlt
        have hlt : ¬ ((i : Int) + j < n) := fun z => hlt (decide_eq_true z)
        obtain ⟨hjn', hnl, hk0⟩ := pr_a hin hjn hlt
        walk_at "M"
        refine row_sub (i := i + j - n) H10 (by walk_at "mem") isl hns hk0 hjn' hn ?_
        intro u1
        walk_at "M"
        refine row_il (i := i) H10 hla rfl hin hn ?_
        intro u2
        walk_at "M"
        refine row_il (i := j) H10 hlb rfl hjn hn ?_
        intro u3
        walk_at "M"
        refine imul_ok (hm i j hin hjn) ?_
        walk_at "M"
        refine row_set (i := i + j - n) (pre := [(I2, oI2), (I, oI)]) (post := []) H10 isl hns hk0 hjn' hn ?_
        intro h11 o11 ys11 isl11 hns11 H11
        walk_at "M"
        refine LoopEnd.mk (.refl _) H11 ⟨rfl, by with_unfolding_all assumption, by with_unfolding_all assumption, by with_unfolding_all assumption, by with_unfolding_all assumption, by with_unfolding_all assumption, o11, ys11, rfl, isl11, hns11 _ fun k hk => ?_⟩
        rw [sm_succ, if_neg hnl]
        by_cases z : i + j - n = k
        · subst z; rw [if_pos rfl, if_pos rfl, Int.zero_sub, ← Int.add_assoc, ← Int.sub_eq_add_neg]
        · rw [if_neg z, if_neg z, Int.add_zero]
    · rintro g₂ m₂ mc₂ mu₂ h₂ tk₂ le2 ⟨rfl, f1, f2, f3, f4, f5, oD, ys, rfl, isl, hns⟩ H10
      walk_at "M"
      refine LoopEnd.mk le2 H10 ⟨rfl, ⟨_, f1⟩, f2, f3, f4, oD, ys, rfl, isl, ints_ext hns fun k hk => ?_⟩
      unfold sP
      rw [sm_succ, to_nat0]
  rintro g₁ m₁ mc₁ mu₁ h8 tk8 le1 ⟨rfl, ⟨tn, e1⟩, e2, e3, e4, oD, ys, rfl, isl, hns⟩ H8
  obtain ⟨H11, le11⟩ := H8.freeze fD
  walk_at "M"
  refine ev_lc (cl := [("q", L + 1)]) (cn := ["q"]) (xc := false) (by walk_at "ok") fun ok => ?_
  walk_at "M"
  have hys := ints_len hns
  refine lc_run ok H11 (Src.list hA'.hh (FM.put_self ..) H11.on (isl.at_ (H11.on _ _ (FM.put_self ..)))) (by rw [hys]; exact szl hn) (fun i g₁ mu₁ zs => mu₁ = [] ∧ IntsAre zs (lf i fun k => nc n a c k % q)) ⟨rfl, .nil⟩ ?_ ?_
  · rintro i v C D2 oD2 I oI g₂ mu₁ zs h₁ tk E' hi hP le2 ha ⟨rfl, hzs⟩ hl H12
    have hin : i < n := hys ▸ hi
    obtain ⟨tv, hv⟩ := ints_at hns hin
    rw [hv] at hP
    obtain rfl := Option.some.inj hP
    walk_at "M"
    refine EltEnd.mk (.refl _) H12 rfl ⟨rfl, ints_push hzs ?_⟩
    rw [← sP_eq a c hin, to_nat0]
  · rintro g₂ mu₁ zs D2 oD2 h₁ tk le2 ha ⟨rfl, hzs⟩ hl isl2 fD2 H12
    obtain ⟨H13, le13⟩ := H12.freeze fD2
    rw [hys] at hzs
    dsimp only
    exact ret _ _ _ _ H13.ev (IntL.mk (FM.put_self ..) isl2 hzs)
end
end Mine
namespace Mine
section
variable {prog : Program} {w : World} {p : Program} {loose : List Str} {mean : ExcName → Option Value} {mg mb : Str → Option Value} {b : Heap}
variable {S : List Addr} {g0 : FM} {h0 : Heap} {env : Env} {g : FM} {m mc : Str → Option Value} {mu : List (Addr × Obj)}
variable {A : Around} {s : Shared} {E : Value → Shared → Prop} {R : Result → Shared → Prop}
set_option maxHeartbeats 400000 in

theorem take_spec (W : Wd (Mine.hd.heap_39 w.params) p loose mean mg mb b) (hB : Bg b g s.heap) (hA : Ao 2 A)
    {st cl : Addr} {most : Int} {tm : Tok} (hok : StOk st cl mu) (hlive : (∀ q ∈ mu, s.heap.get? q.1 = some q.2 ∧ g q.1 = none) ∧ (mu.map (·.1)).Nodup) (hm : 0 < most) (hm2 : most ≤ 1000000)
    (ret : ∀ r t mu' g' h' tk, Ev (mu.map (·.1)) g s.heap g' h' → StOk st cl mu' → (∀ q ∈ mu', h'.get? q.1 = some q.2) → 0 ≤ r → r < most → R (.ok (.ret (.int r t))) { s with heap := h', toks := tk }) :
    codeAny (model prog w) A (.call (.ref 393) ⟨[.ref st, .int most tm], []⟩) R s := by
  obtain ⟨oS, oC, k, tk0, vs, ns, rfl, iS, iC, hi, hne, hl64⟩ := hok
  refine enter (binds := [("state", .ref st), ("most", .int most tm)]) (m := up "most" (.int most tm) (up "state" (.ref st) no)) (mc := no)
    W hB hA (by k_is) (by k_is) (BindsTo.of_eq rfl) rfl (by decide) hlive.1 hlive.2 (fun _ => rfl) (fun _ => rfl) ?_
  intro L h₁ tk E' hA' H
  walk_at "M"
  have hlen := hi.length
  have hlen0 : (0 : Int) < vs.length := by omega
  refine mod_pos (by omega) ?_
  walk_at "M"
  have hz0 : 0 ≤ k % (vs.length : Int) := Int.emod_nonneg _ (by omega)
  have hz1 : k % (vs.length : Int) < vs.length := Int.emod_lt_of_pos _ (by omega)
  obtain ⟨tc, hc⟩ := hi.get (k % (vs.length : Int)).toNat (ns[(k % (vs.length : Int)).toNat]'(by omega)) (List.getElem?_eq_getElem (by omega))
  generalize ns[(k % (vs.length : Int)).toNat]'(by omega) = c at hc
  refine sub_mu (by assumption) (by walk_at "mem") iC hz0 (by omega) hc ?_
  walk_at "M"
  split
  · walk_at "M"
    rename St _ _ _ _ _ _ _ _ _ _ => H2
    refine set_list (pre := [(st, oS)]) (post := []) H2 iC hz0 (by omega) (by omega) ?_
    intro h3 o3 isl3 H3
    walk_at "M"
    refine ret _ _ _ _ _ _ H3.ev ⟨oS, o3, k, tk0, _, _, rfl, iS, isl3, ints_set hi _ _ _, by rw [List.length_set]; omega, by rw [List.length_set]; omega⟩ H3.mus (Int.emod_nonneg _ (by omega)) (Int.emod_lt_of_pos _ hm)
  · walk_at "M"
    rename St _ _ _ _ _ _ _ _ _ _ => H2
    refine set_list (pre := []) (post := [(cl, oC)]) H2 iS (by decide) (by decide) (Nat.le_of_ble_eq_true rfl) ?_
    intro h3 o3 isl3 H3
    replace isl3 : IsL o3 [_, .ref cl] := isl3
    walk_at "M"
    rename St _ _ _ _ _ _ _ _ _ _ => H4
    refine ret _ _ _ _ _ _ H4.ev ⟨o3, oC, _, _, _, _, rfl, isl3, iC, hi, by omega, by omega⟩ H4.mus (Int.emod_nonneg _ (by omega)) (Int.emod_lt_of_pos _ hm)
end
end Mine
namespace Mine
section
variable {prog : Program} {w : World} {p : Program} {loose : List Str} {mean : ExcName → Option Value} {mg mb : Str → Option Value} {b : Heap}
variable {S : List Addr} {g0 : FM} {h0 : Heap} {env : Env} {g : FM} {m mc : Str → Option Value} {mu : List (Addr × Obj)}
variable {A : Around} {s : Shared} {E : Value → Shared → Prop} {R : Result → Shared → Prop}

set_option maxHeartbeats 400000 in
theorem part_spec (W : Wd (Mine.hd.heap_39 w.params) p loose mean mg mb b) (hB : Bg b g s.heap) (hA : Ao 4 A)
    {st cl : Addr} {n : Int} {tn : Tok} (hok : StOk st cl mu) (hlive : (∀ q ∈ mu, s.heap.get? q.1 = some q.2 ∧ g q.1 = none) ∧ (mu.map (·.1)).Nodup) (hn0 : 0 ≤ n) (hn1 : n ≤ 1000)
    (ret : ∀ l ns mu' g' h' tk, Ev (mu.map (·.1)) g s.heap g' h' → StOk st cl mu' → (∀ q ∈ mu', h'.get? q.1 = some q.2) → IntL g' l ns → ns.length = n.toNat → (∀ x ∈ ns, -400 ≤ x ∧ x ≤ 598) → R (.ok (.ret (.ref l))) { s with heap := h', toks := tk }) :
    codeAny (model prog w) A (.call (.ref 398) ⟨[.ref st, .int n tn], []⟩) R s := by
  refine enter (binds := [("state", .ref st), ("n", .int n tn)]) (m := up "n" (.int n tn) no) (mc := up "state" (.ref st) no)
    W hB hA (by k_is) (by k_is) (BindsTo.of_eq rfl) rfl (by decide) hlive.1 hlive.2 (fun _ => rfl) (fun _ => rfl) ?_
  intro L h₁ tk E' hA' H
  walk_at "M"
  refine ev_lc (cl := [("state", L + 1)]) (cn := ["state"]) (xc := false) (by walk_at "ok") fun ok => ?_
  walk_at "M"
  refine call_range1 H ?_
  intro h2 tk2 r t1 u1 v1 hr H2
  refine lc_run ok H2 (Src.range hA'.hh hr (small_one (by decide) (by decide) (by omega) (by omega)) hn0) ?_
    (fun i g₁ mu₁ ys => StOk st cl mu₁ ∧ ∃ ns, IntsAre ys ns ∧ ∀ x ∈ ns, -400 ≤ x ∧ x ≤ 598) ⟨hok, [], .nil, fun _ q => nomatch q⟩ ?_ ?_
  · rw [sizeLine_eq]; omega
  · rintro i v C D oD I oI g₁ mu₁ ys h₁ tk E' hi hP le ha ⟨hok1, ns, hns, hbd⟩ hl H3
    walk_at "M"
    refine wpAny_call (take_spec W H3.Bg (hA'.le (by decide)) hok1 (H3.muFacts (pre := [(D, oD), (I, oI)])) (by decide) (by decide) ?_)
    intro r2 t2 mu2 g2 h4 tk4 ev2 hok2 live2 hr0 hr1
    have H4 := H3.callMu (pre := [(D, oD), (I, oI)]) ev2 (by rw [hok2.adr, hok1.adr]) live2
    walk_at "M"
    refine EltEnd.mk (mu₂ := mu2) ev2.gg H4 (by rw [hok2.adr, hok.adr]) ⟨hok2, ns ++ [r2 - 400], hns.append (.cons _ _ .nil), fun x hx => ?_⟩
    rcases List.mem_append.mp hx with hx | hx
    · exact hbd x hx
    · rw [List.mem_singleton.mp hx]; omega
  · rintro g₁ mu₁ ys D oD h₁ tk le ha ⟨hok1, ns, hns, hbd⟩ hl isl fD H3
    obtain ⟨H4, le4⟩ := H3.freeze fD
    refine ret D ns mu₁ _ _ _ H4.ev hok1 H4.mus (IntL.mk (FM.put_self ..) isl hns) (by rw [← hns.length, hl, Int.sub_zero]) hbd
end
end Mine
namespace Mine
section
variable {prog : Program} {w : World} {p : Program} {loose : List Str} {mean : ExcName → Option Value} {mg mb : Str → Option Value} {b : Heap}
variable {S : List Addr} {g0 : FM} {h0 : Heap} {env : Env} {g : FM} {m mc : Str → Option Value} {mu : List (Addr × Obj)}
variable {A : Around} {s : Shared} {E : Value → Shared → Prop} {R : Result → Shared → Prop}

theorem gnone {x : Addr} {h : Heap} (on : g.on h) (fx : h.get? x = none) : g x = none := by
  cases q : g x with
  | none => rfl
  | some o' => have := on _ _ q; rw [fx] at this; cases this

theorem module_init (W : Wd (Mine.hd.heap_39 w.params) p loose mean mg mb b) (hB : Bg b g s.heap) (hA : Ao 1 A)
    {x dx r : Addr} (hx : g x = some (instObj 377 dx)) (hd : s.heap.get? dx = some (dictOf [] 0)) (gd : g dx = none)
    (ret : ∀ h1 t1 nn h' tk, Ev [dx] g s.heap g h' → h'.get? dx = some (dictOf [⟨h1, .str "ring" t1, .ref r⟩] nn) → R (.ok (.ret .none)) { s with heap := h', toks := tk }) :
    codeAny (model prog w) A (.call (.ref 351) ⟨[.ref x, .ref r], []⟩) R s := by
  refine enter (mu := [(dx, dictOf [] 0)]) (binds := [("self", .ref x), ("ring", .ref r)]) (m := up "ring" (.ref r) (up "self" (.ref x) no)) (mc := no)
    W hB hA (by k_is) (by k_is) (BindsTo.of_eq rfl) rfl (by decide) (fun q hq => by rw [List.mem_singleton.mp hq]; exact ⟨hd, gd⟩) (by simp) (fun _ => rfl) (fun _ => rfl) ?_
  intro L h₁ tk E' hA' H
  walk_at "M"
  refine sa_own W H (H.on _ _ hx) (by k_is) (by k_is) (by k_is) (by k_is) (by rfl) (by rfl) (Nat.le_of_ble_eq_true rfl) ?_
  intro h2 H2
  walk_at "M"
  exact ret _ _ _ _ _ H2.ev (H2.mus _ (.head _))

theorem module_make (W : Wd (Mine.hd.heap_39 w.params) p loose mean mg mb b) (hB : Bg b g s.heap) (hA : Ao 2 A) {r : Addr} {Q : Value → Shared → Prop}
    (ret : ∀ x g' h' tk, Ev [] g s.heap g' h' → Mod 377 g' x r → Q (.ref x) { s with heap := h', toks := tk }) :
    wpAny (model prog w) A (call (.ref 377) [.ref r]) Q E s := by
  refine mk_inst (kw := []) (W.X.keeps fun a o e => hB.on _ _ (hB.bg a o e)) hB.on (by k_is) (by k_is) (by k_is) ?_
  intro x dx h1 fx fd ne hx hd k1 sz
  refine module_init W (hB.put fx hx k1 sz) hA.make (FM.put_self ..) hd ?_ ?_
  · unfold FM.put
    rw [if_neg ne.symm]
    exact gnone hB.on fd
  · intro a1 t1 nn h' tk ev hd'
    obtain ⟨ev', le⟩ := ev.made hB.on fx fd ne k1 hd hd'
    exact ⟨rfl, ret _ _ _ _ ev' ⟨a1, t1, dx, nn, le _ _ (ev.gg _ _ (FM.put_self ..)), FM.put_self ..⟩⟩

theorem ga_data0 {x dx v l : Addr} {h1 h2 h3 : Int} {t1 t2 t3 : Tok} {t : Bool} {nn : Nat} {expr : Bool} {Q : Value → Shared → Prop} (W : Wd (Mine.hd.heap_39 w.params) p loose mean mg mb b) (H : St b S g0 h0 env g m mc mu s.heap) (hx : g x = some (instObj 333 dx)) (hm : (dx, dictOf (matD h1 t1 v h2 t2 l h3 t3 t) nn) ∈ mu)
    (h : Q (.ref l) { s with toks := s.toks + 1 }) : wpAny (model prog w) A (getAttr (.ref x) "_data" expr) Q E s := by
  refine ga_own (attr := none) (H.X W) ⟨dx, nn, H.on _ _ hx, H.mus _ hm⟩ ?a ?b ?c ?d rfl rfl h
  case a => k_is
  case b => k_is
  case c => k_is
  case d => k_is

set_option maxHeartbeats 400000 in
theorem check_spec (W : Wd (Mine.hd.heap_39 w.params) p loose mean mg mb b) (hB : Bg b g s.heap) (hA : Ao 2 A)
    {x dx v l r : Addr} {h1 h2 h3 : Int} {t1 t2 t3 : Tok} {t : Bool} {nn n a c : Nat} {F : Nat → Nat → Nat → Int} (hx : g x = some (instObj 333 dx)) (hd : s.heap.get? dx = some (dictOf (matD h1 t1 v h2 t2 l h3 t3 t) nn)) (gd : g dx = none)
    (hl : Rows 222 g l r n a c F) (ha : a ≤ 1000) (hc : c ≤ 1000)
    (ret : ∀ g' h' tk, Ev [dx] g s.heap g' h' → h'.get? dx = some (dictOf (matD h1 t1 v h2 t2 l h3 t3 t) nn) → R (.ok (.ret (.bool true))) { s with heap := h', toks := tk }) :
    codeAny (model prog w) A (.call (.ref 255) ⟨[.ref x], []⟩) R s := by
  refine enter (mu := [(dx, dictOf (matD h1 t1 v h2 t2 l h3 t3 t) nn)]) (binds := [("self", .ref x)]) (m := up "self" (.ref x) no) (mc := no)
    W hB hA (by k_is) (by k_is) (BindsTo.of_eq rfl) rfl (by decide) (fun q hq => by rw [List.mem_singleton.mp hq]; exact ⟨hd, gd⟩) (by simp) (fun _ => rfl) (fun _ => rfl) ?_
  intro L h₁ tk E' hA' H
  walk_at "M"
  refine ga_data0 W H hx (.head _) ?_
  refine loop_for H (ls_src hA'.hh hl H.on) (fun i g₁ m₁ mc₁ mu₁ => m₁ "self" = some (.ref x) ∧ mu₁ = [(dx, dictOf (matD h1 t1 v h2 t2 l h3 t3 t) nn)]) ⟨rfl, rfl⟩ ?_ ?_
  · rintro i y I oI g₁ m₁ mc₁ mu₁ h₁ tk E' hi ⟨y, rfl, hy⟩ le ⟨e1, rfl⟩ H3
    walk_at "M"
    refine ls_len H3 (LsOf.mono hy le fun _ _ p => p) hc ?_
    walk_at "M"
    refine ga_data0 W H3 (le _ _ hx) (.tail _ (.head _)) ?_
    walk_at "M"
    refine ls_sub (i := 0) H3 (Rows.mono hl le) rfl (by omega) ha ?_
    intro z hz
    walk_at "M"
    refine ls_len H3 hz hc ?_
    walk_at "M"
    split
    · rename_i z; rw [bne_self_eq_false] at z; cases z
    · walk_at "M"
      exact LoopEnd.mk (.refl _) H3 ⟨e1, rfl⟩
  · rintro g₁ m₁ mc₁ mu₁ h₁ tk le ⟨e1, rfl⟩ H3
    walk_at "M"
    exact ret _ _ _ H3.ev (H3.mus _ (.head _))

set_option maxHeartbeats 400000 in
theorem matrix_init (W : Wd (Mine.hd.heap_39 w.params) p loose mean mg mb b) (hB : Bg b g s.heap) (hA : Ao 3 A)
    {x dx v l r : Addr} {t : Bool} {n a c : Nat} {F : Nat → Nat → Nat → Int} (hx : g x = some (instObj 333 dx)) (hd : s.heap.get? dx = some (dictOf [] 0)) (gd : g dx = none)
    (hl : Rows 222 g l r n a c F) (ha : a ≤ 1000) (hc : c ≤ 1000)
    (ret : ∀ h1 t1 h2 t2 h3 t3 nn g' h' tk, Ev [dx] g s.heap g' h' → h'.get? dx = some (dictOf (matD h1 t1 v h2 t2 l h3 t3 t) nn) → R (.ok (.ret .none)) { s with heap := h', toks := tk }) :
    codeAny (model prog w) A (.call (.ref 241) ⟨[.ref x, .ref v, .ref l], [("transpose", .bool t)]⟩) R s := by
  refine enter (mu := [(dx, dictOf [] 0)]) (binds := [("self", .ref x), ("parent", .ref v), ("matrix_data", .ref l), ("transpose", .bool t)]) (m := up "transpose" (.bool t) (up "matrix_data" (.ref l) (up "parent" (.ref v) (up "self" (.ref x) no)))) (mc := no)
    W hB hA (by k_is) (by k_is) (binds_K (W.X.keeps fun a o e => hB.on _ _ (hB.bg a o e)) rfl (by k_is) rfl rfl rfl) rfl (by decide) (fun q hq => by rw [List.mem_singleton.mp hq]; exact ⟨hd, gd⟩) (by simp) (fun _ => rfl) (fun _ => rfl) ?_
  intro L h₁ tk E' hA' H
  walk_at "M"
  refine sa_own W H (H.on _ _ hx) (by k_is) (by k_is) (by k_is) (by k_is) (by rfl) (by rfl) (Nat.le_of_ble_eq_true rfl) ?_
  intro h2 H2
  walk_at "M"
  refine sa_own W H2 (H2.on _ _ hx) (by k_is) (by k_is) (by k_is) (by k_is) (by rfl) (by rfl) (Nat.le_of_ble_eq_true rfl) ?_
  intro h3 H3
  walk_at "M"
  refine sa_own W H3 (H3.on _ _ hx) (by k_is) (by k_is) (by k_is) (by k_is) (by rfl) (by rfl) (Nat.le_of_ble_eq_true rfl) ?_
  intro h4 H4
  walk_at "M"
  refine gm_fn (f := 255) (H4.X W) ⟨dx, _, H4.on _ _ hx, H4.mus _ (.head _)⟩ (by k_is) (by k_is) (by k_is) rfl ?_
  refine x_fn0 W H4 (by k_is) ?_
  refine wpAny_call (check_spec W H4.Bg (hA'.le (by decide)) hx (H4.mus _ (.head _)) (H4.own _ (owns_mu (.head _))).1 hl ha hc ?_)
  intro g' h' tk' ev hd'
  have H5 := H4.callMu (pre := []) (mu' := [(dx, _)]) ev rfl (fun q hq => by rw [List.mem_singleton.mp hq]; exact hd')
  walk_at "M"
  exact ret _ _ _ _ _ _ _ _ _ _ H5.ev (H5.mus _ (.head _))

theorem matrix_make (W : Wd (Mine.hd.heap_39 w.params) p loose mean mg mb b) (hB : Bg b g s.heap) (hA : Ao 4 A)
    {v l r : Addr} {t : Bool} {n hh ww : Nat} {F : Nat → Nat → Nat → Int} {Q : Value → Shared → Prop} (hl : Stored 222 g l r n t hh ww F) (ha : hh ≤ 1000) (hc : ww ≤ 1000)
    (ret : ∀ x g' h' tk, Ev [] g s.heap g' h' → Mat 333 222 g' x v r n hh ww F → Q (.ref x) { s with heap := h', toks := tk }) :
    wpAny (model prog w) A (call (.ref 333) [.ref v, .ref l] [("transpose", .bool t)]) Q E s := by
  refine mk_inst (kw := [("transpose", .bool t)]) (W.X.keeps fun a o e => hB.on _ _ (hB.bg a o e)) hB.on (by k_is) (by k_is) (by k_is) ?_
  intro x dx h1 fx fd ne hx hd k1 sz
  have le0 := FM.put_le (o := instObj 333 dx) (gnone hB.on fx)
  obtain ⟨a, c, F', hr, hz, _⟩ := (hl.mono le0).rows
  refine matrix_init W (hB.put fx hx k1 sz) hA.make (FM.put_self ..) hd ?_ hr (hz ha hc).1 (hz ha hc).2 ?_
  · unfold FM.put
    rw [if_neg ne.symm]
    exact gnone hB.on fd
  · intro a1 t1 a2 t2 a3 t3 nn g' h' tk ev hd'
    obtain ⟨ev', le⟩ := ev.made hB.on fx fd ne k1 hd hd'
    exact ⟨rfl, ret _ _ _ _ ev' ⟨a1, t1, a2, t2, a3, t3, l, t, ⟨dx, nn, le _ _ (ev.gg _ _ (FM.put_self ..)), FM.put_self ..⟩, hl.mono ev'.gg⟩⟩

set_option maxHeartbeats 400000 in
theorem matrix_of_spec (W : Wd (Mine.hd.heap_39 w.params) p loose mean mg mb b) (hB : Bg b g s.heap) (hA : Ao 5 A)
    {v l r : Addr} {t : Bool} {n hh ww : Nat} {F : Nat → Nat → Nat → Int} (hl : Stored 222 g l r n t hh ww F) (ha : hh ≤ 1000) (hc : ww ≤ 1000)
    (ret : ∀ x g' h' tk, Ev [] g s.heap g' h' → Mat 333 222 g' x v r n hh ww F → R (.ok (.ret (.ref x))) { s with heap := h', toks := tk }) :
    codeAny (model prog w) A (.call (.ref 359) ⟨[.ref v, .ref l], [("transpose", .bool t)]⟩) R s := by
  refine enter (mu := []) (binds := [("self", .ref v), ("data", .ref l), ("transpose", .bool t)]) (m := up "transpose" (.bool t) (up "data" (.ref l) (up "self" (.ref v) no))) (mc := no)
    W hB hA (by k_is) (by k_is) (binds_K (W.X.keeps fun a o e => hB.on _ _ (hB.bg a o e)) rfl (by k_is) rfl rfl rfl) rfl (by decide) (fun _ q => nomatch q) .nil (fun _ => rfl) (fun _ => rfl) ?_
  intro L h₁ tk E' hA' H
  walk_at "M"
  refine wpAny_Call_Name_kw ?_
  walk_at "M"
  refine callWith_KW (h₀ := b) W.X (by k_is) (by with_unfolding_all rfl) ?_ (by with_unfolding_all rfl) (by with_unfolding_all rfl)
  walk_at "M"
  refine PyProof.Rows.kwAll_cons ?_
  walk_at "M"
  refine kwAll_nil ?_
  refine ⟨H.X W, ?_⟩
  refine matrix_make W H.Bg hA' hl ha hc ?_
  intro x g' h' tk' ev hx
  have H2 := H.call0 ev
  walk_at "M"
  exact ret _ _ _ _ H2.ev hx
end
end Mine
namespace Mine
section
variable {prog : Program} {w : World} {p : Program} {loose : List Str} {mean : ExcName → Option Value} {mg mb : Str → Option Value} {b : Heap}
variable {S : List Addr} {g0 : FM} {h0 : Heap} {env : Env} {g : FM} {m mc : Str → Option Value} {mu : List (Addr × Obj)}
variable {A : Around} {s : Shared} {E : Value → Shared → Prop} {R : Result → Shared → Prop}

/-- a method of the module's, looked up -/
theorem gm_V {x r : Addr} {name : Str} {f : Addr} {pl : Sem Bool} {Q : Value × List Value → Shared → Prop} (W : Wd (Mine.hd.heap_39 w.params) p loose mean mg mb b) (H : St b S g0 h0 env g m mc mu s.heap) (I : Mod 377 g x r)
    (hg : plainGet (Mine.hd.heap_39 w.params) 377 name = true) (hf : findIn (Mine.hd.heap_39 w.params) (.ref 377) name = some (some (.ref f))) (ht : isFn (Mine.hd.heap_39 w.params) (.ref f) = true) (hn : ∀ (h1 : Int) (t1 : Tok) (r : Addr), getL name [⟨h1, .str "ring" t1, .ref r⟩] = some none)
    (h : Q (.ref f, [.ref x]) s) : wpAny (model prog w) A (getMethod (.ref x) name pl) Q E s := by
  obtain ⟨h1, t1, i⟩ := I
  exact gm_fn (f := f) (H.X W) (i.mono H.on) hg hf ht (hn _ _ _) h

set_option maxHeartbeats 1000000 in
theorem vcall_spec (W : Wd (Mine.hd.heap_39 w.params) p loose mean mg mb b) (hB : Bg b g s.heap) (hA : Ao 6 A)
    {v l r rr : Addr} {t : Bool} {n hh ww : Nat} {F : Nat → Nat → Nat → Int} {args : List Value} {kw : List (Str × Value)} (hargs : args = [.ref v, .ref l] ∧ kw = [] ∧ t = false ∨ args = [.ref v, .ref l, .bool t] ∧ kw = [] ∨ args = [.ref v, .ref l] ∧ kw = [(("transpose" : Str), Value.bool t)]) (hv : Mod 377 g v rr)
    (tb : Tb 362 320 mu) (hlive : (∀ q ∈ mu, s.heap.get? q.1 = some q.2 ∧ g q.1 = none) ∧ (mu.map (·.1)).Nodup) (hbr : AllBare s.gens)
    (hl : Stored 222 g l r n t hh ww F) (ha : hh ≤ 1000) (hc : ww ≤ 1000) (ha1 : 1 ≤ hh) (hc1 : 1 ≤ ww)
    (ret : ∀ x mu' g' h' tk gs, Ev (mu.map (·.1)) g s.heap g' h' → Tb 362 320 mu' → (∀ q ∈ mu', h'.get? q.1 = some q.2) → AllBare gs → Mat 333 222 g' x v r n hh ww F → R (.ok (.ret (.ref x))) { s with heap := h', toks := tk, gens := gs }) :
    codeAny (model prog w) A (.call (.ref 367) ⟨args, kw⟩) R s := by
  obtain ⟨a, c, F', hr, hz, ho⟩ := hl.rows
  obtain ⟨hz1, hz2⟩ := hz ha hc
  obtain ⟨ho1, ho2⟩ := ho ha1 hc1
  refine enter (binds := [("self", .ref v), ("matrix_elements", .ref l), ("transpose", .bool t)]) (m := up "transpose" (.bool t) (up "matrix_elements" (.ref l) (up "self" (.ref v) no))) (mc := no)
    W hB hA (by k_is) (by k_is) (by
      rcases hargs with ⟨rfl, rfl, rfl⟩ | ⟨rfl, rfl⟩ | ⟨rfl, rfl⟩
      · exact binds_K (W.X.keeps fun a o e => hB.on _ _ (hB.bg a o e)) rfl (by k_is) rfl rfl rfl
      · exact binds_K (W.X.keeps fun a o e => hB.on _ _ (hB.bg a o e)) rfl (by k_is) rfl rfl rfl
      · exact binds_K (W.X.keeps fun a o e => hB.on _ _ (hB.bg a o e)) rfl (by k_is) rfl rfl rfl) rfl (by decide) hlive.1 hlive.2 (fun _ => rfl) (fun _ => rfl) ?_
  intro L h₁ tk E' hA' H
  obtain ⟨vs, o, go, ⟨oc, od, oe⟩, hvl, hvr⟩ := id hr
  walk_at "M"
  refine isi_list (H.X W) (H.on _ _ go) oc (r := true) (by kit_is) ?_
  intro tk2
  walk_at "M"
  refine ls_sub (i := 0) H hr rfl (by omega) hz1 ?_
  intro y hy
  obtain ⟨vs1, o1, go1, ⟨oc1, od1, oe1⟩, hvl1, hvr1⟩ := id hy
  walk_at "M"
  refine isi_list (H.X W) (H.on _ _ go1) oc1 (r := true) (by kit_is) ?_
  intro tk3
  walk_at "M"
  refine loop_forG (GP := AllBare) hbr H (ls_src hA'.hh hr H.on) (fun i g₁ m₁ mc₁ mu₁ => mc₁ = no ∧ m₁ "self" = some (.ref v) ∧ m₁ "matrix_elements" = some (.ref l) ∧ m₁ "transpose" = some (.bool t) ∧ Tb 362 320 mu₁) ⟨rfl, rfl, rfl, rfl, tb⟩ ?_ ?_
  · rintro i y I oI g₁ m₁ mc₁ mu₁ h₁ tk gs E' gp hi ⟨y, rfl, hy⟩ le ⟨rfl, e1, e2, e3, pt, qt, rfl, tp, tq⟩ H3
    walk_at "M"
    refine ev_ge hA' (cl := []) (by walk_at "okg") fun ok => ?_
    walk_at "M"
    refine gen_run (k := 0) (pre := [(I, oI)]) (post := [(320, tabObj qt)]) (T := 362) (c := 366) (J := fun _ _ v => v = .bool true) W ok H3 tp (by kernel_rfl) gp (ls_srcA (LsOf.mono hy le fun _ _ q => q.mono le) H3.on) (fun _ _ _ _ j _ => j) ?_ ?_
    · rintro C code A' E' i v s₂ g₂ m' hA2 hi ⟨y, rfl, hy⟩ le2 H4
      walk_at "M"
      obtain ⟨es, I1⟩ := hy.inst
      refine isi_inst (r := true) (H4.X W) ((I1.mono le2).mono H4.on) (by kit_is) (by k_is) (by k_is) (by k_is) (by k_is) (by k_is) (by k_is) ?_
      intro tk4
      exact ⟨_, _, _, rfl, H4, rfl⟩
    · intro a2 gi C I2 fp Ws ps' h4 tk4 gs4 tr H4 G
      walk_at "M"
      refine call_all W (hA'.le (by decide)) H4 G (fun _ _ _ j => j) ?_
      intro h5 tk5 gs5 g5 le5 hb5 H5
      walk_at "M"
      exact LoopEndG.mk hb5 le5 H5 ⟨rfl, e1, e2, e3, _, _, rfl, tr, tq⟩
  · rintro g₁ m₁ mc₁ mu₁ h₁ tk gs gp le ⟨rfl, e1, e2, e3, tb1⟩ H3
    walk_at "M"
    refine methodCall_KW ?_ (by with_unfolding_all rfl)
    walk_at "M"
    refine gm_V (f := 359) W H3 (hv.mono le) (by k_is) (by k_is) (by k_is) (fun _ _ _ => rfl) ?_
    refine callWith_KW (h₀ := b) W.X (by k_is) (by with_unfolding_all rfl) ?_ (by with_unfolding_all rfl) (by with_unfolding_all rfl)
    walk_at "M"
    refine PyProof.Rows.kwAll_cons ?_
    walk_at "M"
    refine kwAll_nil ?_
    refine ⟨H3.X W, ?_⟩
    refine wpAny_call (matrix_of_spec W H3.Bg hA' (hl.mono le) ha hc ?_)
    intro x g' h' tk' ev hx
    have H4 := H3.call0 ev
    walk_at "M"
    refine ret _ _ _ _ _ _ ?_ tb1 H4.mus gp hx
    exact H4.ev
end
end Mine
namespace Mine
section
variable {prog : Program} {w : World} {p : Program} {loose : List Str} {mean : ExcName → Option Value} {mg mb : Str → Option Value} {b : Heap}
variable {S : List Addr} {g0 : FM} {h0 : Heap} {env : Env} {g : FM} {m mc : Str → Option Value} {mu : List (Addr × Obj)}
variable {A : Around} {s : Shared} {E : Value → Shared → Prop} {R : Result → Shared → Prop}

theorem ga_Md {x v l : Addr} {h1 h2 h3 : Int} {t1 t2 t3 : Tok} {t : Bool} {expr : Bool} {Q : Value → Shared → Prop} (W : Wd (Mine.hd.heap_39 w.params) p loose mean mg mb b) (H : St b S g0 h0 env g m mc mu s.heap) (I : Inst g x 333 (matD h1 t1 v h2 t2 l h3 t3 t))
    (h : Q (.ref l) { s with toks := s.toks + 1 }) : wpAny (model prog w) A (getAttr (.ref x) "_data" expr) Q E s := by
  refine ga_own (attr := none) (H.X W) (I.mono H.on) ?a ?b ?c ?d rfl rfl h
  case a => k_is
  case b => k_is
  case c => k_is
  case d => k_is
theorem ga_Mt {x v l : Addr} {h1 h2 h3 : Int} {t1 t2 t3 : Tok} {t : Bool} {expr : Bool} {Q : Value → Shared → Prop} (W : Wd (Mine.hd.heap_39 w.params) p loose mean mg mb b) (H : St b S g0 h0 env g m mc mu s.heap) (I : Inst g x 333 (matD h1 t1 v h2 t2 l h3 t3 t))
    (h : Q (.bool t) { s with toks := s.toks + 1 }) : wpAny (model prog w) A (getAttr (.ref x) "_transpose" expr) Q E s := by
  refine ga_own (attr := none) (H.X W) (I.mono H.on) ?a ?b ?c ?d rfl rfl h
  case a => k_is
  case b => k_is
  case c => k_is
  case d => k_is
theorem ga_Mp {x v l : Addr} {h1 h2 h3 : Int} {t1 t2 t3 : Tok} {t : Bool} {expr : Bool} {Q : Value → Shared → Prop} (W : Wd (Mine.hd.heap_39 w.params) p loose mean mg mb b) (H : St b S g0 h0 env g m mc mu s.heap) (I : Inst g x 333 (matD h1 t1 v h2 t2 l h3 t3 t))
    (h : Q (.ref v) { s with toks := s.toks + 1 }) : wpAny (model prog w) A (getAttr (.ref x) "parent" expr) Q E s := by
  refine ga_own (attr := none) (H.X W) (I.mono H.on) ?a ?b ?c ?d rfl rfl h
  case a => k_is
  case b => k_is
  case c => k_is
  case d => k_is
theorem gm_Mp {x v l : Addr} {h1 h2 h3 : Int} {t1 t2 t3 : Tok} {t : Bool} {pl : Sem Bool} {Q : Value × List Value → Shared → Prop} (W : Wd (Mine.hd.heap_39 w.params) p loose mean mg mb b) (H : St b S g0 h0 env g m mc mu s.heap) (I : Inst g x 333 (matD h1 t1 v h2 t2 l h3 t3 t))
    (h : Q (.ref v, []) { s with toks := s.toks + 1 }) : wpAny (model prog w) A (getMethod (.ref x) "parent" pl) Q E s := by
  obtain ⟨d, n, J⟩ := (I.mono H.on).at_
  have hg : plainGet (Mine.hd.heap_39 w.params) 333 "parent" = true := by k_is
  refine method_usual (r := none) (H.X W) J (plainGet_of hg).1 (plainGet_of hg).2 ?a rfl (ga_Mp W H I h)
  case a => k_is
/-- a method of the matrix's, looked up -/
theorem gm_M {x v r : Addr} {n hh ww : Nat} {F : Nat → Nat → Nat → Int} {name : Str} {f : Addr} {pl : Sem Bool} {Q : Value × List Value → Shared → Prop} (W : Wd (Mine.hd.heap_39 w.params) p loose mean mg mb b) (H : St b S g0 h0 env g m mc mu s.heap) (I : Mat 333 222 g x v r n hh ww F)
    (hg : plainGet (Mine.hd.heap_39 w.params) 333 name = true) (hf : findIn (Mine.hd.heap_39 w.params) (.ref 333) name = some (some (.ref f))) (ht : isFn (Mine.hd.heap_39 w.params) (.ref f) = true)
    (hn : ∀ (h1 : Int) (t1 : Tok) (v : Addr) (h2 : Int) (t2 : Tok) (l : Addr) (h3 : Int) (t3 : Tok) (t : Bool), getL name (matD h1 t1 v h2 t2 l h3 t3 t) = some none)
    (h : Q (.ref f, [.ref x]) s) : wpAny (model prog w) A (getMethod (.ref x) name pl) Q E s := by
  obtain ⟨h1, t1, h2, t2, h3, t3, l, t, i, j⟩ := I
  exact gm_fn (f := f) (H.X W) (i.mono H.on) hg hf ht (hn _ _ _ _ _ _ _ _ _) h

set_option maxHeartbeats 1000000 in
theorem dim_spec (W : Wd (Mine.hd.heap_39 w.params) p loose mean mg mb b) (hB : Bg b g s.heap) (hA : Ao 1 A)
    {x v r : Addr} {n hh ww : Nat} {F : Nat → Nat → Nat → Int} (hx : Mat 333 222 g x v r n hh ww F) (ha : hh ≤ 1000) (hc : ww ≤ 1000) (ha1 : 1 ≤ hh) (hc1 : 1 ≤ ww)
    (ret : ∀ t t1 t2 g' h' tk, Ev [] g s.heap g' h' → TupL g' t [.int hh t1, .int ww t2] → R (.ok (.ret (.ref t))) { s with heap := h', toks := tk }) :
    codeAny (model prog w) A (.call (.ref 248) ⟨[.ref x], []⟩) R s := by
  refine enter (mu := []) (binds := [("self", .ref x)]) (m := up "self" (.ref x) no) (mc := no)
    W hB hA (by k_is) (by k_is) (BindsTo.of_eq rfl) rfl (by decide) (fun _ q => nomatch q) .nil (fun _ => rfl) (fun _ => rfl) ?_
  intro L h₁ tk E' hA' H
  obtain ⟨h1, t1, h2, t2, h3, t3, l, t, i, j⟩ := hx
  walk_at "M"
  refine ga_Mt W H i ?_
  cases t
  · replace j : Rows 222 g l r n hh ww F := j
    walk_at "M"
    refine ga_Md W H i ?_
    walk_at "M"
    refine ls_len H j ha ?_
    walk_at "M"
    refine ga_Md W H i ?_
    walk_at "M"
    refine ls_sub (i := 0) H j rfl (by omega) ha ?_
    intro y hy
    walk_at "M"
    refine ls_len H hy hc ?_
    walk_at "M"
    refine ⟨sz1 rfl, fun a h2 ea eh => ?_⟩
    obtain ⟨g2, le2, ht, H2⟩ := H.mkTup ea eh
    walk_at "M"
    exact ret _ _ _ _ _ _ H2.ev ht
  · replace j : Rows 222 g l r n ww hh (fun i j => F j i) := j
    walk_at "M"
    refine ga_Md W H i ?_
    walk_at "M"
    refine ls_sub (i := 0) H j rfl (by omega) hc ?_
    intro y hy
    walk_at "M"
    refine ls_len H hy ha ?_
    walk_at "M"
    refine ga_Md W H i ?_
    walk_at "M"
    refine ls_len H j hc ?_
    walk_at "M"
    refine ⟨sz1 rfl, fun a h2 ea eh => ?_⟩
    obtain ⟨g2, le2, ht, H2⟩ := H.mkTup ea eh
    walk_at "M"
    exact ret _ _ _ _ _ _ H2.ev ht

set_option maxHeartbeats 1000000 in
theorem turn_spec (W : Wd (Mine.hd.heap_39 w.params) p loose mean mg mb b) (hB : Bg b g s.heap) (hA : Ao 7 A)
    {x v r rr : Addr} {n hh ww : Nat} {F : Nat → Nat → Nat → Int} (hx : Mat 333 222 g x v r n hh ww F) (hv : Mod 377 g v rr) (ha : hh ≤ 1000) (hc : ww ≤ 1000) (ha1 : 1 ≤ hh) (hc1 : 1 ≤ ww)
    (tb : Tb 362 320 mu) (hlive : (∀ q ∈ mu, s.heap.get? q.1 = some q.2 ∧ g q.1 = none) ∧ (mu.map (·.1)).Nodup) (hbr : AllBare s.gens)
    (ret : ∀ x mu' g' h' tk gs, Ev (mu.map (·.1)) g s.heap g' h' → Tb 362 320 mu' → (∀ q ∈ mu', h'.get? q.1 = some q.2) → AllBare gs → Mat 333 222 g' x v r n ww hh (fun i j => F j i) → R (.ok (.ret (.ref x))) { s with heap := h', toks := tk, gens := gs }) :
    codeAny (model prog w) A (.call (.ref 262) ⟨[.ref x], []⟩) R s := by
  refine enter (binds := [("self", .ref x)]) (m := up "self" (.ref x) no) (mc := no)
    W hB hA (by k_is) (by k_is) (BindsTo.of_eq rfl) rfl (by decide) hlive.1 hlive.2 (fun _ => rfl) (fun _ => rfl) ?_
  intro L h₁ tk E' hA' H
  obtain ⟨h1, t1, h2, t2, h3, t3, l, t, i, j⟩ := hx
  walk_at "M"
  refine gm_Mp W H i ?_
  obtain ⟨d, es, k, iv⟩ := hv.at
  refine x_icall (H.X W) (iv.mono H.on) (by k_is) ?_
  walk_at "M"
  refine ga_Md W H i ?_
  walk_at "M"
  refine ga_Mt W H i ?_
  walk_at "M"
  refine ⟨⟨H.X W, iv.mono H.on⟩, ?_⟩
  refine icall (f := 367) (H.X W) (iv.mono H.on) (by k_is) (by k_is) (by k_is) (vcall_spec W H.Bg hA' (.inr (.inl ⟨rfl, rfl⟩)) hv tb (H.muFacts (pre := [])) hbr j.turn hc ha hc1 ha1 ?_)
  intro z mu' g' h' tk' gs ev tb' live' hb' hz
  have H2 := H.callMu (pre := []) ev (by rw [tb'.adr, tb.adr]) live'
  walk_at "M"
  exact ret _ _ _ _ _ _ H2.ev tb' live' hb' hz

set_option maxHeartbeats 1000000 in
theorem mget_spec (W : Wd (Mine.hd.heap_39 w.params) p loose mean mg mb b) (hB : Bg b g s.heap) (hA : Ao 1 A)
    {x v r t : Addr} {n hh ww a c : Nat} {F : Nat → Nat → Nat → Int} {ta tc : Tok} (hx : Mat 333 222 g x v r n hh ww F) (ha : hh ≤ 1000) (hc : ww ≤ 1000) (ht : TupL g t [.int a ta, .int c tc]) (hi : a < hh) (hj : c < ww)
    (ret : ∀ y g' h' tk, Ev [] g s.heap g' h' → Poly 222 g' y r (lf n (F a c)) → R (.ok (.ret (.ref y))) { s with heap := h', toks := tk }) :
    codeAny (model prog w) A (.call (.ref 284) ⟨[.ref x, .ref t], []⟩) R s := by
  refine enter (mu := []) (binds := [("self", .ref x), ("idx", .ref t)]) (m := up "idx" (.ref t) (up "self" (.ref x) no)) (mc := no)
    W hB hA (by k_is) (by k_is) (BindsTo.of_eq rfl) rfl (by decide) (fun _ q => nomatch q) .nil (fun _ => rfl) (fun _ => rfl) ?_
  intro L h₁ tk E' hA' H
  obtain ⟨h1, t1, h2, t2, h3, t3, l, tr, i, j⟩ := hx
  walk_at "M"
  refine isi_tuple (r := true) (H.X W) H ht (by kit_is) ?_
  intro tk2
  walk_at "M"
  refine len_tup H ht (Nat.le_of_ble_eq_true rfl) ?_
  walk_at "M"
  refine if_t ?_
  walk_at "M"
  refine ⟨rfl, ?_⟩
  walk_at "M"
  refine ga_Mt W H i ?_
  cases tr
  · replace j : Rows 222 g l r n hh ww F := j
    walk_at "M"
    refine ga_Md W H i ?_
    walk_at "M"
    refine sub_tup H ht (by decide) (by decide) rfl ?_
    refine ls_sub (i := a) H j rfl hi ha ?_
    intro y hy
    walk_at "M"
    refine sub_tup H ht (by decide) (by decide) rfl ?_
    refine ls_sub (i := c) H hy rfl hj hc ?_
    intro z hz
    walk_at "M"
    exact ret _ _ _ _ H.ev hz
  · replace j : Rows 222 g l r n ww hh (fun i j => F j i) := j
    walk_at "M"
    refine ga_Md W H i ?_
    walk_at "M"
    refine sub_tup H ht (by decide) (by decide) rfl ?_
    refine ls_sub (i := c) H j rfl hj hc ?_
    intro y hy
    walk_at "M"
    refine sub_tup H ht (by decide) (by decide) rfl ?_
    refine ls_sub (i := a) H hy rfl hi ha ?_
    intro z hz
    walk_at "M"
    exact ret _ _ _ _ H.ev hz

/-- a matrix read at a place -/
theorem sub_mat {value slice : Expr} {x v r t : Addr} {n hh ww a c : Nat} {F : Nat → Nat → Nat → Int} {ta tc : Tok} {Q : Value → Shared → Prop} (W : Wd (Mine.hd.heap_39 w.params) p loose mean mg mb b) (H : St b S g0 h0 env g m mc mu s.heap) (hA : Ao 2 A)
    (hx : Mat 333 222 g x v r n hh ww F) (ha : hh ≤ 1000) (hc : ww ≤ 1000) (ht : TupL g t [.int a ta, .int c tc]) (hi : a < hh) (hj : c < ww)
    (ret : ∀ y g' h' tk, Ev [] g s.heap g' h' → Poly 222 g' y r (lf n (F a c)) → Q (.ref y) { s with heap := h', toks := tk })
    (hsl : subscripted slice true (.ref x) (.ref t) = runValue (.builtin "lifetime.subscript" ⟨[.ref x, .ref t], []⟩) := by with_unfolding_all rfl) :
    wpAny (model prog w) A (subscriptTail value slice (.ref x) (.ref t)) Q E s := by
  obtain ⟨es, I⟩ := hx.inst
  obtain ⟨d, k, J⟩ := (I.mono H.on).at_
  refine sub_K (f := 284) H.F W.X J ?a ?b ?c (wpAny_call (mget_spec W H.Bg hA.in1 hx ha hc ht hi hj ret)) hsl
  case a => k_is
  case b => k_is
  case c => k_is
end
end Mine
namespace Mine
section
variable {prog : Program} {w : World} {p : Program} {loose : List Str} {mean : ExcName → Option Value} {mg mb : Str → Option Value} {b : Heap}
variable {S : List Addr} {g0 : FM} {h0 : Heap} {env : Env} {g : FM} {m mc : Str → Option Value} {mu : List (Addr × Obj)}
variable {A : Around} {s : Shared} {E : Value → Shared → Prop} {R : Result → Shared → Prop}

set_option maxHeartbeats 1000000 in
theorem add_I (W : Wd (Mine.hd.heap_39 w.params) p loose mean mg mb b) (hB : Bg b g s.heap) (hA : Ao 3 A)
    {self r : Addr} {q : Int} {n : Nat} {a : Nat → Int} {c : Int} {tc : Tok} (hp : Poly 222 g self r (lf n a)) (hr : Ring 59 g r q n) (hq : 0 < q) (hn : n ≤ 1000) (hn1 : 1 ≤ n)
    (ret : ∀ l g' h' tk, Ev [] g s.heap g' h' → IntL g' l (lf n fun k => if 0 = k then (a 0 + c) % q else a k) → R (.ok (.ret (.ref l))) { s with heap := h', toks := tk }) :
    codeAny (model prog w) A (.call (.ref 132) ⟨[.ref self, .int c tc], []⟩) R s := by
  refine enter (mu := []) (binds := [("self", .ref self), ("other", .int c tc)]) (m := up "other" (.int c tc) no) (mc := up "self" (.ref self) no)
    W hB hA (by k_is) (by k_is) (BindsTo.of_eq rfl) rfl (by decide) (fun _ q => nomatch q) .nil (fun _ => rfl) (fun _ => rfl) ?_
  intro L h₁ tk E' hA' H
  walk_at "M"
  obtain ⟨es, I1⟩ := hp.inst
  refine type_inst (I1.mono H.on) ?_
  walk_at "M"
  refine isi_int (r := false) (H.X W) (by kit_is) ?_
  intro tk2
  walk_at "M"
  refine isi_int (r := true) (H.X W) (by kit_is) ?_
  intro tk3
  walk_at "M"
  refine ga_coeffs W H hp ?_
  intro l hl
  refine gm_copy H hl ?_
  walk_at "M"
  refine do_copy H hl (lfl hn) ?_
  intro D vs h2 hvs fD H2
  walk_at "M"
  rename St _ _ _ _ _ _ _ _ _ _ => H3
  refine gm_P (f := 110) W H3 hp (by k_is) (by k_is) (by k_is) (fun _ _ _ _ _ _ => rfl) ?_
  walk_at "M"
  refine row_sub (i := 0) H3 (.head _) (IsL.lst _) hvs rfl hn1 hn ?_
  intro u1
  walk_at "M"
  refine wpAny_call (add_mod_q W H3.Bg hA' hp hr (by omega) ?_)
  intro t4 g4 h4 tk4 ev4
  have H4 := H3.call0 ev4
  walk_at "M"
  refine row_set (i := 0) (pre := []) (post := []) H4 (IsL.lst _) hvs rfl hn1 hn ?_
  intro h5 o5 ys5 isl5 hns5 H5
  walk_at "M"
  obtain ⟨g6, le6, p6, H6⟩ := St.freeze' H5 fD
  exact ret _ _ _ _ H6.ev (IntL.mk p6 isl5 (hns5 _ fun k hk => by rw [Int.fmod_eq_emod_of_nonneg _ (by omega)]))

set_option maxHeartbeats 400000 in
theorem paddI_spec (W : Wd (Mine.hd.heap_39 w.params) p loose mean mg mb b) (hB : Bg b g s.heap) (hA : Ao 6 A)
    {self r : Addr} {q : Int} {n : Nat} {a : Nat → Int} {c : Int} {tc : Tok} (hp : Poly 222 g self r (lf n a)) (hr : Ring 59 g r q n) (hq : 0 < q) (hn : n ≤ 1000) (hn1 : 1 ≤ n)
    (ret : ∀ x g' h' tk, Ev [] g s.heap g' h' → Poly 222 g' x r (lf n fun k => if 0 = k then (a 0 + c) % q else a k) → R (.ok (.ret (.ref x))) { s with heap := h', toks := tk }) :
    codeAny (model prog w) A (.call (.ref 139) ⟨[.ref self, .int c tc], []⟩) R s := by
  refine enter (mu := []) (binds := [("self", .ref self), ("other", .int c tc)]) (m := up "other" (.int c tc) (up "self" (.ref self) no)) (mc := no)
    W hB hA (by k_is) (by k_is) (BindsTo.of_eq rfl) rfl (by decide) (fun _ q => nomatch q) .nil (fun _ => rfl) (fun _ => rfl) ?_
  intro L h₁ tk E' hA' H
  walk_at "M"
  refine gm_P (f := 132) W H hp (by k_is) (by k_is) (by k_is) (fun _ _ _ _ _ _ => rfl) ?_
  walk_at "M"
  refine wpAny_call (add_I W H.Bg (hA'.le (by decide)) hp hr hq hn hn1 ?_)
  intro l g' h' tk' ev hl
  have H2 := H.call0 ev
  walk_at "M"
  rename St _ _ _ _ _ _ _ _ _ _ => H3
  refine gm_parent W H3 (hp.mono ev.gg) ?_
  obtain ⟨d, es, k, i⟩ := (hr.mono ev.gg).at
  refine x_icall (H3.X W) (i.mono H3.on) (by k_is) ?_
  walk_at "M"
  refine ⟨⟨H3.X W, i.mono H3.on⟩, ?_⟩
  refine rcall (x := .Name "x" ⟨0, 0, 0, 0⟩) (pos := ⟨0, 0, 0, 0⟩) W H3 hA' (hr.mono ev.gg) hl hn (by rw [lf_length]; exact Nat.le_refl _) ?_
  intro x g2 h2 tk2 ev2 hx
  rw [pad_full] at hx
  have H4 := H3.call0 ev2
  walk_at "M"
  exact ret _ _ _ _ H4.ev hx

theorem pradd_spec (W : Wd (Mine.hd.heap_39 w.params) p loose mean mg mb b) (hB : Bg b g s.heap) (hA : Ao 7 A)
    {self r : Addr} {q : Int} {n : Nat} {a : Nat → Int} {c : Int} {tc : Tok} (hp : Poly 222 g self r (lf n a)) (hr : Ring 59 g r q n) (hq : 0 < q) (hn : n ≤ 1000) (hn1 : 1 ≤ n)
    (ret : ∀ x g' h' tk, Ev [] g s.heap g' h' → Poly 222 g' x r (lf n fun k => if 0 = k then (a 0 + c) % q else a k) → R (.ok (.ret (.ref x))) { s with heap := h', toks := tk }) :
    codeAny (model prog w) A (.call (.ref 146) ⟨[.ref self, .int c tc], []⟩) R s := by
  refine enter (mu := []) (binds := [("self", .ref self), ("other", .int c tc)]) (m := up "other" (.int c tc) (up "self" (.ref self) no)) (mc := no)
    W hB hA (by k_is) (by k_is) (BindsTo.of_eq rfl) rfl (by decide) (fun _ q => nomatch q) .nil (fun _ => rfl) (fun _ => rfl) ?_
  intro L h₁ tk E' hA' H
  walk_at "M"
  refine gm_P (f := 139) W H hp (by k_is) (by k_is) (by k_is) (fun _ _ _ _ _ _ => rfl) ?_
  walk_at "M"
  refine wpAny_call (paddI_spec W H.Bg hA' hp hr hq hn hn1 ?_)
  intro x g' h' tk' ev hx
  have H2 := H.call0 ev
  walk_at "M"
  exact ret _ _ _ _ H2.ev hx

theorem Poly.instAt {C x r : Addr} {cs : List Int} {h : Heap} (hp : Poly C h.get? x r cs) : ∃ ox od, InstAt h x ox C od ∧ ox.data = .plain := by
  obtain ⟨_, _, _, _, _, i, _⟩ := hp
  obtain ⟨d, n, j⟩ := i.at_
  exact ⟨_, _, j, rfl⟩
/-- nothing and a polynomial that is reduced -/
theorem bin_zero {y r : Addr} {q : Int} {n : Nat} {a : Nat → Int} {t : Tok} {Q : Value → Shared → Prop} (W : Wd (Mine.hd.heap_39 w.params) p loose mean mg mb b) (H : St b S g0 h0 env g m mc mu s.heap) (hA : Ao 7 A)
    (hy : Poly 222 g y r (lf n a)) (hr : Ring 59 g r q n) (hq : 0 < q) (hn : n ≤ 1000) (hn1 : 1 ≤ n) (hz : 0 ≤ a 0 ∧ a 0 < q)
    (ret : ∀ z g' h' tk, Ev [] g s.heap g' h' → Poly 222 g' z r (lf n a) → Q (.ref z) { s with heap := h', toks := tk }) :
    wpAny (model prog w) A (binaryOp .Add (.int 0 t) (.ref y)) Q E s := by
  obtain ⟨ox, od, J, hd⟩ := (hy.mono H.on.le).instAt
  have e : (lf n fun k => if 0 = k then (a 0 + 0) % q else a k) = lf n a := lf_ext fun k _ => by
    by_cases z : 0 = k
    · subst z; rw [if_pos rfl, Int.add_zero, Int.emod_eq_of_lt hz.1 hz.2]
    · rw [if_neg z]
  refine bin_rint (f := 146) (fi := 139) H.F W.X J hd ?a ?b ?c ?d ?e ?f ?g (wpAny_call (pradd_spec W H.Bg hA hy hr hq hn hn1 fun x g' h' tk ev hx => ret x g' h' tk ev (e ▸ hx)))
  case a => k_is
  case b => k_is
  case c => k_is
  case d => k_is
  case e => k_is
  case f => k_is
  case g => k_is
end
end Mine
namespace Mine
section
variable {prog : Program} {w : World} {p : Program} {loose : List Str} {mean : ExcName → Option Value} {mg mb : Str → Option Value} {b : Heap}
variable {S : List Addr} {g0 : FM} {h0 : Heap} {env : Env} {g : FM} {m mc : Str → Option Value} {mu : List (Addr × Obj)}
variable {A : Around} {s : Shared} {E : Value → Shared → Prop} {R : Result → Shared → Prop}

theorem Mod.ne_ {v r : Addr} {n : Nat} {Q : Value → Shared → Prop} (W : Wd (Mine.hd.heap_39 w.params) p loose mean mg mb b) (H : St b S g0 h0 env g m mc mu s.heap) (hA : Ao n A) (hv : Mod 377 g v r) (h : Q (.bool false) s) :
    wpAny (model prog w) A (compareOp .NotEq (.ref v) (.ref v)) Q E s := by
  obtain ⟨_, _, i⟩ := hv
  obtain ⟨d, k, j⟩ := (i.mono H.on.le).at_
  refine ne_self (H.X W) j ?a ?b ?c (by have := hA.un; unfold cLine; omega) h
  case a => k_is
  case b => k_is
  case c => k_is

set_option maxHeartbeats 2000000 in
theorem matmul_spec (W : Wd (Mine.hd.heap_39 w.params) p loose mean mg mb b) (hB : Bg b g s.heap) (hA : Ao 10 A)
    {x y v r rr : Addr} {q : Int} {n hh ww ll : Nat} {F G : Nat → Nat → Nat → Int} (hx : Mat 333 222 g x v r n hh ww F) (hy : Mat 333 222 g y v r n ww ll G) (hv : Mod 377 g v rr) (hr : Ring 59 g r q n)
    (hq : 0 < q) (hn : n ≤ 1000) (hn1 : 1 ≤ n) (ha : hh ≤ 1000) (hc : ww ≤ 1000) (hd : ll ≤ 1000) (ha1 : 1 ≤ hh) (hc1 : 1 ≤ ww) (hd1 : 1 ≤ ll) (hm : ∀ i t j a c, i < hh → t < ww → j < ll → a < n → c < n → IntMulOk (F i t a) (G t j c))
    (tb : Tb 362 320 mu) (hlive : (∀ q ∈ mu, s.heap.get? q.1 = some q.2 ∧ g q.1 = none) ∧ (mu.map (·.1)).Nodup) (hbr : AllBare s.gens)
    (ret : ∀ z mu' g' h' tk gs, Ev (mu.map (·.1)) g s.heap g' h' → Tb 362 320 mu' → (∀ q ∈ mu', h'.get? q.1 = some q.2) → AllBare gs → Mat 333 222 g' z v r n hh ll (fun i j k => sm ww (fun t => nc n (F i t) (G t j) k) % q) → R (.ok (.ret (.ref z))) { s with heap := h', toks := tk, gens := gs }) :
    codeAny (model prog w) A (.call (.ref 323) ⟨[.ref x, .ref y], []⟩) R s := by
  refine enter (binds := [("self", .ref x), ("other", .ref y)]) (m := no) (mc := up "other" (.ref y) (up "self" (.ref x) no))
    W hB hA (by k_is) (by k_is) (BindsTo.of_eq rfl) rfl (by decide) hlive.1 hlive.2 (fun _ => rfl) (fun _ => rfl) ?_
  intro L h₁ tk E' hA' H
  obtain ⟨h1, t1, h2, t2, h3, t3, l, tr, ix, jx⟩ := id hx
  obtain ⟨h1', t1', h2', t2', h3', t3', l', tr', iy, jy⟩ := id hy
  walk_at "M"
  refine type_inst (ix.mono H.on) ?_
  walk_at "M"
  refine isi_inst (r := true) (H.X W) (iy.mono H.on) (by kit_is) (by k_is) (by k_is) (by k_is) (by k_is) (by k_is) (by k_is) ?_
  intro tk2
  walk_at "M"
  refine ga_Mp W H ix ?_
  walk_at "M"
  refine ga_Mp W H iy ?_
  refine Mod.ne_ W H hA' hv ?_
  walk_at "M"
  refine gm_M (f := 248) W H hx (by k_is) (by k_is) (by k_is) (fun _ _ _ _ _ _ _ _ _ => rfl) ?_
  refine x_fn0 W H (by k_is) ?_
  refine wpAny_call (dim_spec W H.Bg (hA'.le (by decide)) hx ha hc ha1 hc1 ?_)
  intro d1 td1 td2 g2 h2 tk2 ev2 hdm1
  have H2 := H.call0 ev2
  replace hx := hx.mono (ev2.gg)
  replace hy := hy.mono (ev2.gg)
  replace hv := hv.mono (ev2.gg)
  replace hr := hr.mono (ev2.gg)
  refine tl_assign2 hA'.hh H2 hdm1 ?_
  intro h3 H3
  walk_at "M"
  rename St _ _ _ _ _ _ _ _ _ _ => H3
  refine gm_M (f := 248) W H3 hy (by k_is) (by k_is) (by k_is) (fun _ _ _ _ _ _ _ _ _ => rfl) ?_
  refine x_fn0 W H3 (by k_is) ?_
  refine wpAny_call (dim_spec W H3.Bg (hA'.le (by decide)) hy hc hd hc1 hd1 ?_)
  intro d2 td3 td4 g4 h4 tk4 ev4 hdm2
  have H4 := H3.call0 ev4
  replace hx := hx.mono (ev4.gg)
  replace hy := hy.mono (ev4.gg)
  replace hv := hv.mono (ev4.gg)
  replace hr := hr.mono (ev4.gg)
  refine tl_assign2 hA'.hh H4 hdm2 ?_
  intro h5 H5
  walk_at "M"
  rename St _ _ _ _ _ _ _ _ _ _ => H5
  rw [beq_self_eq_true]
  walk_at "M"
  obtain ⟨h1, t1, h2, t2, h3, t3, l, tr, ix, jx⟩ := id hx
  refine gm_Mp W H5 ix ?_
  obtain ⟨d, es, k, iv⟩ := hv.at
  refine x_icall (H5.X W) (iv.mono H5.on) (by k_is) ?_
  walk_at "M"
  refine ev_lc (cl := [("self", L + 1), ("other", L + 2), ("n", L + 3), ("l", L + 4)]) (cn := ["self", "other", "n", "l"]) (xc := true) (by walk_at "ok") fun ok => ?_
  walk_at "M"
  refine call_range1 H5 ?_
  intro h6 tk6 rr6 t6 u6 v6 hrr6 H6
  refine lc_runG (GP := AllBare) hbr ok H6 (Src.range hA'.hh hrr6 (rngN ha) (nat0 _)) (by rw [to_nat0]; exact szl ha) (fun i g₁ mu₁ ys => Tb 362 320 mu₁ ∧ Refs (fun i' z => LsOf g₁ z ll fun j u => Poly 222 g₁ u r (lf n fun k => sm ww (fun t => nc n (F i' t) (G t j) k) % q)) ys) ⟨tb, Refs.nil⟩ ?_ ?_
  · rintro i vv C D oD I oI g₁ mu₁ ys h₁ tk gs E' gp hi hP le1 ha' ⟨tb1, hys⟩ hl7 H7
    obtain ⟨ti, e⟩ := hP
    rw [Int.zero_add] at e
    subst e
    rw [to_nat0] at hi
    walk_at "M"
    refine ev_lc (cl := [("self", L + 1), ("other", L + 2), ("n", L + 3), ("i", C + 1)]) (cn := ["self", "other", "n", "i"]) (xc := true) (by walk_at "ok") fun ok2 => ?_
    walk_at "M"
    refine call_range1 H7 ?_
    intro h8 tk8 rr8 t8 u8 v8 hrr8 H8
    refine lc_runG (GP := AllBare) gp ok2 H8 (Src.range hA'.hh hrr8 (rngN hd) (nat0 _)) (by rw [to_nat0]; exact szl hd) (fun j g₂ mu₂ zs => ∃ mu₃, mu₂ = (D, oD) :: (I, oI) :: mu₃ ∧ Tb 362 320 mu₃ ∧ Refs (fun j' u => Poly 222 g₂ u r (lf n fun k => sm ww (fun t => nc n (F i t) (G t j') k) % q)) zs) ⟨mu₁, rfl, tb1, Refs.nil⟩ ?_ ?_
    · rintro j vv C2 D2 oD2 I2 oI2 g₂ mu₂ zs h₂ tk₂ gs₂ E2 gp2 hj hP le2 ha2 ⟨mu₃, rfl, ⟨pt, qt, rfl, tp, tq⟩, hzs⟩ hl9 H9
      obtain ⟨tj, e⟩ := hP
      rw [Int.zero_add] at e
      subst e
      rw [to_nat0] at hj
      walk_at "M"
      refine ev_ge hA' (cl := [("self", L + 1), ("other", L + 2), ("j", C2 + 1), ("i", C + 1)]) (by walk_at "okg") fun ok3 => ?_
      walk_at "M"
      refine call_range1 H9 ?_
      intro h10 tk10 rr10 t10 u10 v10 hrr10 H10
      replace hx := hx.mono (le1)
      replace hy := hy.mono (le1)
      replace hv := hv.mono (le1)
      replace hr := hr.mono (le1)
      replace hx := hx.mono (le2)
      replace hy := hy.mono (le2)
      replace hv := hv.mono (le2)
      replace hr := hr.mono (le2)
      refine gen_run (k := 6) (pre := [(D2, oD2), (I2, oI2), (D, oD), (I, oI), (362, tabObj pt)]) (post := []) (T := 320) (c := 322)
        (J := fun t g' u => ∃ z, u = .ref z ∧ Poly 222 g' z r (lf n fun k => nc n (F i t) (G t j) k % q)) W ok3 H10 tq (by kernel_rfl) gp2 (SrcA.range hrr10 (rng (by omega)) (nat0 _)) (fun _ _ _ _ ⟨z, e, hz⟩ le => ⟨z, e, hz.mono le⟩) ?_ ?_
      · rintro C3 code A' E' t vv s₂ g₃ m' hA3 ht ⟨tt, e⟩ le3 H11
        rw [Int.zero_add] at e
        subst e
        rw [to_nat0] at ht
        replace hx := hx.mono (le3)
        replace hy := hy.mono (le3)
        replace hv := hv.mono (le3)
        replace hr := hr.mono (le3)
        walk_at "M"
        refine ⟨sz1 rfl, fun a h12 ea eh => ?_⟩
        obtain ⟨g12, le12, ht12, H12⟩ := H11.mkTup ea eh
        replace hx := hx.mono (le12)
        replace hy := hy.mono (le12)
        replace hv := hv.mono (le12)
        replace hr := hr.mono (le12)
        refine sub_mat W H12 (hA3.le (by decide)) hx ha hc ht12 hi ht ?_
        intro z1 g13 h13 tk13 ev13 hz1
        have H13 := H12.call0 ev13
        replace hx := hx.mono (ev13.gg)
        replace hy := hy.mono (ev13.gg)
        replace hv := hv.mono (ev13.gg)
        replace hr := hr.mono (ev13.gg)
        walk_at "M"
        refine ⟨sz1 rfl, fun a h14 ea eh => ?_⟩
        obtain ⟨g14, le14, ht14, H14⟩ := H13.mkTup ea eh
        replace hx := hx.mono (le14)
        replace hy := hy.mono (le14)
        replace hv := hv.mono (le14)
        replace hr := hr.mono (le14)
        replace hz1 := hz1.mono (le14)
        refine sub_mat W H14 (hA3.le (by decide)) hy hc hd ht14 ht hj ?_
        intro z2 g15 h15 tk15 ev15 hz2
        have H15 := H14.call0 ev15
        replace hr := hr.mono (ev15.gg)
        replace hz1 := hz1.mono (ev15.gg)
        refine bin_mul W H15 hA3 hz1 hz2 hr hq hn hn1 (fun a c ha hc => hm i t j a c hi ht hj ha hc) ?_
        intro z3 g16 h16 tk16 ev16 hz3
        have H16 := H15.call0 ev16
        exact ⟨_, _, _, rfl, H16, z3, rfl, hz3⟩
      · intro a2 gi C3 I3 fp Ws ps' h11 tk11 gs11 tr11 H11 G11
        walk_at "M"
        refine call_sum (Acc := fun t g' u => (t = 0 ∧ ∃ tk, u = .int 0 tk) ∨ 0 < t ∧ ∃ z, u = .ref z ∧ Poly 222 g' z r (lf n fun k => sm t (fun t' => nc n (F i t') (G t' j) k) % q)) W (hA'.le (by decide)) H11 G11 (fun _ _ _ ⟨z, e, _⟩ => ⟨z, e⟩)
          (fun t _ _ ht a => a.elim (fun z => absurd ht (by omega)) fun ⟨_, z, e, _⟩ => ⟨z, e⟩) (fun _ _ _ _ a le => a.imp id fun ⟨p, z, e, hz⟩ => ⟨p, z, e, hz.mono le⟩) (fun _ _ _ _ ⟨z, e, hz⟩ le => ⟨z, e, hz.mono le⟩) (fun _ t => .inl ⟨rfl, t, rfl⟩) ?_ ?_
        · rintro A' E' t acc u s₂ S' env' g₃ m' hA3 ht le3 hacc ⟨z, rfl, hz⟩ H12
          have hr3 := hr.mono le3
          rcases hacc with ⟨rfl, tk0, rfl⟩ | ⟨ht0, z0, rfl, hz0⟩
          · refine bin_zero W H12 (hA3.le (by decide)) hz hr3 hq hn hn1 ⟨Int.emod_nonneg _ (by omega), Int.emod_lt_of_pos _ hq⟩ ?_
            intro z1 g13 h13 tk13 ev13 hz1
            refine ⟨_, _, _, rfl, ev13, .inr ⟨Nat.succ_pos _, z1, rfl, ?_⟩⟩
            rw [← lf_ext fun k _ => show nc n (F i 0) (G 0 j) k % q = sm (0 + 1) (fun t' => nc n (F i t') (G t' j) k) % q from by rw [sm_succ]; show _ = (0 + _) % q; rw [Int.zero_add]]
            exact hz1
          · refine bin_add W H12 (hA3.le (by decide)) hz0 hz hr3 hq hn ?_
            intro z1 g13 h13 tk13 ev13 hz1
            refine ⟨_, _, _, rfl, ev13, .inr ⟨Nat.succ_pos _, z1, rfl, ?_⟩⟩
            rw [lf_ext fun k _ => show _ = sm (t + 1) (fun t' => nc n (F i t') (G t' j) k) % q from by rw [sm_succ, ← Int.add_emod]] at hz1
            exact hz1
        · intro h12 tk12 gs12 acc g12 le12 hb12 H12 hacc
          rw [to_nat0] at hacc
          rcases hacc with ⟨z, _⟩ | ⟨_, z, rfl, hz⟩
          · omega
          refine EltEndG.mk hb12 le12 H12 (by exact ha2) ⟨_, rfl, ⟨_, _, rfl, tp, tr11⟩, ?_⟩
          exact (hzs.mono fun _ _ q => q.mono le12).push hl9 hz
    · rintro g₂ mu₂ zs D2 oD2 h₂ tk₂ gs₂ gp2 le2 ha2 ⟨mu₃, rfl, tb3, hzs⟩ hl9 isl9 fD9 H9
      rw [to_nat0] at hl9
      obtain ⟨g10, le10, hls, H10⟩ := H9.freezeLs fD9 isl9 hl9 hzs
      refine EltEndG.mk gp2 (le2.trans le10) H10 (by rw [tb3.adr, tb.adr]) ⟨tb3, ?_⟩
      refine (hys.mono fun _ _ q => LsOf.mono q (le2.trans le10) fun _ _ q => q.mono (le2.trans le10)).push hl7 ?_
      exact LsOf.mono hls (.refl _) fun _ _ q => q.mono le10
  · rintro g₁ mu₁ ys D oD h₁ tk gs gp le1 ha' ⟨tb1, hys⟩ hl7 isl7 fD7 H7
    rw [to_nat0] at hl7
    obtain ⟨g10, le10, hls, H10⟩ := H7.freezeLs fD7 isl7 hl7 hys
    walk_at "M"
    refine ⟨⟨H10.Xh W, (iv.mono (le1.trans le10)).mono H10.on⟩, ?_⟩
    replace hv := hv.mono (le1)
    replace hv := hv.mono (le10)
    refine icall (f := 367) (H10.Xh W) ((iv.mono (le1.trans le10)).mono H10.on) (by k_is) (by k_is) (by k_is) (vcall_spec (t := false) (hh := hh) (ww := ll) (F := fun i j k => sm ww (fun t => nc n (F i t) (G t j) k) % q) W H10.Bg (hA'.le (by decide)) (.inl ⟨rfl, rfl, rfl⟩) hv tb1 (H10.muFacts (pre := [])) gp
      (LsOf.mono hls (.refl _) fun _ _ q => LsOf.mono q le10 fun _ _ q => q.mono le10) ha hd ha1 hd1 ?_)
    intro z mu' g' h' tk' gs ev tb' live' hb' hz
    have H11 := H10.callMu (pre := []) ev (by rw [tb'.adr, tb1.adr]) live'
    walk_at "M"
    have ev12 := H11.ev
    exact ret _ _ _ _ _ _ ev12 tb' live' hb' hz
end
end Mine
namespace Mine
section
variable {prog : Program} {w : World} {p : Program} {loose : List Str} {mean : ExcName → Option Value} {mg mb : Str → Option Value} {b : Heap}
variable {S : List Addr} {g0 : FM} {h0 : Heap} {env : Env} {g : FM} {m mc : Str → Option Value} {mu : List (Addr × Obj)}
variable {A : Around} {s : Shared} {E : Value → Shared → Prop} {R : Result → Shared → Prop}

/-- two matrices, multiplied -/
theorem bin_mat {x y v r rr : Addr} {q : Int} {n hh ww ll : Nat} {F G : Nat → Nat → Nat → Int} {Q : Value → Shared → Prop} (W : Wd (Mine.hd.heap_39 w.params) p loose mean mg mb b) {pre : List (Addr × Obj)} (H : St b S g0 h0 env g m mc (pre ++ mu) s.heap) (hA : Ao 10 A)
    (hx : Mat 333 222 g x v r n hh ww F) (hy : Mat 333 222 g y v r n ww ll G) (hv : Mod 377 g v rr) (hr : Ring 59 g r q n)
    (hq : 0 < q) (hn : n ≤ 1000) (hn1 : 1 ≤ n) (ha : hh ≤ 1000) (hc : ww ≤ 1000) (hd : ll ≤ 1000) (ha1 : 1 ≤ hh) (hc1 : 1 ≤ ww) (hd1 : 1 ≤ ll) (hm : ∀ i t j a c, i < hh → t < ww → j < ll → a < n → c < n → IntMulOk (F i t a) (G t j c))
    (tb : Tb 362 320 mu) (hbr : AllBare s.gens)
    (ret : ∀ z mu' g' h' tk gs, g.le g' → Tb 362 320 mu' → AllBare gs → Mat 333 222 g' z v r n hh ll (fun i j k => sm ww (fun t => nc n (F i t) (G t j) k) % q) → St b S g0 h0 env g' m mc (pre ++ mu') h' → Q (.ref z) { s with heap := h', toks := tk, gens := gs }) :
    wpAny (model prog w) A (binaryOp .MatMult (.ref x) (.ref y)) Q E s := by
  obtain ⟨es, I⟩ := hx.inst
  obtain ⟨es', J⟩ := hy.inst
  refine bin_same (f := 323) W H I J ?a ?b ?c (wpAny_call (matmul_spec W H.Bg hA hx hy hv hr hq hn hn1 ha hc hd ha1 hc1 hd1 hm tb (H.muFacts) hbr fun z mu' g' h' tk gs ev tb' live' hb' hz => ?_))
  case a => k_is
  case b => k_is
  case c => k_is
  exact ret z mu' g' h' tk gs ev.gg tb' hb' hz (H.callMu ev (by rw [tb'.adr, tb.adr]) live')
end
end Mine
namespace Mine
section
variable {prog : Program} {w : World} {p : Program} {loose : List Str} {mean : ExcName → Option Value} {mg mb : Str → Option Value} {b : Heap}
variable {S : List Addr} {g0 : FM} {h0 : Heap} {env : Env} {g : FM} {m mc : Str → Option Value} {mu : List (Addr × Obj)}
variable {A : Around} {s : Shared} {E : Value → Shared → Prop} {R : Result → Shared → Prop}

set_option maxHeartbeats 400000 in
theorem sub_ (W : Wd (Mine.hd.heap_39 w.params) p loose mean mg mb b) (hB : Bg b g s.heap) (hA : Ao 3 A)
    {self other r r' : Addr} {q : Int} {n : Nat} {a c : Nat → Int} (hp : Poly 222 g self r (lf n a)) (ho : Poly 222 g other r' (lf n c)) (hr : Ring 59 g r q n) (hq : 0 < q) (hn : n ≤ 1000)
    (ret : ∀ l g' h' tk, Ev [] g s.heap g' h' → IntL g' l (lf n fun k => (a k - c k) % q) → R (.ok (.ret (.ref l))) { s with heap := h', toks := tk }) :
    codeAny (model prog w) A (.call (.ref 158) ⟨[.ref self, .ref other], []⟩) R s := by
  refine enter (mu := []) (binds := [("self", .ref self), ("other", .ref other)]) (m := up "other" (.ref other) no) (mc := up "self" (.ref self) no)
    W hB hA (by k_is) (by k_is) (BindsTo.of_eq rfl) rfl (by decide) (fun _ q => nomatch q) .nil (fun _ => rfl) (fun _ => rfl) ?_
  intro L h₁ tk E' hA' H
  walk_at "M"
  obtain ⟨es, I1⟩ := hp.inst
  obtain ⟨es', I2⟩ := ho.inst
  refine type_inst (I1.mono H.on) ?_
  walk_at "M"
  refine isi_inst (r := true) (H.X W) (I2.mono H.on) (by kit_is) (by k_is) (by k_is) (by k_is) (by k_is) (by k_is) (by k_is) ?_
  intro tk2
  walk_at "M"
  refine as_lcz (cl := [("self", L + 1)]) (cn := ["self"]) (by walk_at "okz") fun ok => ?_
  walk_at "M"
  refine ga_coeffs W H hp ?_
  intro la hla
  walk_at "M"
  refine ga_coeffs W H ho ?_
  intro lb hlb
  walk_at "M"
  obtain ⟨vs1, o1, k1, go1, oc1, od1, hi1⟩ := hla
  obtain ⟨vs2, o2, k2, go2, oc2, od2, hi2⟩ := hlb
  have n1 := ints_len hi1
  have n2 := ints_len hi2
  refine zip_runA hA'.hh ok H go1 go2 ⟨oc1, k1, od1⟩ ⟨oc2, k2, od2⟩ (by omega) (by rw [sizeLine_eq]; omega) (fun i g₁ ys => IntsAre ys (lf i fun k => (a k - c k) % q)) .nil ?_ ?_
  · intro s' i v1 v2 C Dl oD mu' g₁ ys h₁ tk E' hi hv1 hv2 le j hl H3
    obtain ⟨u1, e1⟩ := ints_at hi1 (show i < n by omega)
    obtain ⟨u2, e2⟩ := ints_at hi2 (show i < n by omega)
    rw [e1] at hv1; obtain rfl := Option.some.inj hv1
    rw [e2] at hv2; obtain rfl := Option.some.inj hv2
    walk_at "M"
    refine gm_P (f := 117) W H3 (hp.mono le) (by k_is) (by k_is) (by k_is) (fun _ _ _ _ _ _ => rfl) ?_
    walk_at "M"
    refine wpAny_call (sub_mod_q W H3.Bg (hA'.le (by decide)) (hp.mono le) (hr.mono le) (by omega) ?_)
    intro t g' h' tk' ev
    have H4 := H3.call0 ev
    exact ZipEnd.mk ev.gg H4 (ints_push j (Int.fmod_eq_emod_of_nonneg _ (by omega)))
  · intro g₁ ys D oD h₁ tk le j hl isl fD H3
    rw [n1] at j
    obtain ⟨H4, le4⟩ := H3.freeze fD
    dsimp only
    walk_at "M"
    exact ret _ _ _ _ H4.ev (IntL.mk (FM.put_self ..) isl j)
set_option maxHeartbeats 400000 in
theorem psub_spec (W : Wd (Mine.hd.heap_39 w.params) p loose mean mg mb b) (hB : Bg b g s.heap) (hA : Ao 6 A)
    {self other r r' : Addr} {q : Int} {n : Nat} {a c : Nat → Int} (hp : Poly 222 g self r (lf n a)) (ho : Poly 222 g other r' (lf n c)) (hr : Ring 59 g r q n) (hq : 0 < q) (hn : n ≤ 1000)
    (ret : ∀ x g' h' tk, Ev [] g s.heap g' h' → Poly 222 g' x r (lf n fun k => (a k - c k) % q) → R (.ok (.ret (.ref x))) { s with heap := h', toks := tk }) :
    codeAny (model prog w) A (.call (.ref 165) ⟨[.ref self, .ref other], []⟩) R s := by
  refine enter (mu := []) (binds := [("self", .ref self), ("other", .ref other)]) (m := up "other" (.ref other) (up "self" (.ref self) no)) (mc := no)
    W hB hA (by k_is) (by k_is) (BindsTo.of_eq rfl) rfl (by decide) (fun _ q => nomatch q) .nil (fun _ => rfl) (fun _ => rfl) ?_
  intro L h₁ tk E' hA' H
  walk_at "M"
  refine gm_P (f := 158) W H hp (by k_is) (by k_is) (by k_is) (fun _ _ _ _ _ _ => rfl) ?_
  walk_at "M"
  refine wpAny_call (sub_ W H.Bg (hA'.le (by decide)) hp ho hr hq hn ?_)
  intro l g' h' tk' ev hl
  have H2 := H.call0 ev
  walk_at "M"
  rename St _ _ _ _ _ _ _ _ _ _ => H3
  refine gm_parent W H3 (hp.mono ev.gg) ?_
  obtain ⟨d, es, k, i⟩ := (hr.mono ev.gg).at
  refine x_icall (H3.X W) (i.mono H3.on) (by k_is) ?_
  walk_at "M"
  refine ⟨⟨H3.X W, i.mono H3.on⟩, ?_⟩
  refine rcall (x := .Name "x" ⟨0, 0, 0, 0⟩) (pos := ⟨0, 0, 0, 0⟩) W H3 hA' (hr.mono ev.gg) hl hn (by rw [lf_length]; exact Nat.le_refl _) ?_
  intro x g2 h2 tk2 ev2 hx
  rw [pad_full] at hx
  have H4 := H3.call0 ev2
  walk_at "M"
  exact ret _ _ _ _ H4.ev hx

theorem bin_sub {x y r r' : Addr} {q : Int} {n : Nat} {a c : Nat → Int} {Q : Value → Shared → Prop} (W : Wd (Mine.hd.heap_39 w.params) p loose mean mg mb b) (H : St b S g0 h0 env g m mc mu s.heap) (hA : Ao 6 A)
    (hx : Poly 222 g x r (lf n a)) (hy : Poly 222 g y r' (lf n c)) (hr : Ring 59 g r q n) (hq : 0 < q) (hn : n ≤ 1000)
    (ret : ∀ z g' h' tk, Ev [] g s.heap g' h' → Poly 222 g' z r (lf n fun k => (a k - c k) % q) → Q (.ref z) { s with heap := h', toks := tk }) :
    wpAny (model prog w) A (binaryOp .Sub (.ref x) (.ref y)) Q E s := by
  obtain ⟨es, I⟩ := hx.inst
  obtain ⟨es', J⟩ := hy.inst
  refine bin_same (f := 165) W H I J ?a ?b ?c (wpAny_call (psub_spec W H.Bg hA hx hy hr hq hn fun z g' h' tk ev hz => ret z g' h' tk ev hz))
  case a => k_is
  case b => k_is
  case c => k_is
end
end Mine
namespace Mine
section
variable {prog : Program} {w : World} {p : Program} {loose : List Str} {mean : ExcName → Option Value} {mg mb : Str → Option Value} {b : Heap}
variable {S : List Addr} {g0 : FM} {h0 : Heap} {env : Env} {g : FM} {m mc : Str → Option Value} {mu : List (Addr × Obj)}
variable {A : Around} {s : Shared} {E : Value → Shared → Prop} {R : Result → Shared → Prop}

set_option maxHeartbeats 2000000 in
theorem madd_spec (W : Wd (Mine.hd.heap_39 w.params) p loose mean mg mb b) (hB : Bg b g s.heap) (hA : Ao 7 A)
    {x y v r rr : Addr} {q : Int} {n hh ww : Nat} {F G : Nat → Nat → Nat → Int} (hx : Mat 333 222 g x v r n hh ww F) (hy : Mat 333 222 g y v r n hh ww G) (hv : Mod 377 g v rr) (hr : Ring 59 g r q n)
    (hq : 0 < q) (hn : n ≤ 1000) (ha : hh ≤ 1000) (hc : ww ≤ 1000) (ha1 : 1 ≤ hh) (hc1 : 1 ≤ ww)
    (tb : Tb 362 320 mu) (hlive : (∀ q ∈ mu, s.heap.get? q.1 = some q.2 ∧ g q.1 = none) ∧ (mu.map (·.1)).Nodup) (hbr : AllBare s.gens)
    (ret : ∀ z mu' g' h' tk gs, Ev (mu.map (·.1)) g s.heap g' h' → Tb 362 320 mu' → (∀ q ∈ mu', h'.get? q.1 = some q.2) → AllBare gs → Mat 333 222 g' z v r n hh ww (fun i j k => (F i j k + G i j k) % q) → R (.ok (.ret (.ref z))) { s with heap := h', toks := tk, gens := gs }) :
    codeAny (model prog w) A (.call (.ref 299) ⟨[.ref x, .ref y], []⟩) R s := by
  refine enter (binds := [("self", .ref x), ("other", .ref y)]) (m := no) (mc := up "other" (.ref y) (up "self" (.ref x) no))
    W hB hA (by k_is) (by k_is) (BindsTo.of_eq rfl) rfl (by decide) hlive.1 hlive.2 (fun _ => rfl) (fun _ => rfl) ?_
  intro L h₁ tk E' hA' H
  obtain ⟨h1, t1, h2, t2, h3, t3, l, tr, ix, jx⟩ := id hx
  obtain ⟨h1', t1', h2', t2', h3', t3', l', tr', iy, jy⟩ := id hy
  walk_at "M"
  refine type_inst (ix.mono H.on) ?_
  walk_at "M"
  refine isi_inst (r := true) (H.X W) (iy.mono H.on) (by kit_is) (by k_is) (by k_is) (by k_is) (by k_is) (by k_is) (by k_is) ?_
  intro tk2
  walk_at "M"
  refine ga_Mp W H ix ?_
  walk_at "M"
  refine ga_Mp W H iy ?_
  refine Mod.ne_ W H hA' hv ?_
  walk_at "M"
  refine gm_M (f := 248) W H hx (by k_is) (by k_is) (by k_is) (fun _ _ _ _ _ _ _ _ _ => rfl) ?_
  refine x_fn0 W H (by k_is) ?_
  refine wpAny_call (dim_spec W H.Bg (hA'.le (by decide)) hx ha hc ha1 hc1 ?_)
  intro d1 td1 td2 g2 h2 tk2 ev2 hdm1
  have H2 := H.call0 ev2
  replace hx := hx.mono (ev2.gg)
  replace hy := hy.mono (ev2.gg)
  replace hv := hv.mono (ev2.gg)
  replace hr := hr.mono (ev2.gg)
  walk_at "M"
  refine gm_M (f := 248) W H2 hy (by k_is) (by k_is) (by k_is) (fun _ _ _ _ _ _ _ _ _ => rfl) ?_
  refine x_fn0 W H2 (by k_is) ?_
  refine wpAny_call (dim_spec W H2.Bg (hA'.le (by decide)) hy ha hc ha1 hc1 ?_)
  intro d2 td3 td4 g4 h4 tk4 ev4 hdm2
  have H4 := H2.call0 ev4
  replace hx := hx.mono (ev4.gg)
  replace hy := hy.mono (ev4.gg)
  replace hv := hv.mono (ev4.gg)
  replace hr := hr.mono (ev4.gg)
  refine ne_tup (r := false) H4 hA' (hdm1.mono ev4.gg) hdm2 (by simp) ?_
  walk_at "M"
  refine gm_M (f := 248) W H4 hx (by k_is) (by k_is) (by k_is) (fun _ _ _ _ _ _ _ _ _ => rfl) ?_
  refine x_fn0 W H4 (by k_is) ?_
  refine wpAny_call (dim_spec W H4.Bg (hA'.le (by decide)) hx ha hc ha1 hc1 ?_)
  intro d3 td5 td6 g5 h5 tk5 ev5 hdm3
  have H5 := H4.call0 ev5
  replace hx := hx.mono (ev5.gg)
  replace hy := hy.mono (ev5.gg)
  replace hv := hv.mono (ev5.gg)
  replace hr := hr.mono (ev5.gg)
  refine tl_assign2 hA'.hh H5 hdm3 ?_
  intro h6 H6
  walk_at "M"
  rename St _ _ _ _ _ _ _ _ _ _ => H6
  obtain ⟨h1, t1, h2, t2, h3, t3, l, tr, ix, jx⟩ := id hx
  refine gm_Mp W H6 ix ?_
  obtain ⟨d, es, k, iv⟩ := hv.at
  refine x_icall (H6.X W) (iv.mono H6.on) (by k_is) ?_
  walk_at "M"
  refine ev_lc (cl := [("self", L + 1), ("other", L + 2), ("n", L + 3)]) (cn := ["self", "other", "n"]) (xc := true) (by walk_at "ok") fun ok => ?_
  walk_at "M"
  refine call_range1 H6 ?_
  intro h6 tk6 rr6 t6 u6 v6 hrr6 H6
  refine lc_run ok H6 (Src.range hA'.hh hrr6 (rngN ha) (nat0 _)) (by rw [to_nat0]; exact szl ha) (fun i g₁ mu₁ ys => mu₁ = mu ∧ Refs (fun i' z => LsOf g₁ z ww fun j u => Poly 222 g₁ u r (lf n fun k => (F i' j k + G i' j k) % q)) ys) ⟨rfl, Refs.nil⟩ ?_ ?_
  · rintro i vv C D oD I oI g₁ mu₁ ys h₁ tk E' hi ⟨ti, e⟩ le1 ha' ⟨rfl, hys⟩ hl7 H7
    rw [Int.zero_add] at e
    subst e
    rw [to_nat0] at hi
    replace hx := hx.mono (le1)
    replace hy := hy.mono (le1)
    replace hv := hv.mono (le1)
    replace hr := hr.mono (le1)
    walk_at "M"
    refine ev_lc (cl := [("self", L + 1), ("other", L + 2), ("i", C + 1)]) (cn := ["self", "other", "i"]) (xc := false) (by walk_at "ok") fun ok2 => ?_
    walk_at "M"
    refine call_range1 H7 ?_
    intro h8 tk8 rr8 t8 u8 v8 hrr8 H8
    refine lc_run ok2 H8 (Src.range hA'.hh hrr8 (rngN hc) (nat0 _)) (by rw [to_nat0]; exact szl hc) (fun j g₂ mu₂ zs => mu₂ = (D, oD) :: (I, oI) :: mu₁ ∧ Refs (fun j' u => Poly 222 g₂ u r (lf n fun k => (F i j' k + G i j' k) % q)) zs) ⟨rfl, Refs.nil⟩ ?_ ?_
    · rintro j vv C2 D2 oD2 I2 oI2 g₂ mu₂ zs h₂ tk₂ E2 hj ⟨tj, e⟩ le2 ha2 ⟨rfl, hzs⟩ hl9 H9
      rw [Int.zero_add] at e
      subst e
      rw [to_nat0] at hj
      replace hx := hx.mono (le2)
      replace hy := hy.mono (le2)
      replace hv := hv.mono (le2)
      replace hr := hr.mono (le2)
      walk_at "M"
      refine ⟨sz1 rfl, fun a h12 ea eh => ?_⟩
      obtain ⟨g12, le12, ht12, H12⟩ := H9.mkTup ea eh
      replace hx := hx.mono (le12)
      replace hy := hy.mono (le12)
      replace hv := hv.mono (le12)
      replace hr := hr.mono (le12)
      refine sub_mat W H12 (hA'.le (by decide)) hx ha hc ht12 hi hj ?_
      intro z1 g13 h13 tk13 ev13 hz1
      have H13 := H12.call0 ev13
      replace hx := hx.mono (ev13.gg)
      replace hy := hy.mono (ev13.gg)
      replace hv := hv.mono (ev13.gg)
      replace hr := hr.mono (ev13.gg)
      walk_at "M"
      refine ⟨sz1 rfl, fun a h14 ea eh => ?_⟩
      obtain ⟨g14, le14, ht14, H14⟩ := H13.mkTup ea eh
      replace hx := hx.mono (le14)
      replace hy := hy.mono (le14)
      replace hv := hv.mono (le14)
      replace hr := hr.mono (le14)
      replace hz1 := hz1.mono (le14)
      refine sub_mat W H14 (hA'.le (by decide)) hy ha hc ht14 hi hj ?_
      intro z2 g15 h15 tk15 ev15 hz2
      have H15 := H14.call0 ev15
      replace hr := hr.mono (ev15.gg)
      replace hz1 := hz1.mono (ev15.gg)
      refine bin_add W H15 hA' hz1 hz2 hr hq hn ?_
      intro z3 g16 h16 tk16 ev16 hz3
      have H16 := H15.call0 ev16
      refine EltEnd.mk (le12.trans (ev13.gg.trans (le14.trans (ev15.gg.trans ev16.gg)))) H16 (by exact ha2) ⟨rfl, ?_⟩
      exact (hzs.mono fun _ _ q => q.mono (le12.trans (ev13.gg.trans (le14.trans (ev15.gg.trans ev16.gg))))).push hl9 hz3
    · rintro g₂ mu₂ zs D2 oD2 h₂ tk₂ le2 ha2 ⟨rfl, hzs⟩ hl9 isl9 fD9 H9
      rw [to_nat0] at hl9
      obtain ⟨g10, le10, hls, H10⟩ := H9.freezeLs fD9 isl9 hl9 hzs
      refine EltEnd.mk (le2.trans le10) H10 rfl ⟨rfl, ?_⟩
      refine (hys.mono fun _ _ q => LsOf.mono q (le2.trans le10) fun _ _ q => q.mono (le2.trans le10)).push hl7 ?_
      exact LsOf.mono hls (.refl _) fun _ _ q => q.mono le10
  · rintro g₁ mu₁ ys D oD h₁ tk le1 ha' ⟨rfl, hys⟩ hl7 isl7 fD7 H7
    rw [to_nat0] at hl7
    obtain ⟨g10, le10, hls, H10⟩ := H7.freezeLs fD7 isl7 hl7 hys
    walk_at "M"
    refine ⟨⟨H10.Xh W, (iv.mono (le1.trans le10)).mono H10.on⟩, ?_⟩
    replace hv := hv.mono (le1)
    replace hv := hv.mono (le10)
    refine icall (f := 367) (H10.Xh W) ((iv.mono (le1.trans le10)).mono H10.on) (by k_is) (by k_is) (by k_is) (vcall_spec (t := false) (hh := hh) (ww := ww) (F := fun i j k => (F i j k + G i j k) % q) W H10.Bg (hA'.le (by decide)) (.inr (.inl ⟨rfl, rfl⟩)) hv tb (H10.muFacts (pre := [])) hbr
      (LsOf.mono hls (.refl _) fun _ _ q => LsOf.mono q le10 fun _ _ q => q.mono le10) ha hc ha1 hc1 ?_)
    intro z mu' g' h' tk' gs ev tb' live' hb' hz
    have H11 := H10.callMu (pre := []) ev (by rw [tb'.adr, tb.adr]) live'
    walk_at "M"
    have ev12 := H11.ev
    exact ret _ _ _ _ _ _ ev12 tb' live' hb' hz

/-- two matrices, added -/
theorem bin_madd {x y v r rr : Addr} {q : Int} {n hh ww : Nat} {F G : Nat → Nat → Nat → Int} {Q : Value → Shared → Prop} (W : Wd (Mine.hd.heap_39 w.params) p loose mean mg mb b) {pre : List (Addr × Obj)} (H : St b S g0 h0 env g m mc (pre ++ mu) s.heap) (hA : Ao 7 A)
    (hx : Mat 333 222 g x v r n hh ww F) (hy : Mat 333 222 g y v r n hh ww G) (hv : Mod 377 g v rr) (hr : Ring 59 g r q n)
    (hq : 0 < q) (hn : n ≤ 1000) (ha : hh ≤ 1000) (hc : ww ≤ 1000) (ha1 : 1 ≤ hh) (hc1 : 1 ≤ ww)
    (tb : Tb 362 320 mu) (hbr : AllBare s.gens)
    (ret : ∀ z mu' g' h' tk gs, g.le g' → Tb 362 320 mu' → AllBare gs → Mat 333 222 g' z v r n hh ww (fun i j k => (F i j k + G i j k) % q) → St b S g0 h0 env g' m mc (pre ++ mu') h' → Q (.ref z) { s with heap := h', toks := tk, gens := gs }) :
    wpAny (model prog w) A (binaryOp .Add (.ref x) (.ref y)) Q E s := by
  obtain ⟨es, I⟩ := hx.inst
  obtain ⟨es', J⟩ := hy.inst
  refine bin_same (f := 299) W H I J ?a ?b ?c (wpAny_call (madd_spec W H.Bg hA hx hy hv hr hq hn ha hc ha1 hc1 tb (H.muFacts) hbr fun z mu' g' h' tk gs ev tb' live' hb' hz => ?_))
  case a => k_is
  case b => k_is
  case c => k_is
  exact ret z mu' g' h' tk gs ev.gg tb' hb' hz (H.callMu ev (by rw [tb'.adr, tb.adr]) live')
end
end Mine
namespace Mine
section
variable {prog : Program} {w : World} {p : Program} {loose : List Str} {mean : ExcName → Option Value} {mg mb : Str → Option Value} {b : Heap}
variable {S : List Addr} {g0 : FM} {h0 : Heap} {env : Env} {g : FM} {m mc : Str → Option Value} {mu : List (Addr × Obj)}
variable {A : Around} {s : Shared} {E : Value → Shared → Prop} {R : Result → Shared → Prop}

set_option maxHeartbeats 2000000 in
theorem msub_spec (W : Wd (Mine.hd.heap_39 w.params) p loose mean mg mb b) (hB : Bg b g s.heap) (hA : Ao 7 A)
    {x y v r rr : Addr} {q : Int} {n hh ww : Nat} {F G : Nat → Nat → Nat → Int} (hx : Mat 333 222 g x v r n hh ww F) (hy : Mat 333 222 g y v r n hh ww G) (hv : Mod 377 g v rr) (hr : Ring 59 g r q n)
    (hq : 0 < q) (hn : n ≤ 1000) (ha : hh ≤ 1000) (hc : ww ≤ 1000) (ha1 : 1 ≤ hh) (hc1 : 1 ≤ ww)
    (tb : Tb 362 320 mu) (hlive : (∀ q ∈ mu, s.heap.get? q.1 = some q.2 ∧ g q.1 = none) ∧ (mu.map (·.1)).Nodup) (hbr : AllBare s.gens)
    (ret : ∀ z mu' g' h' tk gs, Ev (mu.map (·.1)) g s.heap g' h' → Tb 362 320 mu' → (∀ q ∈ mu', h'.get? q.1 = some q.2) → AllBare gs → Mat 333 222 g' z v r n hh ww (fun i j k => (F i j k - G i j k) % q) → R (.ok (.ret (.ref z))) { s with heap := h', toks := tk, gens := gs }) :
    codeAny (model prog w) A (.call (.ref 311) ⟨[.ref x, .ref y], []⟩) R s := by
  refine enter (binds := [("self", .ref x), ("other", .ref y)]) (m := no) (mc := up "other" (.ref y) (up "self" (.ref x) no))
    W hB hA (by k_is) (by k_is) (BindsTo.of_eq rfl) rfl (by decide) hlive.1 hlive.2 (fun _ => rfl) (fun _ => rfl) ?_
  intro L h₁ tk E' hA' H
  obtain ⟨h1, t1, h2, t2, h3, t3, l, tr, ix, jx⟩ := id hx
  obtain ⟨h1', t1', h2', t2', h3', t3', l', tr', iy, jy⟩ := id hy
  walk_at "M"
  refine type_inst (ix.mono H.on) ?_
  walk_at "M"
  refine isi_inst (r := true) (H.X W) (iy.mono H.on) (by kit_is) (by k_is) (by k_is) (by k_is) (by k_is) (by k_is) (by k_is) ?_
  intro tk2
  walk_at "M"
  refine ga_Mp W H ix ?_
  walk_at "M"
  refine ga_Mp W H iy ?_
  refine Mod.ne_ W H hA' hv ?_
  walk_at "M"
  refine gm_M (f := 248) W H hx (by k_is) (by k_is) (by k_is) (fun _ _ _ _ _ _ _ _ _ => rfl) ?_
  refine x_fn0 W H (by k_is) ?_
  refine wpAny_call (dim_spec W H.Bg (hA'.le (by decide)) hx ha hc ha1 hc1 ?_)
  intro d1 td1 td2 g2 h2 tk2 ev2 hdm1
  have H2 := H.call0 ev2
  replace hx := hx.mono (ev2.gg)
  replace hy := hy.mono (ev2.gg)
  replace hv := hv.mono (ev2.gg)
  replace hr := hr.mono (ev2.gg)
  walk_at "M"
  refine gm_M (f := 248) W H2 hy (by k_is) (by k_is) (by k_is) (fun _ _ _ _ _ _ _ _ _ => rfl) ?_
  refine x_fn0 W H2 (by k_is) ?_
  refine wpAny_call (dim_spec W H2.Bg (hA'.le (by decide)) hy ha hc ha1 hc1 ?_)
  intro d2 td3 td4 g4 h4 tk4 ev4 hdm2
  have H4 := H2.call0 ev4
  replace hx := hx.mono (ev4.gg)
  replace hy := hy.mono (ev4.gg)
  replace hv := hv.mono (ev4.gg)
  replace hr := hr.mono (ev4.gg)
  refine ne_tup (r := false) H4 hA' (hdm1.mono ev4.gg) hdm2 (by simp) ?_
  walk_at "M"
  refine gm_M (f := 248) W H4 hx (by k_is) (by k_is) (by k_is) (fun _ _ _ _ _ _ _ _ _ => rfl) ?_
  refine x_fn0 W H4 (by k_is) ?_
  refine wpAny_call (dim_spec W H4.Bg (hA'.le (by decide)) hx ha hc ha1 hc1 ?_)
  intro d3 td5 td6 g5 h5 tk5 ev5 hdm3
  have H5 := H4.call0 ev5
  replace hx := hx.mono (ev5.gg)
  replace hy := hy.mono (ev5.gg)
  replace hv := hv.mono (ev5.gg)
  replace hr := hr.mono (ev5.gg)
  refine tl_assign2 hA'.hh H5 hdm3 ?_
  intro h6 H6
  walk_at "M"
  rename St _ _ _ _ _ _ _ _ _ _ => H6
  obtain ⟨h1, t1, h2, t2, h3, t3, l, tr, ix, jx⟩ := id hx
  refine gm_Mp W H6 ix ?_
  obtain ⟨d, es, k, iv⟩ := hv.at
  refine x_icall (H6.X W) (iv.mono H6.on) (by k_is) ?_
  walk_at "M"
  refine ev_lc (cl := [("self", L + 1), ("other", L + 2), ("n", L + 3)]) (cn := ["self", "other", "n"]) (xc := true) (by walk_at "ok") fun ok => ?_
  walk_at "M"
  refine call_range1 H6 ?_
  intro h6 tk6 rr6 t6 u6 v6 hrr6 H6
  refine lc_run ok H6 (Src.range hA'.hh hrr6 (rngN ha) (nat0 _)) (by rw [to_nat0]; exact szl ha) (fun i g₁ mu₁ ys => mu₁ = mu ∧ Refs (fun i' z => LsOf g₁ z ww fun j u => Poly 222 g₁ u r (lf n fun k => (F i' j k - G i' j k) % q)) ys) ⟨rfl, Refs.nil⟩ ?_ ?_
  · rintro i vv C D oD I oI g₁ mu₁ ys h₁ tk E' hi ⟨ti, e⟩ le1 ha' ⟨rfl, hys⟩ hl7 H7
    rw [Int.zero_add] at e
    subst e
    rw [to_nat0] at hi
    replace hx := hx.mono (le1)
    replace hy := hy.mono (le1)
    replace hv := hv.mono (le1)
    replace hr := hr.mono (le1)
    walk_at "M"
    refine ev_lc (cl := [("self", L + 1), ("other", L + 2), ("i", C + 1)]) (cn := ["self", "other", "i"]) (xc := false) (by walk_at "ok") fun ok2 => ?_
    walk_at "M"
    refine call_range1 H7 ?_
    intro h8 tk8 rr8 t8 u8 v8 hrr8 H8
    refine lc_run ok2 H8 (Src.range hA'.hh hrr8 (rngN hc) (nat0 _)) (by rw [to_nat0]; exact szl hc) (fun j g₂ mu₂ zs => mu₂ = (D, oD) :: (I, oI) :: mu₁ ∧ Refs (fun j' u => Poly 222 g₂ u r (lf n fun k => (F i j' k - G i j' k) % q)) zs) ⟨rfl, Refs.nil⟩ ?_ ?_
    · rintro j vv C2 D2 oD2 I2 oI2 g₂ mu₂ zs h₂ tk₂ E2 hj ⟨tj, e⟩ le2 ha2 ⟨rfl, hzs⟩ hl9 H9
      rw [Int.zero_add] at e
      subst e
      rw [to_nat0] at hj
      replace hx := hx.mono (le2)
      replace hy := hy.mono (le2)
      replace hv := hv.mono (le2)
      replace hr := hr.mono (le2)
      walk_at "M"
      refine ⟨sz1 rfl, fun a h12 ea eh => ?_⟩
      obtain ⟨g12, le12, ht12, H12⟩ := H9.mkTup ea eh
      replace hx := hx.mono (le12)
      replace hy := hy.mono (le12)
      replace hv := hv.mono (le12)
      replace hr := hr.mono (le12)
      refine sub_mat W H12 (hA'.le (by decide)) hx ha hc ht12 hi hj ?_
      intro z1 g13 h13 tk13 ev13 hz1
      have H13 := H12.call0 ev13
      replace hx := hx.mono (ev13.gg)
      replace hy := hy.mono (ev13.gg)
      replace hv := hv.mono (ev13.gg)
      replace hr := hr.mono (ev13.gg)
      walk_at "M"
      refine ⟨sz1 rfl, fun a h14 ea eh => ?_⟩
      obtain ⟨g14, le14, ht14, H14⟩ := H13.mkTup ea eh
      replace hx := hx.mono (le14)
      replace hy := hy.mono (le14)
      replace hv := hv.mono (le14)
      replace hr := hr.mono (le14)
      replace hz1 := hz1.mono (le14)
      refine sub_mat W H14 (hA'.le (by decide)) hy ha hc ht14 hi hj ?_
      intro z2 g15 h15 tk15 ev15 hz2
      have H15 := H14.call0 ev15
      replace hr := hr.mono (ev15.gg)
      replace hz1 := hz1.mono (ev15.gg)
      refine bin_sub W H15 hA' hz1 hz2 hr hq hn ?_
      intro z3 g16 h16 tk16 ev16 hz3
      have H16 := H15.call0 ev16
      refine EltEnd.mk (le12.trans (ev13.gg.trans (le14.trans (ev15.gg.trans ev16.gg)))) H16 (by exact ha2) ⟨rfl, ?_⟩
      exact (hzs.mono fun _ _ q => q.mono (le12.trans (ev13.gg.trans (le14.trans (ev15.gg.trans ev16.gg))))).push hl9 hz3
    · rintro g₂ mu₂ zs D2 oD2 h₂ tk₂ le2 ha2 ⟨rfl, hzs⟩ hl9 isl9 fD9 H9
      rw [to_nat0] at hl9
      obtain ⟨g10, le10, hls, H10⟩ := H9.freezeLs fD9 isl9 hl9 hzs
      refine EltEnd.mk (le2.trans le10) H10 rfl ⟨rfl, ?_⟩
      refine (hys.mono fun _ _ q => LsOf.mono q (le2.trans le10) fun _ _ q => q.mono (le2.trans le10)).push hl7 ?_
      exact LsOf.mono hls (.refl _) fun _ _ q => q.mono le10
  · rintro g₁ mu₁ ys D oD h₁ tk le1 ha' ⟨rfl, hys⟩ hl7 isl7 fD7 H7
    rw [to_nat0] at hl7
    obtain ⟨g10, le10, hls, H10⟩ := H7.freezeLs fD7 isl7 hl7 hys
    walk_at "M"
    refine ⟨⟨H10.Xh W, (iv.mono (le1.trans le10)).mono H10.on⟩, ?_⟩
    replace hv := hv.mono (le1)
    replace hv := hv.mono (le10)
    refine icall (f := 367) (H10.Xh W) ((iv.mono (le1.trans le10)).mono H10.on) (by k_is) (by k_is) (by k_is) (vcall_spec (t := false) (hh := hh) (ww := ww) (F := fun i j k => (F i j k - G i j k) % q) W H10.Bg (hA'.le (by decide)) (.inr (.inl ⟨rfl, rfl⟩)) hv tb (H10.muFacts (pre := [])) hbr
      (LsOf.mono hls (.refl _) fun _ _ q => LsOf.mono q le10 fun _ _ q => q.mono le10) ha hc ha1 hc1 ?_)
    intro z mu' g' h' tk' gs ev tb' live' hb' hz
    have H11 := H10.callMu (pre := []) ev (by rw [tb'.adr, tb.adr]) live'
    walk_at "M"
    have ev12 := H11.ev
    exact ret _ _ _ _ _ _ ev12 tb' live' hb' hz

/-- two matrices, subtracted -/
theorem bin_msub {x y v r rr : Addr} {q : Int} {n hh ww : Nat} {F G : Nat → Nat → Nat → Int} {Q : Value → Shared → Prop} (W : Wd (Mine.hd.heap_39 w.params) p loose mean mg mb b) {pre : List (Addr × Obj)} (H : St b S g0 h0 env g m mc (pre ++ mu) s.heap) (hA : Ao 7 A)
    (hx : Mat 333 222 g x v r n hh ww F) (hy : Mat 333 222 g y v r n hh ww G) (hv : Mod 377 g v rr) (hr : Ring 59 g r q n)
    (hq : 0 < q) (hn : n ≤ 1000) (ha : hh ≤ 1000) (hc : ww ≤ 1000) (ha1 : 1 ≤ hh) (hc1 : 1 ≤ ww)
    (tb : Tb 362 320 mu) (hbr : AllBare s.gens)
    (ret : ∀ z mu' g' h' tk gs, g.le g' → Tb 362 320 mu' → AllBare gs → Mat 333 222 g' z v r n hh ww (fun i j k => (F i j k - G i j k) % q) → St b S g0 h0 env g' m mc (pre ++ mu') h' → Q (.ref z) { s with heap := h', toks := tk, gens := gs }) :
    wpAny (model prog w) A (binaryOp .Sub (.ref x) (.ref y)) Q E s := by
  obtain ⟨es, I⟩ := hx.inst
  obtain ⟨es', J⟩ := hy.inst
  refine bin_same (f := 311) W H I J ?a ?b ?c (wpAny_call (msub_spec W H.Bg hA hx hy hv hr hq hn ha hc ha1 hc1 tb (H.muFacts) hbr fun z mu' g' h' tk gs ev tb' live' hb' hz => ?_))
  case a => k_is
  case b => k_is
  case c => k_is
  exact ret z mu' g' h' tk gs ev.gg tb' hb' hz (H.callMu ev (by rw [tb'.adr, tb.adr]) live')
end
end Mine
namespace Mine
section
variable {prog : Program} {w : World} {p : Program} {loose : List Str} {mean : ExcName → Option Value} {mg mb : Str → Option Value} {b : Heap}
variable {S : List Addr} {g0 : FM} {h0 : Heap} {env : Env} {g : FM} {m mc : Str → Option Value} {mu : List (Addr × Obj)}
variable {A : Around} {s : Shared} {E : Value → Shared → Prop} {R : Result → Shared → Prop}

set_option maxHeartbeats 1000000 in
theorem grid_spec (W : Wd (Mine.hd.heap_39 w.params) p loose mean mg mb b) (hB : Bg b g s.heap) (hA : Ao 5 A)
    {st cl : Addr} {hh ww n : Nat} {th tw tn : Tok} (hok : StOk st cl mu) (hlive : (∀ q ∈ mu, s.heap.get? q.1 = some q.2 ∧ g q.1 = none) ∧ (mu.map (·.1)).Nodup) (hn1 : n ≤ 1000) (ha : hh ≤ 1000) (hc : ww ≤ 1000)
    (ret : ∀ l F mu' g' h' tk, Ev (mu.map (·.1)) g s.heap g' h' → StOk st cl mu' → (∀ q ∈ mu', h'.get? q.1 = some q.2) → Grid g' l n hh ww F → (∀ i j k, i < hh → j < ww → k < n → -400 ≤ F i j k ∧ F i j k ≤ 598) → R (.ok (.ret (.ref l))) { s with heap := h', toks := tk }) :
    codeAny (model prog w) A (.call (.ref 408) ⟨[.ref st, .int hh th, .int ww tw, .int n tn], []⟩) R s := by
  refine enter (binds := [("state", .ref st), ("height", .int hh th), ("width", .int ww tw), ("n", .int n tn)]) (m := up "height" (.int hh th) no) (mc := up "n" (.int n tn) (up "width" (.int ww tw) (up "state" (.ref st) no)))
    W hB hA (by k_is) (by k_is) (BindsTo.of_eq rfl) rfl (by decide) hlive.1 hlive.2 (fun _ => rfl) (fun _ => rfl) ?_
  intro L h₁ tk E' hA' H
  walk_at "M"
  refine ev_lc (cl := [("width", L + 2), ("state", L + 1), ("n", L + 3)]) (cn := ["width", "state", "n"]) (xc := false) (by walk_at "ok") fun ok => ?_
  walk_at "M"
  refine call_range1 H ?_
  intro h2 tk2 r t1 u1 v1 hr H2
  refine lc_run ok H2 (Src.range hA'.hh hr (rngN ha) (nat0 _)) (by rw [to_nat0]; exact szl ha)
    (fun i g₁ mu₁ ys => StOk st cl mu₁ ∧ Refs (fun _ x => LsOf g₁ x ww fun _ y => ∃ a : Nat → Int, IntL g₁ y (lf n a) ∧ ∀ k, k < n → -400 ≤ a k ∧ a k ≤ 598) ys) ⟨hok, Refs.nil⟩ ?_ ?_
  · rintro i v C D oD I oI g₁ mu₁ ys h₁ tk E' hi hP le ha' ⟨hok1, hys⟩ hl H3
    walk_at "M"
    refine ev_lc (cl := [("state", L + 1), ("n", L + 3)]) (cn := ["state", "n"]) (xc := false) (by walk_at "ok") fun ok2 => ?_
    walk_at "M"
    refine call_range1 H3 ?_
    intro h4 tk4 r4 t4 u4 v4 hr4 H4
    refine lc_run ok2 H4 (Src.range hA'.hh hr4 (rngN hc) (nat0 _)) (by rw [to_nat0]; exact szl hc)
      (fun i g₂ mu₂ zs => ∃ mu₃, mu₂ = (D, oD) :: (I, oI) :: mu₃ ∧ StOk st cl mu₃ ∧ Refs (fun _ y => ∃ a : Nat → Int, IntL g₂ y (lf n a) ∧ ∀ k, k < n → -400 ≤ a k ∧ a k ≤ 598) zs) ⟨_, rfl, hok1, Refs.nil⟩ ?_ ?_
    · rintro j v C2 D2 oD2 I2 oI2 g₂ mu₂ zs h₂ tk₂ E2 hj hP2 le2 ha2 ⟨mu₃, rfl, hok3, hzs⟩ hl5 H5
      walk_at "M"
      refine wpAny_call (part_spec W H5.Bg (hA'.le (by decide)) hok3 (H5.muFacts (pre := [(D2, oD2), (I2, oI2), (D, oD), (I, oI)])) (nat0 _) (by omega) ?_)
      intro l1 ns1 mu4 g16 h16 tk16 ev16 hok4 live4 hl1 len1 bd1
      have H16 := H5.callMu (pre := [(D2, oD2), (I2, oI2), (D, oD), (I, oI)]) ev16 (by rw [hok4.adr, hok3.adr]) live4
      obtain ⟨a1, hl1, bd1⟩ := hl1.row (by rw [len1, Int.toNat_natCast]) bd1
      refine EltEnd.mk (mu₂ := (D, oD) :: (I, oI) :: mu4) ev16.gg H16 (by rw [List.map_cons, List.map_cons, hok4.adr, List.map_cons, List.map_cons, hok1.adr]) ⟨_, rfl, hok4, ?_⟩
      exact (hzs.mono fun _ _ ⟨a, q, z⟩ => ⟨a, q.mono ev16.gg, z⟩).push hl5 ⟨a1, hl1, bd1⟩
    · rintro g₂ mu₂ zs D2 oD2 h₂ tk₂ le2 ha2 ⟨mu₃, rfl, hok3, hzs⟩ hl5 isl5 fD5 H5
      rw [to_nat0] at hl5
      obtain ⟨g10, le10, hls, H10⟩ := H5.freezeLs fD5 isl5 hl5 hzs
      refine EltEnd.mk (le2.trans le10) H10 (by rw [hok3.adr, hok.adr]) ⟨hok3, ?_⟩
      refine (hys.mono fun _ _ q => LsOf.mono q (le2.trans le10) fun _ _ ⟨a, q, z⟩ => ⟨a, q.mono (le2.trans le10), z⟩).push hl ?_
      exact LsOf.mono hls (.refl _) fun _ _ ⟨a, q, z⟩ => ⟨a, q.mono le10, z⟩
  · rintro g₁ mu₁ ys D oD h₁ tk le ha' ⟨hok1, hys⟩ hl isl fD H3
    rw [to_nat0] at hl
    obtain ⟨g10, le10, hls, H10⟩ := H3.freezeLs fD isl hl hys
    obtain ⟨F, hF, hb⟩ := Grid.pick (LsOf.mono hls (.refl _) fun _ _ q => LsOf.mono q le10 fun _ _ ⟨a, q, z⟩ => ⟨a, q.mono le10, z⟩)
    exact ret _ _ _ _ _ _ H10.ev hok1 H10.mus hF hb

theorem gm_ring {x r : Addr} {pl : Sem Bool} {Q : Value × List Value → Shared → Prop} (W : Wd (Mine.hd.heap_39 w.params) p loose mean mg mb b) (H : St b S g0 h0 env g m mc mu s.heap) (I : Mod 377 g x r)
    (h : Q (.ref r, []) { s with toks := s.toks + 1 }) : wpAny (model prog w) A (getMethod (.ref x) "ring" pl) Q E s := by
  obtain ⟨h1, t1, i⟩ := I
  have J := i.mono H.on.le
  obtain ⟨d, n, J'⟩ := J.at_
  have hg : plainGet (Mine.hd.heap_39 w.params) 377 "ring" = true := by k_is
  refine method_usual (r := none) (H.X W) J' (plainGet_of hg).1 (plainGet_of hg).2 ?a rfl (ga_own (attr := none) (H.X W) J hg ?b ?c ?d rfl rfl h)
  case a => k_is
  case b => k_is
  case c => k_is
  case d => k_is

set_option maxHeartbeats 1000000 in
theorem made_spec (W : Wd (Mine.hd.heap_39 w.params) p loose mean mg mb b) (hB : Bg b g s.heap) (hA : Ao 7 A)
    {v l r : Addr} {q : Int} {hh ww n : Nat} {F : Nat → Nat → Nat → Int} (hl : Grid g l n hh ww F) (hv : Mod 377 g v r) (hr : Ring 59 g r q n)
    (tb : Tb 362 320 mu) (hlive : (∀ q ∈ mu, s.heap.get? q.1 = some q.2 ∧ g q.1 = none) ∧ (mu.map (·.1)).Nodup) (hbr : AllBare s.gens) (hn1 : n ≤ 1000) (ha : hh ≤ 1000) (hc : ww ≤ 1000) (ha1 : 1 ≤ hh) (hc1 : 1 ≤ ww)
    (ret : ∀ x mu' g' h' tk gs, Ev (mu.map (·.1)) g s.heap g' h' → Tb 362 320 mu' → (∀ q ∈ mu', h'.get? q.1 = some q.2) → AllBare gs → Mat 333 222 g' x v r n hh ww F → R (.ok (.ret (.ref x))) { s with heap := h', toks := tk, gens := gs }) :
    codeAny (model prog w) A (.call (.ref 413) ⟨[.ref v, .ref l], []⟩) R s := by
  refine enter (binds := [("module", .ref v), ("grid", .ref l)]) (m := up "grid" (.ref l) no) (mc := up "module" (.ref v) no)
    W hB hA (by k_is) (by k_is) (BindsTo.of_eq rfl) rfl (by decide) hlive.1 hlive.2 (fun _ => rfl) (fun _ => rfl) ?_
  intro L h₁ tk E' hA' H
  walk_at "M"
  obtain ⟨d, es, k, iv⟩ := hv.at
  refine x_icall (H.X W) (iv.mono H.on) (by k_is) ?_
  walk_at "M"
  refine ev_lc (cl := [("module", L + 1)]) (cn := ["module"]) (xc := false) (by walk_at "ok") fun ok => ?_
  walk_at "M"
  refine lc_run ok H (ls_src hA'.hh hl H.on) (szl ha) (fun i g₁ mu₁ ys => mu₁ = mu ∧ Refs (fun i' x => LsOf g₁ x ww fun j y => Poly 222 g₁ y r (lf n (F i' j))) ys) ⟨rfl, Refs.nil⟩ ?_ ?_
  · rintro i vv C D oD I oI g₁ mu₁ ys h₁ tk E' hi ⟨x1, rfl, hx1⟩ le ha' ⟨rfl, hys⟩ hl3 H3
    replace hv := hv.mono (le)
    replace hr := hr.mono (le)
    walk_at "M"
    refine ev_lc (cl := [("module", L + 1)]) (cn := ["module"]) (xc := false) (by walk_at "ok") fun ok2 => ?_
    walk_at "M"
    refine lc_run ok2 H3 (ls_src hA'.hh (LsOf.mono hx1 le fun _ _ q => q.mono le) H3.on) (szl hc) (fun j g₂ mu₂ zs => mu₂ = (D, oD) :: (I, oI) :: mu₁ ∧ Refs (fun j' y => Poly 222 g₂ y r (lf n (F i j'))) zs) ⟨rfl, Refs.nil⟩ ?_ ?_
    · rintro j vv C2 D2 oD2 I2 oI2 g₂ mu₂ zs h₂ tk₂ E2 hj ⟨y1, rfl, hy1⟩ le2 ha2 ⟨rfl, hzs⟩ hl5 H5
      replace hv := hv.mono (le2)
      replace hr := hr.mono (le2)
      replace hy1 := hy1.mono (le2)
      walk_at "M"
      refine gm_ring W H5 hv ?_
      obtain ⟨d22, es22, k22, i22⟩ := hr.at
      refine x_icall (H5.X W) (i22.mono H5.on) (by k_is) ?_
      walk_at "M"
      refine copy_il H5 hy1 (lfl hn1) ?_
      intro lc22 gc22 hc22 lec22 hlc22 Hc22
      walk_at "M"
      refine ⟨⟨Hc22.Xh W, (i22.mono lec22).mono Hc22.on⟩, ?_⟩
      refine rcall (x := .Name "x" ⟨0, 0, 0, 0⟩) (pos := ⟨0, 0, 0, 0⟩) W Hc22 (hA'.le (by decide)) (hr.mono lec22) hlc22 hn1 (by rw [lf_length]; exact Nat.le_refl _) ?_
      intro f1 gd22 hd22 tkd22 evd22 pf1
      rw [pad_full] at pf1
      have H22 := Hc22.call0 evd22
      refine EltEnd.mk (lec22.trans evd22.gg) H22 (by exact ha2) ⟨rfl, ?_⟩
      exact (hzs.mono fun _ _ q => q.mono (lec22.trans evd22.gg)).push hl5 pf1
    · rintro g₂ mu₂ zs D2 oD2 h₂ tk₂ le2 ha2 ⟨rfl, hzs⟩ hl5 isl5 fD5 H5
      obtain ⟨g10, le10, hls, H10⟩ := H5.freezeLs fD5 isl5 hl5 hzs
      refine EltEnd.mk (le2.trans le10) H10 rfl ⟨rfl, ?_⟩
      refine (hys.mono fun _ _ q => LsOf.mono q (le2.trans le10) fun _ _ q => q.mono (le2.trans le10)).push hl3 ?_
      exact LsOf.mono hls (.refl _) fun _ _ q => q.mono le10
  · rintro g₁ mu₁ ys D oD h₁ tk le ha' ⟨rfl, hys⟩ hl3 isl fD H3
    obtain ⟨g10, le10, hls, H10⟩ := H3.freezeLs fD isl hl3 hys
    walk_at "M"
    replace hv := hv.mono (le)
    replace hv := hv.mono (le10)
    refine ⟨⟨H10.Xh W, (iv.mono (le.trans le10)).mono H10.on⟩, ?_⟩
    refine icall (f := 367) (H10.Xh W) ((iv.mono (le.trans le10)).mono H10.on) (by k_is) (by k_is) (by k_is) (vcall_spec (t := false) (F := F) W H10.Bg hA' (.inl ⟨rfl, rfl, rfl⟩) hv tb (H10.muFacts (pre := [])) hbr
      (LsOf.mono hls (.refl _) fun _ _ q => LsOf.mono q le10 fun _ _ q => q.mono le10) ha hc ha1 hc1 ?_)
    intro z mu' g' h' tk' gs ev tb' live' hb' hz
    have H11 := H10.callMu (pre := []) ev (by rw [tb'.adr, tb.adr]) live'
    walk_at "M"
    have ev12 := H11.ev
    exact ret _ _ _ _ _ _ ev12 tb' live' hb' hz
end
end Mine
namespace Mine
section
variable {prog : Program} {w : World} {p : Program} {loose : List Str} {mean : ExcName → Option Value} {mg mb : Str → Option Value} {b : Heap}
variable {S : List Addr} {g0 : FM} {h0 : Heap} {env : Env} {g : FM} {m mc : Str → Option Value} {mu : List (Addr × Obj)}
variable {A : Around} {s : Shared} {E : Value → Shared → Prop} {R : Result → Shared → Prop}

set_option maxHeartbeats 2000000 in
theorem times_spec (W : Wd (Mine.hd.heap_39 w.params) p loose mean mg mb b) (hB : Bg b g s.heap) (hA : Ao 4 A)
    {la lb : Addr} {q : Int} {tq : Tok} {hh ww ll n : Nat} {F G : Nat → Nat → Nat → Int} (hla : Grid g la n hh ww F) (hlb : Grid g lb n ww ll G) (hq : 0 < q) (hn : n ≤ 1000) (ha : hh ≤ 1000) (hc : ww ≤ 1000) (hd : ll ≤ 1000) (hc1 : 1 ≤ ww)
    (hm : ∀ i t j a c, i < hh → t < ww → j < ll → a < n → c < n → IntMulOk (F i t a) (G t j c))
    (ret : ∀ l g' h' tk, Ev [] g s.heap g' h' → Grid g' l n hh ll (fun i j k => sm ww (fun t => nc n (F i t) (G t j) k) % q) → R (.ok (.ret (.ref l))) { s with heap := h', toks := tk }) :
    codeAny (model prog w) A (.call (.ref 418) ⟨[.ref la, .ref lb, .int q tq], []⟩) R s := by
  refine enter (mu := []) (binds := [("one", .ref la), ("two", .ref lb), ("q", .int q tq)]) (m := up "two" (.ref lb) (up "one" (.ref la) no)) (mc := up "q" (.int q tq) no)
    W hB hA (by k_is) (by k_is) (BindsTo.of_eq rfl) rfl (by decide) (fun _ q => nomatch q) .nil (fun _ => rfl) (fun _ => rfl) ?_
  intro L h₁ tk E' hA' H
  walk_at "M"
  refine ⟨sz1 rfl, fun Dr h2 ea eh => ?_⟩
  obtain ⟨fr, H2⟩ := H.mkL ea eh
  walk_at "M"
  rename St _ _ _ _ _ _ _ _ _ _ => H3
  refine loop_for H3 (ls_src hA'.hh hla H3.on) (fun i g₁ m₁ mc₁ mu₁ => mc₁ "q" = some (.int q tq) ∧ m₁ "one" = some (.ref la) ∧ m₁ "two" = some (.ref lb) ∧ m₁ "result" = some (.ref Dr) ∧ ∃ o ys, mu₁ = [(Dr, o)] ∧ IsL o ys ∧ ys.length = i ∧ Refs (fun i' x => LsOf g₁ x ll fun j y => IntL g₁ y (lf n fun k => sm ww (fun t => nc n (F i' t) (G t j) k) % q)) ys)
    ⟨by with_unfolding_all rfl, by with_unfolding_all rfl, by with_unfolding_all rfl, by with_unfolding_all rfl, _, _, rfl, IsL.lst _, rfl, Refs.nil⟩ ?_ ?_
  · rintro i vv I oI g₁ m₁ mc₁ mu₁ h₁ tk E' hi ⟨x1, rfl, hx1⟩ le1 ⟨q1, e1, e2, e3, o1, ys1, rfl, isl1, hl1, hys1⟩ H4
    replace hx1 : LsOf g₁ x1 ww fun j y => IntL g₁ y (lf n (F i j)) := LsOf.mono hx1 le1 fun _ _ q => q.mono le1
    replace hlb := Grid.mono hlb le1
    walk_at "M"
    refine ⟨sz1 rfl, fun Dm h5 ea eh => ?_⟩
    obtain ⟨fm, H5⟩ := H4.mkL ea eh
    walk_at "M"
    rename St _ _ _ _ _ _ _ _ _ _ => H6
    refine ls_sub (i := 0) H6 hlb rfl hc1 hc ?_
    intro y0 hy0
    walk_at "M"
    refine ls_len H6 hy0 hd ?_
    walk_at "M"
    refine call_range1 H6 ?_
    intro h7 tk7 rr7 t7 u7 v7 hrr7 H7
    refine loop_for H7 (Src.range hA'.hh hrr7 (rngN hd) (nat0 _)) (fun j g₂ m₂ mc₂ mu₂ => mc₂ "q" = some (.int q tq) ∧ m₂ "one" = some (.ref la) ∧ m₂ "two" = some (.ref lb) ∧ m₂ "result" = some (.ref Dr) ∧ m₂ "line" = some (.ref x1) ∧ m₂ "made" = some (.ref Dm) ∧ ∃ o ys, mu₂ = [(Dm, o), (I, oI), (Dr, o1)] ∧ IsL o ys ∧ ys.length = j ∧ Refs (fun j y => IntL g₂ y (lf n fun k => sm ww (fun t => nc n (F i t) (G t j) k) % q)) ys)
      ⟨by with_unfolding_all assumption, by with_unfolding_all assumption, by with_unfolding_all assumption, by with_unfolding_all assumption, by with_unfolding_all rfl, by with_unfolding_all rfl, _, _, rfl, IsL.lst _, rfl, Refs.nil⟩ ?_ ?_
    · rintro j vv I2 oI2 g₂ m₂ mc₂ mu₂ h₂ tk₂ E2 hj ⟨tj, e⟩ le2 ⟨q2, f1, f2, f3, f4, f5, o2, ys2, rfl, isl2, hl2, hys2⟩ H8
      rw [Int.zero_add] at e
      subst e
      rw [to_nat0] at hj
      replace hx1 : LsOf g₂ x1 ww fun j y => IntL g₂ y (lf n (F i j)) := LsOf.mono hx1 le2 fun _ _ q => q.mono le2
      replace hlb := Grid.mono hlb le2
      walk_at "M"
      refine ⟨sz1 rfl, fun a9 h9 ea eh => ?_⟩
      obtain ⟨f9, H9⟩ := H8.mkL ea eh
      walk_at "M"
      refine ls_sub (i := 0) H9 hx1 rfl hc1 hc ?_
      intro y1 hy1
      walk_at "M"
      refine len_il H9 hy1 (lfl hn) ?_
      rw [lf_length]
      walk_at "M"
      refine mul_one H9 (nlo n) (nhi hn) ?_
      intro a10 h10 f10 _ H10
      walk_at "M"
      rename St _ _ _ _ _ _ _ _ _ _ => H11
      obtain ⟨g12, le12, p12, H12⟩ := H11.freeze' f10
      replace hx1 : LsOf g12 x1 ww fun j y => IntL g12 y (lf n (F i j)) := LsOf.mono hx1 le12 fun _ _ q => q.mono le12
      replace hlb := Grid.mono hlb le12
      refine ls_len H12 hlb hc ?_
      walk_at "M"
      refine call_range1 H12 ?_
      intro h13 tk13 rr13 t13 u13 v13 hrr13 H13
      refine loop_for H13 (Src.range hA'.hh hrr13 (rngN hc) (nat0 _)) (fun t g₃ m₃ mc₃ mu₃ => (mc₃ "q" = some (.int q tq) ∧ ∃ lr, mc₃ "row" = some (.ref lr) ∧ IntL g₃ lr (lf n fun c => sm t (fun t' => nc n (F i t') (G t' j) c) % q)) ∧ m₃ "one" = some (.ref la) ∧ m₃ "two" = some (.ref lb) ∧ m₃ "result" = some (.ref Dr) ∧ m₃ "line" = some (.ref x1) ∧ m₃ "made" = some (.ref Dm) ∧ m₃ "k" = some (.int j tj) ∧ mu₃ = [(I2, oI2), (Dm, o2), (I, oI), (Dr, o1)])
        ⟨⟨by with_unfolding_all assumption, a10, by with_unfolding_all rfl, IntL.mk p12 (IsL.lst _) (by rw [Int.toNat_natCast]; exact ints_ext (ints_rep _ _ _) fun k _ => by show (0 : Int) = 0 % q; rw [Int.zero_emod])⟩, by with_unfolding_all assumption, by with_unfolding_all assumption, by with_unfolding_all assumption, by with_unfolding_all assumption, by with_unfolding_all assumption, by with_unfolding_all rfl, rfl⟩ ?_ ?_
      · rintro t vv I3 oI3 g₃ m₃ mc₃ mu₃ h₃ tk₃ E3 ht ⟨tt, e⟩ le3 ⟨⟨q3, lr, er, hlr⟩, k1, k2, k3, k4, k5, k6, rfl⟩ H14
        rw [Int.zero_add] at e
        subst e
        rw [to_nat0] at ht
        replace hx1 : LsOf g₃ x1 ww fun j y => IntL g₃ y (lf n (F i j)) := LsOf.mono hx1 le3 fun _ _ q => q.mono le3
        replace hlb := Grid.mono hlb le3
        walk_at "M"
        refine ls_sub (i := t) H14 hx1 rfl ht hc ?_
        intro z1 hz1
        walk_at "M"
        refine ls_sub (i := t) H14 hlb rfl ht hc ?_
        intro z2 hz2
        walk_at "M"
        refine ls_sub (i := j) H14 hz2 rfl hj hd ?_
        intro z3 hz3
        walk_at "M"
        refine wpAny_call (product_spec W H14.Bg (hA'.le (by decide)) hz1 hz3 hq hn (fun a c ha hc => hm i t j a c hi ht hj ha hc) ?_)
        intro lm g15 h15 tk15 ev15 hlm
        have H15 := H14.call0 ev15
        replace hlr := hlr.mono (ev15.gg)
        walk_at "M"
        rename St _ _ _ _ _ _ _ _ _ _ => H16
        refine ev_lc (cl := [("row", L + 2), ("q", L + 1), ("more", L + 3)]) (cn := ["row", "q", "more"]) (xc := false) (by walk_at "ok") fun ok => ?_
        walk_at "M"
        refine len_il H16 hlr (lfl hn) ?_
        rw [lf_length]
        walk_at "M"
        refine call_range1 H16 ?_
        intro h17 tk17 rr17 t17 u17 v17 hrr17 H17
        refine lc_run ok H17 (Src.range hA'.hh hrr17 (rngN hn) (nat0 _)) (by rw [to_nat0]; exact szl hn) (fun i' g₁ mu₁ zs => mu₁ = [(I3, oI3), (I2, oI2), (Dm, o2), (I, oI), (Dr, o1)] ∧ IntsAre zs (lf i' fun c => sm (t + 1) (fun t' => nc n (F i t') (G t' j) c) % q)) ⟨rfl, .nil⟩ ?_ ?_
        · rintro c vv C D2 oD2 I4 oI4 g₄ mu₄ zs h₄ tk₄ E4 hcn ⟨tc, e⟩ le4 ha4 ⟨rfl, hzs⟩ hl4 H18
          rw [Int.zero_add] at e
          subst e
          rw [to_nat0] at hcn
          walk_at "M"
          refine row_il (i := c) H18 (hlr.mono le4) rfl hcn hn ?_
          intro u1
          walk_at "M"
          refine row_il (i := c) H18 (hlm.mono le4) rfl hcn hn ?_
          intro u2
          walk_at "M"
          refine EltEnd.mk (.refl _) H18 (by exact ha4) ⟨rfl, ints_push hzs ?_⟩
          rw [sm_succ, ← Int.add_emod]
        · rintro g₄ mu₄ zs D2 oD2 h₄ tk₄ le4 ha4 ⟨rfl, hzs⟩ hl4 isl4 fD4 H18
          obtain ⟨g19, le19, p19, H19⟩ := H18.freeze' fD4
          rw [to_nat0] at hzs
          walk_at "M"
          rename St _ _ _ _ _ _ _ _ _ _ => H20
          exact LoopEnd.mk (ev15.gg.trans (le4.trans le19)) H20 ⟨⟨by with_unfolding_all assumption, D2, by with_unfolding_all rfl, IntL.mk p19 isl4 hzs⟩, by with_unfolding_all assumption, by with_unfolding_all assumption, by with_unfolding_all assumption, by with_unfolding_all assumption, by with_unfolding_all assumption, by with_unfolding_all assumption, rfl⟩
      · rintro g₃ m₃ mc₃ mu₃ h₃ tk₃ le3 ⟨⟨q3, lr, er, hlr⟩, k1, k2, k3, k4, k5, k6, rfl⟩ H14
        rw [to_nat0] at hlr
        walk_at "M"
        refine gm_append H14 (.tail _ (.head _)) isl2 ?_
        walk_at "M"
        refine do_append (pre := [(I2, oI2)]) (post := [(I, oI), (Dr, o1)]) H14 isl2 (len_lt hl2 hj hd) ?_
        intro h15 o15 isl15 H15
        walk_at "M"
        refine LoopEnd.mk (le12.trans le3) H15 ⟨by with_unfolding_all assumption, by with_unfolding_all assumption, by with_unfolding_all assumption, by with_unfolding_all assumption, by with_unfolding_all assumption, by with_unfolding_all assumption, o15, _, rfl, isl15, by rw [List.length_append, hl2]; rfl, ?_⟩
        exact (hys2.mono fun _ _ q => q.mono (le12.trans le3)).push hl2 hlr
    · rintro g₂ m₂ mc₂ mu₂ h₂ tk₂ le2 ⟨q2, f1, f2, f3, f4, f5, o2, ys2, rfl, isl2, hl2, hys2⟩ H8
      rw [to_nat0] at hl2
      obtain ⟨g9, le9, hls, H9⟩ := H8.freezeLs fm isl2 hl2 hys2
      walk_at "M"
      refine gm_append H9 (.tail _ (.head _)) isl1 ?_
      walk_at "M"
      refine do_append (pre := [(I, oI)]) (post := []) H9 isl1 (len_lt hl1 hi ha) ?_
      intro h15 o15 isl15 H15
      walk_at "M"
      refine LoopEnd.mk (le2.trans le9) H15 ⟨by with_unfolding_all assumption, by with_unfolding_all assumption, by with_unfolding_all assumption, by with_unfolding_all assumption, o15, _, rfl, isl15, by rw [List.length_append, hl1]; rfl, ?_⟩
      refine (hys1.mono fun _ _ q => LsOf.mono q (le2.trans le9) fun _ _ q => q.mono (le2.trans le9)).push hl1 ?_
      exact LsOf.mono hls (.refl _) fun _ _ q => q.mono le9
  · rintro g₁ m₁ mc₁ mu₁ h₁ tk le1 ⟨q1, e1, e2, e3, o1, ys1, rfl, isl1, hl1, hys1⟩ H4
    obtain ⟨g9, le9, hls, H9⟩ := H4.freezeLs fr isl1 hl1 hys1
    walk_at "M"
    exact ret _ _ _ _ H9.ev (LsOf.mono hls (.refl _) fun _ _ q => LsOf.mono q le9 fun _ _ q => q.mono le9)
end
end Mine
namespace Mine
section
variable {prog : Program} {w : World} {p : Program} {loose : List Str} {mean : ExcName → Option Value} {mg mb : Str → Option Value} {b : Heap}
variable {S : List Addr} {g0 : FM} {h0 : Heap} {env : Env} {g : FM} {m mc : Str → Option Value} {mu : List (Addr × Obj)}
variable {A : Around} {s : Shared} {E : Value → Shared → Prop} {R : Result → Shared → Prop}

set_option maxHeartbeats 1000000 in
theorem shown_spec (W : Wd (Mine.hd.heap_39 w.params) p loose mean mg mb b) (hB : Bg b g s.heap) (hA : Ao 3 A)
    {x v r : Addr} {hh ww n : Nat} {F : Nat → Nat → Nat → Int} (hx : Mat 333 222 g x v r n hh ww F) (ha : hh ≤ 1000) (hc : ww ≤ 1000) (ha1 : 1 ≤ hh) (hc1 : 1 ≤ ww)
    (ret : ∀ l g' h' tk, Ev [] g s.heap g' h' → Grid g' l n hh ww F → R (.ok (.ret (.ref l))) { s with heap := h', toks := tk }) :
    codeAny (model prog w) A (.call (.ref 423) ⟨[.ref x], []⟩) R s := by
  refine enter (mu := []) (binds := [("matrix", .ref x)]) (m := no) (mc := up "matrix" (.ref x) no)
    W hB hA (by k_is) (by k_is) (BindsTo.of_eq rfl) rfl (by decide) (fun _ q => nomatch q) .nil (fun _ => rfl) (fun _ => rfl) ?_
  intro L h₁ tk E' hA' H
  walk_at "M"
  refine gm_M (f := 248) W H hx (by k_is) (by k_is) (by k_is) (fun _ _ _ _ _ _ _ _ _ => rfl) ?_
  refine x_fn0 W H (by k_is) ?_
  refine wpAny_call (dim_spec W H.Bg (hA'.le (by decide)) hx ha hc ha1 hc1 ?_)
  intro d1 td1 td2 g2 h2 tk2 ev2 hdm1
  have H2 := H.call0 ev2
  replace hx := hx.mono (ev2.gg)
  refine tl_assign2 hA'.hh H2 hdm1 ?_
  intro h3 H3
  walk_at "M"
  rename St _ _ _ _ _ _ _ _ _ _ => H4
  refine ev_lc (cl := [("width", L + 2), ("matrix", L + 1)]) (cn := ["width", "matrix"]) (xc := true) (by walk_at "ok") fun ok => ?_
  walk_at "M"
  refine call_range1 H4 ?_
  intro h5 tk5 rr5 t5 u5 v5 hrr5 H5
  refine lc_run ok H5 (Src.range hA'.hh hrr5 (rngN ha) (nat0 _)) (by rw [to_nat0]; exact szl ha) (fun i g₁ mu₁ ys => mu₁ = [] ∧ Refs (fun i x => LsOf g₁ x ww fun j y => IntL g₁ y (lf n (F i j))) ys) ⟨rfl, Refs.nil⟩ ?_ ?_
  · rintro i vv C D oD I oI g₁ mu₁ ys h₁ tk E' hi ⟨ti, e⟩ le1 ha' ⟨rfl, hys⟩ hl6 H6
    rw [Int.zero_add] at e
    subst e
    rw [to_nat0] at hi
    replace hx := hx.mono (le1)
    walk_at "M"
    refine ev_lc (cl := [("matrix", L + 1), ("j", C + 1)]) (cn := ["matrix", "j"]) (xc := false) (by walk_at "ok") fun ok2 => ?_
    walk_at "M"
    refine call_range1 H6 ?_
    intro h7 tk7 rr7 t7 u7 v7 hrr7 H7
    refine lc_run ok2 H7 (Src.range hA'.hh hrr7 (rngN hc) (nat0 _)) (by rw [to_nat0]; exact szl hc) (fun j g₂ mu₂ zs => mu₂ = [(D, oD), (I, oI)] ∧ Refs (fun j y => IntL g₂ y (lf n (F i j))) zs) ⟨rfl, Refs.nil⟩ ?_ ?_
    · rintro j vv C2 D2 oD2 I2 oI2 g₂ mu₂ zs h₂ tk₂ E2 hj ⟨tj, e⟩ le2 ha2 ⟨rfl, hzs⟩ hl8 H8
      rw [Int.zero_add] at e
      subst e
      rw [to_nat0] at hj
      replace hx := hx.mono (le2)
      walk_at "M"
      refine ⟨sz1 rfl, fun a h12 ea eh => ?_⟩
      obtain ⟨g12, le12, ht12, H12⟩ := H8.mkTup ea eh
      replace hx := hx.mono (le12)
      refine sub_mat W H12 (hA'.le (by decide)) hx ha hc ht12 hi hj ?_
      intro z1 g13 h13 tk13 ev13 hz1
      have H13 := H12.call0 ev13
      refine ga_coeffs W H13 hz1 ?_
      intro lz hlz
      refine EltEnd.mk (le12.trans ev13.gg) H13 (by exact ha2) ⟨rfl, ?_⟩
      exact (hzs.mono fun _ _ q => q.mono (le12.trans ev13.gg)).push hl8 hlz
    · rintro g₂ mu₂ zs D2 oD2 h₂ tk₂ le2 ha2 ⟨rfl, hzs⟩ hl8 isl8 fD8 H8
      rw [to_nat0] at hl8
      obtain ⟨g10, le10, hls, H10⟩ := H8.freezeLs fD8 isl8 hl8 hzs
      refine EltEnd.mk (le2.trans le10) H10 (by exact ha') ⟨rfl, ?_⟩
      refine (hys.mono fun _ _ q => LsOf.mono q (le2.trans le10) fun _ _ q => q.mono (le2.trans le10)).push hl6 ?_
      exact LsOf.mono hls (.refl _) fun _ _ q => q.mono le10
  · rintro g₁ mu₁ ys D oD h₁ tk le1 ha' ⟨rfl, hys⟩ hl6 isl6 fD6 H6
    rw [to_nat0] at hl6
    obtain ⟨g10, le10, hls, H10⟩ := H6.freezeLs fD6 isl6 hl6 hys
    exact ret _ _ _ _ H10.ev (LsOf.mono hls (.refl _) fun _ _ q => LsOf.mono q le10 fun _ _ q => q.mono le10)

set_option maxHeartbeats 1000000 in
theorem turned_spec (W : Wd (Mine.hd.heap_39 w.params) p loose mean mg mb b) (hB : Bg b g s.heap) (hA : Ao 1 A)
    {l : Addr} {hh ww n : Nat} {F : Nat → Nat → Nat → Int} (hl : Grid g l n hh ww F) (ha : hh ≤ 1000) (hc : ww ≤ 1000) (ha1 : 1 ≤ hh)
    (ret : ∀ l g' h' tk, Ev [] g s.heap g' h' → Grid g' l n ww hh (fun i j => F j i) → R (.ok (.ret (.ref l))) { s with heap := h', toks := tk }) :
    codeAny (model prog w) A (.call (.ref 428) ⟨[.ref l], []⟩) R s := by
  refine enter (mu := []) (binds := [("rows", .ref l)]) (m := no) (mc := up "rows" (.ref l) no)
    W hB hA (by k_is) (by k_is) (BindsTo.of_eq rfl) rfl (by decide) (fun _ q => nomatch q) .nil (fun _ => rfl) (fun _ => rfl) ?_
  intro L h₁ tk E' hA' H
  walk_at "M"
  refine ev_lc (cl := [("rows", L + 1)]) (cn := ["rows"]) (xc := true) (by walk_at "ok") fun ok => ?_
  walk_at "M"
  refine ls_sub (i := 0) H hl rfl (by omega) ha ?_
  intro y0 hy0
  walk_at "M"
  refine ls_len H hy0 hc ?_
  walk_at "M"
  refine call_range1 H ?_
  intro h5 tk5 rr5 t5 u5 v5 hrr5 H5
  refine lc_run ok H5 (Src.range hA'.hh hrr5 (rngN hc) (nat0 _)) (by rw [to_nat0]; exact szl hc) (fun i g₁ mu₁ ys => mu₁ = [] ∧ Refs (fun i x => LsOf g₁ x hh fun j y => IntL g₁ y (lf n (F j i))) ys) ⟨rfl, Refs.nil⟩ ?_ ?_
  · rintro i vv C D oD I oI g₁ mu₁ ys h₁ tk E' hi ⟨ti, e⟩ le1 ha' ⟨rfl, hys⟩ hl6 H6
    rw [Int.zero_add] at e
    subst e
    rw [to_nat0] at hi
    replace hl := Grid.mono hl le1
    walk_at "M"
    refine ev_lc (cl := [("rows", L + 1), ("k", C + 1)]) (cn := ["rows", "k"]) (xc := false) (by walk_at "ok") fun ok2 => ?_
    walk_at "M"
    refine ls_len H6 hl ha ?_
    walk_at "M"
    refine call_range1 H6 ?_
    intro h7 tk7 rr7 t7 u7 v7 hrr7 H7
    refine lc_run ok2 H7 (Src.range hA'.hh hrr7 (rngN ha) (nat0 _)) (by rw [to_nat0]; exact szl ha) (fun j g₂ mu₂ zs => mu₂ = [(D, oD), (I, oI)] ∧ Refs (fun j y => IntL g₂ y (lf n (F j i))) zs) ⟨rfl, Refs.nil⟩ ?_ ?_
    · rintro j vv C2 D2 oD2 I2 oI2 g₂ mu₂ zs h₂ tk₂ E2 hj ⟨tj, e⟩ le2 ha2 ⟨rfl, hzs⟩ hl8 H8
      rw [Int.zero_add] at e
      subst e
      rw [to_nat0] at hj
      replace hl := Grid.mono hl le2
      walk_at "M"
      refine ls_sub (i := j) H8 hl rfl hj ha ?_
      intro y1 hy1
      walk_at "M"
      refine ls_sub (i := i) H8 hy1 rfl hi hc ?_
      intro y2 hy2
      refine EltEnd.mk (.refl _) H8 (by exact ha2) ⟨rfl, ?_⟩
      exact hzs.push hl8 hy2
    · rintro g₂ mu₂ zs D2 oD2 h₂ tk₂ le2 ha2 ⟨rfl, hzs⟩ hl8 isl8 fD8 H8
      rw [to_nat0] at hl8
      obtain ⟨g10, le10, hls, H10⟩ := H8.freezeLs fD8 isl8 hl8 hzs
      refine EltEnd.mk (le2.trans le10) H10 (by exact ha') ⟨rfl, ?_⟩
      refine (hys.mono fun _ _ q => LsOf.mono q (le2.trans le10) fun _ _ q => q.mono (le2.trans le10)).push hl6 ?_
      exact LsOf.mono hls (.refl _) fun _ _ q => q.mono le10
  · rintro g₁ mu₁ ys D oD h₁ tk le1 ha' ⟨rfl, hys⟩ hl6 isl6 fD6 H6
    rw [to_nat0] at hl6
    obtain ⟨g10, le10, hls, H10⟩ := H6.freezeLs fD6 isl6 hl6 hys
    exact ret _ _ _ _ H10.ev (LsOf.mono hls (.refl _) fun _ _ q => LsOf.mono q le10 fun _ _ q => q.mono le10)

end
end Mine
namespace Mine
section
variable {prog : Program} {w : World} {p : Program} {loose : List Str} {mean : ExcName → Option Value} {mg mb : Str → Option Value} {b : Heap}
variable {S : List Addr} {g0 : FM} {h0 : Heap} {env : Env} {g : FM} {m mc : Str → Option Value} {mu : List (Addr × Obj)}
variable {A : Around} {s : Shared} {E : Value → Shared → Prop} {R : Result → Shared → Prop}

/-- the property T: the matrix turned -/
theorem ga_T {x v r rr : Addr} {n hh ww : Nat} {F : Nat → Nat → Nat → Int} {expr : Bool} {Q : Value → Shared → Prop} {pre : List (Addr × Obj)} (W : Wd (Mine.hd.heap_39 w.params) p loose mean mg mb b) (H : St b S g0 h0 env g m mc (pre ++ mu) s.heap) (hA : Ao 8 A)
    (hx : Mat 333 222 g x v r n hh ww F) (hv : Mod 377 g v rr) (ha : hh ≤ 1000) (hc : ww ≤ 1000) (ha1 : 1 ≤ hh) (hc1 : 1 ≤ ww) (tb : Tb 362 320 mu) (hbr : AllBare s.gens)
    (ret : ∀ z mu' g' h' tk gs, g.le g' → Tb 362 320 mu' → AllBare gs → Mat 333 222 g' z v r n ww hh (fun i j => F j i) → St b S g0 h0 env g' m mc (pre ++ mu') h' → Q (.ref z) { s with heap := h', toks := tk, gens := gs }) :
    wpAny (model prog w) A (getAttr (.ref x) "T" expr) Q E s := by
  obtain ⟨es, I⟩ := hx.inst
  have hf : ∃ rest, recIn (Mine.hd.heap_39 w.params) 270 "property" = some (.ref 262 :: rest) := ⟨_, by k_is⟩
  obtain ⟨rest, hf⟩ := hf
  refine ga_prop (fget := 262) (pa := 270) (rest := rest) (H.X W) (I.mono H.on) ?a ?b ?c ?d ?e hf ?_
  case a => k_is
  case b => k_is
  case c => k_is
  case d => k_is
  case e => k_is
  refine turn_spec (s := { s with toks := s.toks + 1 }) W H.Bg hA.in1 hx hv ha hc ha1 hc1 tb (H.muFacts) hbr fun z mu' g' h' tk gs ev tb' live' hb' hz => ?_
  exact handed_on rfl (ret z mu' g' h' tk gs ev.gg tb' hb' hz (H.callMu ev (by rw [tb'.adr, tb.adr]) live'))

set_option maxHeartbeats 2000000 in
theorem dot_spec (W : Wd (Mine.hd.heap_39 w.params) p loose mean mg mb b) (hB : Bg b g s.heap) (hA : Ao 11 A)
    {x y v r rr : Addr} {q : Int} {n hh : Nat} {F G : Nat → Nat → Nat → Int} (hx : Mat 333 222 g x v r n hh 1 F) (hy : Mat 333 222 g y v r n hh 1 G) (hv : Mod 377 g v rr) (hr : Ring 59 g r q n)
    (hq : 0 < q) (hn : n ≤ 1000) (hn1 : 1 ≤ n) (ha : hh ≤ 1000) (ha1 : 1 ≤ hh) (hm : ∀ t a c, t < hh → a < n → c < n → IntMulOk (F t 0 a) (G t 0 c))
    (tb : Tb 362 320 mu) (hlive : (∀ q ∈ mu, s.heap.get? q.1 = some q.2 ∧ g q.1 = none) ∧ (mu.map (·.1)).Nodup) (hbr : AllBare s.gens)
    (ret : ∀ z mu' g' h' tk gs, Ev (mu.map (·.1)) g s.heap g' h' → Tb 362 320 mu' → (∀ q ∈ mu', h'.get? q.1 = some q.2) → AllBare gs → Poly 222 g' z r (lf n fun k => sm hh (fun t => nc n (F t 0) (G t 0) k) % q) → R (.ok (.ret (.ref z))) { s with heap := h', toks := tk, gens := gs }) :
    codeAny (model prog w) A (.call (.ref 330) ⟨[.ref x, .ref y], []⟩) R s := by
  refine enter (binds := [("self", .ref x), ("other", .ref y)]) (m := up "other" (.ref y) (up "self" (.ref x) no)) (mc := no)
    W hB hA (by k_is) (by k_is) (BindsTo.of_eq rfl) rfl (by decide) hlive.1 hlive.2 (fun _ => rfl) (fun _ => rfl) ?_
  intro L h₁ tk E' hA' H
  obtain ⟨es, ix⟩ := hx.inst
  obtain ⟨es', iy⟩ := hy.inst
  walk_at "M"
  refine type_inst (ix.mono H.on) ?_
  walk_at "M"
  refine isi_inst (r := true) (H.X W) (iy.mono H.on) (by kit_is) (by k_is) (by k_is) (by k_is) (by k_is) (by k_is) (by k_is) ?_
  intro tk2
  walk_at "M"
  refine ga_T (pre := []) W H (hA'.le (by decide)) hx hv ha (by decide) ha1 (by decide) tb hbr ?_
  intro z3 mu3 g3 h3 tk3 gs3 le3 tb3 br3 hz3 H3
  replace hx := hx.mono (le3)
  replace hy := hy.mono (le3)
  replace hv := hv.mono (le3)
  replace hr := hr.mono (le3)
  walk_at "M"
  refine bin_mat (pre := []) (hh := 1) (ww := hh) (ll := 1) W H3 hA' hz3 hy hv hr hq hn hn1 (by decide) ha (by decide) (by decide) ha1 (by decide) ?hm tb3 br3 ?_
  case hm =>
    intro i t j a c hi ht hj ha hc
    obtain rfl : i = 0 := by omega
    obtain rfl : j = 0 := by omega
    exact hm t a c ht ha hc
  intro z4 mu4 g4 h4 tk4 gs4 le4 tb4 br4 hz4 H4
  walk_at "M"
  rename St _ _ _ _ _ _ _ _ _ _ => H5
  refine gm_M (f := 248) W H5 hz4 (by k_is) (by k_is) (by k_is) (fun _ _ _ _ _ _ _ _ _ => rfl) ?_
  refine x_fn0 W H5 (by k_is) ?_
  refine wpAny_call (dim_spec W H5.Bg (hA'.le (by decide)) hz4 (by decide) (by decide) (by decide) (by decide) ?_)
  intro d1 td1 td2 g6 h6 tk6 ev6 hdm1
  have H6 := H5.call0 ev6
  walk_at "M"
  try dsimp only
  refine ⟨sz1 rfl, fun a7 h7 ea eh => ?_⟩
  obtain ⟨g7, le7, ht7, H7⟩ := H6.mkTup ea eh
  refine eq_tup (r := true) H7 hA' (hdm1.mono le7) ht7 (by simp) ?_
  walk_at "M"
  refine ⟨rfl, ?_⟩
  walk_at "M"
  try dsimp only
  refine ⟨sz1 rfl, fun a8 h8 ea8 eh8 => ?_⟩
  obtain ⟨g8, le8, ht8, H8⟩ := H7.mkTup ea8 eh8
  refine sub_mat (a := 0) (c := 0) W H8 (hA'.le (by decide)) (((hz4.mono ev6.gg).mono le7).mono le8) (by decide) (by decide) ht8 (by decide) (by decide) ?_
  intro z9 g9 h9 tk9 ev9 hz9
  have H9 := H8.call0 ev9
  walk_at "M"
  have evE := H9.ev
  exact ret _ _ _ _ _ _ evE tb4 H9.mus br4 hz9
end
end Mine
namespace Mine
section
variable {prog : Program} {w : World} {p : Program} {loose : List Str} {mean : ExcName → Option Value} {mg mb : Str → Option Value} {b : Heap}
variable {S : List Addr} {g0 : FM} {h0 : Heap} {env : Env} {g : FM} {m mc : Str → Option Value} {mu : List (Addr × Obj)}
variable {A : Around} {s : Shared} {E : Value → Shared → Prop} {R : Result → Shared → Prop}

set_option maxHeartbeats 400000 in
theorem peq_spec (W : Wd (Mine.hd.heap_39 w.params) p loose mean mg mb b) (hB : Bg b g s.heap) (hA : Ao 1 A)
    {x y r r' : Addr} {n : Nat} {a : Nat → Int} (hx : Poly 222 g x r (lf n a)) (hy : Poly 222 g y r' (lf n a))
    (ret : ∀ g' h' tk, Ev [] g s.heap g' h' → R (.ok (.ret (.bool true))) { s with heap := h', toks := tk }) :
    codeAny (model prog w) A (.call (.ref 212) ⟨[.ref x, .ref y], []⟩) R s := by
  refine enter (mu := []) (binds := [("self", .ref x), ("other", .ref y)]) (m := up "other" (.ref y) (up "self" (.ref x) no)) (mc := no)
    W hB hA (by k_is) (by k_is) (BindsTo.of_eq rfl) rfl (by decide) (fun _ q => nomatch q) .nil (fun _ => rfl) (fun _ => rfl) ?_
  intro L h₁ tk E' hA' H
  walk_at "M"
  obtain ⟨es, I1⟩ := hx.inst
  obtain ⟨es', I2⟩ := hy.inst
  refine type_inst (I1.mono H.on) ?_
  walk_at "M"
  refine isi_inst (r := true) (H.X W) (I2.mono H.on) (by kit_is) (by k_is) (by k_is) (by k_is) (by k_is) (by k_is) (by k_is) ?_
  intro tk2
  walk_at "M"
  refine ga_coeffs W H hx ?_
  intro la hla
  walk_at "M"
  refine ga_coeffs W H hy ?_
  intro lb hlb
  refine eq_same H hA' hla hlb rfl ?_
  exact ret _ _ _ H.ev
theorem poly_eq {x y r r' : Addr} {n : Nat} {a : Nat → Int} {Q : Value → Shared → Prop} (W : Wd (Mine.hd.heap_39 w.params) p loose mean mg mb b) (H : St b S g0 h0 env g m mc mu s.heap) (hA : Ao 1 A) (hx : Poly 222 g x r (lf n a)) (hy : Poly 222 g y r' (lf n a))
    (ret : ∀ g' h' tk, Ev [] g s.heap g' h' → Q (.bool true) { s with heap := h', toks := tk }) : wpAny (model prog w) A (compareOp .Eq (.ref x) (.ref y)) Q E s := by
  obtain ⟨es, I⟩ := hx.inst
  obtain ⟨es', J⟩ := hy.inst
  refine eq_own (f := 212) W H hA I J ?a ?b ?c (wpAny_call (peq_spec W H.Bg hA hx hy fun g' h' tk ev => ret g' h' tk ev))
  case a => k_is
  case b => k_is
  case c => k_is

set_option maxHeartbeats 2000000 in
theorem meq_spec (W : Wd (Mine.hd.heap_39 w.params) p loose mean mg mb b) (hB : Bg b g s.heap) (hA : Ao 3 A)
    {x y v r : Addr} {n hh ww : Nat} {F : Nat → Nat → Nat → Int} (hx : Mat 333 222 g x v r n hh ww F) (hy : Mat 333 222 g y v r n hh ww F) (ha : hh ≤ 10) (hc : ww ≤ 10) (ha1 : 1 ≤ hh) (hc1 : 1 ≤ ww)
    (ret : ∀ g' h' tk, Ev [] g s.heap g' h' → R (.ok (.ret (.bool true))) { s with heap := h', toks := tk }) :
    codeAny (model prog w) A (.call (.ref 289) ⟨[.ref x, .ref y], []⟩) R s := by
  refine enter (mu := []) (binds := [("self", .ref x), ("other", .ref y)]) (m := no) (mc := up "other" (.ref y) (up "self" (.ref x) no))
    W hB hA (by k_is) (by k_is) (BindsTo.of_eq rfl) rfl (by decide) (fun _ q => nomatch q) .nil (fun _ => rfl) (fun _ => rfl) ?_
  intro L h₁ tk E' hA' H
  have ha' : hh ≤ 1000 := Nat.le_trans ha (by decide)
  have hc' : ww ≤ 1000 := Nat.le_trans hc (by decide)
  walk_at "M"
  refine gm_M (f := 248) W H hx (by k_is) (by k_is) (by k_is) (fun _ _ _ _ _ _ _ _ _ => rfl) ?_
  refine x_fn0 W H (by k_is) ?_
  refine wpAny_call (dim_spec W H.Bg (hA'.le (by decide)) hx ha' hc' ha1 hc1 ?_)
  intro d1 td1 td2 g2 h2 tk2 ev2 hdm1
  have H2 := H.call0 ev2
  replace hx := hx.mono (ev2.gg)
  replace hy := hy.mono (ev2.gg)
  walk_at "M"
  refine gm_M (f := 248) W H2 hy (by k_is) (by k_is) (by k_is) (fun _ _ _ _ _ _ _ _ _ => rfl) ?_
  refine x_fn0 W H2 (by k_is) ?_
  refine wpAny_call (dim_spec W H2.Bg (hA'.le (by decide)) hy ha' hc' ha1 hc1 ?_)
  intro d2 td3 td4 g4 h4 tk4 ev4 hdm2
  have H4 := H2.call0 ev4
  replace hx := hx.mono (ev4.gg)
  replace hy := hy.mono (ev4.gg)
  refine ne_tup (r := false) H4 hA' (hdm1.mono ev4.gg) hdm2 (by simp) ?_
  walk_at "M"
  refine gm_M (f := 248) W H4 hx (by k_is) (by k_is) (by k_is) (fun _ _ _ _ _ _ _ _ _ => rfl) ?_
  refine x_fn0 W H4 (by k_is) ?_
  refine wpAny_call (dim_spec W H4.Bg (hA'.le (by decide)) hx ha' hc' ha1 hc1 ?_)
  intro d3 td5 td6 g5 h5 tk5 ev5 hdm3
  have H5 := H4.call0 ev5
  replace hx := hx.mono (ev5.gg)
  replace hy := hy.mono (ev5.gg)
  refine tl_assign2 hA'.hh H5 hdm3 ?_
  intro h6 H6
  walk_at "M"
  rename St _ _ _ _ _ _ _ _ _ _ => H6
  refine ev_lc2 (cl := [("self", L + 1), ("other", L + 2), ("n", L + 3)]) (cn := ["self", "other", "n"]) (by walk_at "ok") fun ok => ?_
  walk_at "M"
  refine call_range1 H6 ?_
  intro h7 tk7 rr7 t7 u7 v7 hrr7 H7
  refine lc2_run ok H7 (Src.range hA'.hh hrr7 (rngN ha') (nat0 _)) (fun i _ ys => ys.length ≤ 10 * i ∧ AllT ys) ⟨by decide, AllT.nil⟩ ?_ ?_ (by intro _ _; with_unfolding_all rfl)
  · rintro i vv C D oD I oI g₁ m₁ ys h₁ tk E' Ke hi ⟨ti, e⟩ le1 ⟨hl1, ht1⟩ isl1 H8
    rw [Int.zero_add] at e
    subst e
    rw [to_nat0] at hi
    replace hx := hx.mono (le1)
    replace hy := hy.mono (le1)
    walk_at "M"
    refine call_range1 H8 ?_
    intro h9 tk9 rr9 t9 u9 v9 hrr9 H9
    refine loop_in H9 isl1 (by omega) (Src.range hA'.hh hrr9 (rngN hc') (nat0 _)) (by with_unfolding_all rfl) (by with_unfolding_all rfl) (fun _ _ ys => AllT ys) ht1 ?_ ?_
    · rintro j vv I2 oI2 oD2 g₂ m₂ ys₂ h₂ tk₂ E2 hj ⟨tj, e⟩ le2 em ht2 H10
      rw [Int.zero_add] at e
      subst e
      rw [to_nat0] at hj
      replace hx := hx.mono (le2)
      replace hy := hy.mono (le2)
      have ei : m₂ "i" = some (.int i ti) := (em "i" (by decide)).trans (by with_unfolding_all rfl)
      walk_at "M"
      try dsimp only
      refine ⟨sz1 rfl, fun a h12 ea eh => ?_⟩
      obtain ⟨g12, le12, ht12, H12⟩ := H10.mkTup ea eh
      replace hx := hx.mono (le12)
      replace hy := hy.mono (le12)
      refine sub_mat W H12 (hA'.le (by decide)) hx ha' hc' ht12 hi hj ?_
      intro z1 g13 h13 tk13 ev13 hz1
      have H13 := H12.call0 ev13
      replace hx := hx.mono (ev13.gg)
      replace hy := hy.mono (ev13.gg)
      walk_at "M"
      try dsimp only
      refine ⟨sz1 rfl, fun a h14 ea eh => ?_⟩
      obtain ⟨g14, le14, ht14, H14⟩ := H13.mkTup ea eh
      replace hx := hx.mono (le14)
      replace hy := hy.mono (le14)
      replace hz1 := hz1.mono (le14)
      refine sub_mat W H14 (hA'.le (by decide)) hy ha' hc' ht14 hi hj ?_
      intro z2 g15 h15 tk15 ev15 hz2
      have H15 := H14.call0 ev15
      refine poly_eq W H15 (hA'.le (by decide)) (hz1.mono ev15.gg) hz2 ?_
      intro g16 h16 tk16 ev16
      have H16 := H15.call0 ev16
      exact ⟨_, _, _, rfl, le12.trans (ev13.gg.trans (le14.trans (ev15.gg.trans ev16.gg))), H16, ht2.push⟩
    · rintro g₂ m₂ ys₂ oD₂ h tk le2 em ht2 isl2 hl2 H10
      exact ⟨_, _, _, _, _, _, rfl, le2, ⟨by rw [hl2, to_nat0]; omega, ht2⟩, isl2, H10⟩
  · rintro g₁ ys D oD h₁ tk le1 ⟨hl1, ht1⟩ isl1 fD1 H8
    walk_at "M"
    refine all_mu hA'.hh H8 isl1 ht1 ?_
    intro h9 tk9 H9
    walk_at "M"
    have evE := H9.ev
    exact ret _ _ _ evE
theorem mat_eq {x y v r : Addr} {n hh ww : Nat} {F : Nat → Nat → Nat → Int} {Q : Value → Shared → Prop} (W : Wd (Mine.hd.heap_39 w.params) p loose mean mg mb b) (H : St b S g0 h0 env g m mc mu s.heap) (hA : Ao 3 A) (hx : Mat 333 222 g x v r n hh ww F) (hy : Mat 333 222 g y v r n hh ww F) (ha : hh ≤ 10) (hc : ww ≤ 10) (ha1 : 1 ≤ hh) (hc1 : 1 ≤ ww)
    (ret : ∀ g' h' tk, Ev [] g s.heap g' h' → Q (.bool true) { s with heap := h', toks := tk }) : wpAny (model prog w) A (compareOp .Eq (.ref x) (.ref y)) Q E s := by
  obtain ⟨es, I⟩ := hx.inst
  obtain ⟨es', J⟩ := hy.inst
  refine eq_own (f := 289) W H hA I J ?a ?b ?c (wpAny_call (meq_spec W H.Bg hA hx hy ha hc ha1 hc1 fun g' h' tk ev => ret g' h' tk ev))
  case a => k_is
  case b => k_is
  case c => k_is
end
end Mine
namespace Mine
section
variable {prog : Program} {w : World} {p : Program} {loose : List Str} {mean : ExcName → Option Value} {mg mb : Str → Option Value} {b : Heap}
variable {S : List Addr} {g0 : FM} {h0 : Heap} {env : Env} {g : FM} {m mc : Str → Option Value} {mu : List (Addr × Obj)}
variable {A : Around} {s : Shared} {E : Value → Shared → Prop} {R : Result → Shared → Prop}

/-- an exception just made leaves a frame -/
theorem leaves_made {l : List Env} {base : Heap} {env : Env} {s4 : Shared} {e : Addr} {args : List Value} {h5 : Heap} (H : St b (mu.map (·.1)) g s.heap env g0 m mc mu s4.heap) (hB : g.on s.heap) (gn : ∀ q ∈ mu, g q.1 = none ∧ s.heap.get? q.1 = some q.2) (gd : ∀ q ∈ mu, ∀ vs, q.2.data ≠ .fields vs) (hfr : A.frames = some l)
    (hk : env.scope.kind ≠ .module) (hf : env.frame = some env.locals) (fL : s.heap.get? env.locals = none) (hbs : base.StaysIn s.heap) (hbn : ∀ a ∈ mu.map (·.1), base.get? a = none) (hcov : ∀ a o, s.heap.get? a = some o → a ∉ mu.map (·.1) → base.get? a = some o) (hfl : s.heap.FunFrames base l)
    (hm : Heap.MadeExc s4.heap h5 e "ValueError" args)
    (ret : ∀ t h', Ev (mu.map (·.1)) g s.heap g h' → Heap.FlyingW base l e (.type "ValueError") (.ref t) h' → s.heap.UpToSlots h' → R (.error (.ref e)) { s4 with heap := h' }) :
    wpAny (model prog w) (A.deeper env) (leaving env (.ref e)) (fun _ s'' => R (.error (.ref e)) s'') E { s4 with heap := h5 } := by
  have k4 : ∀ a o, s.heap.get? a = some o → s4.heap.get? a = some o := fun a o e => by
    by_cases q : a ∈ mu.map (·.1)
    · obtain ⟨p, hp, rfl⟩ := List.mem_map.mp q
      rw [(gn p hp).2] at e; cases e
      exact H.mus p hp
    · exact H.ev.keep a o q e
  obtain ⟨oL, eL, dL⟩ := H.nsD
  refine wpAny_leaves_madeW (h := s4.heap) (base := base) (outer := l) (Around.frames_deeper hfr) hf (fun a o e => k4 a o (hbs a o e)) ?_ (made_of hm) ?_
  · refine frames_one hk hf ?_ eL dL (hfl.of_keeps fun a o e _ => ⟨o, k4 a o e, rfl⟩)
    cases q : base.get? env.locals with
    | none => rfl
    | some o => have := hbs _ _ q; rw [fL] at this; cases this
  · intro h6 t hfly _ _ ups
    have u : s.heap.UpToSlots h6 := (Heap.UpToSlots.of_keeps fun a o e => hm.keeps a o (k4 a o e)).trans ups
    have kp : ∀ a o, a ∉ mu.map (·.1) → s.heap.get? a = some o → h6.get? a = some o := fun a o n e => hfly.1 a o (hcov a o e n)
    refine ret t h6 ⟨.refl g, fun _ _ e => .inl e, kp, fun a o e => ?_, fun a o e => kp a o (fun q => ?_) (hB a o e)⟩ hfly u
    · by_cases q : a ∈ mu.map (·.1)
      · obtain ⟨p, hp, rfl⟩ := List.mem_map.mp q
        rw [(gn p hp).2] at e; cases e
        obtain ⟨sl, e3⟩ := u p.1 p.2 (gn p hp).2 (gd p hp)
        exact ⟨_, e3⟩
      · exact ⟨o, kp a o q e⟩
    · obtain ⟨p, hp, rfl⟩ := List.mem_map.mp q
      rw [(gn p hp).1] at e; cases e

set_option maxHeartbeats 1000000 in
theorem madd_bad (W : Wd (Mine.hd.heap_39 w.params) p loose mean mg mb b) (hB : Bg b g s.heap) (hA : Ao 2 A)
    {x y v r rr : Addr} {n hh ww hh' ww' : Nat} {F G : Nat → Nat → Nat → Int} (hx : Mat 333 222 g x v r n hh ww F) (hy : Mat 333 222 g y v r n hh' ww' G) (hv : Mod 377 g v rr)
    (ha : hh ≤ 1000) (hc : ww ≤ 1000) (ha1 : 1 ≤ hh) (hc1 : 1 ≤ ww) (ha' : hh' ≤ 1000) (hc' : ww' ≤ 1000) (ha1' : 1 ≤ hh') (hc1' : 1 ≤ ww') (ne : ¬ (hh = hh' ∧ ww = ww'))
    (hlive : (∀ q ∈ mu, s.heap.get? q.1 = some q.2 ∧ g q.1 = none) ∧ (mu.map (·.1)).Nodup) (gd : ∀ q ∈ mu, ∀ vs, q.2.data ≠ .fields vs)
    {l : List Env} {base : Heap} (hfr : A.frames = some l) (hbs : base.StaysIn s.heap) (hbn : ∀ a ∈ mu.map (·.1), base.get? a = none) (hcov : ∀ a o, s.heap.get? a = some o → a ∉ mu.map (·.1) → base.get? a = some o) (hfl : s.heap.FunFrames base l)
    (ret : ∀ e t h' tk, Ev (mu.map (·.1)) g s.heap g h' → Heap.FlyingW base l e (.type "ValueError") (.ref t) h' → s.heap.UpToSlots h' → R (.error (.ref e)) { s with heap := h', toks := tk }) :
    codeAny (model prog w) A (.call (.ref 299) ⟨[.ref x, .ref y], []⟩) R s := by
  refine enterE (binds := [("self", .ref x), ("other", .ref y)]) (m := no) (mc := up "other" (.ref y) (up "self" (.ref x) no))
    W hB hA (by k_is) (by k_is) (BindsTo.of_eq rfl) rfl (by decide) hlive.1 hlive.2 (fun _ => rfl) (fun _ => rfl) ?_
  intro L h₁ tk hA' fL H
  obtain ⟨h1, t1, h2, t2, h3, t3, l1, tr, ix, jx⟩ := id hx
  obtain ⟨h1', t1', h2', t2', h3', t3', l1', tr', iy, jy⟩ := id hy
  walk_at "M"
  refine type_inst (ix.mono H.on) ?_
  walk_at "M"
  refine isi_inst (r := true) (H.X W) (iy.mono H.on) (by kit_is) (by k_is) (by k_is) (by k_is) (by k_is) (by k_is) (by k_is) ?_
  intro tk2
  walk_at "M"
  refine ga_Mp W H ix ?_
  walk_at "M"
  refine ga_Mp W H iy ?_
  refine Mod.ne_ W H hA' hv ?_
  walk_at "M"
  refine gm_M (f := 248) W H hx (by k_is) (by k_is) (by k_is) (fun _ _ _ _ _ _ _ _ _ => rfl) ?_
  refine x_fn0 W H (by k_is) ?_
  refine wpAny_call (dim_spec W H.Bg (hA'.le (by decide)) hx ha hc ha1 hc1 ?_)
  intro d1 td1 td2 g2 h2 tk2 ev2 hdm1
  have H2 := H.call0 ev2
  replace hx := hx.mono (ev2.gg)
  replace hy := hy.mono (ev2.gg)
  replace hv := hv.mono (ev2.gg)
  walk_at "M"
  refine gm_M (f := 248) W H2 hy (by k_is) (by k_is) (by k_is) (fun _ _ _ _ _ _ _ _ _ => rfl) ?_
  refine x_fn0 W H2 (by k_is) ?_
  refine wpAny_call (dim_spec W H2.Bg (hA'.le (by decide)) hy ha' hc' ha1' hc1' ?_)
  intro d2 td3 td4 g4 h4 tk4 ev4 hdm2
  have H4 := H2.call0 ev4
  refine ne_tup (r := true) H4 hA' (hdm1.mono ev4.gg) hdm2 (by rw [decide_eq_false (fun z => ne ⟨by omega, by omega⟩)]; rfl) ?_
  walk_at "M"
  refine wpAny_Raise_call PySem.F.excCall_ValueError PySem.F.excRaise_ValueError hA'.hh rfl ?_
  walk_at "M"
  refine ⟨rfl, ?_⟩
  refine x_args ?_
  walk_at "M"
  refine wpAny_Constant_str ?_
  walk_at "M"
  try dsimp only
  refine ⟨rfl, sz1 rfl, fun h5 e hm => ?_⟩
  exact leaves_made (s4 := { s with heap := _, toks := _ }) H4 hB.on (fun q hq => ⟨(hlive.1 q hq).2, (hlive.1 q hq).1⟩) gd hfr (fun q => by cases q) rfl fL hbs hbn hcov hfl hm (fun t h' ev fly ups => ret e t h' _ ev fly ups)

set_option maxHeartbeats 1000000 in
theorem matmul_bad (W : Wd (Mine.hd.heap_39 w.params) p loose mean mg mb b) (hB : Bg b g s.heap) (hA : Ao 2 A)
    {x y v r rr : Addr} {n hh ww hh' ww' : Nat} {F G : Nat → Nat → Nat → Int} (hx : Mat 333 222 g x v r n hh ww F) (hy : Mat 333 222 g y v r n hh' ww' G) (hv : Mod 377 g v rr)
    (ha : hh ≤ 1000) (hc : ww ≤ 1000) (ha1 : 1 ≤ hh) (hc1 : 1 ≤ ww) (ha' : hh' ≤ 1000) (hc' : ww' ≤ 1000) (ha1' : 1 ≤ hh') (hc1' : 1 ≤ ww') (ne : ww ≠ hh')
    (hlive : (∀ q ∈ mu, s.heap.get? q.1 = some q.2 ∧ g q.1 = none) ∧ (mu.map (·.1)).Nodup) (gd : ∀ q ∈ mu, ∀ vs, q.2.data ≠ .fields vs)
    {l : List Env} {base : Heap} (hfr : A.frames = some l) (hbs : base.StaysIn s.heap) (hbn : ∀ a ∈ mu.map (·.1), base.get? a = none) (hcov : ∀ a o, s.heap.get? a = some o → a ∉ mu.map (·.1) → base.get? a = some o) (hfl : s.heap.FunFrames base l)
    (ret : ∀ e t h' tk, Ev (mu.map (·.1)) g s.heap g h' → Heap.FlyingW base l e (.type "ValueError") (.ref t) h' → s.heap.UpToSlots h' → R (.error (.ref e)) { s with heap := h', toks := tk }) :
    codeAny (model prog w) A (.call (.ref 323) ⟨[.ref x, .ref y], []⟩) R s := by
  refine enterE (binds := [("self", .ref x), ("other", .ref y)]) (m := no) (mc := up "other" (.ref y) (up "self" (.ref x) no))
    W hB hA (by k_is) (by k_is) (BindsTo.of_eq rfl) rfl (by decide) hlive.1 hlive.2 (fun _ => rfl) (fun _ => rfl) ?_
  intro L h₁ tk hA' fL H
  obtain ⟨h1, t1, h2, t2, h3, t3, l1, tr, ix, jx⟩ := id hx
  obtain ⟨h1', t1', h2', t2', h3', t3', l1', tr', iy, jy⟩ := id hy
  walk_at "M"
  refine type_inst (ix.mono H.on) ?_
  walk_at "M"
  refine isi_inst (r := true) (H.X W) (iy.mono H.on) (by kit_is) (by k_is) (by k_is) (by k_is) (by k_is) (by k_is) (by k_is) ?_
  intro tk2
  walk_at "M"
  refine ga_Mp W H ix ?_
  walk_at "M"
  refine ga_Mp W H iy ?_
  refine Mod.ne_ W H hA' hv ?_
  walk_at "M"
  refine gm_M (f := 248) W H hx (by k_is) (by k_is) (by k_is) (fun _ _ _ _ _ _ _ _ _ => rfl) ?_
  refine x_fn0 W H (by k_is) ?_
  refine wpAny_call (dim_spec W H.Bg (hA'.le (by decide)) hx ha hc ha1 hc1 ?_)
  intro d1 td1 td2 g2 h2 tk2 ev2 hdm1
  have H2 := H.call0 ev2
  replace hx := hx.mono (ev2.gg)
  replace hy := hy.mono (ev2.gg)
  replace hv := hv.mono (ev2.gg)
  refine tl_assign2 hA'.hh H2 hdm1 ?_
  intro h3 H3
  walk_at "M"
  rename St _ _ _ _ _ _ _ _ _ _ => H3
  refine gm_M (f := 248) W H3 hy (by k_is) (by k_is) (by k_is) (fun _ _ _ _ _ _ _ _ _ => rfl) ?_
  refine x_fn0 W H3 (by k_is) ?_
  refine wpAny_call (dim_spec W H3.Bg (hA'.le (by decide)) hy ha' hc' ha1' hc1' ?_)
  intro d2 td3 td4 g4 h4 tk4 ev4 hdm2
  have H4 := H3.call0 ev4
  refine tl_assign2 hA'.hh H4 hdm2 ?_
  intro h5 H5
  walk_at "M"
  rename St _ _ _ _ _ _ _ _ _ _ => H4
  rw [beq_eq_false_iff_ne.mpr (show ((ww : Nat) : Int) ≠ (hh' : Nat) by omega)]
  walk_at "M"
  refine wpAny_Raise_call PySem.F.excCall_ValueError PySem.F.excRaise_ValueError hA'.hh rfl ?_
  walk_at "M"
  refine ⟨rfl, ?_⟩
  refine x_args ?_
  walk_at "M"
  refine wpAny_Constant_str ?_
  walk_at "M"
  try dsimp only
  refine ⟨rfl, sz1 rfl, fun h5 e hm => ?_⟩
  exact leaves_made (s4 := { s with heap := _, toks := _ }) H4 hB.on (fun q hq => ⟨(hlive.1 q hq).2, (hlive.1 q hq).1⟩) gd hfr (fun q => by cases q) rfl fL hbs hbn hcov hfl hm (fun t h' ev fly ups => ret e t h' _ ev fly ups)

set_option maxHeartbeats 1000000 in
/-- the law's own try: a sum refused -/
theorem refused_madd (W : Wd (Mine.hd.heap_39 w.params) p loose mean mg mb b) (hB : Bg b g s.heap) (hA : Ao 3 A)
    {x y v r rr : Addr} {n hh ww hh' ww' : Nat} {F G : Nat → Nat → Nat → Int} {ta : Tok} (hx : Mat 333 222 g x v r n hh ww F) (hy : Mat 333 222 g y v r n hh' ww' G) (hv : Mod 377 g v rr)
    (ha : hh ≤ 1000) (hc : ww ≤ 1000) (ha1 : 1 ≤ hh) (hc1 : 1 ≤ ww) (ha' : hh' ≤ 1000) (hc' : ww' ≤ 1000) (ha1' : 1 ≤ hh') (hc1' : 1 ≤ ww') (ne : ¬ (hh = hh' ∧ ww = ww'))
    {envL : Env} {oL : Obj} (hkL : envL.scope.kind ≠ .module) (hfL : envL.frame = some envL.locals) (hoL : s.heap.get? envL.locals = some oL) (gL : g envL.locals = none) (dL : ∀ vs, oL.data ≠ .fields vs) (hfr : A.frames = some [envL])
    (ret : ∀ oL' g' h' tk, Ev [envL.locals] g s.heap g' h' → h'.get? envL.locals = some oL' → oL'.data = oL.data → R (.ok (.ret (.bool true))) { s with heap := h', toks := tk }) :
    codeAny (model prog w) A (.call (.ref 435) ⟨[.ref x, .ref y, .int 1 ta], []⟩) R s := by
  refine enter (mu := [(envL.locals, oL)]) (binds := [("one", .ref x), ("two", .ref y), ("act", .int 1 ta)]) (m := up "act" (.int 1 ta) (up "two" (.ref y) (up "one" (.ref x) no))) (mc := no)
    W hB hA (by k_is) (by k_is) (BindsTo.of_eq rfl) rfl (by decide) (fun q hq => by rw [List.mem_singleton.mp hq]; exact ⟨hoL, gL⟩) (by simp) (fun _ => rfl) (fun _ => rfl) ?_
  intro L h₁ tk E' hA' H
  walk_at "M"
  refine wpAny_Try_except ?_
  walk_at "M"
  rw [show ((1 : Int) == 0) = false from rfl]
  walk_at "M"
  obtain ⟨es, I⟩ := hx.inst
  obtain ⟨es', J⟩ := hy.inst
  obtain ⟨oR, eR, dR⟩ := H.nsD
  have nd := H.nd
  have nLR : envL.locals ≠ L := fun q => (List.nodup_cons.mp nd).1 (List.mem_append_right _ (List.mem_map.mpr ⟨(envL.locals, oL), .head _, q⟩))
  have e2L : h₁.get? envL.locals = some oL := H.mus _ (.head _)
  have gR : g L = none := (H.own _ owns_L).1
  have ff := frames_one (env := _) (fun q => by cases q) rfl (hideAll_none (h := h₁) [L, envL.locals] (.head _)) eR dR (frames_one (l := []) hkL hfL (hideAll_none (h := h₁) [L, envL.locals] (.tail _ (.head _))) e2L dL trivial)
  refine bin_same (f := 299) W H I J ?a ?b ?c (wpAny_call (madd_bad (s := { s with heap := h₁, toks := _ }) (base := hideAll h₁ [L, envL.locals]) (mu := [(L, oR), (envL.locals, oL)]) W H.Bg hA' hx hy hv ha hc ha1 hc1 ha' hc' ha1' hc1' ne ?d ?e (Around.frames_deeper hfr) (fun _ _ e => of_hideAll _ e) (fun a ha => hideAll_none _ ha) (fun a o e n => hideAll_get _ e n)
    ff ?f))
  case a => k_is
  case b => k_is
  case c => k_is
  case d =>
    refine ⟨fun q hq => ?_, by simpa using fun q => nLR q.symm⟩
    rcases List.mem_cons.mp hq with rfl | hq
    · exact ⟨eR, gR⟩
    · rw [List.mem_singleton.mp hq]; exact ⟨e2L, gL⟩
  case e =>
    intro q hq
    rcases List.mem_cons.mp hq with rfl | hq
    · exact dR
    · rw [List.mem_singleton.mp hq]; exact dL
  intro e t h2 tk2 ev2 fly2 ups2
  show wpAny _ _ (noteFrame _ _) _ _ _
  refine wpAny_looks_onW (Around.frames_deeper hfr) rfl fly2 fun h3 held3 ups3 => ?_
  try dsimp only
  refine wpAny_landsW held3 fun h4 held4 ups4 => ?_
  try dsimp only
  obtain ⟨oL4, e4, d4, H4⟩ := H.landed rfl eR gR gL dR dL held4 ((ups2.trans ups3).trans ups4)
  obtain ⟨ob, hob, hobc⟩ := held4.there
  refine wpAny_handleBy_builtin (X := "ValueError") (T := "ValueError") (b := true) ?g ?h ?i ?_
  case g => exact exc_sub
  case h => exact exc_meta
  case i => exact exc_same
  walk_at "M"
  try dsimp only
  refine ⟨rfl, ⟨ob, hob, hobc⟩, ?_⟩
  rw [if_pos rfl]
  refine PyProof.Rows.lands_againW held4 fun h5 held5 ups5 => ?_
  obtain ⟨oL5, e5, d5, H5⟩ := H.landed rfl eR gR gL dR dL held5 (((ups2.trans ups3).trans ups4).trans ups5)
  try dsimp only
  walk_at "M"
  try dsimp only
  exact ret oL5 _ _ _ H5.ev e5 d5

set_option maxHeartbeats 1000000 in
/-- the law's own try: a product refused -/
theorem refused_matmul (W : Wd (Mine.hd.heap_39 w.params) p loose mean mg mb b) (hB : Bg b g s.heap) (hA : Ao 3 A)
    {x y v r rr : Addr} {n hh ww hh' ww' : Nat} {F G : Nat → Nat → Nat → Int} {ta : Tok} (hx : Mat 333 222 g x v r n hh ww F) (hy : Mat 333 222 g y v r n hh' ww' G) (hv : Mod 377 g v rr)
    (ha : hh ≤ 1000) (hc : ww ≤ 1000) (ha1 : 1 ≤ hh) (hc1 : 1 ≤ ww) (ha' : hh' ≤ 1000) (hc' : ww' ≤ 1000) (ha1' : 1 ≤ hh') (hc1' : 1 ≤ ww') (ne : ww ≠ hh')
    {envL : Env} {oL : Obj} (hkL : envL.scope.kind ≠ .module) (hfL : envL.frame = some envL.locals) (hoL : s.heap.get? envL.locals = some oL) (gL : g envL.locals = none) (dL : ∀ vs, oL.data ≠ .fields vs) (hfr : A.frames = some [envL])
    (ret : ∀ oL' g' h' tk, Ev [envL.locals] g s.heap g' h' → h'.get? envL.locals = some oL' → oL'.data = oL.data → R (.ok (.ret (.bool true))) { s with heap := h', toks := tk }) :
    codeAny (model prog w) A (.call (.ref 435) ⟨[.ref x, .ref y, .int 0 ta], []⟩) R s := by
  refine enter (mu := [(envL.locals, oL)]) (binds := [("one", .ref x), ("two", .ref y), ("act", .int 0 ta)]) (m := up "act" (.int 0 ta) (up "two" (.ref y) (up "one" (.ref x) no))) (mc := no)
    W hB hA (by k_is) (by k_is) (BindsTo.of_eq rfl) rfl (by decide) (fun q hq => by rw [List.mem_singleton.mp hq]; exact ⟨hoL, gL⟩) (by simp) (fun _ => rfl) (fun _ => rfl) ?_
  intro L h₁ tk E' hA' H
  walk_at "M"
  refine wpAny_Try_except ?_
  walk_at "M"
  rw [show ((0 : Int) == 0) = true from rfl]
  walk_at "M"
  obtain ⟨es, I⟩ := hx.inst
  obtain ⟨es', J⟩ := hy.inst
  obtain ⟨oR, eR, dR⟩ := H.nsD
  have nd := H.nd
  have nLR : envL.locals ≠ L := fun q => (List.nodup_cons.mp nd).1 (List.mem_append_right _ (List.mem_map.mpr ⟨(envL.locals, oL), .head _, q⟩))
  have e2L : h₁.get? envL.locals = some oL := H.mus _ (.head _)
  have gR : g L = none := (H.own _ owns_L).1
  have ff := frames_one (env := _) (fun q => by cases q) rfl (hideAll_none (h := h₁) [L, envL.locals] (.head _)) eR dR (frames_one (l := []) hkL hfL (hideAll_none (h := h₁) [L, envL.locals] (.tail _ (.head _))) e2L dL trivial)
  refine bin_same (f := 323) W H I J ?a ?b ?c (wpAny_call (matmul_bad (s := { s with heap := h₁, toks := _ }) (base := hideAll h₁ [L, envL.locals]) (mu := [(L, oR), (envL.locals, oL)]) W H.Bg hA' hx hy hv ha hc ha1 hc1 ha' hc' ha1' hc1' ne ?d ?e (Around.frames_deeper hfr) (fun _ _ e => of_hideAll _ e) (fun a ha => hideAll_none _ ha) (fun a o e n => hideAll_get _ e n)
    ff ?f))
  case a => k_is
  case b => k_is
  case c => k_is
  case d =>
    refine ⟨fun q hq => ?_, by simpa using fun q => nLR q.symm⟩
    rcases List.mem_cons.mp hq with rfl | hq
    · exact ⟨eR, gR⟩
    · rw [List.mem_singleton.mp hq]; exact ⟨e2L, gL⟩
  case e =>
    intro q hq
    rcases List.mem_cons.mp hq with rfl | hq
    · exact dR
    · rw [List.mem_singleton.mp hq]; exact dL
  intro e t h2 tk2 ev2 fly2 ups2
  show wpAny _ _ (noteFrame _ _) _ _ _
  refine wpAny_looks_onW (Around.frames_deeper hfr) rfl fly2 fun h3 held3 ups3 => ?_
  try dsimp only
  refine wpAny_landsW held3 fun h4 held4 ups4 => ?_
  try dsimp only
  obtain ⟨oL4, e4, d4, H4⟩ := H.landed rfl eR gR gL dR dL held4 ((ups2.trans ups3).trans ups4)
  obtain ⟨ob, hob, hobc⟩ := held4.there
  refine wpAny_handleBy_builtin (X := "ValueError") (T := "ValueError") (b := true) ?g ?h ?i ?_
  case g => exact exc_sub
  case h => exact exc_meta
  case i => exact exc_same
  walk_at "M"
  try dsimp only
  refine ⟨rfl, ⟨ob, hob, hobc⟩, ?_⟩
  rw [if_pos rfl]
  refine PyProof.Rows.lands_againW held4 fun h5 held5 ups5 => ?_
  obtain ⟨oL5, e5, d5, H5⟩ := H.landed rfl eR gR gL dR dL held5 (((ups2.trans ups3).trans ups4).trans ups5)
  try dsimp only
  walk_at "M"
  try dsimp only
  exact ret oL5 _ _ _ H5.ev e5 d5
end
end Mine
namespace Mine
section
variable {prog : Program} {w : World} {p : Program} {loose : List Str} {mean : ExcName → Option Value} {mg mb : Str → Option Value} {b : Heap}
variable {S : List Addr} {g0 : FM} {h0 : Heap} {env : Env} {g : FM} {m mc : Str → Option Value} {mu : List (Addr × Obj)}
variable {A : Around} {s : Shared} {E : Value → Shared → Prop} {R : Result → Shared → Prop}
theorem mulok {x y : Int} (h1 : -1000000 ≤ y) (h2 : y ≤ 1000000) : IntMulOk x y := IntMulOk.of_right (intBits_le_64 (by omega) (by omega))
theorem mulok3 {x y : Int} (h : -400 ≤ y ∧ y ≤ 598) : IntMulOk x y := mulok (by omega) (by omega)
theorem nat3 {r : Int} (h0 : 0 ≤ r) (h1 : r < 3) : ∃ n : Nat, 1 + r = (n : Int) ∧ 1 ≤ n ∧ n ≤ 3 ∧ n ≤ 1000 := ⟨(1 + r).toNat, by omega⟩
theorem nat23 {r : Int} (h0 : 0 ≤ r) (h1 : r < 2) : ∃ n : Nat, 2 + r = (n : Int) ∧ 1 ≤ n ∧ 2 ≤ n ∧ n ≤ 3 ∧ n + 1 ≤ 1000 := ⟨(2 + r).toNat, by omega⟩
theorem mods {r : Int} (h0 : 0 ≤ r) : 0 < 2 + r := by omega

set_option maxHeartbeats 2000000 in
theorem dots_spec (W : Wd (Mine.hd.heap_39 w.params) p loose mean mg mb b) (hB : Bg b g s.heap) (hA : Ao 12 A)
    {st cl v r : Addr} {q : Int} {n : Nat} {tn tq : Tok} {ms mt : List (Addr × Obj)} (hok : StOk st cl ms) (hv : Mod 377 g v r) (hr : Ring 59 g r q n) (hq0 : 0 < q) (hn : n ≤ 1000) (hn1 : 1 ≤ n)
    (tb : Tb 362 320 mt) (hlive : (∀ q ∈ ms ++ mt, s.heap.get? q.1 = some q.2 ∧ g q.1 = none) ∧ ((ms ++ mt).map (·.1)).Nodup) (hbr : AllBare s.gens)
    (ret : ∀ ms' mt' g' h' tk gs, Ev ((ms ++ mt).map (·.1)) g s.heap g' h' → ms'.map (·.1) = ms.map (·.1) → Tb 362 320 mt' → (∀ q ∈ ms' ++ mt', h'.get? q.1 = some q.2) → AllBare gs → R (.ok (.ret (.bool true))) { s with heap := h', toks := tk, gens := gs }) :
    codeAny (model prog w) A (.call (.ref 442) ⟨[.ref st, .ref v, .int n tn, .int q tq], []⟩) R s := by
  refine enter (mu := ms ++ mt) (binds := [("state", .ref st), ("module", .ref v), ("n", .int n tn), ("q", .int q tq)]) (m := up "q" (.int q tq) (up "n" (.int n tn) (up "module" (.ref v) (up "state" (.ref st) no)))) (mc := no)
    W hB hA (by k_is) (by k_is) (BindsTo.of_eq rfl) rfl (by decide) hlive.1 hlive.2 (fun _ => rfl) (fun _ => rfl) ?_
  intro L h₁ tk E' hA' H
  walk_at "M"
  try dsimp only
  refine wpAny_call (take_spec W H.Bg (hA'.le (by decide)) hok (H.muFactsM (pre := [])) (by decide) (by decide) ?_)
  intro r1 t1 mu2 g2 h2 tk2 ev2 hok2 live2 r10 r11
  have H2 := H.callMid (pre := []) ev2 (by rw [hok2.adr, hok.adr]) live2
  replace hr := hr.mono (ev2.gg)
  replace hv := hv.mono (ev2.gg)
  obtain ⟨hh, e3, a1, a3, a2⟩ := nat3 r10 r11
  walk_at "M"
  try dsimp only
  rename St _ _ _ _ _ _ _ _ _ _ => H3
  rw [e3] at H3 ⊢
  refine wpAny_call (grid_spec (hh := hh) (ww := 1) W H3.Bg (hA'.le (by decide)) hok2 (H3.muFactsM (pre := [])) hn a2 (by decide) ?_)
  intro l1 F1 mu4 g4 h4 tk4 ev4 hok4 live4 hl1 bd1
  have H4 := H3.callMid (pre := []) ev4 (by rw [hok4.adr, hok2.adr]) live4
  replace hr := hr.mono (ev4.gg)
  replace hv := hv.mono (ev4.gg)
  walk_at "M"
  try dsimp only
  refine wpAny_call (grid_spec (hh := hh) (ww := 1) W H4.Bg (hA'.le (by decide)) hok4 (H4.muFactsM (pre := [])) hn a2 (by decide) ?_)
  intro l2 F2 mu5 g5 h5 tk5 ev5 hok5 live5 hl2 bd2
  have H5 := H4.callMid (pre := []) ev5 (by rw [hok5.adr, hok4.adr]) live5
  replace hr := hr.mono (ev5.gg)
  replace hv := hv.mono (ev5.gg)
  replace hl1 := hl1.mono (ev5.gg)
  walk_at "M"
  try dsimp only
  refine ⟨sz1 rfl, fun a6 h6 ea eh => ?_⟩
  obtain ⟨g6, le6, ht6, _, H6⟩ := H5.mkT ea eh
  clear ea eh
  refine tup_swap2 hA'.hh H6 ht6 ?_
  intro h7 H7
  replace hr := hr.mono (le6)
  replace hv := hv.mono (le6)
  replace hl1 := hl1.mono (le6)
  replace hl2 := hl2.mono (le6)
  walk_at "M"
  try dsimp only
  rename St _ _ _ _ _ _ _ _ _ _ => H8
  refine wpAny_call (made_spec (hh := hh) (ww := 1) W H8.Bg (hA'.le (by decide)) hl1 hv hr tb (H8.muFacts (pre := mu5)) hbr hn a2 (by decide) a1 (by decide) ?_)
  intro x1 mt1 g9 h9 tk9 gs9 ev9 tb1 live9 br9 hx1
  have H9 := H8.callMu (pre := mu5) ev9 (by rw [tb1.adr, tb.adr]) live9
  replace hr := hr.mono (ev9.gg)
  replace hv := hv.mono (ev9.gg)
  replace hl1 := hl1.mono (ev9.gg)
  replace hl2 := hl2.mono (ev9.gg)
  walk_at "M"
  try dsimp only
  refine wpAny_call (made_spec (hh := hh) (ww := 1) W H9.Bg (hA'.le (by decide)) hl2 hv hr tb1 (H9.muFacts (pre := mu5)) br9 hn a2 (by decide) a1 (by decide) ?_)
  intro x2 mt2 g10 h10 tk10 gs10 ev10 tb2 live10 br10 hx2
  have H10 := H9.callMu (pre := mu5) ev10 (by rw [tb2.adr, tb1.adr]) live10
  replace hr := hr.mono (ev10.gg)
  replace hv := hv.mono (ev10.gg)
  replace hl1 := hl1.mono (ev10.gg)
  replace hl2 := hl2.mono (ev10.gg)
  replace hx1 := hx1.mono (ev10.gg)
  walk_at "M"
  try dsimp only
  refine ⟨sz1 rfl, fun a11 h11 ea eh => ?_⟩
  obtain ⟨g11, le11, ht11, _, H11⟩ := H10.mkT ea eh
  clear ea eh
  refine tup_swap2 hA'.hh H11 ht11 ?_
  intro h12 H12
  replace hr := hr.mono (le11)
  replace hv := hv.mono (le11)
  replace hl1 := hl1.mono (le11)
  replace hl2 := hl2.mono (le11)
  replace hx1 := hx1.mono (le11)
  replace hx2 := hx2.mono (le11)
  walk_at "M"
  try dsimp only
  rename St _ _ _ _ _ _ _ _ _ _ => H13
  refine wpAny_call (turned_spec W H13.Bg (hA'.le (by decide)) hl1 a2 (by decide) a1 ?_)
  intro l14 g14 h14 tk14 ev14 hl14
  have H14 := H13.call0 ev14
  replace hr := hr.mono (ev14.gg)
  replace hv := hv.mono (ev14.gg)
  replace hl2 := hl2.mono (ev14.gg)
  replace hx1 := hx1.mono (ev14.gg)
  replace hx2 := hx2.mono (ev14.gg)
  walk_at "M"
  try dsimp only
  refine wpAny_call (times_spec (hh := 1) (ww := hh) (ll := 1) W H14.Bg (hA'.le (by decide)) hl14 hl2 hq0 hn (by decide) a2 (by decide) a1 (fun i t j a c _ ht hj _ hc => mulok3 (bd2 t j c ht hj hc)) ?_)
  intro ld g15 h15 tk15 ev15 hld
  have H15 := H14.call0 ev15
  replace hr := hr.mono (ev15.gg)
  replace hv := hv.mono (ev15.gg)
  replace hx1 := hx1.mono (ev15.gg)
  replace hx2 := hx2.mono (ev15.gg)
  walk_at "M"
  try dsimp only
  refine ls_sub (i := 0) H15 hld rfl (by decide) (by decide) ?_
  intro y0 hy0
  walk_at "M"
  try dsimp only
  refine ls_sub (i := 0) H15 hy0 rfl (by decide) (by decide) ?_
  intro y1 hy1
  walk_at "M"
  try dsimp only
  rename St _ _ _ _ _ _ _ _ _ _ => H16
  refine PyProof.Rows.BoolOp_and ?_
  walk_at "M"
  try dsimp only
  refine gm_M (f := 330) W H16 hx1 (by k_is) (by k_is) (by k_is) (fun _ _ _ _ _ _ _ _ _ => rfl) ?_
  walk_at "M"
  try dsimp only
  refine wpAny_call (dot_spec (hh := hh) W H16.Bg (hA'.le (by decide)) hx1 hx2 hv hr hq0 hn hn1 a2 a1 (fun t a c ht _ hc => mulok3 (bd2 t 0 c ht Nat.one_pos hc)) tb2 (H16.muFacts (pre := mu5)) br10 ?_)
  intro z17 mt3 g17 h17 tk17 gs17 ev17 tb3 live17 br17 hz17
  have H17 := H16.callMu (pre := mu5) ev17 (by rw [tb3.adr, tb2.adr]) live17
  replace hr := hr.mono (ev17.gg)
  replace hv := hv.mono (ev17.gg)
  replace hx1 := hx1.mono (ev17.gg)
  replace hx2 := hx2.mono (ev17.gg)
  replace hy1 := hy1.mono (ev17.gg)
  walk_at "M"
  try dsimp only
  refine ga_coeffs W H17 hz17 ?_
  intro lz hlz
  walk_at "M"
  try dsimp only
  refine eq_same H17 hA' hlz hy1 rfl ?_
  walk_at "M"
  try dsimp only
  refine PyProof.Rows.BoolOp_one ?_
  walk_at "M"
  try dsimp only
  refine gm_M (f := 330) W H17 hx2 (by k_is) (by k_is) (by k_is) (fun _ _ _ _ _ _ _ _ _ => rfl) ?_
  walk_at "M"
  try dsimp only
  refine wpAny_call (dot_spec (hh := hh) W H17.Bg (hA'.le (by decide)) hx2 hx1 hv hr hq0 hn hn1 a2 a1 (fun t a c ht _ hc => mulok3 (bd1 t 0 c ht Nat.one_pos hc)) tb3 (H17.muFacts (pre := mu5)) br17 ?_)
  intro z18 mt4 g18 h18 tk18 gs18 ev18 tb4 live18 br18 hz18
  have H18 := H17.callMu (pre := mu5) ev18 (by rw [tb4.adr, tb3.adr]) live18
  replace hy1 := hy1.mono (ev18.gg)
  walk_at "M"
  try dsimp only
  refine ga_coeffs W H18 hz18 ?_
  intro lz2 hlz2
  walk_at "M"
  try dsimp only
  refine eq_same H18 hA' hlz2 hy1 (lf_ext fun k _ => by rw [sm_congr fun t _ => nc_comm ..]) ?_
  walk_at "M"
  try dsimp only
  have evE := H18.ev
  exact ret _ _ _ _ _ _ evE (by rw [hok5.adr, hok.adr]) tb4 H18.mus br18
end
end Mine
namespace Mine
section
variable {prog : Program} {w : World} {p : Program} {loose : List Str} {mean : ExcName → Option Value} {mg mb : Str → Option Value} {b : Heap}
variable {S : List Addr} {g0 : FM} {h0 : Heap} {env : Env} {g : FM} {m mc : Str → Option Value} {mu : List (Addr × Obj)}
variable {A : Around} {s : Shared} {E : Value → Shared → Prop} {R : Result → Shared → Prop}

set_option maxHeartbeats 2000000 in
theorem law_spec (W : Wd (Mine.hd.heap_39 w.params) p loose mean mg mb b) (hB : Bg b g s.heap) (hA : Ao 13 A) (hfr : A.frames = some [])
    {l : Addr} {ns : List Int} (hl : IntL0 g l ns) (hn63 : ns.length ≤ 63)
    (tb : Tb 362 320 mu) (hlive : (∀ q ∈ mu, s.heap.get? q.1 = some q.2 ∧ g q.1 = none) ∧ (mu.map (·.1)).Nodup) (hbr : AllBare s.gens)
    (ret : ∀ mu' g' h' tk gs, Ev (mu.map (·.1)) g s.heap g' h' → Tb 362 320 mu' → (∀ q ∈ mu', h'.get? q.1 = some q.2) → AllBare gs → R (.ok (.ret (.bool true))) { s with heap := h', toks := tk, gens := gs }) :
    codeAny (model prog w) A (.call (.ref 447) ⟨[.ref l], []⟩) R s := by
  refine enter (binds := [("script", .ref l)]) (m := up "script" (.ref l) no) (mc := no)
    W hB hA (by k_is) (by k_is) (BindsTo.of_eq rfl) rfl (by decide) hlive.1 hlive.2 (fun _ => rfl) (fun _ => rfl) ?_
  intro L h₁ tk E' hA' H
  walk_at "M"
  try dsimp only
  refine wpAny_call (state_spec W H.Bg (hA'.le (by decide)) hl hn63 ?_)
  intro st cl mu1 g1 h1 tk1 ev1 hok1 live1 nd1
  have H1 := H.draws ev1 live1 nd1
  walk_at "M"
  try dsimp only
  rename St _ _ _ _ _ _ _ _ _ _ => H2
  refine wpAny_call (take_spec W H2.Bg (hA'.le (by decide)) hok1 (H2.muFactsM (pre := [])) (by decide) (by decide) ?_)
  intro r1 t1 mu2 g2 h2 tk2 ev2 hok2 live2 r10 r11
  have H3 := H2.callMid (pre := []) ev2 (by rw [hok2.adr, hok1.adr]) live2
  walk_at "M"
  try dsimp only
  refine wpAny_call (take_spec W H3.Bg (hA'.le (by decide)) hok2 (H3.muFactsM (pre := [])) (by decide) (by decide) ?_)
  intro r2 t2 mu3 g3 h3 tk3 ev3 hok3 live3 r20 r21
  have H4 := H3.callMid (pre := []) ev3 (by rw [hok3.adr, hok2.adr]) live3
  walk_at "M"
  try dsimp only
  obtain ⟨q, hq, hq0⟩ : ∃ q, 2 + r1 = q ∧ 0 < q := ⟨_, rfl, mods r10⟩
  obtain ⟨n, hnn, hn1, hn3, hn⟩ := nat3 r20 r21
  refine ⟨sz1 rfl, fun a5 h5 ea eh => ?_⟩
  obtain ⟨g5, le5, ht5, _, H5⟩ := H4.mkT ea eh
  rw [hq, hnn] at ht5
  clear ea eh
  refine tup_assign2 hA'.hh H5 ht5 ?_
  intro h6 H6
  walk_at "M"
  try dsimp only
  rename St _ _ _ _ _ _ _ _ _ _ => H7
  refine ring_make W H7.Bg (hA'.le (by decide)) ?_
  intro r g8 h8 tk8 ev8 hr
  have H8 := H7.call0 ev8
  walk_at "M"
  try dsimp only
  refine module_make W H8.Bg (hA'.le (by decide)) ?_
  intro v g9 h9 tk9 ev9 hv
  have H9 := H8.call0 ev9
  replace hr := hr.mono (ev9.gg)
  walk_at "M"
  try dsimp only
  rename St _ _ _ _ _ _ _ _ _ _ => H10
  refine wpAny_call (take_spec W H10.Bg (hA'.le (by decide)) hok3 (H10.muFactsM (pre := [])) (by decide) (by decide) ?_)
  intro r3 t3 mu4 g11 h11 tk11 ev11 hok4 live4 r30 r31
  have H11 := H10.callMid (pre := []) ev11 (by rw [hok4.adr, hok3.adr]) live4
  replace hr := hr.mono (ev11.gg)
  replace hv := hv.mono (ev11.gg)
  walk_at "M"
  try dsimp only
  refine wpAny_call (take_spec W H11.Bg (hA'.le (by decide)) hok4 (H11.muFactsM (pre := [])) (by decide) (by decide) ?_)
  intro r4 t4 mu5 g12 h12 tk12 ev12 hok5 live5 r40 r41
  have H12 := H11.callMid (pre := []) ev12 (by rw [hok5.adr, hok4.adr]) live5
  replace hr := hr.mono (ev12.gg)
  replace hv := hv.mono (ev12.gg)
  walk_at "M"
  try dsimp only
  refine ⟨sz1 rfl, fun a14 h14 ea eh => ?_⟩
  obtain ⟨g14, le14, ht14, _, H14⟩ := H12.mkT ea eh
  clear ea eh
  obtain ⟨hh0, e3, a01, a03, _⟩ := nat3 r30 r31
  obtain ⟨ww, e4, b1, b2, b3, cw⟩ := nat23 r40 r41
  rw [e3, e4] at ht14
  refine tup_swap2 hA'.hh H14 ht14 ?_
  intro h15 H15
  replace hr := hr.mono (le14)
  replace hv := hv.mono (le14)
  walk_at "M"
  try dsimp only
  rename St _ _ _ _ _ _ _ _ _ _ => H16
  refine if_join (fun m' => ∃ (hh : Nat) (th tw : Tok), 1 ≤ hh ∧ hh ≤ 3 ∧ hh ≠ ww ∧ m' "state" = some (.ref st) ∧ m' "module" = some (.ref v) ∧ m' "width" = some (.int (ww : Int) tw) ∧ m' "height" = some (.int (hh : Int) th)) H16 ?_ ?_ ?_
  · intro _
    walk_at "M"
    try dsimp only
    rename St _ _ _ _ _ _ _ _ _ _ => H17
    exact ⟨rfl, _, _, _, rfl, ⟨1, _, _, by decide, by decide, Nat.ne_of_lt b2, by with_unfolding_all rfl, by with_unfolding_all rfl, by with_unfolding_all rfl, by with_unfolding_all rfl⟩, H17⟩
  · intro ne
    walk_at "M"
    try dsimp only
    refine ⟨rfl, _, _, _, rfl, ⟨hh0, _, _, a01, a03, fun q => ne ?_, by with_unfolding_all rfl, by with_unfolding_all rfl, by with_unfolding_all rfl, by with_unfolding_all rfl⟩, H16⟩
    rw [q]; exact beq_self_eq_true _
  · rintro m17 h17 tk17 ⟨hh, th, tw, a1, a3, hne, nm1, nm2, nm3, nm4⟩ H17
    clear H16
    have a2 : hh ≤ 1000 := Nat.le_trans a3 (by decide)
    have c2 : ww ≤ 1000 := Nat.le_trans b3 (by decide)
    walk_at "M"
    try dsimp only
    refine wpAny_call (grid_spec (hh := hh) (ww := ww) W H17.Bg (hA'.le (by decide)) hok5 (H17.muFactsM (pre := [])) hn a2 c2 ?_)
    intro l1 F1 mu6 g18 h18 tk18 ev18 hok6 live6 hl1 bd1
    have H18 := H17.callMid (pre := []) ev18 (by rw [hok6.adr, hok5.adr]) live6
    replace hr := hr.mono (ev18.gg)
    replace hv := hv.mono (ev18.gg)
    walk_at "M"
    try dsimp only
    refine wpAny_call (grid_spec (hh := hh) (ww := ww) W H18.Bg (hA'.le (by decide)) hok6 (H18.muFactsM (pre := [])) hn a2 c2 ?_)
    intro l2 F2 mu7 g19 h19 tk19 ev19 hok7 live7 hl2 bd2
    have H19 := H18.callMid (pre := []) ev19 (by rw [hok7.adr, hok6.adr]) live7
    replace hr := hr.mono (ev19.gg)
    replace hv := hv.mono (ev19.gg)
    replace hl1 := hl1.mono (ev19.gg)
    walk_at "M"
    try dsimp only
    refine ⟨sz1 rfl, fun a20 h20 ea eh => ?_⟩
    obtain ⟨g20, le20, ht20, _, H20⟩ := H19.mkT ea eh
    clear ea eh
    refine tup_assign2 hA'.hh H20 ht20 ?_
    intro h21 H21
    replace hr := hr.mono (le20)
    replace hv := hv.mono (le20)
    replace hl1 := hl1.mono (le20)
    replace hl2 := hl2.mono (le20)
    walk_at "M"
    try dsimp only
    rename St _ _ _ _ _ _ _ _ _ _ => H22
    refine wpAny_call (made_spec (hh := hh) (ww := ww) W H22.Bg (hA'.le (by decide)) hl1 hv hr tb (H22.muFacts (pre := mu7)) hbr hn a2 c2 a1 b1 ?_)
    intro x1 mt1 g23 h23 tk23 gs23 ev23 tb1 live23 br23 hx1
    have H23 := H22.callMu (pre := mu7) ev23 (by rw [tb1.adr, tb.adr]) live23
    replace hr := hr.mono (ev23.gg)
    replace hv := hv.mono (ev23.gg)
    replace hl1 := hl1.mono (ev23.gg)
    replace hl2 := hl2.mono (ev23.gg)
    walk_at "M"
    try dsimp only
    refine wpAny_call (made_spec (hh := hh) (ww := ww) W H23.Bg (hA'.le (by decide)) hl2 hv hr tb1 (H23.muFacts (pre := mu7)) br23 hn a2 c2 a1 b1 ?_)
    intro x2 mt2 g24 h24 tk24 gs24 ev24 tb2 live24 br24 hx2
    have H24 := H23.callMu (pre := mu7) ev24 (by rw [tb2.adr, tb1.adr]) live24
    replace hr := hr.mono (ev24.gg)
    replace hv := hv.mono (ev24.gg)
    replace hl1 := hl1.mono (ev24.gg)
    replace hl2 := hl2.mono (ev24.gg)
    replace hx1 := hx1.mono (ev24.gg)
    walk_at "M"
    try dsimp only
    refine ⟨sz1 rfl, fun a25 h25 ea eh => ?_⟩
    obtain ⟨g25, le25, ht25, _, H25⟩ := H24.mkT ea eh
    clear ea eh
    refine tup_swap2 hA'.hh H25 ht25 ?_
    intro h26 H26
    replace hr := hr.mono (le25)
    replace hv := hv.mono (le25)
    replace hl1 := hl1.mono (le25)
    replace hl2 := hl2.mono (le25)
    replace hx1 := hx1.mono (le25)
    replace hx2 := hx2.mono (le25)
    walk_at "M"
    try dsimp only
    rename St _ _ _ _ _ _ _ _ _ _ => H27
    refine gm_M (f := 262) W H27 hx1 (by k_is) (by k_is) (by k_is) (fun _ _ _ _ _ _ _ _ _ => rfl) ?_
    refine x_fn0 W H27 (by k_is) ?_
    refine wpAny_call (turn_spec W H27.Bg (hA'.le (by decide)) hx1 hv a2 c2 a1 b1 tb2 (H27.muFacts (pre := mu7)) br24 ?_)
    intro x3 mt3 g28 h28 tk28 gs28 ev28 tb3 live28 br28 hx3
    have H28 := H27.callMu (pre := mu7) ev28 (by rw [tb3.adr, tb2.adr]) live28
    replace hr := hr.mono (ev28.gg)
    replace hv := hv.mono (ev28.gg)
    replace hl1 := hl1.mono (ev28.gg)
    replace hl2 := hl2.mono (ev28.gg)
    replace hx1 := hx1.mono (ev28.gg)
    replace hx2 := hx2.mono (ev28.gg)
    walk_at "M"
    try dsimp only
    rename St _ _ _ _ _ _ _ _ _ _ => H29
    refine gm_M (f := 248) W H29 hx1 (by k_is) (by k_is) (by k_is) (fun _ _ _ _ _ _ _ _ _ => rfl) ?_
    refine x_fn0 W H29 (by k_is) ?_
    refine wpAny_call (dim_spec W H29.Bg (hA'.le (by decide)) hx1 a2 c2 a1 b1 ?_)
    intro d30 td1 td2 g30 h30 tk30 ev30 hd30
    have H30 := H29.call0 ev30
    replace hr := hr.mono (ev30.gg)
    replace hv := hv.mono (ev30.gg)
    replace hl1 := hl1.mono (ev30.gg)
    replace hl2 := hl2.mono (ev30.gg)
    replace hx1 := hx1.mono (ev30.gg)
    replace hx2 := hx2.mono (ev30.gg)
    replace hx3 := hx3.mono (ev30.gg)
    walk_at "M"
    try dsimp only
    refine ⟨sz1 rfl, fun a31 h31 ea eh => ?_⟩
    obtain ⟨g31, le31, ht31, H31⟩ := H30.mkTup ea eh
    clear ea eh
    refine ne_tup (r := false) H31 hA' (hd30.mono le31) ht31 (by simp) ?_
    replace hr := hr.mono (le31)
    replace hv := hv.mono (le31)
    replace hl1 := hl1.mono (le31)
    replace hl2 := hl2.mono (le31)
    replace hx1 := hx1.mono (le31)
    replace hx2 := hx2.mono (le31)
    replace hx3 := hx3.mono (le31)
    walk_at "M"
    try dsimp only
    refine gm_M (f := 248) W H31 hx3 (by k_is) (by k_is) (by k_is) (fun _ _ _ _ _ _ _ _ _ => rfl) ?_
    refine x_fn0 W H31 (by k_is) ?_
    refine wpAny_call (dim_spec W H31.Bg (hA'.le (by decide)) hx3 c2 a2 b1 a1 ?_)
    intro d32 td3 td4 g32 h32 tk32 ev32 hd32
    have H32 := H31.call0 ev32
    replace hr := hr.mono (ev32.gg)
    replace hv := hv.mono (ev32.gg)
    replace hl1 := hl1.mono (ev32.gg)
    replace hl2 := hl2.mono (ev32.gg)
    replace hx1 := hx1.mono (ev32.gg)
    replace hx2 := hx2.mono (ev32.gg)
    replace hx3 := hx3.mono (ev32.gg)
    walk_at "M"
    try dsimp only
    refine ⟨sz1 rfl, fun a33 h33 ea eh => ?_⟩
    obtain ⟨g33, le33, ht33, H33⟩ := H32.mkTup ea eh
    clear ea eh
    refine ne_tup (r := false) H33 hA' (hd32.mono le33) ht33 (by simp) ?_
    replace hr := hr.mono (le33)
    replace hv := hv.mono (le33)
    replace hl1 := hl1.mono (le33)
    replace hl2 := hl2.mono (le33)
    replace hx1 := hx1.mono (le33)
    replace hx2 := hx2.mono (le33)
    replace hx3 := hx3.mono (le33)
    walk_at "M"
    try dsimp only
    refine gm_M (f := 262) W H33 hx3 (by k_is) (by k_is) (by k_is) (fun _ _ _ _ _ _ _ _ _ => rfl) ?_
    refine x_fn0 W H33 (by k_is) ?_
    refine wpAny_call (turn_spec W H33.Bg (hA'.le (by decide)) hx3 hv c2 a2 b1 a1 tb3 (H33.muFacts (pre := mu7)) br28 ?_)
    intro x4 mt4 g34 h34 tk34 gs34 ev34 tb4 live34 br34 hx4
    have H34 := H33.callMu (pre := mu7) ev34 (by rw [tb4.adr, tb3.adr]) live34
    replace hr := hr.mono (ev34.gg)
    replace hv := hv.mono (ev34.gg)
    replace hl1 := hl1.mono (ev34.gg)
    replace hl2 := hl2.mono (ev34.gg)
    replace hx1 := hx1.mono (ev34.gg)
    replace hx2 := hx2.mono (ev34.gg)
    walk_at "M"
    try dsimp only
    refine mat_eq W H34 (hA'.le (by decide)) hx4 hx1 (Nat.le_trans a3 (by decide)) (Nat.le_trans b3 (by decide)) a1 b1 ?_
    intro g35 h35 tk35 ev35
    have H35 := H34.call0 ev35
    replace hr := hr.mono (ev35.gg)
    replace hv := hv.mono (ev35.gg)
    replace hl1 := hl1.mono (ev35.gg)
    replace hl2 := hl2.mono (ev35.gg)
    replace hx1 := hx1.mono (ev35.gg)
    replace hx2 := hx2.mono (ev35.gg)
    walk_at "M"
    try dsimp only
    refine bin_madd (pre := mu7) W H35 (hA'.le (by decide)) hx1 hx2 hv hr hq0 hn a2 c2 a1 b1 tb4 br34 ?_
    intro z36 mt5 g36 h36 tk36 gs36 le36 tb5 br36 hz36 H36
    replace hr := hr.mono (le36)
    replace hv := hv.mono (le36)
    replace hl1 := hl1.mono (le36)
    replace hl2 := hl2.mono (le36)
    replace hx1 := hx1.mono (le36)
    replace hx2 := hx2.mono (le36)
    walk_at "M"
    try dsimp only
    refine ⟨sz1 rfl, fun a37 h37 ea eh => ?_⟩
    obtain ⟨g37, le37, ht37, H37⟩ := H36.mkTup ea eh
    clear ea eh
    replace hr := hr.mono (le37)
    replace hv := hv.mono (le37)
    replace hl1 := hl1.mono (le37)
    replace hl2 := hl2.mono (le37)
    replace hx1 := hx1.mono (le37)
    replace hx2 := hx2.mono (le37)
    replace hz36 := hz36.mono (le37)
    walk_at "M"
    try dsimp only
    refine bin_msub (pre := mu7) W H37 (hA'.le (by decide)) hx1 hx2 hv hr hq0 hn a2 c2 a1 b1 tb5 br36 ?_
    intro z38 mt6 g38 h38 tk38 gs38 le38 tb6 br38 hz38 H38
    replace hr := hr.mono (le38)
    replace hv := hv.mono (le38)
    replace hl1 := hl1.mono (le38)
    replace hl2 := hl2.mono (le38)
    replace hx1 := hx1.mono (le38)
    replace hz36 := hz36.mono (le38)
    replace ht37 := ht37.mono (le38)
    walk_at "M"
    try dsimp only
    refine ⟨sz1 rfl, fun a39 h39 ea eh => ?_⟩
    obtain ⟨g39, le39, ht39, H39⟩ := H38.mkTup ea eh
    clear ea eh
    replace hr := hr.mono (le39)
    replace hv := hv.mono (le39)
    replace hl1 := hl1.mono (le39)
    replace hl2 := hl2.mono (le39)
    replace hx1 := hx1.mono (le39)
    replace hz36 := hz36.mono (le39)
    replace ht37 := ht37.mono (le39)
    replace hz38 := hz38.mono (le39)
    walk_at "M"
    try dsimp only
    refine ⟨sz1 rfl, fun a40 h40 ea eh => ?_⟩
    obtain ⟨f40, H40⟩ := H39.mkL ea eh
    obtain ⟨g40, le40, p40, H41⟩ := H40.freeze' f40
    clear ea eh
    replace hr := hr.mono (le40)
    replace hv := hv.mono (le40)
    replace hl1 := hl1.mono (le40)
    replace hl2 := hl2.mono (le40)
    replace hx1 := hx1.mono (le40)
    replace hz36 := hz36.mono (le40)
    replace ht37 := ht37.mono (le40)
    replace hz38 := hz38.mono (le40)
    replace ht39 := ht39.mono (le40)
    walk_at "M"
    try dsimp only
    have hz1 : Mat 333 222 g40 z36 v r n hh ww (fun i j k => (F1 i j k + 1 * F2 i j k) % q) := hz36.ext fun i j k _ _ _ => by rw [Int.one_mul]
    have hz2 : Mat 333 222 g40 z38 v r n hh ww (fun i j k => (F1 i j k + -1 * F2 i j k) % q) := hz38.ext fun i j k _ _ _ => by rw [Int.neg_mul, Int.one_mul, ← Int.sub_eq_add_neg]
    refine loop_pairs (GP := AllBare) br38 (fun u _ m => up "told" u m) (fun _ z mc => up "sign" z mc) ?asg hA'.hh H41 p40 (IsL.lst _)
      (fun u z => ∃ D sg tsg, u = Value.ref D ∧ z = Value.int sg tsg ∧ Mat 333 222 g40 D v r n hh ww fun i j k => (F1 i j k + sg * F2 i j k) % q) ?hv
      (fun _ g₁ m₁ mc₁ mu₁ => (m₁ "state" = some (.ref st) ∧ m₁ "module" = some (.ref v) ∧ m₁ "width" = some (.int (ww : Int) tw) ∧ m₁ "height" = some (.int (hh : Int) th) ∧ m₁ "first" = some (.ref x1)) ∧ (mc₁ "q" = some (.int q tk2) ∧ mc₁ "n" = some (.int (n : Int) tk3) ∧ mc₁ "one" = some (.ref l1) ∧ mc₁ "two" = some (.ref l2)) ∧ ∃ mt, mu₁ = mu7 ++ mt ∧ Tb 362 320 mt)
      ⟨⟨by with_unfolding_all assumption, by with_unfolding_all assumption, by with_unfolding_all assumption, by with_unfolding_all assumption, by with_unfolding_all rfl⟩, ⟨by with_unfolding_all rfl, by with_unfolding_all rfl, by with_unfolding_all rfl, by with_unfolding_all rfl⟩, _, rfl, tb6⟩ ?turn ?done
    case asg =>
      intro t u z g₁ m₁ mc₁ mu₁ s₁ Q E ht H k
      refine tl_assign2 hA'.hh H ht fun h' H' => ?_
      refine st_loc H' fun h2 H2 => ?_
      exact st_cell H2 fun h3 H3 => k h3 _ H3
    case hv =>
      intro i x ex
      match i, ex with
      | 0, ex => cases ex; exact ⟨_, _, _, rfl, ht37, _, _, _, rfl, rfl, hz1⟩
      | 1, ex => cases ex; exact ⟨_, _, _, rfl, ht39, _, _, _, rfl, rfl, hz2⟩
      | k + 2, ex => cases ex
    case turn =>
      rintro i u z I oI g₁ m₁ mc₁ mu₁ h₁ tk gs E2 gp hi ⟨D, sg, tsg, rfl, rfl, hD⟩ le1 ⟨⟨n1, n2, n3, n4, n5⟩, ⟨c1, c3, c4, c5⟩, mtL, rfl, tbL⟩ H42
      replace hv := hv.mono (le1)
      replace hl1 := hl1.mono (le1)
      replace hl2 := hl2.mono (le1)
      replace hD := hD.mono (le1)
      walk_at "M"
      try dsimp only
      refine ⟨sz1 rfl, fun a43 h43 ea eh => ?_⟩
      obtain ⟨f43, H43⟩ := H42.mkL ea eh
      clear ea eh
      walk_at "M"
      try dsimp only
      rename St _ _ _ _ _ _ _ _ _ _ => H44
      refine call_range1 H44 ?_
      intro h45 tk45 rr t45 u45 v45 hrr H45
      refine loop_forC H45 (Src.range hA'.hh hrr (rngN a2) (nat0 _)) (fun j g₂ m₂ mc₂ mu₂ => (m₂ "state" = some (.ref st) ∧ m₂ "module" = some (.ref v) ∧ m₂ "width" = some (.int (ww : Int) tw) ∧ m₂ "height" = some (.int (hh : Int) th) ∧ m₂ "first" = some (.ref x1) ∧ m₂ "told" = some (.ref D) ∧ m₂ "due" = some (.ref a43)) ∧ (mc₂ "q" = some (.int q tk2) ∧ mc₂ "n" = some (.int (n : Int) tk3) ∧ mc₂ "one" = some (.ref l1) ∧ mc₂ "two" = some (.ref l2) ∧ mc₂ "sign" = some (.int sg tsg)) ∧ ∃ o ys, mu₂ = (a43, o) :: (I, oI) :: (mu7 ++ mtL) ∧ IsL o ys ∧ ys.length = j ∧ Refs (fun i x => LsOf g₂ x ww fun j y => IntL g₂ y (lf n fun k => (F1 i j k + sg * F2 i j k) % q)) ys)
        ⟨⟨by with_unfolding_all assumption, by with_unfolding_all assumption, by with_unfolding_all assumption, by with_unfolding_all assumption, by with_unfolding_all assumption, by with_unfolding_all rfl, by with_unfolding_all rfl⟩, ⟨by with_unfolding_all assumption, by with_unfolding_all assumption, by with_unfolding_all assumption, by with_unfolding_all assumption, by with_unfolding_all rfl⟩, _, _, rfl, IsL.lst _, rfl, Refs.nil⟩ ?_ ?_
      · rintro j vv I2 oI2 g₂ m₂ mc₂ mu₂ h₂ tk₂ E3 hj ⟨tj, e⟩ le2 ⟨⟨p1, p2, p3, p4, p5, p6, p7⟩, ⟨d1, d2, d3, d4, d5⟩, o2, ys2, rfl, isl2, hl2', hys2⟩ H46
        rw [Int.zero_add] at e
        subst e
        rw [to_nat0] at hj
        replace hl1 := hl1.mono (le2)
        replace hl2 := hl2.mono (le2)
        walk_at "M"
        try dsimp only
        refine gm_append H46 (.tail _ (.head _)) isl2 ?_
        walk_at "M"
        try dsimp only
        refine ev_lc (cl := [("two", L + 4), ("sign", L + 5), ("q", L + 1), ("one", L + 3), ("n", L + 2), ("j", L + 6)]) (cn := ["two", "sign", "q", "one", "n", "j"]) (xc := true) (by walk_at "ok") fun ok => ?_
        walk_at "M"
        try dsimp only
        refine call_range1 H46 ?_
        intro h47 tk47 rr47 t47 u47 v47 hrr47 H47
        refine lc_run ok H47 (Src.range hA'.hh hrr47 (rngN c2) (nat0 _)) (by rw [to_nat0]; exact szl c2) (fun k g₁ mu₁ ys => mu₁ = (I2, oI2) :: (a43, o2) :: (I, oI) :: (mu7 ++ mtL) ∧ Refs (fun k' y => IntL g₁ y (lf n fun c => (F1 j k' c + sg * F2 j k' c) % q)) ys) ⟨rfl, Refs.nil⟩ ?_ ?_
        · rintro k vv C D2 oD2 I3 oI3 g₃ mu₃ ys3 h₃ tk₃ E4 hk ⟨tkk, e⟩ le3 ha3 ⟨rfl, hys3⟩ hl3 H48
          rw [Int.zero_add] at e
          subst e
          rw [to_nat0] at hk
          replace hl1 := hl1.mono (le3)
          replace hl2 := hl2.mono (le3)
          walk_at "M"
          try dsimp only
          refine ev_lc (cl := [("two", L + 4), ("sign", L + 5), ("q", L + 1), ("one", L + 3), ("k", C + 1), ("j", L + 6)]) (cn := ["two", "sign", "q", "one", "k", "j"]) (xc := false) (by walk_at "ok") fun ok2 => ?_
          walk_at "M"
          try dsimp only
          refine call_range1 H48 ?_
          intro h49 tk49 rr49 t49 u49 v49 hrr49 H49
          refine lc_run ok2 H49 (Src.range hA'.hh hrr49 (rngN hn) (nat0 _)) (by rw [to_nat0]; exact szl hn) (fun c g₁ mu₁ zs => mu₁ = (D2, oD2) :: (I3, oI3) :: (I2, oI2) :: (a43, o2) :: (I, oI) :: (mu7 ++ mtL) ∧ IntsAre zs (lf c fun c => (F1 j k c + sg * F2 j k c) % q)) ⟨rfl, .nil⟩ ?_ ?_
          · rintro c vv C3 D3 oD3 I4 oI4 g₄ mu₄ zs h₄ tk₄ E5 hc ⟨tc, e⟩ le4 ha4 ⟨rfl, hzs⟩ hl4 H50
            rw [Int.zero_add] at e
            subst e
            rw [to_nat0] at hc
            replace hl1 := hl1.mono (le4)
            replace hl2 := hl2.mono (le4)
            walk_at "M"
            try dsimp only
            refine ls_sub (i := j) H50 hl1 rfl hj a2 ?_
            intro y1 hy1
            walk_at "M"
            try dsimp only
            refine ls_sub (i := k) H50 hy1 rfl hk c2 ?_
            intro y2 hy2
            walk_at "M"
            try dsimp only
            refine row_il (i := c) H50 hy2 rfl hc hn ?_
            intro u1
            walk_at "M"
            try dsimp only
            refine ls_sub (i := j) H50 hl2 rfl hj a2 ?_
            intro y3 hy3
            walk_at "M"
            try dsimp only
            refine ls_sub (i := k) H50 hy3 rfl hk c2 ?_
            intro y4 hy4
            walk_at "M"
            try dsimp only
            refine row_il (i := c) H50 hy4 rfl hc hn ?_
            intro u2
            walk_at "M"
            try dsimp only
            refine imul_ok (mulok3 (bd2 j k c hj hk hc)) ?_
            walk_at "M"
            try dsimp only
            exact EltEnd.mk (.refl _) H50 (by exact ha4) ⟨rfl, ints_push hzs rfl⟩
          · rintro g₄ mu₄ zs D3 oD3 h₄ tk₄ le4 ha4 ⟨rfl, hzs⟩ hl4 isl4 fD4 H50
            rw [to_nat0] at hzs
            obtain ⟨g10, le10, p10, H51⟩ := H50.freeze' fD4
            refine EltEnd.mk (le4.trans le10) H51 (by exact ha3) ⟨rfl, ?_⟩
            exact (hys3.mono fun _ _ q => q.mono (le4.trans le10)).push hl3 (IntL.mk p10 isl4 hzs)
        · rintro g₃ mu₃ ys3 D2 oD2 h₃ tk₃ le3 ha3 ⟨rfl, hys3⟩ hl3 isl3 fD3 H48
          rw [to_nat0] at hl3
          obtain ⟨g11, le11, hls, H49⟩ := H48.freezeLs fD3 isl3 hl3 hys3
          walk_at "M"
          try dsimp only
          refine do_append (pre := [(I2, oI2)]) (post := (I, oI) :: (mu7 ++ mtL)) H49 isl2 (len_lt hl2' hj a2) ?_
          intro h50 o50 isl50 H50
          walk_at "M"
          try dsimp only
          refine LoopEnd.mk (le3.trans le11) H50 ⟨⟨by with_unfolding_all assumption, by with_unfolding_all assumption, by with_unfolding_all assumption, by with_unfolding_all assumption, by with_unfolding_all assumption, by with_unfolding_all assumption, by with_unfolding_all assumption⟩, ⟨by with_unfolding_all assumption, by with_unfolding_all assumption, by with_unfolding_all assumption, by with_unfolding_all assumption, by with_unfolding_all assumption⟩, o50, _, rfl, isl50, by rw [List.length_append, hl2']; rfl, ?_⟩
          refine (hys2.mono fun _ _ q => LsOf.mono q (le3.trans le11) fun _ _ q => q.mono (le3.trans le11)).push hl2' ?_
          exact LsOf.mono hls (.refl _) fun _ _ q => q.mono le11
      · rintro g₂ m₂ mc₂ mu₂ h₂ tk₂ le2 ⟨⟨p1, p2, p3, p4, p5, p6, p7⟩, ⟨d1, d2, d3, d4, d5⟩, o2, ys2, rfl, isl2, hl2', hys2⟩ H46
        rw [to_nat0] at hl2'
        obtain ⟨g51, le51, hdue, H51⟩ := H46.freezeLs f43 isl2 hl2' hys2
        have hG : Grid g51 a43 n hh ww (fun i j k => (F1 i j k + sg * F2 i j k) % q) := LsOf.mono hdue (.refl _) fun _ _ q => LsOf.mono q le51 fun _ _ q => q.mono le51
        have le52 := le2.trans le51
        replace hv := hv.mono (le52)
        replace hD := hD.mono (le52)
        walk_at "M"
        try dsimp only
        refine wpAny_call (shown_spec W H51.Bg (hA'.le (by decide)) hD a2 c2 a1 b1 ?_)
        intro l53 g53 h53 tk53 ev53 hl53
        have H53 := H51.call0 ev53
        replace hv := hv.mono (ev53.gg)
        replace hD := hD.mono (ev53.gg)
        replace hG := hG.mono (ev53.gg)
        walk_at "M"
        try dsimp only
        refine ne_grid H53 hA' hl53 hG (fun _ _ _ _ _ _ => rfl) ?_
        walk_at "M"
        try dsimp only
        refine gm_M (f := 262) W H53 hD (by k_is) (by k_is) (by k_is) (fun _ _ _ _ _ _ _ _ _ => rfl) ?_
        refine x_fn0 W H53 (by k_is) ?_
        refine wpAny_call (turn_spec W H53.Bg (hA'.le (by decide)) hD hv a2 c2 a1 b1 tbL (H53.muFacts (pre := (I, oI) :: mu7)) gp ?_)
        intro x54 mt7 g54 h54 tk54 gs54 ev54 tb7 live54 br54 hx54
        have H54 := H53.callMu (pre := (I, oI) :: mu7) ev54 (by rw [tb7.adr, tbL.adr]) live54
        replace hG := hG.mono (ev54.gg)
        walk_at "M"
        try dsimp only
        refine wpAny_call (shown_spec W H54.Bg (hA'.le (by decide)) hx54 c2 a2 b1 a1 ?_)
        intro l55 g55 h55 tk55 ev55 hl55
        have H55 := H54.call0 ev55
        replace hG := hG.mono (ev55.gg)
        walk_at "M"
        try dsimp only
        refine wpAny_call (turned_spec W H55.Bg (hA'.le (by decide)) hG a2 c2 a1 ?_)
        intro l56 g56 h56 tk56 ev56 hl56
        have H56 := H55.call0 ev56
        replace hl55 := hl55.mono (ev56.gg)
        walk_at "M"
        try dsimp only
        refine ne_grid H56 hA' hl55 hl56 (fun _ _ _ _ _ _ => rfl) ?_
        walk_at "M"
        try dsimp only
        exact LoopEndG.mk br54 ((((le52.trans ev53.gg).trans ev54.gg).trans ev55.gg).trans ev56.gg) H56 ⟨⟨by with_unfolding_all assumption, by with_unfolding_all assumption, by with_unfolding_all assumption, by with_unfolding_all assumption, by with_unfolding_all assumption⟩, ⟨by with_unfolding_all assumption, by with_unfolding_all assumption, by with_unfolding_all assumption, by with_unfolding_all assumption⟩, _, rfl, tb7⟩
    case done =>
      rintro g₁ m₁ mc₁ mu₁ h₁ tk gs gp le1 ⟨⟨n1, n2, n3, n4, n5⟩, ⟨c1, c3, c4, c5⟩, mt8, rfl, tb8⟩ H60
      replace hr := hr.mono (le1)
      replace hv := hv.mono (le1)
      replace hx1 := hx1.mono (le1)
      walk_at "M"
      try dsimp only
      refine wpAny_call (grid_spec (hh := hh) (ww := ww + 1) W H60.Bg (hA'.le (by decide)) hok7 (H60.muFactsM (pre := [])) hn a2 cw ?_)
      intro l61 F3 mu9 g61 h61 tk61 ev61 hok9 live61 hl61 bd3
      have H61 := H60.callMid (pre := []) ev61 (by rw [hok9.adr, hok7.adr]) live61
      replace hr := hr.mono (ev61.gg)
      replace hv := hv.mono (ev61.gg)
      replace hx1 := hx1.mono (ev61.gg)
      walk_at "M"
      try dsimp only
      refine wpAny_call (made_spec (hh := hh) (ww := ww + 1) W H61.Bg (hA'.le (by decide)) hl61 hv hr tb8 (H61.muFacts (pre := mu9)) gp hn a2 cw a1 (Nat.succ_pos _) ?_)
      intro x62 mt9 g62 h62 tk62 gs62 ev62 tb9 live62 br62 hx62
      have H62 := H61.callMu (pre := mu9) ev62 (by rw [tb9.adr, tb8.adr]) live62
      replace hr := hr.mono (ev62.gg)
      replace hv := hv.mono (ev62.gg)
      replace hx1 := hx1.mono (ev62.gg)
      walk_at "M"
      try dsimp only
      rename St _ _ _ _ _ _ _ _ _ _ => H63
      obtain ⟨oL, eL, dL⟩ := H63.nsD
      have gL := (H63.own _ owns_L).1
      refine wpAny_call (refused_madd (oL := oL) W H63.Bg (hA'.le (by decide)) hx1 hx62 hv a2 c2 a1 b1 a2 cw a1 (Nat.succ_pos _) (fun z => Nat.lt_irrefl _ (Nat.lt_of_lt_of_eq (Nat.lt_succ_self _) z.2.symm)) (fun q => by cases q) rfl eL gL dL (Around.frames_deeper hfr) ?_)
      intro oL2 g64 h64 tk64 ev64 eL2 dL2
      have H64 := H63.frame ev64 eL eL2 dL2
      replace hr := hr.mono (ev64.gg)
      replace hv := hv.mono (ev64.gg)
      replace hx1 := hx1.mono (ev64.gg)
      walk_at "M"
      try dsimp only
      obtain ⟨oL3, eL3, dL3⟩ := H64.nsD
      have gL3 := (H64.own _ owns_L).1
      refine wpAny_call (refused_matmul (oL := oL3) W H64.Bg (hA'.le (by decide)) hx1 hx1 hv a2 c2 a1 b1 a2 c2 a1 b1 (Ne.symm hne) (fun q => by cases q) rfl eL3 gL3 dL3 (Around.frames_deeper hfr) ?_)
      intro oL4 g65 h65 tk65 ev65 eL4 dL4
      have H65 := H64.frame ev65 eL3 eL4 dL4
      replace hr := hr.mono (ev65.gg)
      replace hv := hv.mono (ev65.gg)
      walk_at "M"
      try dsimp only
      refine wpAny_call (dots_spec W H65.Bg hA' hok9 hv hr hq0 hn hn1 tb9 (H65.muFacts (pre := [])) br62 ?_)
      intro ms' mt' g66 h66 tk66 gs66 ev66 adr tb10 live66 br66
      have H66 := H65.callMu (pre := []) (mu' := ms' ++ mt') ev66 (by show (ms' ++ mt').map (·.1) = (mu9 ++ mt9).map (·.1); rw [List.map_append, List.map_append, adr, tb10.adr, tb9.adr]) live66
      walk_at "M"
      try dsimp only
      have evE := H66.ev
      exact ret _ _ _ _ _ evE tb10 (fun q hq => live66 q (List.mem_append_right _ hq)) br66
end
end Mine
set_option maxHeartbeats 4000000 in
theorem PySem.Challenge.cw_yb0001_03_holds : PySem.Challenge.rw_yb0001_03.Holds :=
  Mine.hd (by
    k_fill
    intro w s₀ s₁ mg mb G Y fa o pm cd doc dV kV ho hd hcd hD hmg hg args vals as hpre hlay hrd hwl hlo
    have KX := kIn_of Y.1
    have KT := Y.2
    refine Ground.open G ?_
    intro T B D TE TW
    have efa : (some (Value.ref fa) : Option Value) = some (.ref 447) := Eq.trans hmg.symm (mg_of KX T.g (by k_is))
    obtain rfl := Value.ref.inj (Option.some.inj efa)
    wrow_args hpre hlay hrd hwl hlo
    refine enter_call ?_
    w_top on
    clear ho hd hcd hD hmg
    rename IntsAre _ _ => hI
    rename Heap.IsList _ _ _ => hLL
    obtain ⟨oL, eL, cL, kL, dL⟩ := hLL
    obtain ⟨bm, ob, hmod⟩ := bmod_of_top T
    refine Mine.law_spec (mean := ExcName.means s₀.heap) (mu := [(362, tabObj #[]), (320, tabObj #[])]) (b := hideAll s₁.heap [362, 320]) (g := (hideAll s₁.heap [362, 320]).get?)
      ⟨Mine.hide_in KX fun P hP => ?k1, Mine.hide_read KT (topRead_of T), bm, ob, Mine.hide_mod KT hmod⟩ ⟨fun _ _ e => e, Nat.le_of_eq (hideAll_size _ _), fun _ _ e => of_hideAll _ e⟩ Mine.room13 rfl
      ⟨_, oL, kL, Mine.hide_get KT eL (fun q => by rw [q] at cL; cases cL), cL, dL, hI⟩ (by omega) ⟨#[], #[], rfl, trivial, trivial⟩ ⟨fun q hq => ?k2, by decide⟩ (AllBare.of_eq hg) ?_
    case k1 =>
      rcases List.mem_cons.mp hP with rfl | hP
      · kernel_rfl
      · rw [List.mem_singleton.mp hP]; kernel_rfl
    case k2 =>
      rcases List.mem_cons.mp hq with rfl | hq
      · exact ⟨KT _ (.head _), hideAll_none _ (.head _)⟩
      · rw [List.mem_singleton.mp hq]; exact ⟨KT _ (.tail _ (.head _)), hideAll_none _ (.tail _ (.head _))⟩
    intro mu' g' h' tk gs ev tb live hb
    refine Mine.good_true (fun _ => rfl) (by with_unfolding_all rfl) (Mine.old_tabs KT ?k3 ev ?k4) rfl hb
    case k3 =>
      intro P hP
      rcases List.mem_cons.mp hP with rfl | hP
      · exact Mine.code_tab (c := 366) KX (by kernel_rfl)
      · rw [List.mem_singleton.mp hP]; exact Mine.code_tab (c := 322) KX (by kernel_rfl)
    case k4 =>
      obtain ⟨p, q, rfl, _, _⟩ := tb
      intro P hP
      rcases List.mem_cons.mp hP with rfl | hP
      · exact ⟨p, live (_, _) (.head _)⟩
      · rw [List.mem_singleton.mp hP]; exact ⟨q, live (_, _) (.tail _ (.head _))⟩)
