import PyProof.Rows.All
import Wide.All
import OpenK.AllK
import Wide.FinOn
import PySem.Challenge.RW_yb0001_01
open PySem PySem.W PyProof.Rows PySem.Calls
set_option Elab.async false
set_option linter.unusedVariables false
set_option maxRecDepth 100000
namespace Mine
def topRunS (stp : SharedT → Thread → Option (SharedT × Thread)) (ok : Thread → Bool) : Nat → SharedT → Thread → Option SharedT
  | 0, _, _ => none
  | n + 1, s, t => match through t with
    | true => some s
    | false => match ok t with
      | false => none
      | true => match stp s t with
        | some (s', t') => topRunS stp ok n s' t'
        | none => none
theorem topRun_of {tb : String → Option Builtin} {p : Program} {w : World} {n₀ : Nat} {ann : Option Value} : ∀ {n : Nat} {s s' : SharedT} {t : Thread}, topRunS (stepT (denote tb) p w) (stepOk n₀ ann) n s t = some s' → topRun tb p w n₀ ann n s.abs t = some s'.abs
  | 0, _, _, _, h => by cases h
  | n + 1, s, s', t, h => by
    unfold topRunS at h
    unfold topRun
    cases he : through t with
    | true => rw [he] at h; cases h; rfl
    | false =>
      rw [he] at h
      cases hk : stepOk n₀ ann t with
      | false => rw [hk] at h; cases h
      | true =>
        rw [hk] at h
        cases hs : stepT (denote tb) p w s t with
        | none => rw [hs] at h; cases h
        | some r => obtain ⟨s₂, t₂⟩ := r; rw [hs] at h; dsimp only; rw [stepT_spec hs]; exact topRun_of h
noncomputable def bootT (P : Params) : BT :=
  .node (boot_o_0 P) (.node (boot_o_1 P) (.node (boot_o_3 P) (.node (boot_o_7 P) .nil .nil) .nil) (.node (boot_o_5 P) (.node (boot_o_9 P) .nil .nil) .nil))
    (.node (boot_o_2 P) (.node (boot_o_4 P) (.node (boot_o_8 P) .nil .nil) .nil) (.node (boot_o_6 P) (.node (boot_o_10 P) .nil .nil) .nil))
theorem bootT_abs (P : Params) : boot_heap P = absHeap (bootT P) 11 {} := rfl
noncomputable abbrev boot0 (w : World) (os : OsState) : SharedT := ⟨bootT w.params, 11, {}, Array.mk [], boot_drawn, boot_toks, os⟩
theorem leftO_tree {p q : Program} {loose : List Str} {Xt : Shared → Bool} {α : Type} {Yf : Shared → α} {Ya : World → α} {N : Nat} {m₀ : Nat} {ann : Option Value}
    (e : opening p = plainProg p.main.scope.names) (hN : Nat.ble 600 N = true) (f : ∀ s, fenceModules? p s = some s)
    (size : ∀ w : World, ((boot_heap w.params).isNs mainGlobals, (boot_heap w.params).objs.size, (boot_heap w.params).nsMap mainGlobals "__annotations__") = (true, m₀, ann))
    (run : ∀ (w : World) (os : OsState), (topRunS (stepT (denote treeTable) p w) (stepOk m₀ ann) N (boot0 w os) (topStub p)).map (fun s => (staticsOk (importedModules p.main.body) (boot_heap w.params) s.abs.heap && namesBound p s.abs.heap && gensDone s.abs && laidKept (boot_heap w.params) s.abs.heap,
        openSeen q loose (importedModules p.main.body) Xt true s.abs)) = some (true, openGood q loose))
    (run' : ∀ (w : World) (os : OsState), (topRunS (stepT (denote treeTable) p w) (stepOk m₀ ann) N (boot0 w os) (topStub p)).map (fun s => Yf s.abs) = some (Ya w)) : LeftO p q loose Xt Yf Ya N := fun w => by
  obtain ⟨⟨h, gs, d, k, os⟩, e1, e'⟩ := Option.map_eq_some_iff.mp (boot_open e hN f w)
  obtain ⟨rfl, rfl, rfl, rfl⟩ : h = boot_heap w.params ∧ gs = Array.mk [] ∧ d = boot_drawn ∧ k = boot_toks := by simpa using e'
  obtain ⟨z1, z2, z3⟩ : _ ∧ _ ∧ _ := by simpa only [Prod.mk.injEq] using size w
  obtain ⟨s, hs, l⟩ := Option.map_eq_some_iff.mp (run w os)
  obtain ⟨l1, l2⟩ : _ ∧ _ := by simpa only [Prod.mk.injEq] using l
  obtain ⟨s', hs', l3⟩ := Option.map_eq_some_iff.mp (run' w os)
  obtain rfl : s = s' := Option.some.inj (hs.symm.trans hs')
  have r := topRun_of hs
  have t : topFrom treeTable p w N ⟨boot_heap w.params, Array.mk [], boot_drawn, boot_toks, os⟩ = some s.abs := by
    unfold topFrom
    dsimp only
    rw [z1, z2, z3]
    rw [show (⟨boot_heap w.params, Array.mk [], boot_drawn, boot_toks, os⟩ : Shared) = (boot0 w os).abs from rfl, r]
    show (match staticsOk (importedModules p.main.body) (boot_heap w.params) s.abs.heap && namesBound p s.abs.heap && gensDone s.abs && laidKept (boot_heap w.params) s.abs.heap with | true => some s.abs | false => none) = _
    rw [l1]
  unfold openEnds
  rw [e1]
  show (topFrom treeTable p w N _).map _ = _
  rw [t]
  exact congrArg some (Prod.ext l2 l3)
end Mine
namespace Mine
def pickAt {α : Type} (l : List α) (is : List Nat) : List α := is.filterMap fun i => l[i]?
theorem text_laid : (Nat.beq PySem.Challenge.pw_yb0001_01.main.body.length 0).not = true := by k_qdec
def view : Program := { PySem.Challenge.pw_yb0001_01 with main := { PySem.Challenge.pw_yb0001_01.main with body := pickAt PySem.Challenge.pw_yb0001_01.main.body [0, 2, 3, 5, 6, 7, 8, 9, 10] } }
theorem run_sound (w : World) (os : OsState) : (topRunS (stepT (denote treeTable) PySem.Challenge.pw_yb0001_01 w) (stepOk 11 (some (.ref 6))) 3036 (boot0 w os) (topStub PySem.Challenge.pw_yb0001_01)).map (fun s => (staticsOk (importedModules PySem.Challenge.pw_yb0001_01.main.body) (boot_heap w.params) s.abs.heap && namesBound PySem.Challenge.pw_yb0001_01 s.abs.heap && gensDone s.abs && laidKept (boot_heap w.params) s.abs.heap,
    openSeen view [] (importedModules PySem.Challenge.pw_yb0001_01.main.body) (fun s => xlAt view [] s && recOk (RowW.records (OpenRow.toRowW PySem.Challenge.rw_yb0001_01.row)) s) true s.abs)) = some (true, openGood view []) := by
  unfold view
  rewrite [PySem.W.Fast.te10156331382660048174, PySem.W.Fast.te11892475500146522536, PySem.W.Fast.te6613529449190102663, PySem.W.Fast.te14364793385576792824, PySem.W.Fast.te4187177175401517315, PySem.W.Fast.te5923862056798008813]
  (try rewrite [PySem.W.Fast.te13909705888956508678])
  kernel_rfl
end Mine
local macro_rules | `(tactic| o_head $H) => `(tactic| (
  refine holds_open (q := Mine.view) (loose := []) (Xt := fun s => xlAt Mine.view [] s && recOk (RowW.records (OpenRow.toRowW PySem.Challenge.rw_yb0001_01.row)) s) (XP := XL Mine.view []) (Yf := Hook.obs $H) (Ya := Hook.val $H) (YP := Hook.says $H) (N := 3036) ?hl (Hook.of $H) (Hook.keeps $H) (fun s e => xl_of s (Bool.and_eq_true_iff.mp e).1) XL.keeps (by rfl) (by rfl) (by rfl) (fun s e => recFacts_of (Bool.and_eq_true_iff.mp e).2) (by rfl) (by first | assumption | decide +kernel) (by decide +kernel) ⟨rfl, rfl, rfl, rfl, rfl, by decide +kernel⟩ ?hw ?hc
  (case hl => exact Mine.leftO_tree (m₀ := 11) (ann := some (.ref 6)) (by rfl) (by decide +kernel) (fun _ => by rfl) (fun w => by kernel_rfl) Mine.run_sound (fun w os => by rewrite [PySem.W.Fast.te10156331382660048174, PySem.W.Fast.te11892475500146522536, PySem.W.Fast.te6613529449190102663, PySem.W.Fast.te14364793385576792824]; (try rewrite [PySem.W.Fast.te13909705888956508678]); kernel_rfl))))
namespace Mine
set_option maxHeartbeats 0 in
open_top hd for PySem.Challenge.rw_yb0001_01
end Mine
namespace Mine

/-- a frozen part: what stands for good -/
abbrev FM := Addr → Option Obj
def FM.put (g : FM) (a : Addr) (o : Obj) : FM := fun b => if b = a then some o else g b
def FM.le (g g' : FM) : Prop := ∀ a o, g a = some o → g' a = some o
def FM.on (g : FM) (h : Heap) : Prop := ∀ a o, g a = some o → h.get? a = some o
theorem FM.le.refl (g : FM) : g.le g := fun _ _ e => e
theorem FM.le.trans {g g' g'' : FM} (x : g.le g') (y : g'.le g'') : g.le g'' := fun a o e => y a o (x a o e)
theorem FM.put_self (g : FM) (a : Addr) (o : Obj) : g.put a o a = some o := if_pos rfl
theorem FM.put_le {g : FM} {a : Addr} {o : Obj} (n : g a = none) : g.le (g.put a o) := fun b p e => by
  unfold FM.put
  by_cases q : b = a
  · subst q; rw [n] at e; cases e
  · rw [if_neg q]; exact e

/-- what a run leaves of (frozen part, heap): all is kept but what stands at S -/
structure Ev (S : List Addr) (g : FM) (h : Heap) (g' : FM) (h' : Heap) : Prop where
  gg : g.le g'
  new : ∀ a o, g' a = some o → g a = some o ∨ h.get? a = none
  keep : ∀ a o, a ∉ S → h.get? a = some o → h'.get? a = some o
  live : ∀ a o, h.get? a = some o → ∃ o', h'.get? a = some o'
  on : g'.on h'

theorem Ev.refl {S : List Addr} {g : FM} {h : Heap} (x : g.on h) : Ev S g h g h := ⟨.refl g, fun _ _ e => .inl e, fun _ _ _ e => e, fun _ o e => ⟨o, e⟩, x⟩
theorem Ev.trans {S : List Addr} {g g' g'' : FM} {h h' h'' : Heap} (x : Ev S g h g' h') (y : Ev S g' h' g'' h'') : Ev S g h g'' h'' where
  gg := x.gg.trans y.gg
  new := fun a o e => (y.new a o e).elim (fun e => x.new a o e) fun e => by
    cases q : h.get? a with
    | none => exact .inr rfl
    | some o' => obtain ⟨o'', q'⟩ := x.live a o' q; rw [e] at q'; cases q'
  keep := fun a o n e => y.keep a o n (x.keep a o n e)
  live := fun a o e => let ⟨o', e'⟩ := x.live a o e; y.live a o' e'
  on := y.on
theorem Ev.mono {S S' : List Addr} {g g' : FM} {h h' : Heap} (x : Ev S g h g' h') (hs : ∀ a ∈ S, a ∈ S') : Ev S' g h g' h' :=
  ⟨x.gg, x.new, fun a o n e => x.keep a o (fun q => n (hs a q)) e, x.live, x.on⟩
theorem Ev.nil {S : List Addr} {g g' : FM} {h h' : Heap} (x : Ev [] g h g' h') : Ev S g h g' h' := x.mono fun _ q => nomatch q
theorem Ev.keeps {S : List Addr} {g : FM} {h h' : Heap} (x : g.on h) (k : ∀ a o, h.get? a = some o → h'.get? a = some o) : Ev S g h g h' :=
  ⟨.refl g, fun _ _ e => .inl e, fun a o _ e => k a o e, fun a o e => ⟨o, k a o e⟩, fun a o e => k a o (x a o e)⟩

def owns (env : Env) (mu : List (Addr × Obj)) : List Addr := env.locals :: (env.cells.map (·.2) ++ mu.map (·.1))
theorem owns_L {env : Env} {mu : List (Addr × Obj)} : env.locals ∈ owns env mu := .head _
theorem owns_cell {env : Env} {mu : List (Addr × Obj)} {x : Str} {c : Addr} (h : env.cells.lookup x = some c) : c ∈ owns env mu :=
  .tail _ (List.mem_append_left _ (List.mem_map.mpr ⟨(x, c), mem_of_lookup h, rfl⟩))
theorem owns_mu {env : Env} {mu : List (Addr × Obj)} {p : Addr × Obj} (h : p ∈ mu) : p.1 ∈ owns env mu :=
  .tail _ (List.mem_append_right _ (List.mem_map_of_mem h))

/-- the state within a frame -/
structure St (b : Heap) (S : List Addr) (g0 : FM) (h0 : Heap) (env : Env) (g : FM) (m mc : Str → Option Value) (mu : List (Addr × Obj)) (h : Heap) : Prop where
  ns : h.Ns env.locals m
  cell : ∀ x c, (x, c) ∈ env.cells → h.IsCell c (mc x)
  bg : ∀ a o, b.get? a = some o → g a = some o
  lo : b.objs.size ≤ env.locals
  ev : Ev S g0 h0 g h
  mus : ∀ p ∈ mu, h.get? p.1 = some p.2
  nd : (owns env mu).Nodup
  nn : (env.cells.map (·.1)).Nodup
  own : ∀ a ∈ owns env mu, g a = none ∧ (h0.get? a = none ∨ a ∈ S)

section
variable {b : Heap} {S : List Addr} {g0 : FM} {h0 : Heap} {env : Env} {g g' : FM} {m mc m' mc' : Str → Option Value} {mu mu' : List (Addr × Obj)} {h h' : Heap}

theorem St.on (H : St b S g0 h0 env g m mc mu h) : g.on h := H.ev.on
theorem St.base (H : St b S g0 h0 env g m mc mu h) : ∀ a o, b.get? a = some o → h.get? a = some o := fun a o e => H.on a o (H.bg a o e)

theorem St.liveO (H : St b S g0 h0 env g m mc mu h) {a : Addr} (ha : a ∈ owns env mu) : ∃ o, h.get? a = some o := by
  rcases List.mem_cons.mp ha with rfl | ha
  · obtain ⟨o, _, _, e, _⟩ := H.ns; exact ⟨o, e⟩
  · rcases List.mem_append.mp ha with ha | ha
    · obtain ⟨⟨x, c⟩, hc, rfl⟩ := List.mem_map.mp ha
      obtain ⟨o, e, _⟩ := H.cell x c hc; exact ⟨o, e⟩
    · obtain ⟨p, hp, rfl⟩ := List.mem_map.mp ha
      exact ⟨_, H.mus p hp⟩

theorem St.move (H : St b S g0 h0 env g m mc mu h) (e : Ev (owns env mu) g h g' h') (ns : h'.Ns env.locals m') (cell : ∀ x c, (x, c) ∈ env.cells → h'.IsCell c (mc' x))
    (mus : ∀ p ∈ mu', h'.get? p.1 = some p.2) (ad : mu'.map (·.1) = mu.map (·.1)) : St b S g0 h0 env g' m' mc' mu' h' := by
  have ow : owns env mu' = owns env mu := by unfold owns; rw [ad]
  refine ⟨ns, cell, fun a o q => e.gg a o (H.bg a o q), H.lo, ⟨H.ev.gg.trans e.gg, fun a o q => ?_, fun a o n q => ?_, fun a o q => ?_, e.on⟩, mus, ow ▸ H.nd, H.nn, fun a ha => ?_⟩
  · rcases e.new a o q with q | q
    · exact H.ev.new a o q
    · cases r : h0.get? a with
      | none => exact .inr rfl
      | some o' => obtain ⟨o'', r'⟩ := H.ev.live a o' r; rw [q] at r'; cases r'
  · refine e.keep a o (fun ha => ?_) (H.ev.keep a o n q)
    rcases (H.own a ha).2 with r | r
    · rw [q] at r; cases r
    · exact n r
  · obtain ⟨o', q'⟩ := H.ev.live a o q; exact e.live a o' q'
  · rw [ow] at ha
    refine ⟨?_, (H.own a ha).2⟩
    cases q : g' a with
    | none => rfl
    | some o =>
      rcases e.new a o q with q | q
      · rw [(H.own a ha).1] at q; cases q
      · obtain ⟨o', q'⟩ := H.liveO ha; rw [q] at q'; cases q'

/-- the base stands in the frozen part -/
structure Bg (b : Heap) (g : FM) (h : Heap) : Prop where
  bg : ∀ a o, b.get? a = some o → g a = some o
  lo : b.objs.size ≤ h.objs.size
  on : g.on h
theorem St.Bg (H : St b S g0 h0 env g m mc mu h) : Mine.Bg b g h :=
  ⟨H.bg, Nat.le_trans H.lo (Nat.le_of_lt (by obtain ⟨o, _, _, e, _⟩ := H.ns; exact Heap.lt_size e)), H.on⟩

/-- everything is kept, and nothing of the frame's turned -/
theorem St.keeps (H : St b S g0 h0 env g m mc mu h) (k : ∀ a o, h.get? a = some o → h'.get? a = some o) : St b S g0 h0 env g m mc mu h' :=
  H.move (Ev.keeps H.on k) (H.ns.keeps k) (fun x c hc => (H.cell x c hc).keeps k) (fun p hp => k _ _ (H.mus p hp)) rfl

/-- a call (or any step) that leaves alone what is the frame's own -/
theorem St.call {Sf : List Addr} (H : St b S g0 h0 env g m mc mu h) (e : Ev Sf g h g' h') (hS : ∀ a ∈ Sf, a ∈ mu.map (·.1)) (mus : ∀ p ∈ mu', h'.get? p.1 = some p.2) (ad : mu'.map (·.1) = mu.map (·.1)) :
    St b S g0 h0 env g' m mc mu' h' := by
  have nd := H.nd
  unfold owns at nd
  have hL : env.locals ∉ Sf := fun q => (List.nodup_cons.mp nd).1 (List.mem_append_right _ (hS _ q))
  have hC : ∀ x c, (x, c) ∈ env.cells → c ∉ Sf := fun x c hc q =>
    (List.nodup_append.mp (List.nodup_cons.mp nd).2).2.2 c (List.mem_map.mpr ⟨(x, c), hc, rfl⟩) c (hS c q) rfl
  refine H.move (e.mono fun a q => .tail _ (List.mem_append_right _ (hS a q))) ?_ (fun x c hc => ?_) mus ad
  · obtain ⟨o, es, ep, q, r⟩ := H.ns; exact ⟨o, es, ep, e.keep _ _ hL q, r⟩
  · obtain ⟨o, q, r⟩ := H.cell x c hc; exact ⟨o, e.keep _ _ (hC x c hc) q, r⟩
theorem St.call0 (H : St b S g0 h0 env g m mc mu h) (e : Ev [] g h g' h') : St b S g0 h0 env g' m mc mu h' :=
  H.call e (fun _ q => nomatch q) (fun p hp => e.keep _ _ (fun q => nomatch q) (H.mus p hp)) rfl

theorem St.setL (H : St b S g0 h0 env g m mc mu h) (hn : h'.Ns env.locals m') (hs : Heap.SameBut env.locals h h') : St b S g0 h0 env g m' mc mu h' := by
  have nd := H.nd
  unfold owns at nd
  have nL := (List.nodup_cons.mp nd).1
  have gL := (H.own _ owns_L).1
  refine H.move ⟨.refl g, fun _ _ e => .inl e, fun a o n e => hs.extBut a o (fun q => n (q ▸ owns_L)) e, fun a o e => ?_, fun a o e => hs.extBut a o (fun q => by subst q; rw [gL] at e; cases e) (H.on a o e)⟩ hn
    (fun x c hc => (H.cell x c hc).sameBut hs fun q => nL (q ▸ List.mem_append_left _ (List.mem_map.mpr ⟨(x, c), hc, rfl⟩)))
    (fun p hp => (hs.2 _ fun q => nL (q ▸ List.mem_append_right _ (List.mem_map_of_mem hp))).trans (H.mus p hp)) rfl
  by_cases q : a = env.locals
  · subst q; obtain ⟨o', _, _, e', _⟩ := hn; exact ⟨o', e'⟩
  · exact ⟨o, hs.extBut a o q e⟩

theorem cell_inj {cs : List (Str × Addr)} (nd : (cs.map (·.2)).Nodup) {x y : Str} {c : Addr} (h1 : (x, c) ∈ cs) (h2 : (y, c) ∈ cs) : x = y := by
  induction cs with
  | nil => cases h1
  | cons p r ih =>
    rw [List.map_cons, List.nodup_cons] at nd
    rcases List.mem_cons.mp h1 with e1 | e1 <;> rcases List.mem_cons.mp h2 with e2 | e2
    · rw [← e2] at e1; exact congrArg Prod.fst e1
    · exact absurd (List.mem_map.mpr ⟨(y, c), e2, by rw [← e1]⟩) nd.1
    · exact absurd (List.mem_map.mpr ⟨(x, c), e1, by rw [← e2]⟩) nd.1
    · exact ih nd.2 e1 e2

theorem cell_fun {cs : List (Str × Addr)} (nd : (cs.map (·.1)).Nodup) {x : Str} {c d : Addr} (h1 : (x, c) ∈ cs) (h2 : (x, d) ∈ cs) : c = d := by
  induction cs with
  | nil => cases h1
  | cons p r ih =>
    rw [List.map_cons, List.nodup_cons] at nd
    rcases List.mem_cons.mp h1 with e1 | e1 <;> rcases List.mem_cons.mp h2 with e2 | e2
    · rw [← e2] at e1; exact congrArg Prod.snd e1
    · exact absurd (List.mem_map.mpr ⟨(x, d), e2, by rw [← e1]⟩) nd.1
    · exact absurd (List.mem_map.mpr ⟨(x, c), e1, by rw [← e2]⟩) nd.1
    · exact ih nd.2 e1 e2

theorem St.setC (H : St b S g0 h0 env g m mc mu h) {x : Str} {c : Addr} {v : Option Value} (hc : (x, c) ∈ env.cells) (hn : h'.IsCell c v) (hs : Heap.SameBut c h h') :
    St b S g0 h0 env g m (fun y => if y = x then v else mc y) mu h' := by
  have nd := H.nd
  unfold owns at nd
  have hcm : c ∈ env.cells.map (·.2) := List.mem_map.mpr ⟨(x, c), hc, rfl⟩
  have hLc : env.locals ≠ c := fun q => (List.nodup_cons.mp nd).1 (q ▸ List.mem_append_left _ hcm)
  have ap := List.nodup_append.mp (List.nodup_cons.mp nd).2
  have ho : c ∈ owns env mu := .tail _ (List.mem_append_left _ hcm)
  have gc := (H.own _ ho).1
  refine H.move ⟨.refl g, fun _ _ e => .inl e, fun a o n e => hs.extBut a o (fun q => n (q ▸ ho)) e, fun a o e => ?_, fun a o e => hs.extBut a o (fun q => by subst q; rw [gc] at e; cases e) (H.on a o e)⟩ (H.ns.sameBut hs hLc)
    (fun y d hd => ?_) (fun p hp => (hs.2 _ fun q => ap.2.2 c hcm p.1 (List.mem_map_of_mem hp) q.symm).trans (H.mus p hp)) rfl
  · by_cases q : a = c
    · subst q; obtain ⟨o', e', _⟩ := hn; exact ⟨o', e'⟩
    · exact ⟨o, hs.extBut a o q e⟩
  · by_cases q : d = c
    · subst q
      have := cell_inj ap.1 hd hc
      subst this
      rw [if_pos rfl]; exact hn
    · have : y ≠ x := fun r => q (by subst r; exact cell_fun H.nn hd hc)
      rw [if_neg this]; exact (H.cell y d hd).sameBut hs q

/-- a new object, to be turned later -/
theorem St.alloc (H : St b S g0 h0 env g m mc mu h) {a : Addr} {o : Obj} (hf : h.get? a = none) (ha : h'.get? a = some o) (k : ∀ a o, h.get? a = some o → h'.get? a = some o) :
    St b S g0 h0 env g m mc ((a, o) :: mu) h' := by
  have no : a ∉ owns env mu := fun q => by obtain ⟨o', e⟩ := H.liveO q; rw [hf] at e; cases e
  have K := H.keeps k
  refine ⟨K.ns, K.cell, K.bg, K.lo, K.ev, fun p hp => ?_, ?_, H.nn, fun x hx => ?_⟩
  · rcases List.mem_cons.mp hp with rfl | hp
    · exact ha
    · exact K.mus p hp
  · have nd := H.nd
    unfold owns at nd no ⊢
    rw [List.map_cons]
    refine List.nodup_cons.mpr ⟨fun q => ?_, ?_⟩
    · rcases List.mem_append.mp q with q | q
      · exact (List.nodup_cons.mp nd).1 (List.mem_append_left _ q)
      · rcases List.mem_cons.mp q with q | q
        · exact no (q ▸ .head _)
        · exact (List.nodup_cons.mp nd).1 (List.mem_append_right _ q)
    · refine List.nodup_append.mpr ⟨(List.nodup_append.mp (List.nodup_cons.mp nd).2).1, List.nodup_cons.mpr ⟨fun q => no (.tail _ (List.mem_append_right _ q)), (List.nodup_append.mp (List.nodup_cons.mp nd).2).2.1⟩, fun x hx y hy e => ?_⟩
      rcases List.mem_cons.mp hy with q | q
      · subst e; subst q; exact no (.tail _ (List.mem_append_left _ hx))
      · exact (List.nodup_append.mp (List.nodup_cons.mp nd).2).2.2 x hx y q e
  · have : x = a ∨ x ∈ owns env mu := by
      unfold owns at hx ⊢
      rcases List.mem_cons.mp hx with q | q
      · exact .inr (q ▸ .head _)
      · rcases List.mem_append.mp q with q | q
        · exact .inr (.tail _ (List.mem_append_left _ q))
        · rcases List.mem_cons.mp q with q | q
          · exact .inl q
          · exact .inr (.tail _ (List.mem_append_right _ q))
    rcases this with rfl | q
    · refine ⟨?_, .inl ?_⟩
      · cases q : g x with
        | none => rfl
        | some o' => rw [H.on _ _ q] at hf; cases hf
      · cases q : h0.get? x with
        | none => rfl
        | some o' => obtain ⟨o'', e⟩ := H.ev.live _ _ q; rw [hf] at e; cases e
    · exact H.own x q

/-- a new object that stands for good -/
theorem St.allocG (H : St b S g0 h0 env g m mc mu h) {a : Addr} {o : Obj} (hf : h.get? a = none) (ha : h'.get? a = some o) (k : ∀ a o, h.get? a = some o → h'.get? a = some o) :
    St b S g0 h0 env (g.put a o) m mc mu h' ∧ g.le (g.put a o) := by
  have ga : g a = none := by
    cases q : g a with
    | none => rfl
    | some o' => rw [H.on _ _ q] at hf; cases hf
  have le := FM.put_le (o := o) ga
  refine ⟨H.call0 ⟨le, fun x p e => ?_, fun x p _ e => k x p e, fun x p e => ⟨p, k x p e⟩, fun x p e => ?_⟩, le⟩
  · unfold FM.put at e
    by_cases q : x = a
    · subst q; exact .inr hf
    · rw [if_neg q] at e; exact .inl e
  · unfold FM.put at e
    by_cases q : x = a
    · subst q; rw [if_pos rfl] at e; exact ha.trans e
    · rw [if_neg q] at e; exact k _ _ (H.on _ _ e)

/-- a turned object turns no more -/
theorem St.freeze {a : Addr} {o : Obj} (H : St b S g0 h0 env g m mc ((a, o) :: mu) h) (h0a : h0.get? a = none) : St b S g0 h0 env (g.put a o) m mc mu h ∧ g.le (g.put a o) := by
  have ho : a ∈ owns env ((a, o) :: mu) := owns_mu (p := (a, o)) (.head _)
  have ga := (H.own a ho).1
  have le := FM.put_le (o := o) ga
  have sub : ∀ x ∈ owns env mu, x ∈ owns env ((a, o) :: mu) := fun x hx => by
    unfold owns at hx ⊢
    rcases List.mem_cons.mp hx with q | q
    · exact q ▸ .head _
    · rcases List.mem_append.mp q with q | q
      · exact .tail _ (List.mem_append_left _ q)
      · exact .tail _ (List.mem_append_right _ (.tail _ q))
  have nd := H.nd
  have na : a ∉ owns env mu := fun q => by
    unfold owns at nd q
    rw [List.map_cons] at nd
    rcases List.mem_cons.mp q with q | q
    · exact (List.nodup_cons.mp nd).1 (q ▸ List.mem_append_right _ (.head _))
    · have nd := List.nodup_append.mp (List.nodup_cons.mp nd).2
      rcases List.mem_append.mp q with q | q
      · exact nd.2.2 a q a (.head _) rfl
      · exact (List.nodup_cons.mp nd.2.1).1 q
  refine ⟨⟨H.ns, H.cell, fun x p e => le x p (H.bg x p e), H.lo, ⟨H.ev.gg.trans le, fun x p e => ?_, H.ev.keep, H.ev.live, fun x p e => ?_⟩, fun p hp => H.mus p (.tail _ hp), ?_, H.nn, fun x hx => ⟨?_, (H.own x (sub x hx)).2⟩⟩, le⟩
  · unfold FM.put at e
    by_cases q : x = a
    · subst q; exact .inr h0a
    · rw [if_neg q] at e; exact H.ev.new x p e
  · unfold FM.put at e
    by_cases q : x = a
    · subst q; rw [if_pos rfl] at e; cases e; exact H.mus (x, o) (.head _)
    · rw [if_neg q] at e; exact H.on x p e
  · unfold owns at nd ⊢
    rw [List.map_cons] at nd
    have nd' := List.nodup_append.mp (List.nodup_cons.mp nd).2
    refine List.nodup_cons.mpr ⟨fun q => (List.nodup_cons.mp nd).1 ?_, List.nodup_append.mpr ⟨nd'.1, (List.nodup_cons.mp nd'.2.1).2, fun x hx y hy => nd'.2.2 x hx y (.tail _ hy)⟩⟩
    rcases List.mem_append.mp q with q | q
    · exact List.mem_append_left _ q
    · exact List.mem_append_right _ (.tail _ q)
  · unfold FM.put
    rw [if_neg (fun q : x = a => na (by rw [← q]; exact hx))]
    exact (H.own x (sub x hx)).1

theorem St.perm (H : St b S g0 h0 env g m mc mu h) (p : mu.Perm mu') : St b S g0 h0 env g m mc mu' h := by
  have po : (owns env mu).Perm (owns env mu') := List.Perm.cons _ (List.Perm.append_left _ (p.map _))
  exact ⟨H.ns, H.cell, H.bg, H.lo, H.ev, fun q hq => H.mus q (p.mem_iff.mpr hq), po.nodup_iff.mp H.nd, H.nn, fun a ha => H.own a (po.mem_iff.mpr ha)⟩

/-- what is turned no more and read no more -/
theorem St.drop {p : Addr × Obj} (H : St b S g0 h0 env g m mc (p :: mu) h) : St b S g0 h0 env g m mc mu h := by
  have sub : (owns env mu).Sublist (owns env (p :: mu)) := List.Sublist.cons_cons _ (List.Sublist.append_left (List.sublist_cons_self _ _) _)
  exact ⟨H.ns, H.cell, H.bg, H.lo, H.ev, fun q hq => H.mus q (.tail _ hq), H.nd.sublist sub, H.nn, fun a ha => H.own a (sub.subset ha)⟩

/-- one turned object, at the head -/
theorem St.upd {a : Addr} {o o' : Obj} (H : St b S g0 h0 env g m mc ((a, o) :: mu) h) (ha : h'.get? a = some o') (hs : Heap.ExtBut a h h') : St b S g0 h0 env g m mc ((a, o') :: mu) h' := by
  have ho : a ∈ owns env ((a, o) :: mu) := owns_mu (p := (a, o)) (.head _)
  have nd := H.nd
  refine H.call (Sf := [a]) ⟨.refl g, fun _ _ e => .inl e, fun x p n e => hs x p (fun q => n (q ▸ .head _)) e, fun x p e => ?_, fun x p e => hs x p (fun q => by subst q; rw [(H.own _ ho).1] at e; cases e) (H.on x p e)⟩
    (fun x hx => by rw [List.mem_singleton.mp hx]; exact .head _) (fun p hp => ?_) rfl
  · by_cases q : x = a
    · subst q; exact ⟨o', ha⟩
    · exact ⟨p, hs x p q e⟩
  · rcases List.mem_cons.mp hp with rfl | hp
    · exact ha
    · refine hs _ _ (fun q => ?_) (H.mus p (.tail _ hp))
      unfold owns at nd
      rw [List.map_cons] at nd
      exact (List.nodup_cons.mp (List.nodup_append.mp (List.nodup_cons.mp nd).2).2.1).1 (q ▸ (List.mem_map_of_mem (f := (·.1)) hp : p.1 ∈ mu.map (·.1)))
end
end Mine
namespace Mine

/-- room for n more frames -/
structure Ao (n : Nat) (A : Around) : Prop where
  hh : A.handled = none
  dp : A.depth + 10 * n ≤ 990
  un : A.units + 100 * n ≤ 9800
theorem Ao.le {n k : Nat} {A : Around} (x : Ao n A) (h : k ≤ n) : Ao k A := ⟨x.hh, by have := x.dp; omega, by have := x.un; omega⟩
theorem Ao.deeper {n : Nat} {A : Around} {env : Env} (x : Ao (n + 1) A) : Ao n (A.deeper env) :=
  ⟨x.hh, by have := x.dp; rw [depth_deeper]; omega, by have := x.un; rw [units_deeper]; omega⟩
theorem Ao.in1 {n : Nat} {A : Around} (x : Ao (n + 1) A) : Ao n A.in1 := ⟨x.hh, by have := x.dp; rw [depth_in1]; omega, by have := x.un; rw [units_in1]; omega⟩
theorem Ao.make {n : Nat} {A : Around} {C : Addr} {vals : List Value} {kw : List (Str × Value)} (x : Ao (n + 1) A) : Ao n (A.under (.builtin "type.__call__" ⟨.ref C :: vals, kw⟩)) := by
  refine ⟨x.hh, by have := x.dp; rw [depth_under_kw]; omega, ?_⟩
  have := x.un
  have e : (Code.builtin "type.__call__" ⟨.ref C :: vals, kw⟩).cUnits ≤ 10 := Nat.le_of_ble_eq_true rfl
  show A.units + (Code.builtin "type.__call__" ⟨.ref C :: vals, kw⟩).cUnits + _ ≤ _
  omega
theorem Ao.room {n : Nat} {A : Around} (x : Ao n A) : A.depth < recursionLimit := by have := x.dp; unfold recursionLimit; omega
theorem Ao.units {n : Nat} {A : Around} (x : Ao n A) : A.units < cLine := by have := x.un; unfold cLine; omega

/-- the text's own part and the top's facts, at the base -/
structure Wd (K : Frag) (p : Program) (loose : List Str) (mean : ExcName → Option Value) (mg mb : Str → Option Value) (b : Heap) : Prop where
  X : K.In b
  T : Top p loose mean mg mb b

section
variable {prog : Program} {w : World} {K : Frag} {p : Program} {loose : List Str} {mean : ExcName → Option Value} {mg mb : Str → Option Value} {b : Heap}
variable {S : List Addr} {g0 : FM} {h0 : Heap} {env : Env} {g : FM} {m mc : Str → Option Value} {mu : List (Addr × Obj)}
variable {M : Model} {A : Around} {s : Shared} {E : Value → Shared → Prop}

-- names
theorem ev_loc {x : Str} {pos : Pos} {v : Value} {Q : Value → Shared → Prop} (H : St b S g0 h0 env g m mc mu s.heap) (hv : m x = some v) (h : Q v s)
    (hk : env.scope.kind = .function := by with_unfolding_all rfl) (hl : env.kindOf x = some .local := by with_unfolding_all rfl) (hd : (x == ("__debug__" : Str)) = false := by decide) :
    wpAny M A (eval (.Name x pos) env) Q E s := wpAny_Name (wpAny_loadName_local hk hl H.ns hv h) hd
theorem ev_cell {x : Str} {pos : Pos} {c : Addr} {v : Value} {Q : Value → Shared → Prop} (H : St b S g0 h0 env g m mc mu s.heap) (hv : mc x = some v) (h : Q v s)
    (hk : env.scope.kind = .function := by with_unfolding_all rfl) (hl : env.kindOf x = some .cell := by with_unfolding_all rfl) (hc : env.cells.lookup x = some c := by with_unfolding_all rfl) (hd : (x == ("__debug__" : Str)) = false := by decide) :
    wpAny M A (eval (.Name x pos) env) Q E s := wpAny_Name (wpAny_loadName_cell hk hl hc (hv ▸ H.cell x c (mem_of_lookup hc)) h) hd
theorem ev_glob {x : Str} {pos : Pos} {v : Value} {Q : Value → Shared → Prop} (W : Wd K p loose mean mg mb b) (H : St b S g0 h0 env g m mc mu s.heap) (e : nsIn K mainGlobals x = some (some v)) (h : Q v s)
    (hg : env.globals = mainGlobals := by with_unfolding_all rfl) (hk : env.scope.kind = .function := by with_unfolding_all rfl) (hx : env.kindOf x = some .globalImplicit := by with_unfolding_all rfl) (hd : (x == ("__debug__" : Str)) = false := by decide) :
    wpAny M A (eval (.Name x pos) env) Q E s :=
  Name_function_global hk hx (loadGlobal_global (env := env) (by rw [hg]; exact W.T.g.keeps H.base) (mg_of W.X W.T.g e) h) hd
theorem ev_blt {x : Str} {pos : Pos} {v : Value} {Q : Value → Shared → Prop} (W : Wd K p loose mean mg mb b) (H : St b S g0 h0 env g m mc mu s.heap) (e : nsIn K mainGlobals x = some none) (hv : bootBuiltins x = some v) (h : Q v s)
    (hn : x ≠ "__name__" := by decide) (hg : env.globals = mainGlobals := by with_unfolding_all rfl) (hb : env.builtins = builtinsNs := by with_unfolding_all rfl) (hk : env.scope.kind = .function := by with_unfolding_all rfl) (hx : env.kindOf x = some .globalImplicit := by with_unfolding_all rfl)
    (hd : (x == ("__debug__" : Str)) = false := by decide) : wpAny M A (eval (.Name x pos) env) Q E s :=
  Name_function_global hk hx (loadGlobal_builtin (env := env) (by rw [hg]; exact W.T.g.keeps H.base) (mg_none_of W.X W.T.g e) (by rw [hb]; exact W.T.b.keeps H.base) ((W.T.builtins x hn).trans hv) h) hd

/-- a frame's names -/
def up (x : Str) (v : Value) (m : Str → Option Value) : Str → Option Value := fun y => if y = x then some v else m y
def no : Str → Option Value := fun _ => none

-- stores
theorem st_loc {x : Str} {v : Value} {Q : Unit → Shared → Prop} (H : St b S g0 h0 env g m mc mu s.heap)
    (h : ∀ h', St b S g0 h0 env g (up x v m) mc mu h' → Q () { s with heap := h', toks := s.toks + 1 })
    (hk : env.scope.kind = .function := by with_unfolding_all rfl) (hl : env.kindOf x = some .local := by with_unfolding_all rfl) : wpAny M A (storeName env x v) Q E s :=
  wpAny_storeName_local hl H.ns (fun h' hn hs => h h' (H.setL hn hs)) (by rw [hk]; rfl)
theorem st_cell {x : Str} {c : Addr} {v : Value} {Q : Unit → Shared → Prop} (H : St b S g0 h0 env g m mc mu s.heap)
    (h : ∀ h', St b S g0 h0 env g m (up x v mc) mu h' → Q () { s with heap := h' })
    (hk : env.scope.kind = .function := by with_unfolding_all rfl) (hl : env.kindOf x = some .cell := by with_unfolding_all rfl) (hc : env.cells.lookup x = some c := by with_unfolding_all rfl) : wpAny M A (storeName env x v) Q E s :=
  wpAny_storeName_cell hk hl hc (H.cell x c (mem_of_lookup hc)) fun h' hn hs => h h' (H.setC (mem_of_lookup hc) hn hs)

-- a def of the text's, called
theorem cells_nodup : ∀ (names : List (Str × NameKind)) (n : Nat) (acc : List (Str × Addr)), (acc.map (·.2)).Nodup → (∀ p ∈ acc, p.2 < n) → ((cellsFrom n names acc).map (·.2)).Nodup
  | [], _, _, h, _ => h
  | (x, k) :: r, n, acc, h, hb => by
    unfold cellsFrom
    split
    · refine cells_nodup r (n + 1) _ ?_ fun p hp => ?_
      · rw [List.map_cons]
        refine List.nodup_cons.mpr ⟨fun q => ?_, h⟩
        obtain ⟨p, hp, e⟩ := List.mem_map.mp q
        have := hb p hp
        exact absurd this (by rw [show p.2 = n from e]; exact Nat.lt_irrefl _)
      · rcases List.mem_cons.mp hp with rfl | hp
        · exact Nat.lt_succ_self _
        · exact Nat.lt_succ_of_lt (hb p hp)
    · exact cells_nodup r n acc h hb
theorem cells_ge : ∀ (names : List (Str × NameKind)) (n lo : Nat) (acc : List (Str × Addr)), lo ≤ n → (∀ p ∈ acc, lo ≤ p.2) → ∀ p ∈ cellsFrom n names acc, lo ≤ p.2
  | [], _, _, _, _, hb => hb
  | (x, k) :: r, n, lo, acc, hn, hb => by
    unfold cellsFrom
    split
    · refine cells_ge r (n + 1) lo _ (Nat.le_succ_of_le hn) fun p hp => ?_
      rcases List.mem_cons.mp hp with rfl | hp
      · exact hn
      · exact hb p hp
    · exact cells_ge r n lo acc hn hb
theorem cells_names : ∀ (names : List (Str × NameKind)) (n k : Nat) (acc acc' : List (Str × Addr)), acc.map (·.1) = acc'.map (·.1) → (cellsFrom n names acc).map (·.1) = (cellsFrom k names acc').map (·.1)
  | [], _, _, _, _, h => h
  | (x, kd) :: r, n, k, acc, acc', h => by
    unfold cellsFrom
    split
    · exact cells_names r _ _ _ _ (by rw [List.map_cons, List.map_cons, h])
    · exact cells_names r _ _ _ _ h

theorem enter {name qual : Str} {params : Arguments} {body : List Stmt} {scope : Scope} {dV kV doc pm cdv ct oc : Value} {an od : Option Addr} {osl : Array (Option Value)} {f : Addr} {pos : List Value} {kw : List (Str × Value)} {binds : List (Str × Value)} {n : Nat} {R : Result → Shared → Prop}
    (W : Wd K p loose mean mg mb b) (hB : Bg b g s.heap) (hA : Ao (n + 1) A)
    (ho : K.lookup f = some ⟨oc, od, .func (fnOf name qual params body scope dV kV doc pm an cdv ct), osl⟩) (hcd : codeIn K cdv qual = true)
    (hbind : BindsTo s (fnOf name qual params body scope dV kV doc pm an cdv ct) ⟨pos, kw⟩ binds)
    (hkind : (binds.all fun y => scope.names.lookup y.1 == some .local || scope.names.lookup y.1 == some .cell) = true)
    (hnd : ((cellsFrom 0 scope.names []).map (·.1)).Nodup)
    (hmu : ∀ q ∈ mu, s.heap.get? q.1 = some q.2 ∧ g q.1 = none) (ndm : (mu.map (·.1)).Nodup)
    (hm : ∀ L, bindL (envOfC qual scope L f cdv).kindOf binds (fun _ => none) = m) (hmc : ∀ L, bindC (envOfC qual scope L f cdv).kindOf binds (fun _ => none) = mc)
    (h : ∀ L h₁ tk E', Ao n (A.deeper (envOfC qual scope L f cdv)) → St b (mu.map (·.1)) g s.heap (envOfC qual scope L f cdv) g m mc mu h₁ →
      wpAny (model prog w) (A.deeper (envOfC qual scope L f cdv)) (execs body (envOfC qual scope L f cdv)) (fun fl s' => R (.ok (.ret (match fl with | .ret v => v | _ => .none))) s') E' { s with heap := h₁, toks := tk })
    (hco : scope.isCoroutine = false := by with_unfolding_all rfl) (hgen : scope.isGenerator = false := by with_unfolding_all rfl) (hk : scope.kind = .function := by with_unfolding_all rfl) :
    codeAny (model prog w) A (.call (.ref f) ⟨pos, kw⟩) R s := by
  obtain ⟨hbg, hlo, on⟩ := hB
  have up : ∀ a o, b.get? a = some o → s.heap.get? a = some o := fun a o e => on a o (hbg a o e)
  refine codeAny_call_function hA.room (up _ _ (W.X _ _ ho)) rfl hco hgen rfl (codeRec_of (W.X.keeps up) hcd) (hbind _ _ _ _ ?_)
  refine wpAny_newFunctionEnv_cells hk (kindsX hkind _) fun env' he s' x => ?_
  subst he
  refine ⟨(W.T.nolimit.keeps up).keeps x.toInCall.keep, codeAny_func ?_⟩
  obtain ⟨h₁, tk, rfl⟩ := x.toInCall.same
  have keep := x.toInCall.keep
  have fresh : ∀ (a : Addr) (o : Obj), s.heap.get? a = some o → a < s.heap.objs.size := fun a o e => Heap.lt_size e
  have cge := cells_ge scope.names (s.heap.objs.size + 1) (s.heap.objs.size + 1) [] (Nat.le_refl _) (fun _ q => nomatch q)
  have none_of : ∀ a, s.heap.objs.size ≤ a → s.heap.get? a = none := fun a ha => by
    cases q : s.heap.get? a with
    | none => rfl
    | some o => exact absurd (fresh a o q) (Nat.not_lt.mpr ha)
  have gnone : ∀ a, s.heap.get? a = none → g a = none := fun a ha => by
    cases q : g a with
    | none => rfl
    | some o => rw [on a o q] at ha; cases ha
  have H : St b (mu.map (·.1)) g s.heap (envOfC qual scope s.heap.objs.size f cdv) g (bindL (envOfC qual scope s.heap.objs.size f cdv).kindOf binds fun _ => none) (bindC (envOfC qual scope s.heap.objs.size f cdv).kindOf binds fun _ => none) mu h₁ := by
    refine ⟨x.toInCall.ns, fun y c hc => ?_, hbg, hlo, Ev.keeps on keep, fun q hq => keep _ _ (hmu q hq).1, ?_, ?_, fun a ha => ?_⟩
    · have nn : ((cellsFrom (s.heap.objs.size + 1) scope.names []).map (·.1)).Nodup := by rw [cells_names scope.names _ 0 [] [] rfl]; exact hnd
      have hl : (cellsFrom (s.heap.objs.size + 1) scope.names []).lookup y = some c := by
        cases q : (cellsFrom (s.heap.objs.size + 1) scope.names []).lookup y with
        | none => exact absurd (List.lookup_eq_none_iff.mp q _ hc) (by simp)
        | some d => rw [cell_fun nn (mem_of_lookup q) hc]
      exact x.cell y c hl
    · show (s.heap.objs.size :: ((cellsFrom (s.heap.objs.size + 1) scope.names []).map (·.2) ++ mu.map (·.1))).Nodup
      refine List.nodup_cons.mpr ⟨fun q => ?_, List.nodup_append.mpr ⟨cells_nodup _ _ _ List.nodup_nil (fun _ q => nomatch q), ndm, fun y hy z hz e => ?_⟩⟩
      · rcases List.mem_append.mp q with q | q
        · obtain ⟨pr, hp, e⟩ := List.mem_map.mp q
          have := cge pr hp
          omega
        · obtain ⟨pr, hp, e⟩ := List.mem_map.mp q
          have := fresh _ _ (hmu pr hp).1
          exact absurd this (by rw [show pr.1 = s.heap.objs.size from e]; exact Nat.lt_irrefl _)
      · obtain ⟨pr, hp, e1⟩ := List.mem_map.mp hy
        obtain ⟨pr', hp', e2⟩ := List.mem_map.mp hz
        have h1 := cge pr hp
        have h2 := fresh _ _ (hmu pr' hp').1
        have e3 : pr.2 = pr'.1 := by rw [show pr.2 = y from e1, show pr'.1 = z from e2]; exact e
        rw [← e3] at h2
        exact absurd h2 (Nat.not_lt.mpr (Nat.le_of_succ_le h1))
    · show ((cellsFrom (s.heap.objs.size + 1) scope.names []).map (·.1)).Nodup
      rw [cells_names scope.names _ 0 [] [] rfl]; exact hnd
    · rcases List.mem_cons.mp ha with rfl | ha
      · have := none_of _ (Nat.le_refl _)
        exact ⟨gnone _ this, .inl this⟩
      · rcases List.mem_append.mp ha with ha | ha
        · obtain ⟨pr, hp, rfl⟩ := List.mem_map.mp ha
          have := none_of pr.2 (Nat.le_of_succ_le (cge pr hp))
          exact ⟨gnone _ this, .inl this⟩
        · obtain ⟨pr, hp, rfl⟩ := List.mem_map.mp ha
          exact ⟨(hmu pr hp).2, .inr (List.mem_map_of_mem hp)⟩
  exact h _ h₁ tk _ hA.deeper (hm s.heap.objs.size ▸ hmc s.heap.objs.size ▸ H)

end
end Mine
namespace Mine

/-- all that a heap holds, but ex: so that the library's rules over a ledger keep it -/
def restOf (h : Heap) (ex : List Addr) : List (Addr × Obj) := (List.range h.objs.size).filterMap fun a => if ex.contains a then none else (h.get? a).map fun o => (a, o)
theorem mem_restOf {h : Heap} {ex : List Addr} {q : Addr × Obj} : q ∈ restOf h ex ↔ q.1 ∉ ex ∧ h.get? q.1 = some q.2 := by
  unfold restOf
  rw [List.mem_filterMap]
  constructor
  · rintro ⟨a, ha, e⟩
    split at e
    · cases e
    · rename_i n
      obtain ⟨o, ho, rfl⟩ := Option.map_eq_some_iff.mp e
      exact ⟨by simpa using n, ho⟩
  · rintro ⟨n, e⟩
    refine ⟨q.1, List.mem_range.mpr (Heap.lt_size e), ?_⟩
    rw [if_neg (by simpa using n), e]
    rfl

def noHeap : Heap := {}
theorem noHeap_get (a : Addr) : noHeap.get? a = none := rfl
theorem frame0 {h : Heap} {L : Addr} {m : Str → Option Value} (hn : h.Ns L m) : Fr noHeap L h m := ⟨hn, fun a o e => by rw [noHeap_get] at e; (cases e), Nat.zero_le _⟩
theorem news0 {h : Heap} {L : Addr} {ex : List Addr} (hL : L ∈ ex) : News noHeap L h (restOf h ex) := fun _ hq =>
  let ⟨n, e⟩ := mem_restOf.mp hq
  ⟨e, fun q => n (q ▸ hL), rfl⟩

def Inst (g : FM) (x C : Addr) (es : List DictEntry) : Prop := ∃ d n, g x = some (instObj C d) ∧ g d = some (dictOf es n)
theorem Inst.mono {g g' : FM} {x C : Addr} {es : List DictEntry} (I : Inst g x C es) (le : g.le g') : Inst g' x C es := let ⟨d, n, a, c⟩ := I; ⟨d, n, le _ _ a, le _ _ c⟩
theorem Inst.at_ {h : Heap} {x C : Addr} {es : List DictEntry} (I : Inst h.get? x C es) : ∃ d n, InstAt h x (instObj C d) C (some (dictOf es n)) := by
  obtain ⟨d, n, a, c⟩ := I
  exact ⟨d, n, a, rfl, rfl, c⟩
theorem FM.on.le {g : FM} {h : Heap} (x : g.on h) : g.le h.get? := x

section
variable {prog : Program} {w : World} {K : Frag} {p : Program} {loose : List Str} {mean : ExcName → Option Value} {mg mb : Str → Option Value} {b : Heap}
variable {S : List Addr} {g0 : FM} {h0 : Heap} {env : Env} {g : FM} {m mc : Str → Option Value} {mu : List (Addr × Obj)}
variable {A : Around} {s : Shared} {E : Value → Shared → Prop}

theorem St.X (H : St b S g0 h0 env g m mc mu s.heap) (W : Wd K p loose mean mg mb b) : K.In s.heap := W.X.keeps H.base

/-- what an object holds itself -/
theorem ga_own {x C : Addr} {name : Str} {es : List DictEntry} {v : Value} {attr : Option Value} {expr : Bool} {Q : Value → Shared → Prop} (X : K.In s.heap) (I : Inst s.heap.get? x C es)
    (hg : plainGet K C name = true) (hh : hasDictIn K C = true) (ha : findIn K (.ref C) name = some attr) (hn : noGet K attr = true) (hl : getL name es = some (some v)) (hv : handedIn v = true) (h : Q v { s with toks := s.toks + 1 }) :
    wpAny (model prog w) A (getAttr (.ref x) name expr) Q E s := by
  obtain ⟨d, n, J⟩ := I.at_
  exact get_value X J (plainGet_of hg).1 (findObj_own hh ha hn hl) hv h
/-- a method, looked up for a call -/
theorem gm_fn {x C : Addr} {name : Str} {es : List DictEntry} {f : Addr} {pl : Sem Bool} {Q : Value × List Value → Shared → Prop} (X : K.In s.heap) (I : Inst s.heap.get? x C es)
    (hg : plainGet K C name = true) (hf : findIn K (.ref C) name = some (some (.ref f))) (ht : isFn K (.ref f) = true) (hl : getL name es = some none) (h : Q (.ref f, [.ref x]) s) :
    wpAny (model prog w) A (getMethod (.ref x) name pl) Q E s := by
  obtain ⟨d, n, J⟩ := I.at_
  exact method_fn X J (plainGet_of hg).1 (plainGet_of hg).2 hf (beq_iff_eq.mp ht) (by show (lookIn name (dictOf es n)).map _ = _; rw [lookIn_dict, hl]; rfl) h
/-- a property -/
theorem ga_prop {x C : Addr} {name : Str} {es : List DictEntry} {pa fget : Addr} {rest : List Value} {expr : Bool} {Q : Value → Shared → Prop} (X : K.In s.heap) (I : Inst s.heap.get? x C es)
    (hg : plainGet K C name = true) (hh : hasDictIn K C = true) (ha : findIn K (.ref C) name = some (some (.ref pa))) (hn : specialIn K (.ref pa) "__get__" = some (some (.builtin "property.__get__"))) (ht : takesIn K (.ref pa) = some true)
    (hp : recIn K pa "property" = some (.ref fget :: rest))
    (h : codeAny (model prog w) A.in1 (.call (.ref fget) ⟨[.ref x], []⟩) (fun r s' => match r with | .ok (.ret v) => wpAny (model prog w) A (handedOut v) Q E s' | .ok _ => False | .error e => wpAny (model prog w) A (noteIf true (.ref x) (.str name s.toks) e) (fun _ s'' => E e s'') E s') { s with toks := s.toks + 1 }) :
    wpAny (model prog w) A (getAttr (.ref x) name expr) Q E s := by
  obtain ⟨d, n, J⟩ := I.at_
  exact get_bind X J (plainGet_of hg).1 (findObj_data (by obtain ⟨cd, hc, _⟩ := any_some hh; rw [hc]; rfl) ha hn ht) (plainGet_of hg).2 (wpAny_call (prop_get (s := { s with toks := s.toks + 1 }) X hp h))

/-- a store into an object that the frame made -/
theorem sa_own {x C dx : Addr} {name : Str} {es es' : List DictEntry} {n n' : Nat} {v : Value} {Q : Unit → Shared → Prop} (W : Wd K p loose mean mg mb b) (H : St b S g0 h0 env g m mc ((dx, dictOf es n) :: mu) s.heap)
    (hx : s.heap.get? x = some (instObj C dx)) (hs : findIn K (.ref C) "__setattr__" = some (some (.builtin "object.__setattr__"))) (hp : plainOver K C = true) (ht : takerIn K C name = some none) (hh : hasDictIn K C = true)
    (hl : (getL name es).isSome = true) (e : (putL name (PyData.keyHash w.params name) (.str name (s.toks + 1)) v es, putN name es n) = (es', n')) (hz : es'.length ≤ 1000)
    (h : ∀ h', St b S g0 h0 env g m mc ((dx, dictOf es' n') :: mu) h' → Q () { s with heap := h', toks := s.toks + 2 }) : wpAny (model prog w) A (setAttr (.ref x) name v) Q E s := by
  have hd : s.heap.get? dx = some (dictOf es n) := H.mus (dx, dictOf es n) (.head _)
  have hne : dx ≠ env.locals := fun q => by
    have := H.nd; unfold owns at this
    exact (List.nodup_cons.mp this).1 (List.mem_append_right _ (q ▸ .head _))
  have I : InstAt s.heap x (instObj C dx) C (some (dictOf es n)) := ⟨hx, rfl, rfl, hd⟩
  have X := H.X W
  obtain ⟨e1, e2⟩ := Prod.mk.inj e
  refine set_plain X I hs ?_
  refine osa_dict (s := { s with toks := s.toks + 1 }) (pre := []) (post := restOf s.heap [env.locals, dx]) (od' := dictOf es' n') (es := es') (n := n') (frame0 H.ns) (fun q hq => ?_) X I rfl hp ht hh hl (fun _ q => nomatch q) (fun q hq r => ?_) (by rw [putName_dict, e1, e2]) rfl hz fun h' F' N' => ?_
  · rcases List.mem_cons.mp hq with rfl | hq
    · exact ⟨hd, hne, rfl⟩
    · exact news0 (.head _) q hq
  · exact (mem_restOf.mp hq).1 (r ▸ .tail _ (.head _))
  · refine h h' ?_
    have hd' := (N' (dx, dictOf es' n') (.head _)).1
    have kp : ∀ a o, a ≠ env.locals → a ≠ dx → s.heap.get? a = some o → h'.get? a = some o := fun a o n1 n2 q =>
      (N' (a, o) (.tail _ (mem_restOf.mpr ⟨by simp [n1, n2], q⟩))).1
    have nd := H.nd
    have gdx := (H.own dx (owns_mu (p := (dx, dictOf es n)) (.head _))).1
    have gL := (H.own env.locals owns_L).1
    refine H.move (mu' := (dx, dictOf es' n') :: mu) ⟨.refl g, fun _ _ q => .inl q, fun a o na q => kp a o (fun r => na (r ▸ owns_L)) (fun r => na (by subst r; exact owns_mu (p := (a, dictOf es n)) (.head _))) q, fun a o q => ?_,
      fun a o q => kp a o (fun r => by subst r; rw [gL] at q; cases q) (fun r => by subst r; rw [gdx] at q; cases q) (H.on a o q)⟩ F'.ns (fun y c hc => ?_) (fun q hq => ?_) rfl
    · by_cases q1 : a = env.locals
      · subst q1; obtain ⟨o', _, _, e', _⟩ := F'.ns; exact ⟨o', e'⟩
      · by_cases q2 : a = dx
        · subst q2; exact ⟨_, hd'⟩
        · exact ⟨o, kp a o q1 q2 q⟩
    · obtain ⟨o, ho, hcd⟩ := H.cell y c hc
      unfold owns at nd
      rw [List.map_cons] at nd
      have hcm : c ∈ env.cells.map (·.2) := List.mem_map.mpr ⟨(y, c), hc, rfl⟩
      exact ⟨o, kp c o (fun r => (List.nodup_cons.mp nd).1 (r ▸ List.mem_append_left _ hcm)) (fun r => (List.nodup_append.mp (List.nodup_cons.mp nd).2).2.2 c hcm dx (.head _) r) ho, hcd⟩
    · rcases List.mem_cons.mp hq with rfl | hq
      · exact hd'
      · unfold owns at nd
        rw [List.map_cons] at nd
        refine kp q.1 q.2 (fun r => (List.nodup_cons.mp nd).1 (r ▸ List.mem_append_right _ (.tail _ (List.mem_map_of_mem hq)))) (fun r => ?_) (H.mus q (.tail _ hq))
        exact (List.nodup_cons.mp (List.nodup_append.mp (List.nodup_cons.mp nd).2).2.1).1 (r ▸ (List.mem_map_of_mem (f := (·.1)) hq : q.1 ∈ mu.map (·.1)))

/-- an object made -/
theorem mk_inst {C fI : Addr} {rest : List Value} {kw : List (Str × Value)} {Q : Value → Shared → Prop} (X : K.In s.heap) (on : g.on s.heap) (hm : makesIn K C = true) (hi : findIn K (.ref C) "__init__" = some (some (.ref fI))) (hf : isFn K (.ref fI) = true)
    (h : ∀ x dx h', s.heap.get? x = none → s.heap.get? dx = none → x ≠ dx → h'.get? x = some (instObj C dx) → h'.get? dx = some (dictOf [] 0) → (∀ a o, s.heap.get? a = some o → h'.get? a = some o) → s.heap.objs.size ≤ h'.objs.size →
      codeAny (model prog w) (A.under (.builtin "type.__call__" ⟨.ref C :: rest, kw⟩)) (.call (.ref fI) ⟨.ref x :: rest, kw⟩) (fun r s' => match r with | .ok (.ret v) => v = .none ∧ Q (.ref x) s' | .ok _ => False | .error e => E e s') { s with heap := h' }) :
    wpAny (model prog w) A (call (.ref C) rest kw) Q E s := by
  refine wpAny_call ?_
  obtain ⟨hh, gn, d, t, os⟩ := s
  have none_of : ∀ a, hh.objs.size ≤ a → hh.get? a = none := fun a ha => by
    cases q : hh.get? a with
    | none => rfl
    | some o => exact absurd (Heap.lt_size q) (Nat.not_lt.mpr ha)
  refine make_core (makes_of X hm) (looks_findIn X hi) (fun self => bind_fn X self (beq_iff_eq.mp hf)) (.inl rfl) (codeAny_mono (h (hh.objs.size + 1) hh.objs.size _ (none_of _ (Nat.le_succ _)) (none_of _ (Nat.le_refl _)) (Nat.succ_ne_self _) ?_ ?_ ?_ ?_) fun r s' z => z)
  · have := Heap.get?_push_size (hh.push emptyDict) (o := instObj C hh.objs.size) rfl
    rwa [Heap.size_push] at this
  · exact Heap.get?_push_of_some _ (Heap.get?_push_size _ rfl)
  · exact fun a o q => Heap.get?_push_of_some _ (Heap.get?_push_of_some _ q)
  · show hh.objs.size ≤ ((hh.push emptyDict).push _).objs.size
    rw [Heap.size_push, Heap.size_push]; exact Nat.le_add_right _ 2
end
end Mine
namespace Mine

section
variable {b : Heap} {S : List Addr} {g0 : FM} {h0 : Heap} {env : Env} {g : FM} {m mc : Str → Option Value} {mu : List (Addr × Obj)} {h h' : Heap}
theorem St.updAt {pre post : List (Addr × Obj)} {a : Addr} {o o' : Obj} (H : St b S g0 h0 env g m mc (pre ++ (a, o) :: post) h) (ha : h'.get? a = some o') (hs : Heap.ExtBut a h h') :
    St b S g0 h0 env g m mc (pre ++ (a, o') :: post) h' :=
  ((H.perm List.perm_middle).upd ha hs).perm List.perm_middle.symm
theorem St.muAt {pre post : List (Addr × Obj)} {a : Addr} {o : Obj} (H : St b S g0 h0 env g m mc (pre ++ (a, o) :: post) h) : h.get? a = some o := H.mus (a, o) (List.mem_append_right _ (.head _))
theorem St.ne_of_mu {a : Addr} {o : Obj} (H : St b S g0 h0 env g m mc ((a, o) :: mu) h) : ∀ x ∈ owns env mu, x ≠ a := by
  have nd := H.nd
  intro x hx q
  subst q
  unfold owns at nd hx
  rw [List.map_cons] at nd
  have nd2 := List.nodup_append.mp (List.nodup_cons.mp nd).2
  rcases List.mem_cons.mp hx with q | q
  · exact (List.nodup_cons.mp nd).1 (q ▸ List.mem_append_right _ (.head _))
  · rcases List.mem_append.mp q with q | q
    · exact nd2.2.2 x q x (.head _) rfl
    · exact (List.nodup_cons.mp nd2.2.1).1 q
/-- junk, turned or gone -/
theorem St.dropJunk {a : Addr} {o : Obj} (H : St b S g0 h0 env g m mc ((a, o) :: mu) h) (h0a : h0.get? a = none) (kp : ∀ x p, x ≠ a → h.get? x = some p → h'.get? x = some p) : St b S g0 h0 env g m mc mu h' := by
  have ne := H.ne_of_mu
  have ga := (H.own a (owns_mu (p := (a, o)) (.head _))).1
  have D := H.drop
  refine ⟨?_, fun x c hc => ?_, D.bg, D.lo, ⟨D.ev.gg, D.ev.new, fun x p n e => kp x p (fun q => by subst q; rw [h0a] at e; cases e) (D.ev.keep x p n e), fun x p e => ?_, fun x p e => kp x p (fun q => by subst q; rw [ga] at e; cases e) (D.on x p e)⟩,
    fun p hp => kp _ _ (ne _ (owns_mu hp)) (D.mus p hp), D.nd, D.nn, D.own⟩
  · obtain ⟨oL, es, ep, e, r⟩ := D.ns; exact ⟨oL, es, ep, kp _ _ (ne _ owns_L) e, r⟩
  · obtain ⟨oc, e, r⟩ := D.cell x c hc
    exact ⟨oc, kp _ _ (ne _ (.tail _ (List.mem_append_left _ (List.mem_map.mpr ⟨(x, c), hc, rfl⟩)))) e, r⟩
  · obtain ⟨p', e'⟩ := D.ev.live x p e
    exact ⟨p', kp x p' (fun q => by subst q; rw [h0a] at e; cases e) e'⟩
theorem St.adopt (H : St b S g0 h0 env g m mc mu h) {a : Addr} {o : Obj} (ha : h.get? a = some o) (na : a ∉ owns env mu) (ga : g a = none) (h0a : h0.get? a = none) : St b S g0 h0 env g m mc ((a, o) :: mu) h := by
  refine ⟨H.ns, H.cell, H.bg, H.lo, H.ev, fun p hp => ?_, ?_, H.nn, fun x hx => ?_⟩
  · rcases List.mem_cons.mp hp with rfl | hp
    · exact ha
    · exact H.mus p hp
  · have nd := H.nd
    unfold owns at nd na ⊢
    rw [List.map_cons]
    refine List.nodup_cons.mpr ⟨fun q => ?_, ?_⟩
    · rcases List.mem_append.mp q with q | q
      · exact (List.nodup_cons.mp nd).1 (List.mem_append_left _ q)
      · rcases List.mem_cons.mp q with q | q
        · exact na (q ▸ .head _)
        · exact (List.nodup_cons.mp nd).1 (List.mem_append_right _ q)
    · refine List.nodup_append.mpr ⟨(List.nodup_append.mp (List.nodup_cons.mp nd).2).1, List.nodup_cons.mpr ⟨fun q => na (.tail _ (List.mem_append_right _ q)), (List.nodup_append.mp (List.nodup_cons.mp nd).2).2.1⟩, fun x hx y hy e => ?_⟩
      rcases List.mem_cons.mp hy with q | q
      · subst e; subst q; exact na (.tail _ (List.mem_append_left _ hx))
      · exact (List.nodup_append.mp (List.nodup_cons.mp nd).2).2.2 x hx y q e
  · have : x = a ∨ x ∈ owns env mu := by
      unfold owns at hx ⊢
      rcases List.mem_cons.mp hx with q | q
      · exact .inr (q ▸ .head _)
      · rcases List.mem_append.mp q with q | q
        · exact .inr (.tail _ (List.mem_append_left _ q))
        · rcases List.mem_cons.mp q with q | q
          · exact .inl q
          · exact .inr (.tail _ (List.mem_append_right _ q))
    rcases this with rfl | q
    · exact ⟨ga, .inl h0a⟩
    · exact H.own x q
theorem none_of_ge {h : Heap} {a : Addr} (ha : h.objs.size ≤ a) : h.get? a = none := by
  cases q : h.get? a with
  | none => rfl
  | some o => exact absurd (Heap.lt_size q) (Nat.not_lt.mpr ha)
theorem St.ns_ne (H : St b S g0 h0 env g m mc mu h) {a : Addr} (ha : h.get? a = none) : env.locals ≠ a := fun q => by
  obtain ⟨o, e⟩ := H.liveO owns_L; rw [q, ha] at e; cases e
end

/-- what is iterated: n items, each as P says -/
def Src (prog : Program) (w : World) (A : Around) (n : Nat) (P : Nat → Value → Prop) (g : FM) (xv : Value) (h : Heap) : Prop :=
  ∀ (s : Shared) (Q : Value → Shared → Prop) (E : Value → Shared → Prop), s.heap = h →
    (∀ I fp Ws h', Walks prog w A I fp [I] n P Ws → Ws 0 h' → (∀ i h, Ws i h → ∃ o, h.get? I = some o) → h.get? I = none → (∀ a ∈ fp, a ≠ I → ∃ o, g a = some o) →
      (∀ a o, h.get? a = some o → h'.get? a = some o) → h.objs.size ≤ h'.objs.size → Q (.ref I) { s with heap := h' }) → wpAny (model prog w) A (pyIter xv) Q E s

section
variable {prog : Program} {w : World} {A : Around} {g : FM} {h : Heap}
theorem Src.range (hh : A.handled = none) {r : Addr} {a c : Int} {t u v : Tok} (hr : IsRange h r a c 1 t u v) (hsmall : Builtin.Range.small a c 1 = true) (hac : a ≤ c) :
    Src prog w A (c - a).toNat (fun i v => ∃ t, v = .int (a + i) t) g (.ref r) h := by
  intro s Q E hs k
  subst hs
  refine wpAny_pyIter_range hr hsmall ?_
  have hsz : Builtin.Range.rangeSize a c 1 = ((c - a).toNat : Int) := by
    rw [rangeSize_one]; split <;> omega
  have W := Walks.range (prog := prog) (w := w) hh s.heap.objs.size a 1 (c - a).toNat
  refine k s.heap.objs.size [s.heap.objs.size] _ _ ⟨W.sub, W.frame, fun i s Q E hi st hQ => W.item i s Q E hi st fun v h' tk hp => hQ v h' tk (by obtain ⟨t, e⟩ := hp; exact ⟨t, by rw [e, Int.mul_one]⟩), W.done, W.self⟩ ?_ (fun i h e => ⟨_, e⟩)
    (none_of_ge (Nat.le_refl _)) (fun x hx n => absurd (List.mem_singleton.mp hx) n) (fun _ _ e => Heap.get?_push_of_some _ e) (by rw [Heap.size_push]; exact Nat.le_succ _)
  have e1 : (a + ((0 : Nat) : Int) * 1) = a := by simp
  have e2 : (((c - a).toNat : Int) - ((0 : Nat) : Int)) = Builtin.Range.rangeSize a c 1 := by rw [hsz]; simp
  show IsRangeIter _ _ (a + ((0 : Nat) : Int) * 1) (((c - a).toNat : Int) - ((0 : Nat) : Int)) 1
  rw [e1, e2]
  exact Heap.get?_push_size _ rfl

/-- a list that stands for good -/
theorem Src.list (hh : A.handled = none) {l : Addr} {o : Obj} {vs : List Value} (hg : g l = some o) (on : g.on h) (hl : h.IsList l vs.toArray) : Src prog w A vs.length (fun i v => vs[i]? = some v) g (.ref l) h := by
  intro s Q E hs k
  subst hs
  refine wpAny_pyIter_list hl ?_
  have hlt : l < s.heap.objs.size := by obtain ⟨_, e, _⟩ := hl; exact Heap.lt_size e
  have W := Walks.list (prog := prog) (w := w) hh s.heap.objs.size l (Nat.ne_of_lt hlt) vs.toArray
  have e : vs.toArray.size = vs.length := List.size_toArray ..
  rw [e] at W
  have hW : Walks prog w A s.heap.objs.size [s.heap.objs.size, l] [s.heap.objs.size] vs.length (fun i v => vs[i]? = some v) (fun i h => h.IsListIter s.heap.objs.size l i ∧ h.IsList l vs.toArray) :=
    ⟨W.sub, W.frame, fun i s Q E hi st hQ => W.item i s Q E hi st fun v h' tk hp => hQ v h' tk (by simpa using hp), W.done, W.self⟩
  refine k s.heap.objs.size _ _ _ hW ⟨⟨_, Heap.get?_push_size _ rfl, rfl, rfl⟩, hl.push _⟩ (fun i h e => ⟨_, e.1.choose_spec.1⟩) (none_of_ge (Nat.le_refl _)) (fun x hx n => ?_) (fun _ _ e => Heap.get?_push_of_some _ e) (by rw [Heap.size_push]; exact Nat.le_succ _)
  rcases List.mem_cons.mp hx with rfl | hx
  · exact absurd rfl n
  · exact ⟨o, (List.mem_singleton.mp hx) ▸ hg⟩
end

section
variable {prog : Program} {w : World} {b : Heap}
variable {S : List Addr} {g0 : FM} {h0 : Heap} {env : Env} {g : FM} {m mc : Str → Option Value} {mu : List (Addr × Obj)}
variable {A : Around} {s : Shared} {E : Value → Shared → Prop}

abbrev Inv := FM → (Str → Option Value) → (Str → Option Value) → List (Addr × Obj) → Prop

def LoopEnd (b : Heap) (S : List Addr) (g0 : FM) (h0 : Heap) (env : Env) (s : Shared) (g₁ : FM) (q : Addr × Obj) (J : Inv) (Q : Flow → Shared → Prop) (f : Flow) (s' : Shared) : Prop :=
  match f with
  | .ret v => Q (.ret v) s'
  | .brk => Q .next s'
  | _ => ∃ g₂ m₂ mc₂ mu₂ h₂ tk₂, s' = { s with heap := h₂, toks := tk₂ } ∧ g₁.le g₂ ∧ St b S g0 h0 env g₂ m₂ mc₂ (q :: mu₂) h₂ ∧ J g₂ m₂ mc₂ mu₂
theorem LoopEnd.mk {s : Shared} {g₁ g₂ : FM} {q : Addr × Obj} {J : Inv} {Q : Flow → Shared → Prop} {m₂ mc₂ : Str → Option Value} {mu₂ : List (Addr × Obj)} {h₂ : Heap} {tk₂ : Nat}
    (le : g₁.le g₂) (H : St b S g0 h0 env g₂ m₂ mc₂ (q :: mu₂) h₂) (j : J g₂ m₂ mc₂ mu₂) : LoopEnd b S g0 h0 env s g₁ q J Q .next { s with heap := h₂, toks := tk₂ } :=
  ⟨g₂, m₂, mc₂, mu₂, h₂, tk₂, rfl, le, H, j⟩

theorem loop_gen {target : Expr} {body : List Stmt} {n : Nat} {P : Nat → Value → Prop} {xv : Value} {Q : Flow → Shared → Prop} {pE : Value → Shared → Prop} (am ac : Value → (Str → Option Value) → Str → Option Value)
    (asg : ∀ v g₁ m₁ mc₁ mu₁ (s₁ : Shared) (Q : Unit → Shared → Prop) (E : Value → Shared → Prop), St b S g0 h0 env g₁ m₁ mc₁ mu₁ s₁.heap → (∀ h' tk, St b S g0 h0 env g₁ (am v m₁) (ac v mc₁) mu₁ h' → Q () { s₁ with heap := h', toks := tk }) →
      wpAny (model prog w) A (assign target env v) Q E s₁) (ht : ∀ it v, letOwnedTupleGo target it v = pure ())
    (H : St b S g0 h0 env g m mc mu s.heap) (src : Src prog w A n P g xv s.heap) (J : Nat → Inv) (j0 : J 0 g m mc mu)
    (turn : ∀ i v I oI g₁ m₁ mc₁ mu₁ h₁ tk E', i < n → P i v → g.le g₁ → J i g₁ m₁ mc₁ mu₁ → St b S g0 h0 env g₁ (am v m₁) (ac v mc₁) ((I, oI) :: mu₁) h₁ →
      wpAny (model prog w) A (execs body env) (LoopEnd b S g0 h0 env s g₁ (I, oI) (J (i + 1)) Q) E' { s with heap := h₁, toks := tk })
    (done : ∀ g₁ m₁ mc₁ mu₁ h₁ tk, g.le g₁ → J n g₁ m₁ mc₁ mu₁ → St b S g0 h0 env g₁ m₁ mc₁ mu₁ h₁ → Q .next { s with heap := h₁, toks := tk }) :
    wpAny (model prog w) A (pyIter xv) (fun it s₂ => codeAny (model prog w) A (.forLoop target it body [] env) (fun r s' => match r with | .ok f => Q f s' | .error e => pE e s') s₂) E s := by
  refine src s _ _ rfl fun I fp Ws h' W w0 live fresh frz keep _ => ?_
  obtain ⟨oI, hI⟩ := live 0 h' w0
  have H' := H.alloc fresh hI keep
  refine codeAny_forLoop (fun k s' => ∃ i g₁ m₁ mc₁ mu₁ oI h₁ tk, s' = { s with heap := h₁, toks := tk } ∧ k = n - i ∧ i ≤ n ∧ Ws i h₁ ∧ g.le g₁ ∧ St b S g0 h0 env g₁ m₁ mc₁ ((I, oI) :: mu₁) h₁ ∧ J i g₁ m₁ mc₁ mu₁) ?_ n
    ⟨0, g, m, mc, mu, oI, h', s.toks, rfl, rfl, Nat.zero_le _, w0, .refl g, H', j0⟩ (fun v => ht _ v)
  rintro k s' ⟨i, g₁, m₁, mc₁, mu₁, oI, h₁, tk, rfl, rfl, hi, w1, le1, H1, j1⟩
  have hIo : ∀ {p}, p ∈ [I] → p = I := fun hp => List.mem_singleton.mp hp
  by_cases hlt : i < n
  · refine W.item i _ _ _ hlt w1 fun v h₂ tk₂ hP w2 kp => ?_
    obtain ⟨oI', hI'⟩ := live _ _ w2
    have H2 : St b S g0 h0 env g₁ m₁ mc₁ ((I, oI') :: mu₁) h₂ := H1.upd hI' fun a o na e => kp a o (fun q => na (hIo q)) e
    refine asg v g₁ m₁ mc₁ _ _ _ _ H2 fun h₃ tk₃ H3 => ?_
    have w3 : Ws (i + 1) h₃ := W.frame _ _ _ w2 fun a ha o e => by
      by_cases q : a = I
      · subst q
        have := H3.mus (a, oI') (.head _)
        rw [hI'] at e; cases e; exact this
      · obtain ⟨o', hg⟩ := frz a ha q
        have e2 := H2.on a o' (le1 a o' hg)
        have e3 := H3.on a o' (le1 a o' hg)
        rw [e] at e2; cases e2; exact e3
    refine wpAny_mono (turn i v I oI' g₁ m₁ mc₁ mu₁ h₃ tk₃ _ hlt hP le1 j1 H3) (fun f s₃ z => ?_) fun _ _ z => z
    cases f with
    | ret v => exact z
    | brk => exact z
    | next | cont =>
      obtain ⟨g₂, m₂, mc₂, mu₂, h₄, tk₄, rfl, le2, H4, j2⟩ := z
      refine ⟨n - (i + 1), by omega, i + 1, g₂, m₂, mc₂, mu₂, oI', h₄, tk₄, rfl, rfl, hlt, W.frame _ _ _ w3 fun a ha o e => ?_, le1.trans le2, H4, j2⟩
      by_cases q : a = I
      · subst q
        have e3 := H3.mus (a, oI') (.head _)
        have e4 := H4.mus (a, oI') (.head _)
        rw [e] at e3; cases e3; exact e4
      · obtain ⟨o', hg⟩ := frz a ha q
        have e3 := H3.on a o' (le1 a o' hg)
        have e4 := H4.on a o' (le2 _ _ (le1 a o' hg))
        rw [e] at e3; cases e3; exact e4
  · have hin : i = n := by omega
    subst hin
    refine W.done _ _ _ w1 fun h₂ tk₂ kp => ?_
    refine wpAny_execs_nil ?_
    have h0I : h0.get? I = none := by
      cases q : h0.get? I with
      | none => rfl
      | some o => obtain ⟨o', e⟩ := H.ev.live _ _ q; rw [fresh] at e; cases e
    have H2 : St b S g0 h0 env g₁ m₁ mc₁ mu₁ h₂ := H1.dropJunk h0I fun a o na e => kp a o (fun q => na (hIo q)) e
    exact done g₁ m₁ mc₁ mu₁ h₂ tk₂ le1 j1 H2
end
end Mine
namespace Mine

/-- a list's object -/
def IsL (o : Obj) (ys : List Value) : Prop := o.cls = .type "list" ∧ ∃ k, o.data = .seq ys.toArray k
theorem IsL.at_ {o : Obj} {ys : List Value} (x : IsL o ys) {h : Heap} {a : Addr} (e : h.get? a = some o) : h.IsList a ys.toArray := ⟨o, e, x.1, x.2⟩

def cenvOf (scope : Scope) (cl : List (Str × Addr)) (C : Addr) (env : Env) : Env :=
  { scope := relabel scope env, locals := C, globals := env.globals, cells := cellsFrom (C + 1) scope.names cl, qual := env.qual, func := none, code := env.code, frame := env.frame, builtins := env.builtins }

def Caught (env : Env) : List (Str × Addr) → Prop
  | [] => True
  | p :: r => env.cells.lookup p.1 = some p.2 ∧ Caught env r
theorem Caught.all {env : Env} : ∀ {cl : List (Str × Addr)}, Caught env cl → ∀ p ∈ cl, env.cells.lookup p.1 = some p.2
  | _ :: _, ⟨h, _⟩, _, .head _ => h
  | _ :: _, ⟨_, r⟩, p, .tail _ hp => r.all p hp

theorem cells_new : ∀ (names : List (Str × NameKind)) (h : Heap) (acc : List (Str × Addr)) (q : Str × Addr), q ∈ cellsFrom h.objs.size names acc →
    q ∈ acc ∨ (h.objs.size ≤ q.2 ∧ (pushCells h names).IsCell q.2 none ∧ (q.1, NameKind.cell) ∈ names)
  | [], _, _, _, hq => .inl hq
  | (x, k) :: r, h, acc, q, hq => by
    unfold cellsFrom at hq
    unfold pushCells
    by_cases hk : (k == NameKind.cell) = true
    · rw [if_pos hk] at hq
      rw [if_pos hk]
      have e : (h.push { cls := .type "cell", data := .cell none }).objs.size = h.objs.size + 1 := Heap.size_push ..
      rw [← e] at hq
      rcases cells_new r _ _ q hq with hq | ⟨h1, h2, h3⟩
      · rcases List.mem_cons.mp hq with rfl | hq
        · exact .inr ⟨Nat.le_refl _, ⟨_, pushCells_keeps _ _ _ _ (Heap.get?_push_size _ rfl), rfl⟩, by rw [show k = NameKind.cell from beq_iff_eq.mp hk]; exact .head _⟩
        · exact .inl hq
      · exact .inr ⟨by rw [e] at h1; omega, h2, .tail _ h3⟩
    · rw [if_neg hk] at hq
      rw [if_neg hk]
      rcases cells_new r h acc q hq with hq | ⟨h1, h2, h3⟩
      · exact .inl hq
      · exact .inr ⟨h1, h2, .tail _ h3⟩
theorem cells_addr : ∀ (names : List (Str × NameKind)) (n : Nat) (acc : List (Str × Addr)), (acc.map (·.2)).Nodup → (∀ p ∈ acc, p.2 < n) → ((cellsFrom n names acc).map (·.2)).Nodup := cells_nodup

section
variable {prog : Program} {w : World} {b : Heap}
variable {S : List Addr} {g0 : FM} {h0 : Heap} {env : Env} {g g₂ : FM} {m mc m₂ mc₂ : Str → Option Value} {mu mu₂ : List (Addr × Obj)} {h h₂ : Heap}
variable {A : Around} {s : Shared} {E : Value → Shared → Prop}

theorem St.muE (_H : St b S g0 h0 env g m mc mu h) {a : Addr} (ha : a ∈ mu.map (·.1)) : a ∈ owns env mu := .tail _ (List.mem_append_right _ ha)
theorem St.not_owned (H : St b S g0 h0 env g m mc mu h) {a : Addr} (ha : h.get? a = none) : a ∉ owns env mu := fun q => by obtain ⟨o, e⟩ := H.liveO q; rw [ha] at e; cases e
theorem St.gfresh (H : St b S g0 h0 env g m mc mu h) {a : Addr} (ha : h.get? a = none) : g a = none := by
  cases q : g a with
  | none => rfl
  | some o => rw [H.on _ _ q] at ha; cases ha
theorem St.h0fresh (H : St b S g0 h0 env g m mc mu h) {a : Addr} (ha : h.get? a = none) : h0.get? a = none := by
  cases q : h0.get? a with
  | none => rfl
  | some o => obtain ⟨o', e⟩ := H.ev.live _ _ q; rw [ha] at e; cases e

/-- a block's frame, above its function's -/
theorem St.inner {scope : Scope} {cl : List (Str × Addr)} {cn : List Str} (H : St b S g0 h0 env g m mc mu h) (hcl : Caught env cl) (hcn : cl.map (·.1) = cn)
    (hnd : ((cellsFrom 0 scope.names (cn.map fun x => (x, 0))).map (·.1)).Nodup) {H₃ h₄ : Heap} (k3 : ∀ a o, h.get? a = some o → H₃.get? a = some o) (hle : h.objs.size ≤ H₃.objs.size)
    (h4 : h₄ = pushCells (H₃.push { cls := .type "dict", data := .dict #[] }) scope.names) {mc' : Str → Option Value} (hmc : ∀ p ∈ cl, mc' p.1 = mc p.1) (hown : ∀ x, (x, NameKind.cell) ∈ scope.names → mc' x = none) :
    St b (cl.map (·.2) ++ mu.map (·.1)) g h (cenvOf scope cl H₃.objs.size env) g no mc' mu h₄ ∧ ∀ a ∈ owns (cenvOf scope cl H₃.objs.size env) mu, (∃ o, h.get? a = some o) ∨ H₃.objs.size ≤ a := by
  subst h4
  have k4 : ∀ a o, h.get? a = some o → (pushCells (H₃.push { cls := .type "dict", data := .dict #[] }) scope.names).get? a = some o := fun a o e => pushCells_keeps _ _ _ _ (Heap.get?_push_of_some _ (k3 a o e))
  have sz : (H₃.push { cls := .type "dict", data := .dict #[] }).objs.size = H₃.objs.size + 1 := Heap.size_push ..
  have cn4 : ∀ q ∈ cellsFrom (H₃.objs.size + 1) scope.names cl, q ∈ cl ∨ (H₃.objs.size + 1 ≤ q.2 ∧ (pushCells (H₃.push { cls := .type "dict", data := .dict #[] }) scope.names).IsCell q.2 none ∧ (q.1, NameKind.cell) ∈ scope.names) := fun q hq => by
    rw [← sz] at hq ⊢; exact cells_new _ _ _ _ hq
  have lt : ∀ a ∈ owns env mu, a < h.objs.size := fun a ha => by obtain ⟨o, e⟩ := H.liveO ha; exact Heap.lt_size e
  have clE : ∀ p ∈ cl, p ∈ env.cells := fun p hp => mem_of_lookup (hcl.all p hp)
  have clO : ∀ p ∈ cl, p.2 ∈ owns env mu := fun p hp => .tail _ (List.mem_append_left _ (List.mem_map.mpr ⟨p, clE p hp, rfl⟩))
  have nd := H.nd
  unfold owns at nd
  have nd2 := List.nodup_append.mp (List.nodup_cons.mp nd).2
  have nn : ((cellsFrom (H₃.objs.size + 1) scope.names cl).map (·.1)).Nodup := by
    rw [cells_names scope.names _ 0 cl (cn.map fun x => (x, 0)) (by rw [hcn, List.map_map]; exact (List.map_id cn).symm)]; exact hnd
  have clN : (cl.map (·.1)).Nodup := by
    have : ∀ (names : List (Str × NameKind)) (n : Nat) (acc : List (Str × Addr)), ((cellsFrom n names acc).map (·.1)).Nodup → (acc.map (·.1)).Nodup := by
      intro names
      induction names with
      | nil => exact fun _ _ h => h
      | cons p r ih =>
        intro n acc h
        unfold cellsFrom at h
        split at h
        · have := ih _ _ h
          rw [List.map_cons] at this
          exact (List.nodup_cons.mp this).2
        · exact ih _ _ h
    exact this _ _ _ nn
  have clA : (cl.map (·.2)).Nodup := by
    have : ∀ l : List (Str × Addr), (l.map (·.1)).Nodup → (∀ p ∈ l, p ∈ env.cells) → (l.map (·.2)).Nodup := by
      intro l
      induction l with
      | nil => exact fun _ _ => List.nodup_nil
      | cons p r ih =>
        intro h1 h2
        rw [List.map_cons] at h1 ⊢
        obtain ⟨h3, h4⟩ := List.nodup_cons.mp h1
        refine List.nodup_cons.mpr ⟨fun q => ?_, ih h4 fun x hx => h2 x (.tail _ hx)⟩
        obtain ⟨x, hx, e⟩ := List.mem_map.mp q
        have : x.1 = p.1 := cell_inj nd2.1 (c := p.2) (e ▸ h2 x (.tail _ hx)) (h2 p (.head _))
        exact h3 (this ▸ List.mem_map_of_mem hx)
    exact this cl clN clE
  have ndc : ((cellsFrom (H₃.objs.size + 1) scope.names cl).map (·.2)).Nodup := cells_nodup _ _ _ clA fun p hp => Nat.lt_succ_of_lt (Nat.lt_of_lt_of_le (lt _ (clO p hp)) hle)
  have Cn : (cenvOf scope cl H₃.objs.size env).locals = H₃.objs.size := rfl
  refine ⟨⟨(Heap.Ns.new H₃ (.type "dict")).keeps (pushCells_keeps _ _), fun y c hc => ?_, H.bg, Nat.le_trans H.Bg.lo hle, Ev.keeps H.on k4, fun p hp => k4 _ _ (H.mus p hp), ?_, nn, fun a ha => ?_⟩, fun a ha => ?_⟩
  · rcases cn4 (y, c) hc with hc | ⟨_, hc, hn⟩
    · have := H.cell y c (clE _ hc)
      rw [show mc' y = mc y from hmc _ hc]
      exact this.keeps k4
    · rw [show mc' y = none from hown _ hn]; exact hc
  · show (H₃.objs.size :: ((cellsFrom (H₃.objs.size + 1) scope.names cl).map (·.2) ++ mu.map (·.1))).Nodup
    refine List.nodup_cons.mpr ⟨fun q => ?_, List.nodup_append.mpr ⟨ndc, nd2.2.1, fun y hy z hz e => ?_⟩⟩
    · rcases List.mem_append.mp q with q | q
      · obtain ⟨p, hp, e⟩ := List.mem_map.mp q
        have e : p.2 = H₃.objs.size := e
        rcases cn4 p hp with hp | ⟨hp, _⟩
        · have := Nat.lt_of_lt_of_le (lt _ (clO p hp)) hle
          rw [e] at this; exact Nat.lt_irrefl _ this
        · rw [e] at hp; exact Nat.lt_irrefl _ hp
      · have := Nat.lt_of_lt_of_le (lt _ (H.muE q)) hle
        exact Nat.lt_irrefl _ this
    · subst e
      obtain ⟨p, hp, rfl⟩ := List.mem_map.mp hy
      rcases cn4 p hp with hp | ⟨hp, _⟩
      · exact nd2.2.2 p.2 (List.mem_map.mpr ⟨p, clE p hp, rfl⟩) p.2 hz rfl
      · have := Nat.lt_of_lt_of_le (lt _ (H.muE hz)) hle
        have hp : H₃.objs.size + 1 ≤ p.2 := hp
        exact absurd (Nat.lt_of_lt_of_le this (Nat.le_of_succ_le hp)) (Nat.lt_irrefl _)
  · rcases List.mem_cons.mp ha with rfl | ha
    · have := none_of_ge (h := h) (a := H₃.objs.size) hle
      exact ⟨H.gfresh this, .inl this⟩
    · rcases List.mem_append.mp ha with ha | ha
      · obtain ⟨p, hp, rfl⟩ := List.mem_map.mp ha
        rcases cn4 p hp with hp | ⟨hp, _⟩
        · exact ⟨(H.own _ (clO p hp)).1, .inr (List.mem_append_left _ (List.mem_map_of_mem hp))⟩
        · have hp : H₃.objs.size + 1 ≤ p.2 := hp
          have := none_of_ge (h := h) (a := p.2) (Nat.le_trans hle (Nat.le_of_succ_le hp))
          exact ⟨H.gfresh this, .inl this⟩
      · exact ⟨(H.own a (H.muE ha)).1, .inr (List.mem_append_right _ ha)⟩
  · rcases List.mem_cons.mp ha with rfl | ha
    · exact .inr (Nat.le_refl _)
    · rcases List.mem_append.mp ha with ha | ha
      · obtain ⟨p, hp, rfl⟩ := List.mem_map.mp ha
        rcases cn4 p hp with hp | ⟨hp, _⟩
        · exact .inl (H.liveO (clO p hp))
        · exact .inr (Nat.le_of_succ_le hp)
      · exact .inl (H.liveO (H.muE ha))

/-- back to the function's frame -/
theorem St.outer {scope : Scope} {cl : List (Str × Addr)} {C : Addr} {m₂ mc₂ : Str → Option Value} (H : St b S g0 h0 env g m mc mu h) (hcl : Caught env cl)
    (Hi : St b (cl.map (·.2) ++ mu.map (·.1)) g h (cenvOf scope cl C env) g₂ m₂ mc₂ mu₂ h₂) (sub : ∀ p ∈ cl, p ∈ (cenvOf scope cl C env).cells) (hmc : ∀ p ∈ cl, mc₂ p.1 = mc p.1) {mu₃ : List (Addr × Obj)} (hmu : mu₃.map (·.1) = mu.map (·.1)) (hm3 : ∀ p ∈ mu₃, p ∈ mu₂) :
    St b S g0 h0 env g₂ m mc mu₃ h₂ := by
  have clE : ∀ p ∈ cl, p ∈ env.cells := fun p hp => mem_of_lookup (hcl.all p hp)
  have nd := H.nd
  unfold owns at nd
  have nd2 := List.nodup_append.mp (List.nodup_cons.mp nd).2
  have notS : ∀ a, a ∉ cl.map (·.2) → a ∉ mu.map (·.1) → a ∉ cl.map (·.2) ++ mu.map (·.1) := fun a h1 h2 q => (List.mem_append.mp q).elim h1 h2
  refine H.move (Hi.ev.mono fun a ha => ?_) ?_ (fun y c hc => ?_) (fun p hp => Hi.mus p (hm3 p hp)) hmu
  · rcases List.mem_append.mp ha with ha | ha
    · obtain ⟨p, hp, rfl⟩ := List.mem_map.mp ha
      exact .tail _ (List.mem_append_left _ (List.mem_map.mpr ⟨p, clE p hp, rfl⟩))
    · exact .tail _ (List.mem_append_right _ ha)
  · obtain ⟨o, es, ep, e, r⟩ := H.ns
    refine ⟨o, es, ep, Hi.ev.keep _ _ (notS _ (fun q => ?_) fun q => (List.nodup_cons.mp nd).1 (List.mem_append_right _ q)) e, r⟩
    obtain ⟨p, hp, e⟩ := List.mem_map.mp q
    exact (List.nodup_cons.mp nd).1 (List.mem_append_left _ (List.mem_map.mpr ⟨p, clE p hp, e⟩))
  · by_cases q : c ∈ cl.map (·.2)
    · obtain ⟨p, hp, rfl⟩ := List.mem_map.mp q
      have : p.1 = y := cell_inj nd2.1 (c := p.2) (clE p hp) hc
      have h1 := Hi.cell p.1 p.2 (sub p hp)
      rw [hmc p hp] at h1
      rw [← this]; exact h1
    · obtain ⟨o, e, r⟩ := H.cell y c hc
      exact ⟨o, Hi.ev.keep _ _ (notS _ q fun q' => nd2.2.2 c (List.mem_map.mpr ⟨(y, c), hc, rfl⟩) c q' rfl) e, r⟩
end
end Mine
namespace Mine

theorem cells_acc : ∀ (names : List (Str × NameKind)) (n : Nat) (acc : List (Str × Addr)) (p : Str × Addr), p ∈ acc → p ∈ cellsFrom n names acc
  | [], _, _, _, h => h
  | (x, k) :: r, n, acc, p, h => by
    unfold cellsFrom
    split
    · exact cells_acc r _ _ p (.tail _ h)
    · exact cells_acc r _ _ p h

/-- the target of a block: a name of its own, or one that an inner block takes -/
def tm (xc : Bool) (x : Str) (v : Value) : Str → Option Value := if xc then no else up x v no
def tc (xc : Bool) (x : Str) (v : Value) (mc : Str → Option Value) : Str → Option Value := if xc then up x v mc else mc

theorem up_up (x : Str) (u v : Value) (m : Str → Option Value) : up x v (up x u m) = up x v m := by
  funext y; unfold up; split <;> rfl

structure CompOk (env : Env) (scope : Scope) (cl : List (Str × Addr)) (cn : List Str) (x : Str) (xc : Bool) : Prop where
  clos : closureFor scope env = pure cl
  caught : Caught env cl
  names : cl.map (·.1) = cn
  nd : ((cellsFrom 0 scope.names (cn.map fun x => (x, 0))).map (·.1)).Nodup
  kind : scope.kind = .function
  loc : ∀ y ∈ scope.names, y.2 = .local → scope.names.lookup y.1 = some .local
  own : ∀ y ∈ scope.names, y.2 = .cell → xc = true ∧ y.1 = x
  tgt : (relabel scope env).names.lookup x = some (if xc then .cell else .local)
  has : xc = true → scope.names.lookup x = some .cell
  off : x ∉ cn

section
variable {prog : Program} {w : World} {b : Heap}
variable {S : List Addr} {g0 : FM} {h0 : Heap} {env : Env} {g : FM} {m mc : Str → Option Value} {mu : List (Addr × Obj)}
variable {A : Around} {s : Shared} {E : Value → Shared → Prop}

theorem St.muAddr {h : Heap} {mu₁ : List (Addr × Obj)} (H : St b S g0 h0 env g m mc mu h) (ha : mu₁.map (·.1) = mu.map (·.1)) {a : Addr} (f : h.get? a = none) : a ∉ owns env mu₁ := fun q =>
  H.not_owned f (by unfold owns at q ⊢; rw [← ha]; exact q)

def EltEnd (b : Heap) (S : List Addr) (g0 : FM) (h0 : Heap) (cenv : Env) (m mc : Str → Option Value) (s : Shared) (g₁ : FM) (q r : Addr × Obj) (adr : List Addr) (J : Value → FM → List (Addr × Obj) → Prop) (y : Value) (s' : Shared) : Prop :=
  ∃ g₂ mu₂ h₂ tk₂, s' = { s with heap := h₂, toks := tk₂ } ∧ g₁.le g₂ ∧ St b S g0 h0 cenv g₂ m mc (q :: r :: mu₂) h₂ ∧ mu₂.map (·.1) = adr ∧ J y g₂ mu₂
theorem EltEnd.mk {cenv : Env} {s : Shared} {g₁ g₂ : FM} {q r : Addr × Obj} {adr : List Addr} {J : Value → FM → List (Addr × Obj) → Prop} {y : Value} {mu₂ : List (Addr × Obj)} {h₂ : Heap} {tk₂ : Nat}
    (le : g₁.le g₂) (H : St b S g0 h0 cenv g₂ m mc (q :: r :: mu₂) h₂) (ha : mu₂.map (·.1) = adr) (j : J y g₂ mu₂) : EltEnd b S g0 h0 cenv m mc s g₁ q r adr J y { s with heap := h₂, toks := tk₂ } :=
  ⟨g₂, mu₂, h₂, tk₂, rfl, le, H, ha, j⟩

theorem comp_core {elt iter : Expr} {x : Str} {px : Pos} {scope : Scope} {cl : List (Str × Addr)} {cn : List Str} {xc : Bool} {pos : Pos} {n : Nat} {P : Nat → Value → Prop} {xv : Value} {use : Option (Value → Sem Unit)} {Q : Value → Shared → Prop}
    (ok : CompOk env scope cl cn x xc) (H : St b S g0 h0 env g m mc mu s.heap) (src : Src prog w A n P g xv s.heap) (hn : n ≤ sizeLine)
    (J : Nat → FM → List (Addr × Obj) → List Value → Prop) (j0 : J 0 g mu [])
    (turn : ∀ i v C D oD I oI g₁ mu₁ ys h₁ tk E', i < n → P i v → g.le g₁ → mu₁.map (·.1) = mu.map (·.1) → J i g₁ mu₁ ys → ys.length = i →
      St b (cl.map (·.2) ++ mu.map (·.1)) g s.heap (cenvOf scope cl C env) g₁ (tm xc x v) (tc xc x v mc) ((D, oD) :: (I, oI) :: mu₁) h₁ →
      wpAny (model prog w) A (eval elt (cenvOf scope cl C env)) (EltEnd b (cl.map (·.2) ++ mu.map (·.1)) g s.heap (cenvOf scope cl C env) (tm xc x v) (tc xc x v mc) s g₁ (D, oD) (I, oI) (mu.map (·.1)) fun y g₂ mu₂ => J (i + 1) g₂ mu₂ (ys ++ [y])) E' { s with heap := h₁, toks := tk })
    (fin : ∀ g₁ mu₁ ys C oC D oD mC h₁ tk, g.le g₁ → mu₁.map (·.1) = mu.map (·.1) → J n g₁ mu₁ ys → ys.length = n → IsL oD ys → h₁.Ns C mC → h0.get? C = none → h0.get? D = none → St b S g0 h0 env g₁ m mc ((C, oC) :: (D, oD) :: mu₁) h₁ →
      compPost (model prog w) A E use Q (.ref D) C (.ok .next) { s with heap := h₁, toks := tk }) :
    wpAny (model prog w) A (pyIter xv) (fun it s₂ => wpAny (model prog w) A (newList []) (fun acc s₃ => wpAny (model prog w) A (newFunctionEnv scope env.globals cl [] env.qual none .none (some env)) (fun cenv s₄ =>
      codeAny (model prog w) A (.compStart (.ListComp elt [⟨.Name x px, iter, [], 0⟩] scope pos) 0 it acc { cenv with scope := relabel scope env }) (compPost (model prog w) A E use Q acc cenv.locals) s₄) E s₃) E s₂) E s := by
  refine src s _ _ rfl fun I fp Ws h' W w0 live fresh frz keep hsz => wpAny_newList ?_
  simp only [newFunctionEnv, Option.isSome_some, if_true]
  refine wpAny_bind (wpAny_alloc ?_)
  refine wpAny_bind (wpAny_layCells _ (fun name kind cells => by cases kind == NameKind.cell <;> simp) _ _ _ _ ?_)
  refine wpAny_bind ?_
  rw [List.forIn_nil]
  refine wpAny_pure (wpAny_pure ?_)
  dsimp only
  generalize hH3 : h'.push { cls := .type "list", data := .seq ([] : List Value).toArray } = H₃
  have sz3 : H₃.objs.size = h'.objs.size + 1 := by rw [← hH3, Heap.size_push]
  have h'3 : ∀ a o, h'.get? a = some o → H₃.get? a = some o := fun a o e => hH3 ▸ Heap.get?_push_of_some _ e
  have k3 : ∀ a o, s.heap.get? a = some o → H₃.get? a = some o := fun a o e => h'3 a o (keep a o e)
  have hD3 : H₃.get? h'.objs.size = some { cls := .type "list", data := .seq ([] : List Value).toArray } := hH3 ▸ Heap.get?_push_size _ rfl
  have sz4 : (H₃.push { cls := .type "dict", data := .dict #[] }).objs.size = H₃.objs.size + 1 := Heap.size_push ..
  rw [sz4]
  generalize hH4 : pushCells (H₃.push { cls := .type "dict", data := .dict #[] }) scope.names = H₄
  have k4 : ∀ a o, H₃.get? a = some o → H₄.get? a = some o := fun a o e => hH4 ▸ pushCells_keeps _ _ _ _ (Heap.get?_push_of_some _ e)
  have hle : s.heap.objs.size ≤ H₃.objs.size := by rw [sz3]; exact Nat.le_succ_of_le hsz
  obtain ⟨oI, hI⟩ := live 0 h' w0
  have ltI : @LT.lt Nat _ I h'.objs.size := Heap.lt_size hI
  have hxcl : ∀ q ∈ cl, q.1 ≠ x := fun q hq e => ok.off (ok.names ▸ e ▸ List.mem_map_of_mem hq)
  obtain ⟨Hi0, ow⟩ := H.inner (mc' := if xc then (fun y => if y = x then none else mc y) else mc) ok.caught ok.names ok.nd k3 hle hH4.symm (fun q hq => by
      split
      · exact if_neg (hxcl q hq)
      · rfl) (fun y hy => by
      obtain ⟨h1, h2⟩ := ok.own (y, .cell) hy rfl
      rw [if_pos h1]; exact if_pos h2)
  have nI : I ∉ owns (cenvOf scope cl H₃.objs.size env) mu := fun q => by
    rcases ow _ q with ⟨o, e⟩ | q
    · rw [fresh] at e; cases e
    · omega
  have Hi1 := Hi0.adopt (k4 _ _ (h'3 _ _ hI)) nI (H.gfresh fresh) fresh
  have freshD : s.heap.get? h'.objs.size = none := none_of_ge hsz
  have nD : h'.objs.size ∉ owns (cenvOf scope cl H₃.objs.size env) ((I, oI) :: mu) := fun q => by
    have : h'.objs.size = I ∨ h'.objs.size ∈ owns (cenvOf scope cl H₃.objs.size env) mu := by
      unfold owns at q ⊢
      rcases List.mem_cons.mp q with q | q
      · exact .inr (q ▸ .head _)
      · rcases List.mem_append.mp q with q | q
        · exact .inr (.tail _ (List.mem_append_left _ q))
        · rcases List.mem_cons.mp q with q | q
          · exact .inl q
          · exact .inr (.tail _ (List.mem_append_right _ q))
    rcases this with q | q
    · rw [← q] at ltI; exact Nat.lt_irrefl _ ltI
    · rcases ow _ q with ⟨o, e⟩ | q
      · rw [freshD] at e; cases e
      · omega
  have Hi2 := Hi1.adopt (k4 _ _ hD3) nD (H.gfresh freshD) freshD
  generalize hDD : h'.objs.size = D at *
  generalize hCC : H₃.objs.size = C at *
  have w4 : Ws 0 H₄ := W.frame _ _ _ w0 fun a _ o e => k4 a o (h'3 a o e)
  have mIn : ∀ {a : Addr}, a ∈ [I] → a = I := fun hp => List.mem_singleton.mp hp
  have main : ∀ s₃ : Shared, s₃ = { s with heap := H₄ } → codeAny (model prog w) A (.compLoop (.ListComp elt [⟨.Name x px, iter, [], 0⟩] scope pos) 0 (.ref I) (.ref D) (cenvOf scope cl C env)) (compPost (model prog w) A E use Q (.ref D) C) s₃ := by
    rintro s₃ rfl
    refine codeAny_compLoop_list (fun k s' => ∃ i g₁ mu₁ ys m₁ mc₁ oD oI h₁ tk, s' = { s with heap := h₁, toks := tk } ∧ k = n - i ∧ i ≤ n ∧ Ws i h₁ ∧ g.le g₁ ∧ mu₁.map (·.1) = mu.map (·.1) ∧ J i g₁ mu₁ ys ∧ ys.length = i ∧ IsL oD ys ∧
      (∀ v, (if xc then m₁ else up x v m₁) = tm xc x v) ∧ (∀ v, (if xc then up x v mc₁ else mc₁) = tc xc x v mc) ∧
      St b (cl.map (·.2) ++ mu.map (·.1)) g s.heap (cenvOf scope cl C env) g₁ m₁ mc₁ ((D, oD) :: (I, oI) :: mu₁) h₁) ?_ n ?_
    · rintro k s' ⟨i, g₁, mu₁, ys, m₁, mc₁, oD, oI, h₁, tk, rfl, rfl, hi, w1, le1, ha1, j1, hl1, isl, e1, e2, H1⟩
      have neI : ∀ y ∈ owns (cenvOf scope cl C env) ((D, oD) :: mu₁), y ≠ I := (H1.perm (List.Perm.swap _ _ _)).ne_of_mu
      by_cases hlt : i < n
      · refine W.item i _ _ _ hlt w1 fun v h₂ tk₂ hP w2 kp => ?_
        obtain ⟨oI', hI'⟩ := live _ _ w2
        have H2 : St b (cl.map (·.2) ++ mu.map (·.1)) g s.heap (cenvOf scope cl C env) g₁ m₁ mc₁ ((D, oD) :: (I, oI') :: mu₁) h₂ :=
          ((H1.perm (List.Perm.swap _ _ _)).upd hI' fun a o na e => kp a o (fun q => na (mIn q)) e).perm (List.Perm.swap _ _ _)
        have go : ∀ h₃ tk₃, St b (cl.map (·.2) ++ mu.map (·.1)) g s.heap (cenvOf scope cl C env) g₁ (tm xc x v) (tc xc x v mc) ((D, oD) :: (I, oI') :: mu₁) h₃ →
            wpAny (model prog w) A (eval elt (cenvOf scope cl C env)) (fun y s₃ => wpAny (model prog w) A (call (.builtin "list.append") [.ref D, y]) (fun _ s₄ => ∃ m_1, m_1 < n - i ∧ ∃ i g₁ mu₁ ys m₁ mc₁ oD oI h₁ tk, s₄ = { s with heap := h₁, toks := tk } ∧ m_1 = n - i ∧ i ≤ n ∧ Ws i h₁ ∧ g.le g₁ ∧ mu₁.map (·.1) = mu.map (·.1) ∧ J i g₁ mu₁ ys ∧ ys.length = i ∧ IsL oD ys ∧
              (∀ v, (if xc then m₁ else up x v m₁) = tm xc x v) ∧ (∀ v, (if xc then up x v mc₁ else mc₁) = tc xc x v mc) ∧
              St b (cl.map (·.2) ++ mu.map (·.1)) g s.heap (cenvOf scope cl C env) g₁ m₁ mc₁ ((D, oD) :: (I, oI) :: mu₁) h₁)
              (notedBy (model prog w) A (cenvOf scope cl C env) fun e s' => compPost (model prog w) A E use Q (.ref D) C (.error e) s') s₃)
              (notedBy (model prog w) A (cenvOf scope cl C env) fun e s' => compPost (model prog w) A E use Q (.ref D) C (.error e) s') { s with heap := h₃, toks := tk₃ } := by
          intro h₃ tk₃ H3
          have w3 : Ws (i + 1) h₃ := W.frame _ _ _ w2 fun a ha o e => by
            by_cases q : a = I
            · subst q
              rw [hI'] at e; cases e; exact H3.mus (a, oI') (.tail _ (.head _))
            · obtain ⟨o', hg⟩ := frz a ha q
              have q2 := H2.on a o' (le1 a o' hg)
              have q3 := H3.on a o' (le1 a o' hg)
              rw [e] at q2; cases q2; exact q3
          refine wpAny_mono (turn i v C D oD I oI' g₁ mu₁ ys h₃ tk₃ _ hlt hP le1 ha1 j1 hl1 H3) (fun y s₄ z => ?_) fun _ _ z => z
          obtain ⟨g₂, mu₂, h₄, tk₄, rfl, le2, H4, ha2, j2⟩ := z
          have w4 : Ws (i + 1) h₄ := W.frame _ _ _ w3 fun a ha o e => by
            by_cases q : a = I
            · subst q
              have q3 := H3.mus (a, oI') (.tail _ (.head _))
              rw [e] at q3; cases q3; exact H4.mus (a, oI') (.tail _ (.head _))
            · obtain ⟨o', hg⟩ := frz a ha q
              have q3 := H3.on a o' (le1 a o' hg)
              have q4 := H4.on a o' (le2 _ _ (le1 a o' hg))
              rw [e] at q3; cases q3; exact q4
          have hDl : h₄.get? D = some oD := H4.mus (D, oD) (.head _)
          refine wpAny_list_append (isl.at_ hDl) (fun h₅ hL5 hs5 => ?_) (by rw [List.size_toArray, hl1]; omega)
          obtain ⟨oD', hD5, hc5, k5, hd5⟩ := hL5
          have H5 := H4.upd hD5 hs5.extBut
          have hDI : D ≠ I := neI _ (owns_mu (p := (D, oD)) (.head _))
          refine ⟨n - (i + 1), by omega, i + 1, g₂, mu₂, ys ++ [y], _, _, oD', oI', h₅, tk₄, rfl, rfl, hlt, W.frame _ _ _ w4 fun a ha o e => hs5.extBut a o (fun q => ?_) e, le1.trans le2, ha2, j2, by rw [List.length_append, hl1]; rfl, ⟨hc5, k5, by rw [hd5]; simp⟩, fun v' => ?_, fun v' => ?_, H5⟩
          · subst q
            obtain ⟨o', hg⟩ := frz a ha hDI
            have := (H5.own a (owns_mu (p := (a, oD')) (.head _))).1
            rw [le2 _ _ (le1 _ _ hg)] at this; cases this
          · unfold tm; cases xc
            · exact up_up ..
            · rfl
          · unfold tc; cases xc
            · rfl
            · exact up_up ..
        have hk : (cenvOf scope cl C env).scope.kind = .function := ok.kind
        have ht := ok.tgt
        cases hxc : xc with
        | false =>
          rw [hxc] at ht
          refine wpAny_assign_Name (st_loc H2 (fun h₃ H3 => ?_) hk ht)
          have e1' := e1 v
          have e2' := e2 v
          rw [hxc] at e1' e2'
          simp only [Bool.false_eq_true, if_false] at e1' e2'
          rw [e1', e2'] at H3
          have := go h₃ (tk₂ + 1) (by rw [hxc]; exact H3)
          simp only [hxc] at this
          exact this
        | true =>
          rw [hxc] at ht
          obtain ⟨c, hc⟩ := Option.isSome_iff_exists.mp (cellsFrom_some scope.names (C + 1) cl (x := x) (.inl (ok.has hxc)))
          refine wpAny_assign_Name (st_cell H2 (fun h₃ H3 => ?_) hk ht hc)
          have e1' := e1 v
          have e2' := e2 v
          rw [hxc] at e1' e2'
          simp only [if_true] at e1' e2'
          rw [e1', e2'] at H3
          have := go h₃ tk₂ (by rw [hxc]; exact H3)
          simp only [hxc] at this
          exact this
      · have hin : i = n := by omega
        subst hin
        refine W.done _ _ _ w1 fun h₂ tk₂ kp => ?_
        have H2 := (H1.perm (List.Perm.swap _ _ _)).dropJunk fresh fun a o na e => kp a o (fun q => na (mIn q)) e
        have hmc : ∀ q ∈ cl, mc₁ q.1 = mc q.1 := fun q hq => by
          have e2' := congrFun (e2 .none) q.1
          unfold tc at e2'
          cases hxc : xc with
          | false => rw [hxc] at e2'; exact e2'
          | true =>
            rw [hxc] at e2'
            simp only [if_true, up, if_neg (hxcl q hq)] at e2'
            exact e2'
        have Ho := H.outer ok.caught H2 (fun q hq => cells_acc _ _ _ _ hq) hmc ha1 fun q hq => .tail _ hq
        have CO := (H2.own C owns_L)
        have DO := (H2.own D (owns_mu (p := (D, oD)) (.head _)))
        obtain ⟨oC, esC, epC, hC2, rC⟩ := H2.ns
        have hC2 : h₂.get? C = some oC := hC2
        have hD2 := H2.mus (D, oD) (.head _)
        have freshC : s.heap.get? C = none := none_of_ge hle
        have Ho1 := Ho.adopt hD2 (H.muAddr ha1 freshD) DO.1 (H.h0fresh freshD)
        have hCD : C ≠ D := H2.ne_of_mu _ owns_L
        have Ho2 := Ho1.adopt hC2 (fun q => by
          have : C = D ∨ C ∈ owns env mu₁ := by
            unfold owns at q ⊢
            rcases List.mem_cons.mp q with q | q
            · exact .inr (q ▸ .head _)
            · rcases List.mem_append.mp q with q | q
              · exact .inr (.tail _ (List.mem_append_left _ q))
              · rcases List.mem_cons.mp q with q | q
                · exact .inl q
                · exact .inr (.tail _ (List.mem_append_right _ q))
          rcases this with q | q
          · exact hCD q
          · exact H.muAddr ha1 freshC q) CO.1 (H.h0fresh freshC)
        exact fin g₁ mu₁ ys C oC D oD m₁ h₂ tk₂ le1 ha1 j1 hl1 isl ⟨oC, esC, epC, hC2, rC⟩ (H.h0fresh freshC) (H.h0fresh freshD) Ho2
    · refine ⟨0, g, mu, [], no, _, _, oI, H₄, s.toks, rfl, rfl, Nat.zero_le _, w4, .refl g, rfl, j0, rfl, ⟨rfl, 0, rfl⟩, fun v => ?_, fun v => ?_, Hi2⟩
      · unfold tm; cases xc <;> rfl
      · unfold tc; cases xc
        · rfl
        · simp only [if_true]
          funext y; unfold up; split
          · rfl
          · rename_i h; exact if_neg h
  exact codeAny_compStart_list (main _ rfl) (W.self 0 _ _ _ w4 (main _ rfl))
end
end Mine
namespace Mine
section
variable {prog : Program} {w : World} {b : Heap}
variable {S : List Addr} {g0 : FM} {h0 : Heap} {env : Env} {g : FM} {m mc : Str → Option Value} {mu : List (Addr × Obj)}
variable {A : Around} {s : Shared} {E : Value → Shared → Prop}

-- blocks
abbrev LcGo (prog : Program) (w : World) (A : Around) (E : Value → Shared → Prop) (env : Env) (scope : Scope) (cl : List (Str × Addr)) (e : Expr) (use : Option (Value → Sem Unit)) (Q : Value → Shared → Prop) (xv : Value) (s : Shared) : Prop :=
  wpAny (model prog w) A (pyIter xv) (fun it s₂ => wpAny (model prog w) A (newList []) (fun acc s₃ => wpAny (model prog w) A (newFunctionEnv scope env.globals cl [] env.qual none .none (some env)) (fun cenv s₄ =>
      codeAny (model prog w) A (.compStart e 0 it acc { cenv with scope := relabel scope env }) (compPost (model prog w) A E use Q acc cenv.locals) s₄) E s₃) E s₂) E s

theorem ev_lc {elt iter : Expr} {x : Str} {px : Pos} {scope : Scope} {cl : List (Str × Addr)} {cn : List Str} {xc : Bool} {pos : Pos} {Q : Value → Shared → Prop} (ok : CompOk env scope cl cn x xc)
    (h : CompOk env scope cl cn x xc → wpAny (model prog w) A (eval iter env) (LcGo prog w A E env scope cl (.ListComp elt [⟨.Name x px, iter, [], 0⟩] scope pos) none Q) E s) (hs : ∀ x, foldedSetIterable iter env x = pure x := by intro _; rfl) :
    wpAny (model prog w) A (eval (.ListComp elt [⟨.Name x px, iter, [], 0⟩] scope pos) env) Q E s := by
  rw [eval_ListComp]
  exact wpAny_comprehension_free (use := none) rfl hs ok.clos ok.kind ok.loc (h ok)

theorem as_lc {elt iter : Expr} {x y : Str} {px py : Pos} {scope : Scope} {cl : List (Str × Addr)} {cn : List Str} {xc : Bool} {pos spos : Pos} {Q : Flow → Shared → Prop} (ok : CompOk env scope cl cn x xc)
    (h : CompOk env scope cl cn x xc → wpAny (model prog w) A (eval iter env) (LcGo prog w A E env scope cl (.ListComp elt [⟨.Name x px, iter, [], 0⟩] scope pos) (some (assign (.Name y py) env)) (fun _ => Q .next)) E s)
    (hsw : swapsWith (.ListComp elt [⟨.Name x px, iter, [], 0⟩] scope pos) (some (.Name y py)) spos.line env = pure true := by with_unfolding_all rfl) (hs : ∀ x, foldedSetIterable iter env x = pure x := by intro _; rfl) :
    wpAny (model prog w) A (exec (.Assign [.Name y py] (.ListComp elt [⟨.Name x px, iter, [], 0⟩] scope pos) spos) env) Q E s := by
  rw [exec_Assign_Name_used _ _ _ _ hsw]
  refine wpAny_bind (wpAny_standAt (wpAny_bind ?_))
  show wpAny _ A (do let _ ← comprehension (.ListComp elt [⟨.Name x px, iter, [], 0⟩] scope pos) scope env _ (newList []) false (eval iter env) (some (assign (.Name y py) env))) _ _ s
  exact wpAny_bind (wpAny_mono (wpAny_comprehension_free (use := some (assign (.Name y py) env)) (Q := fun _ s' => Q .next s') rfl hs ok.clos ok.kind ok.loc (h ok)) (fun _ s' hq => wpAny_pure (wpAny_pure hq)) fun _ _ e => e)

theorem lc_run {elt iter : Expr} {x : Str} {px : Pos} {scope : Scope} {cl : List (Str × Addr)} {cn : List Str} {xc : Bool} {pos : Pos} {n : Nat} {P : Nat → Value → Prop} {xv : Value} {Q : Value → Shared → Prop}
    (ok : CompOk env scope cl cn x xc) (H : St b S g0 h0 env g m mc mu s.heap) (src : Src prog w A n P g xv s.heap) (hn : n ≤ sizeLine)
    (J : Nat → FM → List (Addr × Obj) → List Value → Prop) (j0 : J 0 g mu [])
    (turn : ∀ i v C D oD I oI g₁ mu₁ ys h₁ tk E', i < n → P i v → g.le g₁ → mu₁.map (·.1) = mu.map (·.1) → J i g₁ mu₁ ys → ys.length = i →
      St b (cl.map (·.2) ++ mu.map (·.1)) g s.heap (cenvOf scope cl C env) g₁ (tm xc x v) (tc xc x v mc) ((D, oD) :: (I, oI) :: mu₁) h₁ →
      wpAny (model prog w) A (eval elt (cenvOf scope cl C env)) (EltEnd b (cl.map (·.2) ++ mu.map (·.1)) g s.heap (cenvOf scope cl C env) (tm xc x v) (tc xc x v mc) s g₁ (D, oD) (I, oI) (mu.map (·.1)) fun y g₂ mu₂ => J (i + 1) g₂ mu₂ (ys ++ [y])) E' { s with heap := h₁, toks := tk })
    (done : ∀ g₁ mu₁ ys D oD h₁ tk, g.le g₁ → mu₁.map (·.1) = mu.map (·.1) → J n g₁ mu₁ ys → ys.length = n → IsL oD ys → h0.get? D = none → St b S g0 h0 env g₁ m mc ((D, oD) :: mu₁) h₁ → Q (.ref D) { s with heap := h₁, toks := tk }) :
    LcGo prog w A E env scope cl (.ListComp elt [⟨.Name x px, iter, [], 0⟩] scope pos) none Q xv s :=
  comp_core ok H src hn J j0 turn fun g₁ mu₁ ys C oC D oD mC h₁ tk le ha j hl isl nsC fC fD H1 =>
    ⟨mC, nsC, fun h' hs => done g₁ mu₁ ys D oD h' tk le ha j hl isl fD (H1.dropJunk fC fun a o na e => hs.extBut a o na e)⟩

theorem lc_runA {elt iter : Expr} {x y : Str} {px py : Pos} {scope : Scope} {cl : List (Str × Addr)} {cn : List Str} {xc : Bool} {pos : Pos} {n : Nat} {P : Nat → Value → Prop} {xv : Value} {Q : Value → Shared → Prop}
    (ok : CompOk env scope cl cn x xc) (H : St b S g0 h0 env g m mc mu s.heap) (src : Src prog w A n P g xv s.heap) (hn : n ≤ sizeLine)
    (J : Nat → FM → List (Addr × Obj) → List Value → Prop) (j0 : J 0 g mu [])
    (turn : ∀ i v C D oD I oI g₁ mu₁ ys h₁ tk E', i < n → P i v → g.le g₁ → mu₁.map (·.1) = mu.map (·.1) → J i g₁ mu₁ ys → ys.length = i →
      St b (cl.map (·.2) ++ mu.map (·.1)) g s.heap (cenvOf scope cl C env) g₁ (tm xc x v) (tc xc x v mc) ((D, oD) :: (I, oI) :: mu₁) h₁ →
      wpAny (model prog w) A (eval elt (cenvOf scope cl C env)) (EltEnd b (cl.map (·.2) ++ mu.map (·.1)) g s.heap (cenvOf scope cl C env) (tm xc x v) (tc xc x v mc) s g₁ (D, oD) (I, oI) (mu.map (·.1)) fun y g₂ mu₂ => J (i + 1) g₂ mu₂ (ys ++ [y])) E' { s with heap := h₁, toks := tk })
    (done : ∀ g₁ mu₁ ys D oD h₁ tk, g.le g₁ → mu₁.map (·.1) = mu.map (·.1) → J n g₁ mu₁ ys → ys.length = n → IsL oD ys → h0.get? D = none → St b S g0 h0 env g₁ (up y (.ref D) m) mc ((D, oD) :: mu₁) h₁ → Q .none { s with heap := h₁, toks := tk })
    (hk : env.scope.kind = .function := by with_unfolding_all rfl) (hl : env.kindOf y = some .local := by with_unfolding_all rfl) :
    LcGo prog w A E env scope cl (.ListComp elt [⟨.Name x px, iter, [], 0⟩] scope pos) (some (assign (.Name y py) env)) Q xv s :=
  comp_core ok H src hn J j0 turn fun g₁ mu₁ ys C oC D oD mC h₁ tk le ha j hl' isl nsC fC fD H1 => by
    obtain ⟨oC', es, ep, hC, rC⟩ := nsC
    have hC0 : h₁.get? C = some oC := H1.mus (C, oC) (.head _)
    rw [hC0] at hC; cases hC
    refine wpAny_assign_Name (st_loc (s := { s with heap := h₁, toks := tk }) H1 (fun h₂ H2 => ?_) hk hl)
    exact ⟨mC, ⟨oC, es, ep, H2.mus (C, oC) (.head _), rC⟩, fun h' hs => done g₁ mu₁ ys D oD h' (tk + 1) le ha j hl' isl fD (H2.dropJunk fC fun a o na e => hs.extBut a o na e)⟩

-- for
theorem loop_for {x : Str} {px : Pos} {body : List Stmt} {n : Nat} {P : Nat → Value → Prop} {xv : Value} {Q : Flow → Shared → Prop} {pE : Value → Shared → Prop}
    (H : St b S g0 h0 env g m mc mu s.heap) (src : Src prog w A n P g xv s.heap) (J : Nat → Inv) (j0 : J 0 g m mc mu)
    (turn : ∀ i v I oI g₁ m₁ mc₁ mu₁ h₁ tk E', i < n → P i v → g.le g₁ → J i g₁ m₁ mc₁ mu₁ → St b S g0 h0 env g₁ (up x v m₁) mc₁ ((I, oI) :: mu₁) h₁ →
      wpAny (model prog w) A (execs body env) (LoopEnd b S g0 h0 env s g₁ (I, oI) (J (i + 1)) Q) E' { s with heap := h₁, toks := tk })
    (done : ∀ g₁ m₁ mc₁ mu₁ h₁ tk, g.le g₁ → J n g₁ m₁ mc₁ mu₁ → St b S g0 h0 env g₁ m₁ mc₁ mu₁ h₁ → Q .next { s with heap := h₁, toks := tk })
    (hk : env.scope.kind = .function := by with_unfolding_all rfl) (hl : env.kindOf x = some .local := by with_unfolding_all rfl) :
    wpAny (model prog w) A (pyIter xv) (fun it s₂ => codeAny (model prog w) A (.forLoop (.Name x px) it body [] env) (fun r s' => match r with | .ok f => Q f s' | .error e => pE e s') s₂) E s :=
  loop_gen (up x) (fun _ mc => mc) (fun v g₁ m₁ mc₁ mu₁ s₁ Q E H k => wpAny_assign_Name (st_loc H (fun h' H' => k h' _ H') hk hl)) (fun _ _ => rfl) H src J j0 turn done
theorem loop_forC {x : Str} {px : Pos} {c : Addr} {body : List Stmt} {n : Nat} {P : Nat → Value → Prop} {xv : Value} {Q : Flow → Shared → Prop} {pE : Value → Shared → Prop}
    (H : St b S g0 h0 env g m mc mu s.heap) (src : Src prog w A n P g xv s.heap) (J : Nat → Inv) (j0 : J 0 g m mc mu)
    (turn : ∀ i v I oI g₁ m₁ mc₁ mu₁ h₁ tk E', i < n → P i v → g.le g₁ → J i g₁ m₁ mc₁ mu₁ → St b S g0 h0 env g₁ m₁ (up x v mc₁) ((I, oI) :: mu₁) h₁ →
      wpAny (model prog w) A (execs body env) (LoopEnd b S g0 h0 env s g₁ (I, oI) (J (i + 1)) Q) E' { s with heap := h₁, toks := tk })
    (done : ∀ g₁ m₁ mc₁ mu₁ h₁ tk, g.le g₁ → J n g₁ m₁ mc₁ mu₁ → St b S g0 h0 env g₁ m₁ mc₁ mu₁ h₁ → Q .next { s with heap := h₁, toks := tk })
    (hk : env.scope.kind = .function := by with_unfolding_all rfl) (hl : env.kindOf x = some .cell := by with_unfolding_all rfl) (hc : env.cells.lookup x = some c := by with_unfolding_all rfl) :
    wpAny (model prog w) A (pyIter xv) (fun it s₂ => codeAny (model prog w) A (.forLoop (.Name x px) it body [] env) (fun r s' => match r with | .ok f => Q f s' | .error e => pE e s') s₂) E s :=
  loop_gen (fun _ m => m) (up x) (fun v g₁ m₁ mc₁ mu₁ s₁ Q E H k => wpAny_assign_Name (st_cell H (fun h' H' => k h' _ H') hk hl hc)) (fun _ _ => rfl) H src J j0 turn done

-- range
theorem call_range1 {n : Int} {t : Tok} {Q : Value → Shared → Prop} (H : St b S g0 h0 env g m mc mu s.heap)
    (h : ∀ h' tk r t₁ u₁ v₁, IsRange h' r 0 n 1 t₁ u₁ v₁ → St b S g0 h0 env g m mc mu h' → Q (.ref r) { s with heap := h', toks := tk }) : wpAny (model prog w) A (call (.type "range") [.int n t]) Q E s :=
  range1_rows (news := []) (frame0 H.ns) (fun _ q => nomatch q) fun h' tk t₁ u₁ v₁ hr _ _ kp => h h' tk _ t₁ u₁ v₁ hr (H.keeps kp)
theorem call_range2 {a c : Int} {t u : Tok} {Q : Value → Shared → Prop} (H : St b S g0 h0 env g m mc mu s.heap)
    (h : ∀ h' tk r t₁ u₁ v₁, IsRange h' r a c 1 t₁ u₁ v₁ → St b S g0 h0 env g m mc mu h' → Q (.ref r) { s with heap := h', toks := tk }) : wpAny (model prog w) A (call (.type "range") [.int a t, .int c u]) Q E s :=
  range2_rows (news := []) (frame0 H.ns) (fun _ q => nomatch q) fun h' tk t₁ u₁ v₁ hr _ _ kp => h h' tk _ t₁ u₁ v₁ hr (H.keeps kp)
end
end Mine
namespace Mine
section
variable {prog : Program} {w : World} {b : Heap}
variable {S : List Addr} {g0 : FM} {h0 : Heap} {env : Env} {g : FM} {m mc : Str → Option Value} {mu pre post : List (Addr × Obj)} {h h' : Heap}
variable {A : Around} {s : Shared} {E : Value → Shared → Prop}

theorem St.keepsL (H : St b S g0 h0 env g m mc mu h) (ns : h'.Ns env.locals m) (k : ∀ a o, a ≠ env.locals → h.get? a = some o → h'.get? a = some o) : St b S g0 h0 env g m mc mu h' := by
  have nd := H.nd
  unfold owns at nd
  have nL := (List.nodup_cons.mp nd).1
  have gL := (H.own _ owns_L).1
  refine H.move ⟨.refl g, fun _ _ e => .inl e, fun a o n e => k a o (fun q => n (q ▸ owns_L)) e, fun a o e => ?_, fun a o e => k a o (fun q => by subst q; rw [gL] at e; cases e) (H.on a o e)⟩ ns
    (fun x c hc => ?_) (fun p hp => k _ _ (fun q => nL (q ▸ List.mem_append_right _ (List.mem_map_of_mem hp))) (H.mus p hp)) rfl
  · by_cases q : a = env.locals
    · subst q; obtain ⟨o', _, _, e', _⟩ := ns; exact ⟨o', e'⟩
    · exact ⟨o, k a o q e⟩
  · obtain ⟨o, e, r⟩ := H.cell x c hc
    exact ⟨o, k _ _ (fun q => nL (q ▸ List.mem_append_left _ (List.mem_map.mpr ⟨(x, c), hc, rfl⟩))) e, r⟩

/-- a new object by a rule over a ledger -/
theorem St.madeF {a : Addr} {o : Obj} (H : St b S g0 h0 env g m mc mu h) (fa : h.get? a = none) (F : Fr noHeap env.locals h' m) (N : News noHeap env.locals h' ((a, o) :: restOf h [env.locals])) :
    St b S g0 h0 env g m mc ((a, o) :: mu) h' ∧ h0.get? a = none := by
  have H' := H.keepsL F.ns fun x p n e => (N (x, p) (.tail _ (mem_restOf.mpr ⟨by simpa using n, e⟩))).1
  exact ⟨H'.adopt (N (a, o) (.head _)).1 (H.not_owned fa) (H.gfresh fa) (H.h0fresh fa), H.h0fresh fa⟩
theorem restN (h : Heap) (L : Addr) : News noHeap L h (restOf h [L]) := news0 (.head _)

-- lists
abbrev lst (vs : List Value) : Obj := { cls := .type "list", data := .seq vs.toArray }
theorem IsL.lst (vs : List Value) : IsL (Mine.lst vs) vs := ⟨rfl, 0, rfl⟩
theorem new_list {vs : List Value} {Q : Value → Shared → Prop} (H : St b S g0 h0 env g m mc mu s.heap) (hsz : vs.length ≤ sizeLine)
    (h : ∀ a h', h0.get? a = none → s.heap.get? a = none → St b S g0 h0 env g m mc ((a, lst vs) :: mu) h' → Q (.ref a) { s with heap := h' }) :
    vs.length ≤ sizeLine ∧ Q (.ref s.heap.objs.size) { s with heap := s.heap.push { cls := .type "list", data := .seq vs.toArray } } :=
  have f := none_of_ge (h := s.heap) (Nat.le_refl _)
  ⟨hsz, h _ _ (H.h0fresh f) f (H.alloc f (Heap.get?_push_size _ rfl) fun _ _ e => Heap.get?_push_of_some _ e)⟩
theorem new_tuple {vs : List Value} {Q : Value → Shared → Prop} (H : St b S g0 h0 env g m mc mu s.heap) (hsz : vs.length ≤ sizeLine)
    (h : ∀ a h' g', g.le g' → IsTup h' a vs.toArray → (∃ o, g' a = some o) → St b S g0 h0 env g' m mc mu h' → Q (.ref a) { s with heap := h' }) :
    vs.length ≤ sizeLine ∧ Q (.ref s.heap.objs.size) { s with heap := s.heap.push { cls := .type "tuple", data := .seq vs.toArray } } :=
  have f := none_of_ge (h := s.heap) (Nat.le_refl _)
  have e := Heap.get?_push_size s.heap (o := { cls := .type "tuple", data := .seq vs.toArray }) rfl
  have K := H.allocG f e fun _ _ e => Heap.get?_push_of_some _ e
  ⟨hsz, h _ _ _ K.2 ⟨_, e, rfl, 0, rfl⟩ ⟨_, FM.put_self ..⟩ K.1⟩

theorem sub_list {value slice : Expr} {l : Addr} {vs : List Value} {k : Int} {t : Tok} {v : Value} {Q : Value → Shared → Prop} (hl : s.heap.IsList l vs.toArray) (h0 : 0 ≤ k) (hk : k < 2 ^ 63) (hx : vs[k.toNat]? = some v) (h : Q v s)
    (hs : subscripted slice false (.ref l) (.int k t) = operate [.ref l, .int k t] (getItem (.ref l) (.int k t)) := by with_unfolding_all rfl) :
    wpAny (model prog w) A (subscriptTail value slice (.ref l) (.int k t)) Q E s :=
  tail_any hl.typeIs slot_list_getitem.lookup (wpAny_getItem_list hl h0 hk (by simpa using hx) h) hs
theorem set_list {a : Addr} {o : Obj} {vs : List Value} {k : Int} {t : Tok} {v : Value} {Q : Unit → Shared → Prop} (H : St b S g0 h0 env g m mc (pre ++ (a, o) :: post) s.heap) (isl : IsL o vs) (hk0 : 0 ≤ k) (hk : k < 2 ^ 63) (hn : k.toNat < vs.length)
    (h : ∀ h' o', IsL o' (vs.set k.toNat v) → St b S g0 h0 env g m mc (pre ++ (a, o') :: post) h' → Q () { s with heap := h' }) : wpAny (model prog w) A (setItem (.ref a) (.int k t) v) Q E s := by
  refine wpAny_setItem_list (isl.at_ H.muAt) hk0 hk (by rw [List.size_toArray]; omega) fun h' hl' hs' => ?_
  obtain ⟨o', e', c', k', d'⟩ := hl'
  exact h h' o' ⟨c', k', by rw [d']; simp⟩ (H.updAt e' hs'.extBut)
theorem add_lists {l r : Addr} {vs us : List Value} {Q : Value → Shared → Prop} (H : St b S g0 h0 env g m mc mu s.heap) (hl : s.heap.IsList l vs.toArray) (hr : s.heap.IsList r us.toArray) (hsz : vs.length + us.length ≤ sizeLine)
    (h : ∀ a h', h0.get? a = none → s.heap.get? a = none → St b S g0 h0 env g m mc ((a, lst (vs ++ us)) :: mu) h' → Q (.ref a) { s with heap := h' }) : wpAny (model prog w) A (binaryOp .Add (.ref l) (.ref r)) Q E s := by
  refine add_arrays (frame0 H.ns) (restN _ _) hl hr (fun h' F N => ?_) (by rw [List.size_toArray, List.size_toArray]; exact hsz)
  have f := none_of_ge (h := s.heap) (Nat.le_refl _)
  obtain ⟨H', f0⟩ := H.madeF f F N
  exact h _ h' f0 f H'
theorem foldl_rep {v : Value} (n : Nat) : ∀ acc : Array Value, (List.replicate n #[v]).foldl (fun x1 x2 => x1 ++ x2) acc = acc ++ (List.replicate n v).toArray := by
  induction n with
  | zero => intro acc; simp
  | succ n ih => intro acc; rw [List.replicate_succ, List.foldl_cons, ih]; apply Array.ext'; simp [List.replicate_succ]
theorem mul_one {l : Addr} {v : Value} {x : Int} {u : Tok} {Q : Value → Shared → Prop} (H : St b S g0 h0 env g m mc ((l, lst [v]) :: mu) s.heap) (hlo : -(2 ^ 63) ≤ x) (hx : x ≤ 16777216)
    (h : ∀ a h', h0.get? a = none → s.heap.get? a = none → St b S g0 h0 env g m mc ((a, lst (List.replicate x.toNat v)) :: mu) h' → Q (.ref a) { s with heap := h' }) : wpAny (model prog w) A (binaryOp .Mult (.ref l) (.int x u)) Q E s := by
  refine mul_list (frame0 H.ns) (restN _ _) (H.mus (l, lst [v]) (.head _)) hlo (by omega) (by simp; omega) fun h' F N => ?_
  have f := none_of_ge (h := s.heap) (Nat.le_refl _)
  obtain ⟨H', f0⟩ := H.madeF f F N
  refine h _ h' f0 f ?_
  have e : (List.replicate (if ([v] : List Value).toArray.isEmpty = true then 0 else x.toNat) ([v] : List Value).toArray).foldl (fun x1 x2 => x1 ++ x2) #[] = (List.replicate x.toNat v).toArray := by
    rw [show (([v] : List Value).toArray.isEmpty) = false from rfl, if_neg (by decide)]
    have := foldl_rep (v := v) x.toNat #[]
    simpa using this
  rw [e] at H'
  exact (H'.perm (List.Perm.swap _ _ _)).drop
theorem copy_list {l : Addr} {vs : List Value} {Q : Value → Shared → Prop} (H : St b S g0 h0 env g m mc mu s.heap) (hl : s.heap.IsList l vs.toArray) (hsz : vs.length ≤ sizeLine)
    (h : ∀ a o h', IsL o vs → h0.get? a = none → St b S g0 h0 env g m mc ((a, o) :: mu) h' → Q (.ref a) { s with heap := h' }) : wpAny (model prog w) A (call (.type "list") [.ref l]) Q E s := by
  refine list_copyK (frame0 H.ns) (restN _ _) hl (fun D c h' F N lt => ?_) (by rw [List.size_toArray]; exact hsz)
  have f : s.heap.get? D = none := by
    cases q : s.heap.get? D with
    | none => rfl
    | some o =>
      by_cases e : D = env.locals
      · exact absurd e (N _ (.head _)).2.1
      · exact absurd (lt (D, o) (mem_restOf.mpr ⟨by simpa using e, q⟩)) (Nat.lt_irrefl _)
  obtain ⟨H', f0⟩ := H.madeF f F N
  exact h _ _ h' ⟨rfl, c, rfl⟩ f0 H'
theorem len_list {l : Addr} {vs : List Value} {Q : Value → Shared → Prop} (hl : s.heap.IsList l vs.toArray) (hsz : vs.length ≤ 16777216) (h : Q (.int vs.length (s.toks + 1)) { s with toks := s.toks + 1 + 1 }) :
    wpAny (model prog w) A (call (.builtin "len") [.ref l]) Q E s :=
  call_len_list hl (by rw [List.size_toArray]; omega) (by rw [List.size_toArray]; exact h)
end
end Mine
namespace Mine
section
variable {b : Heap} {S : List Addr} {g0 : FM} {h0 : Heap} {env : Env} {g g' : FM} {m mc : Str → Option Value} {mu mu' pre : List (Addr × Obj)} {h h' : Heap}
theorem St.muFacts (H : St b S g0 h0 env g m mc (pre ++ mu) h) : (∀ q ∈ mu, h.get? q.1 = some q.2 ∧ g q.1 = none) ∧ (mu.map (·.1)).Nodup := by
  refine ⟨fun q hq => ⟨H.mus q (List.mem_append_right _ hq), (H.own _ (owns_mu (List.mem_append_right _ hq))).1⟩, ?_⟩
  have nd := H.nd
  unfold owns at nd
  rw [List.map_append] at nd
  exact (List.nodup_append.mp (List.nodup_append.mp (List.nodup_cons.mp nd).2).2.1).2.1
theorem St.callMu (H : St b S g0 h0 env g m mc (pre ++ mu) h) (e : Ev (mu.map (·.1)) g h g' h') (ad : mu'.map (·.1) = mu.map (·.1)) (mus : ∀ q ∈ mu', h'.get? q.1 = some q.2) : St b S g0 h0 env g' m mc (pre ++ mu') h' := by
  have nd := H.nd
  unfold owns at nd
  rw [List.map_append] at nd
  have nd2 := List.nodup_append.mp (List.nodup_append.mp (List.nodup_cons.mp nd).2).2.1
  refine H.call e (fun a ha => by rw [List.map_append]; exact List.mem_append_right _ ha) (fun q hq => ?_) (by rw [List.map_append, List.map_append, ad])
  rcases List.mem_append.mp hq with hq | hq
  · exact e.keep _ _ (fun z => nd2.2.2 q.1 (List.mem_map_of_mem hq) q.1 z rfl) (H.mus q (List.mem_append_left _ hq))
  · exact mus q hq
end

section
variable {prog : Program} {w : World} {b : Heap} {S : List Addr} {g0 : FM} {h0 : Heap} {env : Env} {g : FM} {m mc : Str → Option Value} {mu : List (Addr × Obj)} {A : Around} {s : Shared} {E : Value → Shared → Prop}
theorem sub_mu {value slice : Expr} {l : Addr} {o : Obj} {vs : List Value} {k : Int} {t : Tok} {v : Value} {Q : Value → Shared → Prop} (H : St b S g0 h0 env g m mc mu s.heap) (hm : (l, o) ∈ mu) (isl : IsL o vs) (h0 : 0 ≤ k) (hk : k < 2 ^ 63) (hx : vs[k.toNat]? = some v) (h : Q v s)
    (hs : subscripted slice false (.ref l) (.int k t) = operate [.ref l, .int k t] (getItem (.ref l) (.int k t)) := by with_unfolding_all rfl) :
    wpAny (model prog w) A (subscriptTail value slice (.ref l) (.int k t)) Q E s := sub_list (isl.at_ (H.mus _ hm)) h0 hk hx h hs
theorem len_mu {l : Addr} {o : Obj} {vs : List Value} {Q : Value → Shared → Prop} (H : St b S g0 h0 env g m mc mu s.heap) (hm : (l, o) ∈ mu) (isl : IsL o vs) (hsz : vs.length ≤ 16777216) (h : Q (.int vs.length (s.toks + 1)) { s with toks := s.toks + 1 + 1 }) :
    wpAny (model prog w) A (call (.builtin "len") [.ref l]) Q E s := len_list (isl.at_ (H.mus _ hm)) hsz h
theorem mod_pos {a c : Int} {t u : Tok} {Q : Value → Shared → Prop} (hc : 0 < c) (h : Q (.int (a % c) s.toks) { s with toks := s.toks + 1 }) : wpAny (model prog w) A (binaryOp .Mod (.int a t) (.int c u)) Q E s :=
  PyProof.Rows.mod_int' (by omega) (by rw [Int.fmod_eq_emod_of_nonneg _ (by omega)]; exact h)
theorem div_pos {a c : Int} {t u : Tok} {Q : Value → Shared → Prop} (hc : 0 < c) (hc2 : c < 1073741824) (h : Q (.int (a / c) s.toks) { s with toks := s.toks + 1 }) : wpAny (model prog w) A (binaryOp .FloorDiv (.int a t) (.int c u)) Q E s :=
  PyProof.Rows.floordiv_int (by omega) (by rw [Int.fdiv_eq_ediv_of_nonneg _ (by omega)]; exact h) (.inl (PyProof.noPylong_small (by omega)))
theorem mul_lit {a c : Int} {t u : Tok} {Q : Value → Shared → Prop} (hc : Builtin.Int.intBits c ≤ 64) (h : Q (.int (a * c) s.toks) { s with toks := s.toks + 1 }) : wpAny (model prog w) A (binaryOp .Mult (.int a t) (.int c u)) Q E s :=
  PyProof.Rows.mul_int h (IntMulOk.of_right hc)
end

/-- the draws' state: a counter and the cells -/
def StOk (st cl : Addr) (mu : List (Addr × Obj)) : Prop := ∃ oS oC k tk vs ns, mu = [(st, oS), (cl, oC)] ∧ IsL oS [.int k tk, .ref cl] ∧ IsL oC vs ∧ IntsAre vs ns ∧ 0 < vs.length ∧ vs.length ≤ 64
theorem StOk.adr {st cl : Addr} {mu : List (Addr × Obj)} (x : StOk st cl mu) : mu.map (·.1) = [st, cl] := by obtain ⟨_, _, _, _, _, _, rfl, _⟩ := x; rfl
end Mine
namespace Mine
-- the library's nodes, their side conditions shown by unfolding
section
variable {M : Model} {prog : Program} {w : World} {env : Env} {A : Around} {s : Shared} {E : Value → Shared → Prop}
theorem x_assign {x pos' value pos} {Q : Flow → Shared → Prop} (h : wpAny M A (eval value env) (fun v s₁ => wpAny M A (storeName env x v) (fun _ => Q .next) E s₁) E s)
    (hs : swapsWith value (some (.Name x pos')) pos.line env = pure false := by with_unfolding_all rfl) : wpAny M A (exec (.Assign [.Name x pos'] value pos) env) Q E s := wpAny_Assign_Name h hs
theorem x_assignSub {o i pos' value pos} {Q : Flow → Shared → Prop}
    (h : wpAny M A (eval value env) (fun v s₁ => wpAny M A (eval o env) (fun ov s₂ => wpAny M A (eval i env) (fun iv s₃ => wpAny M A (setItem ov iv v) (fun _ => Q .next) E s₃) E s₂) E s₁) E s)
    (hs : swapsWith value (some (.Subscript o i pos')) pos.line env = pure false := by with_unfolding_all rfl) : wpAny M A (exec (.Assign [.Subscript o i pos'] value pos) env) Q E s := wpAny_Assign_Subscript h hs
theorem x_builtin {pos : Pos} {id : String} {e : Expr} {rest : List Expr} {Q : Value → Shared → Prop}
    (h : wpAny M A (spliced (backTo pos (starEach (e :: rest) env))) (fun vs s₁ => wpAny M A (call (.builtin id) vs) Q E s₁) E s)
    (he : starEach (e :: rest) env = (false, eval e env) :: starEach rest env := by with_unfolding_all rfl) (hplain : (backTo pos (starEach rest env)).any (·.1) = false := by with_unfolding_all rfl) :
    wpAny M A (callWith pos (.builtin id) [] (backTo pos (starEach (e :: rest) env)) []) Q E s := PyProof.Rows.callWith_builtin1 h he hplain
theorem x_type {pos : Pos} {T : String} {e : Expr} {rest : List Expr} {Q : Value → Shared → Prop}
    (h : wpAny M A (spliced (backTo pos (starEach (e :: rest) env))) (fun vs s₁ => wpAny M A (call (.type T) vs) Q E s₁) E s)
    (he : starEach (e :: rest) env = (false, eval e env) :: starEach rest env := by with_unfolding_all rfl) (hplain : (backTo pos (starEach rest env)).any (·.1) = false := by with_unfolding_all rfl) :
    wpAny M A (callWith pos (.type T) [] (backTo pos (starEach (e :: rest) env)) []) Q E s := PyProof.Rows.callWith_type1 h he hplain
theorem x_arg {e : Expr} {rest : List Expr} {pos : Pos} {Q : List Value → Shared → Prop} (h : wpAny M A (eval e env) (fun v s₁ => wpAny M A (spliced (backTo pos (starEach rest env))) (fun vs s₂ => Q (v :: vs) s₂) E s₁) E s)
    (he : starEach (e :: rest) env = (false, eval e env) :: starEach rest env := by with_unfolding_all rfl) : wpAny M A (spliced (backTo pos (starEach (e :: rest) env))) Q E s := spliced_more h he
theorem x_attr {value : Expr} {attr : Str} {pos : Pos} {Q : Value → Shared → Prop} (h : wpAny (model prog w) A (eval value env) (fun o s₁ => wpAny (model prog w) A (getAttr o attr true) Q E s₁) E s)
    (he : eval (.Attribute value attr pos) env = (do
      let o ← eval value env
      standAt pos.atName
      let r ← holding [o] (getAttr o attr true)
      letTemporaryGo value o r
      pure r) := by with_unfolding_all rfl) : wpAny (model prog w) A (eval (.Attribute value attr pos) env) Q E s := Attribute_any_ h he
theorem x_meth {o : Expr} {name : Str} {apos pos : Pos} {args : List Expr} {pl : Sem Bool} {Q : Value → Shared → Prop}
    (h : wpAny M A (eval o env) (fun ov s₁ => wpAny M A (getMethod ov name pl) (fun fx s₂ => wpAny M A (callWith pos fx.1 fx.2 (backTo pos (starEach args env)) []) Q E s₂) E s₁) E s)
    (he : eval (.Call (.Attribute o name apos) args [] pos) env = (do
      let ov ← eval o env
      standAt apos.atName
      let (f, first) ← holding [ov] (getMethod ov name pl)
      callWith pos f first (backTo pos (starEach args env)) []) := by with_unfolding_all rfl) :
    wpAny M A (eval (.Call (.Attribute o name apos) args [] pos) env) Q E s := MethodCall_ h he
theorem x_cmp {l op r pos} {Q : Value → Shared → Prop} (h : wpAny M A (eval l env) (fun a s₁ => wpAny M A (eval r env) (fun b s₂ => wpAny M A (compareOp op a b) Q E s₂) E s₁) E s)
    (hm : behindInMarks op r = false := by with_unfolding_all rfl) : wpAny M A (eval (.Compare l [op] [r] pos) env) Q E s := wpAny_Compare1 h hm
theorem x_fn {K : Frag} {b : Heap} {p : Program} {loose : List Str} {mean : ExcName → Option Value} {mg mb : Str → Option Value} {f : Value} {first : List Value} {pos : Pos} {e : Expr} {rest : List Expr} {Q : Value → Shared → Prop}
    (W : Wd K p loose mean mg mb b) (hk : keepIn K f = true) (h : wpAny M A (spliced (backTo pos (starEach (e :: rest) env))) (fun vs s₁ => K.In s₁.heap ∧ wpAny M A (call f (first ++ vs)) Q E s₁) E s)
    (he : starEach (e :: rest) env = (false, eval e env) :: starEach rest env := by with_unfolding_all rfl) (hplain : (backTo pos (starEach rest env)).any (·.1) = false := by with_unfolding_all rfl) :
    wpAny M A (callWith pos f first (backTo pos (starEach (e :: rest) env)) []) Q E s := callWith_K (h₀ := b) W.X hk h he hplain
end
end Mine
namespace Mine
theorem ints_set {vs : List Value} {ns : List Int} (h : IntsAre vs ns) (i : Nat) (x : Int) (t : Tok) : IntsAre (vs.set i (.int x t)) (ns.set i x) := by
  induction h generalizing i with
  | nil => exact .nil
  | cons n t' h ih => cases i with
    | zero => exact .cons x t h
    | succ i => exact .cons n t' (ih i)
end Mine
namespace Mine
def IntL (g : FM) (a : Addr) (ns : List Int) : Prop := ∃ vs o k, g a = some o ∧ o.cls = .type "list" ∧ o.data = .seq (List.toArray vs) k ∧ IntsAre vs ns
theorem IntL.mono {g g' : FM} {a : Addr} {ns : List Int} (I : IntL g a ns) (le : g.le g') : IntL g' a ns := let ⟨vs, o, k, e, r⟩ := I; ⟨vs, o, k, le _ _ e, r⟩
def Ring (C : Addr) (g : FM) (x : Addr) (q n : Int) : Prop := ∃ h1 t1 u1 h2 t2 u2, Inst g x C [⟨h1, .str "q" t1, .int q u1⟩, ⟨h2, .str "n" t2, .int n u2⟩]
theorem Ring.mono {C : Addr} {g g' : FM} {x : Addr} {q n : Int} (I : Ring C g x q n) (le : g.le g') : Ring C g' x q n := let ⟨h1, t1, u1, h2, t2, u2, i⟩ := I; ⟨h1, t1, u1, h2, t2, u2, i.mono le⟩
def Poly (C : Addr) (g : FM) (x r : Addr) (cs : List Int) : Prop := ∃ h1 t1 h2 t2 l, Inst g x C [⟨h1, .str "parent" t1, .ref r⟩, ⟨h2, .str "coeffs" t2, .ref l⟩] ∧ IntL g l cs
theorem Poly.mono {C : Addr} {g g' : FM} {x r : Addr} {cs : List Int} (I : Poly C g x r cs) (le : g.le g') : Poly C g' x r cs := let ⟨h1, t1, h2, t2, l, i, j⟩ := I; ⟨h1, t1, h2, t2, l, i.mono le, j.mono le⟩
theorem IntL.list {g : FM} {h : Heap} {a : Addr} {ns : List Int} (I : IntL g a ns) (on : g.le h.get?) : ∃ vs, h.IsList a vs.toArray ∧ IntsAre vs ns := let ⟨vs, o, k, e, c, d, i⟩ := I; ⟨vs, ⟨o, on _ _ e, c, k, d⟩, i⟩
theorem IntL.mk {g : FM} {a : Addr} {o : Obj} {vs : List Value} {ns : List Int} (e : g a = some o) (isl : IsL o vs) (i : IntsAre vs ns) : IntL g a ns := let ⟨c, k, d⟩ := isl; ⟨vs, o, k, e, c, d, i⟩
end Mine
namespace Mine
section
variable {prog : Program} {w : World} {K : Frag} {p : Program} {loose : List Str} {mean : ExcName → Option Value} {mg mb : Str → Option Value} {b : Heap}
variable {S : List Addr} {g0 : FM} {h0 : Heap} {env : Env} {g : FM} {m mc : Str → Option Value} {mu : List (Addr × Obj)}
variable {A : Around} {s : Shared} {E : Value → Shared → Prop}

theorem St.F (H : St b S g0 h0 env g m mc mu s.heap) : Fr b env.locals s.heap m := ⟨H.ns, H.base, H.lo⟩

/-- its two objects told -/
structure At (g : FM) (x C d : Addr) (es : List DictEntry) (n : Nat) : Prop where
  x : g x = some (instObj C d)
  d : g d = some (dictOf es n)
theorem Inst.open_ {g : FM} {x C : Addr} {es : List DictEntry} (I : Inst g x C es) : ∃ d n, At g x C d es n := let ⟨d, n, a, c⟩ := I; ⟨d, n, a, c⟩
theorem At.mono {g g' : FM} {x C d : Addr} {es : List DictEntry} {n : Nat} (I : At g x C d es n) (le : g.le g') : At g' x C d es n := ⟨le _ _ I.x, le _ _ I.d⟩
theorem At.inst {g : FM} {x C d : Addr} {es : List DictEntry} {n : Nat} (I : At g x C d es n) : Inst g x C es := ⟨d, n, I.x, I.d⟩
theorem At.I {h : Heap} {x C d : Addr} {es : List DictEntry} {n : Nat} (I : At h.get? x C d es n) : InstAt h x (instObj C d) C (some (dictOf es n)) := ⟨I.x, rfl, rfl, I.d⟩

-- an object called
theorem x_icall {pos : Pos} {x C d f : Addr} {es : List DictEntry} {n : Nat} {first : List Value} {e : Expr} {rest : List Expr} {Q : Value → Shared → Prop} (X : K.In s.heap) (I : At s.heap.get? x C d es n) (hs : findIn K (.ref C) "__call__" = some (some (.ref f)))
    (h : wpAny (model prog w) A (spliced (backTo pos (starEach (e :: rest) env))) (fun vs s₁ => (K.In s₁.heap ∧ At s₁.heap.get? x C d es n) ∧ wpAny (model prog w) A (call (.ref x) (first ++ vs)) Q E s₁) E s)
    (he : starEach (e :: rest) env = (false, eval e env) :: starEach rest env := by with_unfolding_all rfl) (hplain : (backTo pos (starEach rest env)).any (·.1) = false := by with_unfolding_all rfl) :
    wpAny (model prog w) A (callWith pos (.ref x) first (backTo pos (starEach (e :: rest) env)) []) Q E s :=
  kco_callWith X I.I rfl hs (wpAny_mono h (fun vs s₁ z => ⟨⟨z.1.1, z.1.2.I⟩, z.2⟩) fun _ _ z => z) he hplain
theorem icall {x C d f : Addr} {es : List DictEntry} {n : Nat} {vs : List Value} {Q : Value → Shared → Prop} (X : K.In s.heap) (I : At s.heap.get? x C d es n) (hs : findIn K (.ref C) "__call__" = some (some (.ref f))) (hf : isFn K (.ref f) = true) (hfn : fnIn K f = true)
    (h : codeAny (model prog w) A (.call (.ref f) ⟨.ref x :: vs, []⟩) (fun r s' => match r with | .ok (.ret v) => Q v s' | .ok _ => False | .error e => E e s') s) : wpAny (model prog w) A (call (.ref x) vs) Q E s :=
  wpAny_call (kco_code X I.I rfl hs hf hfn h)

-- operators of a class
theorem bin_same {op : Operator} {x y C f : Addr} {es es' : List DictEntry} {Q : Value → Shared → Prop} (W : Wd K p loose mean mg mb b) (H : St b S g0 h0 env g m mc mu s.heap) (I : Inst g x C es) (J : Inst g y C es') (hc : selfFirst K C = true)
    (hs : findIn K (.ref C) (PySem.dunder op.info.2) = some (some (.ref f))) (hf : isFn K (.ref f) = true) (h : wpAny (model prog w) A (call (.ref f) [.ref x, .ref y]) (PySem.W.CmpBack Q) E s) : wpAny (model prog w) A (binaryOp op (.ref x) (.ref y)) Q E s := by
  obtain ⟨d, n, i⟩ := (I.mono H.on).at_
  obtain ⟨d', n', j⟩ := (J.mono H.on).at_
  exact binop_K H.F W.X i j.type hc hs hf h
theorem bin_int {op : Operator} {x C f : Addr} {es : List DictEntry} {k : Int} {t : Tok} {fo ro rc : Option Value} {Q : Value → Shared → Prop} (W : Wd K p loose mean mg mb b) (H : St b S g0 h0 env g m mc mu s.heap) (I : Inst g x C es) (hc : selfFirst K C = true)
    (hs : findIn K (.ref C) (PySem.dunder op.info.2) = some (some (.ref f))) (hf : isFn K (.ref f) = true) (hr : findIn K (.ref C) (dunderR op.info.2) = some rc) (hp : rc = none ∨ ∃ g : Addr, rc = some (.ref g))
    (h1 : findIn K (.type "int") (PySem.dunder op.info.2) = some fo) (h2 : findIn K (.type "int") (dunderR op.info.2) = some ro) (hsub : subIn K (.type "int") (.ref C) = some false)
    (h : wpAny (model prog w) A (call (.ref f) [.ref x, .int k t]) (PySem.W.CmpBack Q) E s) : wpAny (model prog w) A (binaryOp op (.ref x) (.int k t)) Q E s := by
  obtain ⟨d, n, i⟩ := (I.mono H.on).at_
  exact ksp_binT H.F W.X i rfl hc hs hf hr hp h1 h2 hsub h

-- isinstance, type
theorem isi_list {l : Addr} {o : Obj} {c : Value} {r : Bool} {Q : Value → Shared → Prop} (X : K.In s.heap) (ho : s.heap.get? l = some o) (hc : o.cls = .type "list") (e : kitOne K (.type "list") c = some r) (h : ∀ tk, Q (.bool r) { s with toks := tk }) :
    wpAny (model prog w) A (call (.builtin "isinstance") [.ref l, c]) Q E s := kia_one kitx_list X ⟨o, ho, hc⟩ e (by intro q; cases q) h
theorem isi_int {k : Int} {t : Tok} {c : Value} {r : Bool} {Q : Value → Shared → Prop} (X : K.In s.heap) (e : kitOne K (.type "int") c = some r) (h : ∀ tk, Q (.bool r) { s with toks := tk }) :
    wpAny (model prog w) A (call (.builtin "isinstance") [.int k t, c]) Q E s := kia_one kitx_int X trivial e (by intro q; cases q) h
theorem isi_inst {x C : Addr} {es : List DictEntry} {c : Value} {r : Bool} {Q : Value → Shared → Prop} (X : K.In s.heap) (I : Inst s.heap.get? x C es) (e : kitOne K (.ref C) c = some r)
    (hg : plainGet K C "__class__" = true) (hdct : hasDictIn K C = true) (ha : findIn K (.ref C) "__class__" = some (some (.builtin "object.__class__")))
    (hn : specialIn K (.builtin "object.__class__") "__get__" = some (some (.builtin "getset_descriptor.__get__"))) (htk : takesIn K (.builtin "object.__class__") = some true) (hm : mroIn K C (.type "object") = some true)
    (h : ∀ tk, Q (.bool r) { s with toks := tk }) : wpAny (model prog w) A (call (.builtin "isinstance") [.ref x, c]) Q E s := by
  obtain ⟨d, n, i⟩ := I.at_
  exact kia_one (kitx_own hg hdct ha hn htk hm) X i e (by intro q; cases q) h
theorem type_inst {x C : Addr} {es : List DictEntry} {Q : Value → Shared → Prop} (I : Inst s.heap.get? x C es) (h : Q (.ref C) s) : wpAny (model prog w) A (call (.type "type") [.ref x]) Q E s := by
  obtain ⟨d, n, i⟩ := I.at_
  exact kto_own i h

-- a slice from the start
theorem sub_upto {value : Expr} {slice : Expr} {l : Addr} {vs : List Value} {ns : List Int} {y : Int} {t : Tok} {Q : Value → Shared → Prop} (H : St b S g0 h0 env g m mc mu s.heap) (hl : s.heap.IsList l vs.toArray) (hi : IntsAre vs ns) (hy : 0 ≤ y) (hz : vs.length ≤ sizeLine)
    (h : ∀ D o ws h', IsL o ws → IntsAre ws (ns.take y.toNat) → h0.get? D = none → St b S g0 h0 env g m mc ((D, o) :: mu) h' → Q (.ref D) { s with heap := h' })
    (hs : subscripted slice false (.ref l) (.ref s.heap.objs.size) = operate [.ref s.heap.objs.size, .ref l] (getItem (.ref l) (.ref s.heap.objs.size)) := by with_unfolding_all rfl) (ht : ∀ r, letTemporaryGo value (.ref l) r = pure () := by intro _; with_unfolding_all rfl) :
    wpAny (model prog w) A (subscriptTail value slice (.ref l) (.ref s.heap.objs.size)) Q E { s with heap := s.heap.push { cls := .type "slice", data := .fields #[.none, .int y t, .none] } } := by
  refine kmk_slice_ints (frame0 H.ns) (restN _ _) hl .none (.int y t) hi (kmk_upto hi hy) rfl (fun D ws h' F N lt hw _ _ => ?_) hs ht (by rw [List.size_toArray]; exact hz)
  have f : s.heap.get? D = none := by
    cases q : s.heap.get? D with
    | none => rfl
    | some o =>
      by_cases e : D = env.locals
      · exact absurd e (N _ (.head _)).2.1
      · exact absurd (lt (D, o) (mem_restOf.mpr ⟨by simpa using e, q⟩)) (Nat.lt_irrefl _)
  obtain ⟨H', f0⟩ := H.madeF f F N
  exact h D _ ws h' ⟨rfl, 0, rfl⟩ hw f0 H'
end
end Mine
namespace Mine

theorem codeAny_compLoop_own {prog : Program} {w : World} {A : Around} {R : Result → Shared → Prop} {s : Shared} {elt target iter : Expr} {scope : Scope} {pos : Pos} {it acc : Value} {env : Env} (I : Nat → Shared → Prop)
    (turn : ∀ n s, I n s → wpAny (model prog w) A (pyNext it) (fun r s₁ => match r with
      | none => R (.ok .next) s₁
      | some v => wpAny (model prog w) A (letOwnedTupleGo target it v) (fun _ s₁ => wpAny (model prog w) A (assign target env v) (fun _ s₂ => wpAny (model prog w) A (eval elt env) (fun x s₃ =>
          wpAny (model prog w) A (call (.builtin "list.append") [acc, x]) (fun _ s₄ => ∃ m, m < n ∧ I m s₄) (notedBy (model prog w) A env fun e s' => R (.error e) s') s₃)
          (notedBy (model prog w) A env fun e s' => R (.error e) s') s₂) (notedBy (model prog w) A env fun e s' => R (.error e) s') s₁) (notedBy (model prog w) A env fun e s' => R (.error e) s') s₁) (notedBy (model prog w) A env fun e s' => R (.error e) s') s)
    (n : Nat) (h : I n s) :
    codeAny (model prog w) A (.compLoop (.ListComp elt [⟨target, iter, [], 0⟩] scope pos) 0 it acc env) R s := by
  refine codeAny_loop rfl I (fun n s hI => ?_) n h
  show wpAny _ _ ((compTurn (.ListComp elt [⟨target, iter, [], 0⟩] scope pos) 0 it acc env).onRaise (fun x => do noteFrame x env; theTreesLotGoes x)) _ _ s
  refine wpAny_noted ?_
  rw [compTurn_list1]
  refine wpAny_bind (wpAny_standAt (wpAny_bind (wpAny_mono (turn n s hI) (fun r s₁ h₁ => ?_) fun _ _ h' => h')))
  cases r with
  | none => exact wpAny_pure h₁
  | some v =>
    exact wpAny_bind (wpAny_mono h₁ (fun _ s₁ h₁ => wpAny_bind (wpAny_mono h₁ (fun _ s₂ h₂ => wpAny_bind (wpAny_bind (wpAny_mono h₂ (fun x s₃ h₃ => wpAny_bind (wpAny_mono h₃
      (fun _ s₄ h₄ => wpAny_pure (wpAny_pure ⟨rfl, h₄⟩)) fun _ _ h' => h')) fun _ _ h' => h'))) fun _ _ h' => h')) fun _ _ h' => h')

section
variable {prog : Program} {w : World} {b : Heap}
variable {S : List Addr} {g0 : FM} {h0 : Heap} {env : Env} {g : FM} {m mc : Str → Option Value} {mu its : List (Addr × Obj)} {h hb : Heap}
variable {A : Around} {s : Shared} {E : Value → Shared → Prop}

theorem owns_append {a : Addr} (q : a ∈ owns env (its ++ mu)) : a ∈ its.map (·.1) ∨ a ∈ owns env mu := by
  unfold owns at q ⊢
  rcases List.mem_cons.mp q with q | q
  · exact .inr (q ▸ .head _)
  · rcases List.mem_append.mp q with q | q
    · exact .inr (.tail _ (List.mem_append_left _ q))
    · rw [List.map_append] at q
      rcases List.mem_append.mp q with q | q
      · exact .inl q
      · exact .inr (.tail _ (List.mem_append_right _ q))

theorem St.adopts : ∀ {its : List (Addr × Obj)}, St b S g0 h0 env g m mc mu h → (∀ q ∈ its, h.get? q.1 = some q.2 ∧ q.1 ∉ owns env mu ∧ g q.1 = none ∧ h0.get? q.1 = none) → (its.map (·.1)).Nodup → St b S g0 h0 env g m mc (its ++ mu) h
  | [], H, _, _ => H
  | q :: r, H, hq, nd => by
    rw [List.map_cons] at nd
    have ih := St.adopts (its := r) H (fun x hx => hq x (.tail _ hx)) (List.nodup_cons.mp nd).2
    obtain ⟨h1, h2, h3, h4⟩ := hq q (.head _)
    exact ih.adopt h1 (fun z => (owns_append z).elim (List.nodup_cons.mp nd).1 h2) h3 h4

theorem its_of {h : Heap} : ∀ (wr : List Addr), (∀ a ∈ wr, ∃ o, h.get? a = some o) → ∃ its : List (Addr × Obj), its.map (·.1) = wr ∧ ∀ q ∈ its, h.get? q.1 = some q.2
  | [], _ => ⟨[], rfl, fun _ q => nomatch q⟩
  | a :: r, hl => by
    obtain ⟨o, e⟩ := hl a (.head _)
    obtain ⟨its, e1, e2⟩ := its_of r fun x hx => hl x (.tail _ hx)
    refine ⟨(a, o) :: its, by rw [List.map_cons, e1], fun q hq => ?_⟩
    rcases List.mem_cons.mp hq with rfl | hq
    · exact e
    · exact e2 q hq

theorem St.dropJunks {h h' : Heap} : ∀ {its : List (Addr × Obj)}, St b S g0 h0 env g m mc (its ++ mu) h → (∀ q ∈ its, h0.get? q.1 = none) → (∀ x p, x ∉ its.map (·.1) → h.get? x = some p → h'.get? x = some p) → St b S g0 h0 env g m mc mu h' := by
  intro its H f kp
  have nd := H.nd
  have notin : ∀ x ∈ owns env mu, x ∉ its.map (·.1) := fun x hx q => by
    unfold owns at nd hx
    rw [List.map_append] at nd
    have n2 := List.nodup_append.mp (List.nodup_cons.mp nd).2
    have n3 := List.nodup_append.mp n2.2.1
    rcases List.mem_cons.mp hx with e | e
    · exact (List.nodup_cons.mp nd).1 (e ▸ List.mem_append_right _ (List.mem_append_left _ q))
    · rcases List.mem_append.mp e with e | e
      · exact n2.2.2 x e x (List.mem_append_left _ q) rfl
      · exact n3.2.2 x q x e rfl
  have gn : ∀ x ∈ its.map (·.1), g x = none := fun x hx => (H.own x (.tail _ (List.mem_append_right _ (by rw [List.map_append]; exact List.mem_append_left _ hx)))).1
  have h0n : ∀ x ∈ its.map (·.1), h0.get? x = none := fun x hx => by
    obtain ⟨q, hq, rfl⟩ := List.mem_map.mp hx
    exact f q hq
  have sub : (owns env mu).Sublist (owns env (its ++ mu)) := by
    unfold owns
    rw [List.map_append]
    exact List.Sublist.cons_cons _ (List.Sublist.append_left (List.sublist_append_right _ _) _)
  refine ⟨?_, fun x c hc => ?_, H.bg, H.lo, ⟨H.ev.gg, H.ev.new, fun x p n e => kp x p (fun q => by rw [h0n x q] at e; cases e) (H.ev.keep x p n e), fun x p e => ?_, fun x p e => kp x p (fun q => by rw [gn x q] at e; cases e) (H.on x p e)⟩,
    fun p hp => kp _ _ (notin _ (owns_mu hp)) (H.mus p (List.mem_append_right _ hp)), H.nd.sublist sub, H.nn, fun a ha => H.own a (sub.subset ha)⟩
  · obtain ⟨oL, es, ep, e, r⟩ := H.ns; exact ⟨oL, es, ep, kp _ _ (notin _ owns_L) e, r⟩
  · obtain ⟨oc, e, r⟩ := H.cell x c hc
    exact ⟨oc, kp _ _ (notin _ (.tail _ (List.mem_append_left _ (List.mem_map.mpr ⟨(x, c), hc, rfl⟩)))) e, r⟩
  · obtain ⟨p', e'⟩ := H.ev.live x p e
    exact ⟨p', kp x p' (fun q => by rw [h0n x q] at e; cases e) e'⟩

theorem St.callIts {h' : Heap} {g' : FM} {pre its its' : List (Addr × Obj)} (H : St b S g0 h0 env g m mc (pre ++ (its ++ mu)) h) (e : Ev (its.map (·.1)) g h g' h') (ad : its'.map (·.1) = its.map (·.1)) (mus : ∀ q ∈ its', h'.get? q.1 = some q.2) : St b S g0 h0 env g' m mc (pre ++ (its' ++ mu)) h' := by
  have nd := H.nd
  unfold owns at nd
  rw [List.map_append, List.map_append] at nd
  have n2 := List.nodup_append.mp (List.nodup_append.mp (List.nodup_cons.mp nd).2).2.1
  have n3 := List.nodup_append.mp n2.2.1
  refine H.call e (fun a ha => by rw [List.map_append, List.map_append]; exact List.mem_append_right _ (List.mem_append_left _ ha)) (fun q hq => ?_) (by rw [List.map_append, List.map_append, List.map_append, List.map_append, ad])
  rcases List.mem_append.mp hq with hq | hq
  · exact e.keep _ _ (fun z => n2.2.2 q.1 (List.mem_map_of_mem hq) q.1 (List.mem_append_left _ z) rfl) (H.mus q (List.mem_append_left _ hq))
  · rcases List.mem_append.mp hq with hq | hq
    · exact mus q hq
    · exact e.keep _ _ (fun z => n3.2.2 q.1 z q.1 (List.mem_map_of_mem hq) rfl) (H.mus q (List.mem_append_right _ (List.mem_append_right _ hq)))
end
end Mine
namespace Mine

structure CompZ (env : Env) (scope : Scope) (cl : List (Str × Addr)) (cn : List Str) (xa xb : Str) : Prop where
  clos : closureFor scope env = pure cl
  caught : Caught env cl
  names : cl.map (·.1) = cn
  nd : ((cellsFrom 0 scope.names (cn.map fun x => (x, 0))).map (·.1)).Nodup
  kind : scope.kind = .function
  loc : ∀ y ∈ scope.names, y.2 = .local → scope.names.lookup y.1 = some .local
  own : ∀ y ∈ scope.names, y.2 ≠ .cell
  ta : (relabel scope env).names.lookup xa = some .local
  tb : (relabel scope env).names.lookup xb = some .local

section
variable {prog : Program} {w : World} {b : Heap}
variable {S : List Addr} {g0 : FM} {h0 : Heap} {env : Env} {g : FM} {m mc : Str → Option Value} {mu : List (Addr × Obj)} {hb : Heap}
variable {A : Around} {s : Shared} {E : Value → Shared → Prop}

def ZipEnd (b : Heap) (S : List Addr) (g0 : FM) (h0 : Heap) (cenv : Env) (m mc : Str → Option Value) (s : Shared) (g₁ : FM) (q : Addr × Obj) (mu : List (Addr × Obj)) (J : Value → FM → Prop) (y : Value) (s' : Shared) : Prop :=
  ∃ g₂ h₂ tk₂, s' = { s with heap := h₂, toks := tk₂ } ∧ g₁.le g₂ ∧ St b S g0 h0 cenv g₂ m mc (q :: mu) h₂ ∧ J y g₂
theorem ZipEnd.mk {cenv : Env} {s : Shared} {g₁ g₂ : FM} {q : Addr × Obj} {J : Value → FM → Prop} {y : Value} {h₂ : Heap} {tk₂ : Nat}
    (le : g₁.le g₂) (H : St b S g0 h0 cenv g₂ m mc (q :: mu) h₂) (j : J y g₂) : ZipEnd b S g0 h0 cenv m mc s g₁ q mu J y { s with heap := h₂, toks := tk₂ } :=
  ⟨g₂, h₂, tk₂, rfl, le, H, j⟩

/-- what a zip's parts look like, i items in -/
def ZAt (h : Heap) (z TI TO i1 i2 l1 l2 : Addr) (i : Nat) (f0 : Value) : Prop :=
  IsZip h z TI TO f0 ∧ IsPair h TI (.ref i1) (.ref i2) ∧ (∃ a b, IsPair h TO a b) ∧ h.IsListIter i1 l1 i ∧ h.IsListIter i2 l2 i
theorem ZAt.kept {h h' : Heap} {z TI TO i1 i2 l1 l2 : Addr} {i : Nat} {f0 : Value} (x : ZAt h z TI TO i1 i2 l1 l2 i f0) (k : ∀ a ∈ [z, TI, TO, i1, i2], ∀ o, h.get? a = some o → h'.get? a = some o) : ZAt h' z TI TO i1 i2 l1 l2 i f0 := by
  obtain ⟨a1, a2, ⟨u, v, a3⟩, ⟨o4, a4, r4⟩, ⟨o5, a5, r5⟩⟩ := x
  exact ⟨k _ (.head _) _ a1, k _ (.tail _ (.head _)) _ a2, ⟨u, v, k _ (.tail _ (.tail _ (.head _))) _ a3⟩, ⟨o4, k _ (.tail _ (.tail _ (.tail _ (.head _)))) _ a4, r4⟩, ⟨o5, k _ (.tail _ (.tail _ (.tail _ (.tail _ (.head _))))) _ a5, r5⟩⟩
theorem ZAt.live {h : Heap} {z TI TO i1 i2 l1 l2 : Addr} {i : Nat} {f0 : Value} (x : ZAt h z TI TO i1 i2 l1 l2 i f0) : ∀ a ∈ [z, TI, TO, i1, i2], ∃ o, h.get? a = some o := by
  obtain ⟨a1, a2, ⟨u, v, a3⟩, ⟨o4, a4, r4⟩, ⟨o5, a5, r5⟩⟩ := x
  intro a ha
  simp only [List.mem_cons, List.not_mem_nil, or_false] at ha
  rcases ha with rfl | rfl | rfl | rfl | rfl
  · exact ⟨_, a1⟩
  · exact ⟨_, a2⟩
  · exact ⟨_, a3⟩
  · exact ⟨_, a4⟩
  · exact ⟨_, a5⟩

theorem comp_zip {elt iter : Expr} {xa xb : Str} {pa pb pt : Pos} {kt : Nat} {scope : Scope} {cl : List (Str × Addr)} {cn : List Str} {pos : Pos} {z TI TO i1 i2 l1 l2 : Addr} {vs1 vs2 : List Value} {use : Option (Value → Sem Unit)} {Q : Value → Shared → Prop}
    (hh : A.handled = none) (ok : CompZ env scope cl cn xa xb) (H : St b S g0 h0 env g m mc mu hb) (kb : ∀ a o, hb.get? a = some o → s.heap.get? a = some o) (hsz : hb.objs.size ≤ s.heap.objs.size)
    (D : ZipApart z TI TO i1 i2 l1 l2) (za : ZAt s.heap z TI TO i1 i2 l1 l2 0 .none) (fr : ∀ a ∈ [z, TI, TO, i1, i2], hb.get? a = none)
    {o1 o2 : Obj} (g1 : g l1 = some o1) (g2 : g l2 = some o2) (L1 : IsL o1 vs1) (L2 : IsL o2 vs2) (hl : vs1.length = vs2.length) (hn : vs1.length ≤ sizeLine)
    (J : Nat → FM → List Value → Prop) (j0 : J 0 g [])
    (turn : ∀ i v1 v2 C Dl oD mu' g₁ ys h₁ tk E', i < vs1.length → vs1[i]? = some v1 → vs2[i]? = some v2 → g.le g₁ → J i g₁ ys → ys.length = i →
      St b (cl.map (·.2) ++ mu.map (·.1)) g hb (cenvOf scope cl C env) g₁ (up xb v2 (up xa v1 no)) mc ((Dl, oD) :: mu') h₁ →
      wpAny (model prog w) A (eval elt (cenvOf scope cl C env)) (ZipEnd b (cl.map (·.2) ++ mu.map (·.1)) g hb (cenvOf scope cl C env) (up xb v2 (up xa v1 no)) mc s g₁ (Dl, oD) mu' fun y g₂ => J (i + 1) g₂ (ys ++ [y])) E' { s with heap := h₁, toks := tk })
    (fin : ∀ g₁ ys C oC Dl oD mC h₁ tk, g.le g₁ → J vs1.length g₁ ys → ys.length = vs1.length → IsL oD ys → h₁.Ns C mC → h0.get? C = none → h0.get? Dl = none → St b S g0 h0 env g₁ m mc ((C, oC) :: (Dl, oD) :: mu) h₁ →
      compPost (model prog w) A E use Q (.ref Dl) C (.ok .next) { s with heap := h₁, toks := tk }) :
    wpAny (model prog w) A (pyIter (.ref z)) (fun it s₂ => wpAny (model prog w) A (newList []) (fun acc s₃ => wpAny (model prog w) A (newFunctionEnv scope env.globals cl [] env.qual none .none (some env)) (fun cenv s₄ =>
      codeAny (model prog w) A (.compStart (.ListComp elt [⟨.Tuple [.Name xa pa, .Name xb pb] kt pt, iter, [], 0⟩] scope pos) 0 it acc { cenv with scope := relabel scope env }) (compPost (model prog w) A E use Q acc cenv.locals) s₄) E s₃) E s₂) E s := by
  refine wpAny_pyIter_zip za.1 (wpAny_newList ?_)
  simp only [newFunctionEnv, Option.isSome_some, if_true]
  refine wpAny_bind (wpAny_alloc ?_)
  refine wpAny_bind (wpAny_layCells _ (fun name kind cells => by cases kind == NameKind.cell <;> simp) _ _ _ _ ?_)
  refine wpAny_bind ?_
  rw [List.forIn_nil]
  refine wpAny_pure (wpAny_pure ?_)
  dsimp only
  generalize hH3 : s.heap.push { cls := .type "list", data := .seq ([] : List Value).toArray } = H₃
  have sz3 : H₃.objs.size = s.heap.objs.size + 1 := by rw [← hH3, Heap.size_push]
  have h'3 : ∀ a o, s.heap.get? a = some o → H₃.get? a = some o := fun a o e => hH3 ▸ Heap.get?_push_of_some _ e
  have k3 : ∀ a o, hb.get? a = some o → H₃.get? a = some o := fun a o e => h'3 a o (kb a o e)
  have hD3 : H₃.get? s.heap.objs.size = some { cls := .type "list", data := .seq ([] : List Value).toArray } := hH3 ▸ Heap.get?_push_size _ rfl
  have sz4 : (H₃.push { cls := .type "dict", data := .dict #[] }).objs.size = H₃.objs.size + 1 := Heap.size_push ..
  rw [sz4]
  generalize hH4 : pushCells (H₃.push { cls := .type "dict", data := .dict #[] }) scope.names = H₄
  have k4 : ∀ a o, H₃.get? a = some o → H₄.get? a = some o := fun a o e => hH4 ▸ pushCells_keeps _ _ _ _ (Heap.get?_push_of_some _ e)
  have hle : hb.objs.size ≤ H₃.objs.size := by rw [sz3]; exact Nat.le_succ_of_le hsz
  have zlt : ∀ a ∈ [z, TI, TO, i1, i2], @LT.lt Nat _ a s.heap.objs.size := fun a ha => by obtain ⟨o, e⟩ := za.live a ha; exact Heap.lt_size e
  obtain ⟨Hi0, ow⟩ := H.inner (mc' := mc) ok.caught ok.names ok.nd k3 hle hH4.symm (fun q hq => rfl) (fun y hy => absurd rfl (ok.own _ hy))
  have za4 : ZAt H₄ z TI TO i1 i2 l1 l2 0 .none := za.kept fun a _ o e => k4 _ _ (h'3 _ _ e)
  have znd : [z, TI, TO, i1, i2].Nodup := by
    simp only [List.nodup_cons, List.mem_cons, List.not_mem_nil, or_false, not_or, not_false_eq_true, List.nodup_nil, and_true]
    exact ⟨⟨D.TIz.symm, D.TOz.symm, D.i1z.symm, D.i2z.symm⟩, ⟨D.TITO, D.TIi1, D.TIi2⟩, ⟨D.TOi1, D.TOi2⟩, D.i12⟩
  obtain ⟨its0, hits, its4⟩ := its_of (h := H₄) [z, TI, TO, i1, i2] za4.live
  have Hi1 := Hi0.adopts (its := its0) (fun q hq => by
    have hm : q.1 ∈ [z, TI, TO, i1, i2] := hits ▸ List.mem_map_of_mem hq
    refine ⟨its4 q hq, fun n => ?_, H.gfresh (fr _ hm), fr _ hm⟩
    rcases ow _ n with ⟨o, e⟩ | n
    · rw [fr _ hm] at e; cases e
    · have := zlt _ hm
      rw [sz3] at n
      exact absurd (Nat.lt_of_lt_of_le this (Nat.le_of_succ_le n)) (Nat.lt_irrefl _)) (by rw [hits]; exact znd)
  have freshD : hb.get? s.heap.objs.size = none := none_of_ge hsz
  have nD : s.heap.objs.size ∉ owns (cenvOf scope cl H₃.objs.size env) (its0 ++ mu) := fun q => by
    rcases owns_append q with q | q
    · rw [hits] at q; exact Nat.lt_irrefl _ (zlt _ q)
    · rcases ow _ q with ⟨o, e⟩ | q
      · rw [freshD] at e; cases e
      · rw [sz3] at q; exact Nat.not_succ_le_self _ q
  have Hi2 := Hi1.adopt (k4 _ _ hD3) nD (H.gfresh freshD) freshD
  generalize hDD : s.heap.objs.size = Dl at *
  generalize hCC : H₃.objs.size = C at *
  have main : ∀ s₃ : Shared, s₃ = { s with heap := H₄ } → codeAny (model prog w) A (.compLoop (.ListComp elt [⟨.Tuple [.Name xa pa, .Name xb pb] kt pt, iter, [], 0⟩] scope pos) 0 (.ref z) (.ref Dl) (cenvOf scope cl C env)) (compPost (model prog w) A E use Q (.ref Dl) C) s₃ := by
    rintro s₃ rfl
    refine codeAny_compLoop_own (fun k s' => ∃ i g₁ its ys m₁ oD h₁ tk, s' = { s with heap := h₁, toks := tk } ∧ k = vs1.length - i ∧ i ≤ vs1.length ∧ ZAt h₁ z TI TO i1 i2 l1 l2 i .none ∧ g.le g₁ ∧ its.map (·.1) = [z, TI, TO, i1, i2] ∧ J i g₁ ys ∧ ys.length = i ∧ IsL oD ys ∧
      (∀ v1 v2, up xb v2 (up xa v1 m₁) = up xb v2 (up xa v1 no)) ∧
      St b (cl.map (·.2) ++ mu.map (·.1)) g hb (cenvOf scope cl C env) g₁ m₁ mc ((Dl, oD) :: (its ++ mu)) h₁) ?_ vs1.length ?_
    · rintro k s' ⟨i, g₁, its, ys, m₁, oD, h₁, tk, rfl, rfl, hi, w1, le1, ha1, j1, hl1, isl, e1, H1⟩
      have hlist1 : h₁.IsList l1 vs1.toArray := L1.at_ (H1.on _ _ (le1 _ _ g1))
      have hlist2 : h₁.IsList l2 vs2.toArray := L2.at_ (H1.on _ _ (le1 _ _ g2))
      obtain ⟨wz, wTI, ⟨oa, ob, wTO⟩, wi1, wi2⟩ := w1
      have inIts : ∀ x, x ∈ [z, TI, TO, i1, i2] → x ∈ its.map (·.1) := fun x hx => ha1 ▸ hx
      have gD : g₁ Dl = none := (H1.own Dl (owns_mu (p := (Dl, oD)) (.head _))).1
      have gI : ∀ x ∈ [z, TI, TO, i1, i2], g₁ x = none := fun x hx => (H1.own x (.tail _ (List.mem_append_right _ (by rw [List.map_cons, List.map_append]; exact .tail _ (List.mem_append_left _ (inIts x hx)))))).1
      have nDI : Dl ∉ [z, TI, TO, i1, i2] := fun q => by
        have nd := H1.nd
        unfold owns at nd
        rw [List.map_cons, List.map_append] at nd
        exact (List.nodup_cons.mp (List.nodup_append.mp (List.nodup_cons.mp nd).2).2.1).1 (List.mem_append_left _ (inIts _ q))
      by_cases hlt : i < vs1.length
      · obtain ⟨v1, hv1⟩ : ∃ v1, vs1[i]? = some v1 := ⟨_, List.getElem?_eq_getElem hlt⟩
        obtain ⟨v2, hv2⟩ : ∃ v2, vs2[i]? = some v2 := ⟨_, List.getElem?_eq_getElem (hl ▸ hlt)⟩
        refine wpAny_pyNext_zip_item D wz wTI wTO wi1 wi2 hlist1 hlist2 (by simpa using hv1) (by simpa using hv2) fun h₂ z2 TO2 i12 i22 T2 sz2 kp2 => ?_
        have TI2 : IsPair h₂ TI (.ref i1) (.ref i2) := kp2 _ _ D.TIz D.TITO D.TIi1 D.TIi2 wTI
        refine wpAny_letOwnedTupleGo_zip z2 fun h₃ z3 hs3 => ?_
        have w3 : ZAt h₃ z TI TO i1 i2 l1 l2 (i + 1) .none :=
          ⟨z3, hs3.extBut _ _ D.TIz TI2, ⟨_, _, hs3.extBut _ _ D.TOz TO2⟩, (let ⟨o, e, r⟩ := i12; ⟨o, hs3.extBut _ _ D.i1z e, r⟩), (let ⟨o, e, r⟩ := i22; ⟨o, hs3.extBut _ _ D.i2z e, r⟩)⟩
        obtain ⟨its3, hits3, its3m⟩ := its_of (h := h₃) [z, TI, TO, i1, i2] w3.live
        have keep3 : ∀ a o, a ∉ [z, TI, TO, i1, i2] → h₁.get? a = some o → h₃.get? a = some o := fun a o n e => by
          simp only [List.mem_cons, List.not_mem_nil, or_false, not_or] at n
          exact hs3.extBut _ _ n.1 (kp2 a o n.1 n.2.2.1 n.2.2.2.1 n.2.2.2.2 e)
        have H3 : St b (cl.map (·.2) ++ mu.map (·.1)) g hb (cenvOf scope cl C env) g₁ m₁ mc ((Dl, oD) :: (its3 ++ mu)) h₃ := by
          refine H1.callIts (pre := [(Dl, oD)]) (its' := its3) ⟨.refl _, fun _ _ e => .inl e, fun a o n e => keep3 a o (by rw [← ha1]; exact n) e, fun a o e => ?_, fun a o e => keep3 a o (fun q => by rw [gI a q] at e; cases e) (H1.on _ _ e)⟩ (by rw [hits3, ha1]) its3m
          by_cases q : a ∈ [z, TI, TO, i1, i2]
          · exact w3.live a q
          · exact ⟨o, keep3 a o q e⟩
        have hT3 : h₃.get? h₁.objs.size = some { cls := .type "tuple", data := .seq #[v1, v2] } := hs3.extBut _ _ (fun q => by
          have : h₁.get? z = some _ := wz
          have := Heap.lt_size this
          rw [← q] at this; exact Nat.lt_irrefl _ this) T2
        refine wpAny_assign_Tuple hh (items := #[v1, v2]) ⟨_, hT3, rfl, 0, rfl⟩ rfl rfl fun h₄ x4 => ?_
        have H4 : St b (cl.map (·.2) ++ mu.map (·.1)) g hb (cenvOf scope cl C env) g₁ m₁ mc ((Dl, oD) :: (its3 ++ mu)) h₄ := H3.keeps fun a o e => x4 a o (fun q => by rw [q] at e; exact absurd (Heap.lt_size e) (Nat.lt_irrefl _)) e
        have w4 : ZAt h₄ z TI TO i1 i2 l1 l2 (i + 1) .none := w3.kept fun a _ o e => x4 a o (fun q => by rw [q] at e; exact absurd (Heap.lt_size e) (Nat.lt_irrefl _)) e
        refine wpAny_assignInOrder_more (wpAny_assign_Name (st_loc H4 (fun h₅ H5 => ?_) ok.kind ok.ta))
        refine wpAny_assignInOrder_more (wpAny_assign_Name (st_loc H5 (fun h₆ H6 => ?_) ok.kind ok.tb))
        refine wpAny_pure ?_
        rw [e1] at H6
        have w6 : ZAt h₆ z TI TO i1 i2 l1 l2 (i + 1) .none := w4.kept fun a ha o e => by
          have ha : a ∈ its3.map (·.1) := hits3 ▸ ha
          obtain ⟨q, hq, rfl⟩ := List.mem_map.mp ha
          have hm : q ∈ (Dl, oD) :: (its3 ++ mu) := .tail _ (List.mem_append_left _ hq)
          have e4 := H4.mus q hm
          rw [e] at e4; cases e4
          exact H6.mus q hm
        refine wpAny_mono (turn i v1 v2 C Dl oD (its3 ++ mu) g₁ ys h₆ _ _ hlt hv1 hv2 le1 j1 hl1 H6) (fun y s₄ zz => ?_) fun _ _ zz => zz
        obtain ⟨g₂, h₇, tk₇, rfl, le2, H7, j2⟩ := zz
        have w7 : ZAt h₇ z TI TO i1 i2 l1 l2 (i + 1) .none := w6.kept fun a ha o e => by
          have ha : a ∈ its3.map (·.1) := hits3 ▸ ha
          obtain ⟨q, hq, rfl⟩ := List.mem_map.mp ha
          have hm : q ∈ (Dl, oD) :: (its3 ++ mu) := .tail _ (List.mem_append_left _ hq)
          have e4 := H6.mus q hm
          rw [e] at e4; cases e4
          exact H7.mus q hm
        have hDl : h₇.get? Dl = some oD := H7.mus (Dl, oD) (.head _)
        refine wpAny_list_append (isl.at_ hDl) (fun h₈ hL8 hs8 => ?_) (by rw [List.size_toArray, hl1]; omega)
        obtain ⟨oD', hD8, hc8, k8, hd8⟩ := hL8
        have H8 := H7.upd hD8 hs8.extBut
        exact ⟨vs1.length - (i + 1), by omega, i + 1, g₂, its3, ys ++ [y], _, oD', h₈, tk₇, rfl, rfl, hlt, w7.kept fun a ha o e => hs8.extBut a o (fun q => nDI (q ▸ ha)) e, le1.trans le2, hits3, j2, by rw [List.length_append, hl1]; rfl, ⟨hc8, k8, by rw [hd8]; simp⟩, fun v1' v2' => (by
          funext y
          unfold up no
          by_cases q1 : y = xb
          · simp [q1]
          · by_cases q2 : y = xa
            · simp [q2]
            · simp [q1, q2]), H8⟩
      · have hin : i = vs1.length := by omega
        subst hin
        refine wpAny_pyNext_zip_end hh D wz wTI wTO wi1 wi2 hlist1 hlist2 (.inl (by simp)) fun h₂ kp => ?_
        have H2 : St b (cl.map (·.2) ++ mu.map (·.1)) g hb (cenvOf scope cl C env) g₁ m₁ mc ((Dl, oD) :: mu) h₂ := by
          refine St.dropJunks (its := its) (H1.perm (List.perm_middle (l₁ := its)).symm) (fun q hq => fr _ (ha1 ▸ List.mem_map_of_mem hq)) fun x p n e => ?_
          rw [ha1] at n
          simp only [List.mem_cons, List.not_mem_nil, or_false, not_or] at n
          exact kp x p n.1 n.2.2.1 n.2.2.2.1 n.2.2.2.2 e
        have Ho := H.outer ok.caught H2 (fun q hq => cells_acc _ _ _ _ hq) (fun _ _ => rfl) rfl fun q hq => .tail _ hq
        have CO := (H2.own C owns_L)
        have DO := (H2.own Dl (owns_mu (p := (Dl, oD)) (.head _)))
        obtain ⟨oC, esC, epC, hC2, rC⟩ := H2.ns
        have hC2 : h₂.get? C = some oC := hC2
        have hD2 := H2.mus (Dl, oD) (.head _)
        have freshC : hb.get? C = none := none_of_ge hle
        have Ho1 := Ho.adopt hD2 (H.not_owned freshD) DO.1 (H.h0fresh freshD)
        have hCD : C ≠ Dl := H2.ne_of_mu _ owns_L
        have Ho2 := Ho1.adopt hC2 (fun q => by
          rcases owns_append (its := [(Dl, oD)]) q with q | q
          · exact hCD (List.mem_singleton.mp q)
          · exact H.not_owned freshC q) CO.1 (H.h0fresh freshC)
        exact fin g₁ ys C oC Dl oD m₁ h₂ tk le1 j1 hl1 isl ⟨oC, esC, epC, hC2, rC⟩ (H.h0fresh freshC) (H.h0fresh freshD) Ho2
    · exact ⟨0, g, its0, [], no, _, H₄, s.toks, rfl, rfl, Nat.zero_le _, za4, .refl g, hits, j0, rfl, ⟨rfl, 0, rfl⟩, fun _ _ => rfl, Hi2⟩
  exact codeAny_compStart_list (main _ rfl) (wpAny_pyIter_zip za4.1 (main _ rfl))

theorem ev_lcz {elt iter : Expr} {xa xb : Str} {pa pb pt : Pos} {kt : Nat} {scope : Scope} {cl : List (Str × Addr)} {cn : List Str} {pos : Pos} {Q : Value → Shared → Prop} (ok : CompZ env scope cl cn xa xb)
    (h : CompZ env scope cl cn xa xb → wpAny (model prog w) A (eval iter env) (LcGo prog w A E env scope cl (.ListComp elt [⟨.Tuple [.Name xa pa, .Name xb pb] kt pt, iter, [], 0⟩] scope pos) none Q) E s) (hs : ∀ x, foldedSetIterable iter env x = pure x := by intro _; rfl) :
    wpAny (model prog w) A (eval (.ListComp elt [⟨.Tuple [.Name xa pa, .Name xb pb] kt pt, iter, [], 0⟩] scope pos) env) Q E s := by
  rw [eval_ListComp]
  exact wpAny_comprehension_free (use := none) rfl hs ok.clos ok.kind ok.loc (h ok)

theorem as_lcz {elt iter : Expr} {xa xb y : Str} {pa pb pt py : Pos} {kt : Nat} {scope : Scope} {cl : List (Str × Addr)} {cn : List Str} {pos spos : Pos} {Q : Flow → Shared → Prop} (ok : CompZ env scope cl cn xa xb)
    (h : CompZ env scope cl cn xa xb → wpAny (model prog w) A (eval iter env) (LcGo prog w A E env scope cl (.ListComp elt [⟨.Tuple [.Name xa pa, .Name xb pb] kt pt, iter, [], 0⟩] scope pos) (some (assign (.Name y py) env)) (fun _ => Q .next)) E s)
    (hsw : swapsWith (.ListComp elt [⟨.Tuple [.Name xa pa, .Name xb pb] kt pt, iter, [], 0⟩] scope pos) (some (.Name y py)) spos.line env = pure true := by with_unfolding_all rfl) (hs : ∀ x, foldedSetIterable iter env x = pure x := by intro _; rfl) :
    wpAny (model prog w) A (exec (.Assign [.Name y py] (.ListComp elt [⟨.Tuple [.Name xa pa, .Name xb pb] kt pt, iter, [], 0⟩] scope pos) spos) env) Q E s := by
  rw [exec_Assign_Name_used _ _ _ _ hsw]
  refine wpAny_bind (wpAny_standAt (wpAny_bind ?_))
  show wpAny _ A (do let _ ← comprehension (.ListComp elt [⟨.Tuple [.Name xa pa, .Name xb pb] kt pt, iter, [], 0⟩] scope pos) scope env _ (newList []) false (eval iter env) (some (assign (.Name y py) env))) _ _ s
  exact wpAny_bind (wpAny_mono (wpAny_comprehension_free (use := some (assign (.Name y py) env)) (Q := fun _ s' => Q .next s') rfl hs ok.clos ok.kind ok.loc (h ok)) (fun _ s' hq => wpAny_pure (wpAny_pure hq)) fun _ _ e => e)

/-- zip called on two lists that stand for good, and its block run, stored into a name -/
theorem zip_runA {elt iter : Expr} {xa xb y : Str} {pa pb pt py : Pos} {kt : Nat} {scope : Scope} {cl : List (Str × Addr)} {cn : List Str} {pos : Pos} {l1 l2 : Addr} {vs1 vs2 : List Value} {Q : Value → Shared → Prop}
    (hh : A.handled = none) (ok : CompZ env scope cl cn xa xb) (H : St b S g0 h0 env g m mc mu s.heap)
    {o1 o2 : Obj} (g1 : g l1 = some o1) (g2 : g l2 = some o2) (L1 : IsL o1 vs1) (L2 : IsL o2 vs2) (hl : vs1.length = vs2.length) (hn : vs1.length ≤ sizeLine)
    (J : Nat → FM → List Value → Prop) (j0 : J 0 g [])
    (turn : ∀ s' i v1 v2 C Dl oD mu' g₁ ys h₁ tk E', i < vs1.length → vs1[i]? = some v1 → vs2[i]? = some v2 → g.le g₁ → J i g₁ ys → ys.length = i →
      St b (cl.map (·.2) ++ mu.map (·.1)) g s.heap (cenvOf scope cl C env) g₁ (up xb v2 (up xa v1 no)) mc ((Dl, oD) :: mu') h₁ →
      wpAny (model prog w) A (eval elt (cenvOf scope cl C env)) (ZipEnd b (cl.map (·.2) ++ mu.map (·.1)) g s.heap (cenvOf scope cl C env) (up xb v2 (up xa v1 no)) mc s' g₁ (Dl, oD) mu' fun y g₂ => J (i + 1) g₂ (ys ++ [y])) E' { s' with heap := h₁, toks := tk })
    (done : ∀ g₁ ys D oD h₁ tk, g.le g₁ → J vs1.length g₁ ys → ys.length = vs1.length → IsL oD ys → h0.get? D = none → St b S g0 h0 env g₁ (up y (.ref D) m) mc ((D, oD) :: mu) h₁ → Q .none { s with heap := h₁, toks := tk })
    (hk : env.scope.kind = .function := by with_unfolding_all rfl) (hl' : env.kindOf y = some .local := by with_unfolding_all rfl) :
    wpAny (model prog w) A (call (.type "zip") [.ref l1, .ref l2]) (LcGo prog w A E env scope cl (.ListComp elt [⟨.Tuple [.Name xa pa, .Name xb pb] kt pt, iter, [], 0⟩] scope pos) (some (assign (.Name y py) env)) Q) E s := by
  have b1 : @LT.lt Nat _ l1 s.heap.objs.size := Heap.lt_size (H.on _ _ g1)
  have b2 : @LT.lt Nat _ l2 s.heap.objs.size := Heap.lt_size (H.on _ _ g2)
  refine call_zip_2 (L1.at_ (H.on _ _ g1)) (L2.at_ (H.on _ _ g2)) fun h' az aTI aTO ai1 ai2 sz kp => ?_
  refine comp_zip (s := { s with heap := h' }) hh ok H kp (by show s.heap.objs.size ≤ h'.objs.size; rw [sz]; exact Nat.le_add_right _ _) (zipApart_new b1 b2) ⟨az, aTI, ⟨_, _, aTO⟩, ai1, ai2⟩ (fun a ha => ?_) g1 g2 L1 L2 hl hn J j0 (turn _) ?_
  · simp only [List.mem_cons, List.not_mem_nil, or_false] at ha
    rcases ha with rfl | rfl | rfl | rfl | rfl <;> exact none_of_ge (by first | exact Nat.le_refl _ | exact Nat.le_add_right _ _)
  · intro g₁ ys C oC Dl oD mC h₁ tk le j hl'' isl nsC fC fD H1
    obtain ⟨oC', es, ep, hC, rC⟩ := nsC
    have hC0 : h₁.get? C = some oC := H1.mus (C, oC) (.head _)
    rw [hC0] at hC; cases hC
    refine wpAny_assign_Name (st_loc (s := { s with heap := h₁, toks := tk }) H1 (fun h₂ H2 => ?_) hk hl')
    exact ⟨mC, ⟨oC, es, ep, H2.mus (C, oC) (.head _), rC⟩, fun h' hs => done g₁ ys Dl oD h' (tk + 1) le j hl'' isl fD (H2.dropJunk fC fun a o na e => hs.extBut a o na e)⟩
end
end Mine
namespace Mine

/-- an object made and filled: nothing of the old is turned -/
theorem Ev.made {g g2 : FM} {h h1 h2 : Heap} {x dx : Addr} {o od od2 : Obj} (on : g.on h) (fx : h.get? x = none) (fd : h.get? dx = none) (ne : x ≠ dx) (k1 : ∀ a p, h.get? a = some p → h1.get? a = some p)
    (hd1 : h1.get? dx = some od) (e : Ev [dx] (g.put x o) h1 g2 h2) (hd : h2.get? dx = some od2) : Ev [] g h (g2.put dx od2) h2 ∧ g2.le (g2.put dx od2) := by
  have gx : g x = none := by
    cases q : g x with
    | none => rfl
    | some o' => rw [on _ _ q] at fx; cases fx
  have gd : g dx = none := by
    cases q : g dx with
    | none => rfl
    | some o' => rw [on _ _ q] at fd; cases fd
  have g2d : g2 dx = none := by
    cases q : g2 dx with
    | none => rfl
    | some o' =>
      rcases e.new _ _ q with q | q
      · unfold FM.put at q; rw [if_neg ne.symm, gd] at q; cases q
      · rw [hd1] at q; cases q
  have le := FM.put_le (o := od2) g2d
  refine ⟨⟨((FM.put_le gx).trans e.gg).trans le, fun a p q => ?_, fun a p _ q => e.keep a p (fun r => by rw [List.mem_singleton.mp r] at q; rw [fd] at q; cases q) (k1 a p q), fun a p q => ⟨p, e.keep a p (fun r => by rw [List.mem_singleton.mp r] at q; rw [fd] at q; cases q) (k1 a p q)⟩, fun a p q => ?_⟩, le⟩
  · unfold FM.put at q
    by_cases r : a = dx
    · subst r; exact .inr fd
    · rw [if_neg r] at q
      rcases e.new a p q with q | q
      · unfold FM.put at q
        by_cases r' : a = x
        · subst r'; exact .inr fx
        · rw [if_neg r'] at q; exact .inl q
      · refine .inr ?_
        cases z : h.get? a with
        | none => rfl
        | some o' => rw [k1 _ _ z] at q; cases q
  · unfold FM.put at q
    by_cases r : a = dx
    · subst r; rw [if_pos rfl] at q; exact hd.trans q
    · rw [if_neg r] at q; exact e.on a p q

theorem Bg.put {b : Heap} {g : FM} {h h1 : Heap} {x : Addr} {o : Obj} (B : Bg b g h) (fx : h.get? x = none) (hx : h1.get? x = some o) (k1 : ∀ a p, h.get? a = some p → h1.get? a = some p) (sz : h.objs.size ≤ h1.objs.size) : Bg b (g.put x o) h1 := by
  have gx : g x = none := by
    cases q : g x with
    | none => rfl
    | some o' => rw [B.on _ _ q] at fx; cases fx
  refine ⟨fun a p e => FM.put_le gx _ _ (B.bg a p e), Nat.le_trans B.lo sz, fun a p q => ?_⟩
  unfold FM.put at q
  by_cases r : a = x
  · subst r; rw [if_pos rfl] at q; exact hx.trans q
  · rw [if_neg r] at q; exact k1 _ _ (B.on _ _ q)

section
variable {M : Model} {prog : Program} {w : World} {env : Env} {A : Around} {s : Shared} {E : Value → Shared → Prop}
theorem x_assignAttr {o attr pos' value pos} {Q : Flow → Shared → Prop}
    (h : wpAny M A (eval value env) (fun v s₁ => wpAny M A (eval o env) (fun ov s₂ => wpAny M A (setAttr ov attr v) (fun _ => Q .next) E s₂) E s₁) E s)
    (hs : swapsWith value (some (.Attribute o attr pos')) pos.line env = pure false := by with_unfolding_all rfl) : wpAny M A (exec (.Assign [.Attribute o attr pos'] value pos) env) Q E s := plainObj_wpAny_Assign_Attribute h hs
theorem x_assignTup {elts k tpos value pos} {Q : Flow → Shared → Prop}
    (h : wpAny M A (eval value env) (fun v s₁ => wpAny M A (assign (.Tuple elts k tpos) env v) (fun _ => Q .next) E s₁) E s)
    (hs : swapsWithSole [.Tuple elts k tpos] value pos.line env = pure false := by with_unfolding_all rfl)
    (hw : swappedStores [.Tuple elts k tpos] value env = pure none := by with_unfolding_all rfl) :
    wpAny M A (exec (.Assign [.Tuple elts k tpos] value pos) env) Q E s := Assign_Tuple h hs hw
theorem x_assignSwap {elts k tpos value pos} {names : List Str} {Q : Flow → Shared → Prop} (hw : swappedStores [.Tuple elts k tpos] value env = pure (some names))
    (h : wpAny M A (eval value env) (fun v s₁ => wpAny M A (unpackItems v names.length none) (fun items s₂ =>
      wpAny M A (assignInOrder (names.reverse.map fun n => bindName env n) items.reverse) (fun _ => Q .next) E s₂) E s₁) E s)
    (hs : swapsWithSole [.Tuple elts k tpos] value pos.line env = pure false := by with_unfolding_all rfl) :
    wpAny M A (exec (.Assign [.Tuple elts k tpos] value pos) env) Q E s := Assign_Tuple_swapped h hs hw
theorem x_isTrue {e : Expr} {whole : Sem Value} {Q : Bool → Shared → Prop} (h : wpAny M A whole (fun v s₁ => wpAny M A (truthy v) Q E s₁) E s)
    (he : isTrue e env whole = (do let v ← whole; standAt e.pos; holding [v] (truthy v)) := by with_unfolding_all rfl) : wpAny M A (isTrue e env whole) Q E s := wpAny_isTrue_value h he
theorem if_t {P P' : Prop} (h : P) : (if true = true then P else P') := by rw [if_pos rfl]; exact h
theorem if_f {P P' : Prop} (h : P') : (if false = true then P else P') := by rw [if_neg Bool.false_ne_true]; exact h
theorem if_nt {P P' : Prop} (h : P') : (if (!true) = true then P else P') := by rw [if_neg (by decide)]; exact h
theorem if_nf {P P' : Prop} (h : P) : (if (!false) = true then P else P') := h
theorem if_d {P P' : Prop} {c : Prop} [Decidable c] (h1 : c → P) (h2 : ¬ c → P') : (if decide c = true then P else P') := by
  split
  · exact h1 (of_decide_eq_true (by assumption))
  · exact h2 (fun z => by simp_all)
theorem x_list {elts : List Expr} {pos : Pos} {Q : Value → Shared → Prop}
    (h : wpAny M A (spliced (backTo pos (starEach elts env))) (fun vs s₁ => vs.length ≤ sizeLine ∧ ∀ a h', a = s₁.heap.objs.size → h' = s₁.heap.push (lst vs) → Q (.ref a) { s₁ with heap := h' }) E s) : wpAny M A (eval (.List elts pos) env) Q E s :=
  wpAny_List (wpAny_mono h (fun vs s₁ z => ⟨z.1, z.2 _ _ rfl rfl⟩) fun _ _ z => z)
theorem x_tuple {elts : List Expr} {k : Nat} {pos : Pos} {Q : Value → Shared → Prop}
    (h : wpAny M A (spliced (backTo pos (starEach elts env))) (fun vs s₁ => vs.length ≤ sizeLine ∧ ∀ a h', a = s₁.heap.objs.size → h' = s₁.heap.push { cls := .type "tuple", data := .seq vs.toArray } → Q (.ref a) { s₁ with heap := h' }) E s) : wpAny M A (eval (.Tuple elts k pos) env) Q E s :=
  wpAny_Tuple (wpAny_mono h (fun vs s₁ z => ⟨z.1, z.2 _ _ rfl rfl⟩) fun _ _ z => z)
theorem x_for {target iter body orelse pos} {Q : Flow → Shared → Prop}
    (h : wpAny M A (eval iter env) (fun x s₁ => wpAny M A (pyIter x) (fun it s₂ =>
      codeAny M A (.forLoop target it body orelse env) (fun r s' => match r with | .ok f => Q f s' | .error e => cameBackBy M A env E e s') s₂) E s₁) E s)
    (hs : ∀ x, foldedSetIterable iter env x = pure x := by intro _; with_unfolding_all rfl) :
    wpAny M A (exec (.For target iter body orelse pos) env) Q E s := wpAny_For h hs
theorem x_augSub {o i value : Expr} {tpos pos : Pos} {op : Operator} {Q : Flow → Shared → Prop}
    (h : wpAny M A (eval o env) (fun ov s₁ => wpAny M A (eval i env) (fun iv s₂ => wpAny M A (getItem ov iv) (fun old s₃ =>
          wpAny M A (eval value env) (fun v s₄ => wpAny M A (inplaceOp op old v) (fun new s₅ =>
            wpAny M A (setItem ov iv new) (fun _ => Q .next) E s₅) E s₄) E s₃) E s₂) E s₁) E s)
    (hi : ∀ ov iv new, augStore i ov iv new = (do holding [new, ov, iv] (setItem ov iv new); release [new, ov, iv] []; pure .next) := by intros; with_unfolding_all rfl) :
    wpAny M A (exec (.AugAssign (.Subscript o i tpos) op value pos) env) Q E s := wpAny_AugAssign_SubscriptAny h hi
theorem x_order {t : Value → Sem Unit} {ts : List (Value → Sem Unit)} {x : Value} {xs : List Value} {Q : Unit → Shared → Prop}
    (h : wpAny M A (t x) (fun _ s₁ => wpAny M A (assignInOrder ts xs) Q E s₁) E s) : wpAny M A (assignInOrder (t :: ts) (x :: xs)) Q E s := wpAny_assignInOrder_more h
theorem x_order0 {Q : Unit → Shared → Prop} (h : Q () s) : wpAny M A (assignInOrder [] []) Q E s := wpAny_pure h
end
section
variable {prog : Program} {w : World} {b : Heap} {S : List Addr} {g0 : FM} {h0 : Heap} {env : Env} {g : FM} {m mc : Str → Option Value} {mu : List (Addr × Obj)} {A : Around} {s : Shared} {E : Value → Shared → Prop}
theorem St.mkL {vs : List Value} {a : Addr} {h h' : Heap} (H : St b S g0 h0 env g m mc mu h) (ea : a = h.objs.size) (eh : h' = h.push (lst vs)) : h0.get? a = none ∧ St b S g0 h0 env g m mc ((a, lst vs) :: mu) h' := by
  subst ea; subst eh
  have f := none_of_ge (h := h) (Nat.le_refl _)
  exact ⟨H.h0fresh f, H.alloc f (Heap.get?_push_size _ rfl) fun _ _ e => Heap.get?_push_of_some _ e⟩
theorem St.mkT {vs : List Value} {a : Addr} {h h' : Heap} (H : St b S g0 h0 env g m mc mu h) (ea : a = h.objs.size) (eh : h' = h.push { cls := .type "tuple", data := .seq vs.toArray }) :
    ∃ g', g.le g' ∧ IsTup h' a vs.toArray ∧ (∃ o, g' a = some o ∧ o.cls = .type "tuple" ∧ ∃ k, o.data = .seq vs.toArray k) ∧ St b S g0 h0 env g' m mc mu h' := by
  subst ea; subst eh
  have f := none_of_ge (h := h) (Nat.le_refl _)
  have e := Heap.get?_push_size h (o := { cls := .type "tuple", data := .seq vs.toArray }) rfl
  have K := H.allocG f e fun _ _ e => Heap.get?_push_of_some _ e
  exact ⟨_, K.2, ⟨_, e, rfl, 0, rfl⟩, ⟨_, FM.put_self .., rfl, 0, rfl⟩, K.1⟩
theorem tup_assign {elts : List Expr} {x1} {pos : Pos} {t : Addr} {items : Array Value} {Q : Unit → Shared → Prop} (hh : A.handled = none) (H : St b S g0 h0 env g m mc mu s.heap) (ht : IsTup s.heap t items)
    (h : ∀ h', St b S g0 h0 env g m mc mu h' → wpAny (model prog w) A (assignInOrder ((assignEach elts env).map (·.2)) items.toList) Q E { s with heap := h' })
    (hn : (assignEach elts env).length = items.size := by with_unfolding_all rfl) (hstar : (assignEach elts env).findIdx? (·.1) = none := by with_unfolding_all rfl) :
    wpAny (model prog w) A (assign (.Tuple elts x1 pos) env (.ref t)) Q E s :=
  wpAny_assign_Tuple hh ht hn hstar fun h' x => h h' (H.keeps fun a o e => x a o (fun q => by rw [q] at e; exact absurd (Heap.lt_size e) (Nat.lt_irrefl _)) e)
theorem tup_unpack {t : Addr} {items : Array Value} {n : Nat} {Q : List Value → Shared → Prop} (hh : A.handled = none) (H : St b S g0 h0 env g m mc mu s.heap) (ht : IsTup s.heap t items) (hn : n = items.size)
    (h : ∀ h', St b S g0 h0 env g m mc mu h' → Q items.toList { s with heap := h' }) : wpAny (model prog w) A (unpackItems (.ref t) n none) Q E s := by
  subst hn
  exact unpackItems_tuple hh ht fun h' x => h h' (H.keeps fun a o e => x a o (fun q => by rw [q] at e; exact absurd (Heap.lt_size e) (Nat.lt_irrefl _)) e)
theorem imul_ok {a c : Int} {t u : Tok} {Q : Value → Shared → Prop} (hm : IntMulOk a c) (h : Q (.int (a * c) s.toks) { s with toks := s.toks + 1 }) : wpAny (model prog w) A (binaryOp .Mult (.int a t) (.int c u)) Q E s :=
  PyProof.Rows.mul_int h hm
theorem get_mu {l : Addr} {o : Obj} {vs : List Value} {k : Int} {t : Tok} {v : Value} {Q : Value → Shared → Prop} (H : St b S g0 h0 env g m mc mu s.heap) (hm : (l, o) ∈ mu) (isl : IsL o vs) (h0 : 0 ≤ k) (hk : k < 2 ^ 63) (hx : vs[k.toNat]? = some v) (h : Q v s) :
    wpAny (model prog w) A (getItem (.ref l) (.int k t)) Q E s := wpAny_getItem_list (isl.at_ (H.mus _ hm)) h0 hk (by simpa using hx) h
/-- a list of ints that stands for good, read at a place -/
theorem sub_il {value slice : Expr} {l : Addr} {ns : List Int} {k : Int} {t : Tok} {x : Int} {Q : Value → Shared → Prop} (H : St b S g0 h0 env g m mc mu s.heap) (I : IntL g l ns) (h0 : 0 ≤ k) (hk : k < 2 ^ 63) (hx : ns[k.toNat]? = some x) (h : ∀ u, Q (.int x u) s)
    (hs : subscripted slice false (.ref l) (.int k t) = operate [.ref l, .int k t] (getItem (.ref l) (.int k t)) := by with_unfolding_all rfl) :
    wpAny (model prog w) A (subscriptTail value slice (.ref l) (.int k t)) Q E s := by
  obtain ⟨vs, hl, hi⟩ := (I.mono H.on).list (.refl _)
  obtain ⟨u, hu⟩ := hi.get k.toNat x hx
  exact sub_list hl h0 hk hu (h u) hs
theorem len_il {l : Addr} {ns : List Int} {Q : Value → Shared → Prop} (H : St b S g0 h0 env g m mc mu s.heap) (I : IntL g l ns) (hsz : ns.length ≤ 16777216) (h : Q (.int ns.length (s.toks + 1)) { s with toks := s.toks + 1 + 1 }) :
    wpAny (model prog w) A (call (.builtin "len") [.ref l]) Q E s := by
  obtain ⟨vs, hl, hi⟩ := (I.mono H.on).list (.refl _)
  have := hi.length
  exact len_list hl (by omega) (by rw [this]; exact h)
end
end Mine
namespace Mine
/-- a finite sum -/
def sm : Nat → (Nat → Int) → Int
  | 0, _ => 0
  | n + 1, f => sm n f + f n
theorem sm_succ (n : Nat) (f : Nat → Int) : sm (n + 1) f = sm n f + f n := rfl
theorem sm_congr {n : Nat} {f g : Nat → Int} (h : ∀ i, i < n → f i = g i) : sm n f = sm n g := by
  induction n with
  | zero => rfl
  | succ n ih => rw [sm_succ, sm_succ, ih fun i hi => h i (Nat.lt_succ_of_lt hi), h n (Nat.lt_succ_self n)]
theorem sm_zero (n : Nat) : sm n (fun _ => 0) = 0 := by
  induction n with
  | zero => rfl
  | succ n ih => rw [sm_succ, ih]; rfl
theorem sm_zero' {n : Nat} {f : Nat → Int} (h : ∀ i, i < n → f i = 0) : sm n f = 0 := by rw [sm_congr h, sm_zero]
theorem sm_add (n : Nat) (f g : Nat → Int) : sm n (fun i => f i + g i) = sm n f + sm n g := by
  induction n with
  | zero => rfl
  | succ n ih => rw [sm_succ, sm_succ, sm_succ, ih]; omega
theorem sm_sub (n : Nat) (f g : Nat → Int) : sm n (fun i => f i - g i) = sm n f - sm n g := by
  induction n with
  | zero => rfl
  | succ n ih => rw [sm_succ, sm_succ, sm_succ, ih]; omega
theorem sm_mul (n : Nat) (c : Int) (f : Nat → Int) : sm n (fun i => c * f i) = c * sm n f := by
  induction n with
  | zero => exact (Int.mul_zero _).symm
  | succ n ih => rw [sm_succ, sm_succ, ih, Int.mul_add]
theorem sm_mul_r (n : Nat) (c : Int) (f : Nat → Int) : sm n (fun i => f i * c) = sm n f * c := by
  rw [Int.mul_comm, ← sm_mul]; exact sm_congr fun i _ => Int.mul_comm ..
theorem sm_swap (n k : Nat) (f : Nat → Nat → Int) : sm n (fun i => sm k (fun j => f i j)) = sm k (fun j => sm n (fun i => f i j)) := by
  induction n with
  | zero => exact (sm_zero k).symm
  | succ n ih => rw [sm_succ, ih, ← sm_add]; rfl
theorem sm_one {n : Nat} {p : Nat} (F : Nat → Int) (h : p < n) : sm n (fun k => if p = k then F k else 0) = F p := by
  induction n with
  | zero => omega
  | succ n ih =>
    rw [sm_succ]
    by_cases q : p = n
    · rw [if_pos q, sm_zero' fun i hi => if_neg (by omega), q]; omega
    · rw [if_neg q, ih (by omega)]; omega
theorem sm_none {n : Nat} {p : Nat} (F : Nat → Int) (h : n ≤ p) : sm n (fun k => if p = k then F k else 0) = 0 := sm_zero' fun i hi => if_neg (by omega)

/-- X^i X^j at the place k, X^n being -1 -/
def cf (n i j k : Nat) : Int := if i + j = k then 1 else if i + j = k + n then -1 else 0
/-- the product of two rows, X^n being -1 -/
def nc (n : Nat) (a b : Nat → Int) (k : Nat) : Int := sm n fun i => sm n fun j => cf n i j k * (a i * b j)

theorem cf_comm (n i j k : Nat) : cf n i j k = cf n j i k := by unfold cf; rw [Nat.add_comm]
theorem nc_comm (n : Nat) (a b : Nat → Int) (k : Nat) : nc n a b k = nc n b a k := by
  unfold nc
  rw [sm_swap]
  exact sm_congr fun i _ => sm_congr fun j _ => by rw [cf_comm, Int.mul_comm (a j)]
theorem nc_add (n : Nat) (a b c : Nat → Int) (k : Nat) : nc n a (fun j => b j + c j) k = nc n a b k + nc n a c k := by
  unfold nc
  rw [← sm_add]
  refine sm_congr fun i _ => ?_
  rw [← sm_add]
  exact sm_congr fun j _ => by rw [Int.mul_add, Int.mul_add]
theorem nc_smul (n : Nat) (a b : Nat → Int) (x : Int) (k : Nat) : nc n a (fun j => x * b j) k = x * nc n a b k := by
  unfold nc
  rw [← sm_mul]
  refine sm_congr fun i _ => ?_
  rw [← sm_mul]
  exact sm_congr fun j _ => by grind
theorem nc_congr {n : Nat} {a a' b b' : Nat → Int} (k : Nat) (ha : ∀ i, i < n → a i = a' i) (hb : ∀ i, i < n → b i = b' i) : nc n a b k = nc n a' b' k :=
  sm_congr fun i hi => sm_congr fun j hj => by rw [ha i hi, hb j hj]

theorem cf_sum {n i j : Nat} (F : Nat → Int) (hi : i < n) (hj : j < n) : sm n (fun k => cf n i j k * F k) = if i + j < n then F (i + j) else - F (i + j - n) := by
  by_cases h : i + j < n
  · rw [if_pos h, ← sm_one F h]
    refine sm_congr fun k hk => ?_
    unfold cf
    by_cases q : i + j = k
    · rw [if_pos q, if_pos q]; omega
    · rw [if_neg q, if_neg q, if_neg (by omega)]; omega
  · rw [if_neg h]
    have e : sm n (fun k => cf n i j k * F k) = sm n fun k => -1 * (if i + j - n = k then F k else 0) := by
      refine sm_congr fun k hk => ?_
      unfold cf
      by_cases q : i + j - n = k
      · rw [if_neg (by omega), if_pos (by omega), if_pos q]
      · rw [if_neg (by omega), if_neg (by omega), if_neg q]; omega
    rw [e, sm_mul, sm_one F (by omega)]; omega

theorem nc_lin (n : Nat) (x c : Nat → Int) (m : Nat) : nc n x c m = sm n fun k => x k * sm n fun l => cf n k l m * c l := by
  unfold nc
  refine sm_congr fun k _ => ?_
  rw [← sm_mul]
  exact sm_congr fun l _ => by grind

def ef (n s m : Nat) : Int := if s = m then 1 else if s = m + n then -1 else if s = m + n + n then 1 else 0

theorem cf_ef1 {n i j l m : Nat} (hi : i < n) (hj : j < n) (hl : l < n) (hm : m < n) : (if i + j < n then cf n (i + j) l m else - cf n (i + j - n) l m) = ef n (i + j + l) m := by
  unfold cf ef
  by_cases h : i + j < n
  · rw [if_pos h]
    by_cases q : i + j + l = m
    · rw [if_pos q, if_pos q]
    · rw [if_neg q, if_neg q]
      by_cases q' : i + j + l = m + n
      · rw [if_pos q', if_pos q']
      · rw [if_neg q', if_neg q', if_neg (by omega)]
  · rw [if_neg h, if_neg (show ¬ i + j + l = m by omega)]
    by_cases q : i + j + l = m + n
    · rw [if_pos q, if_pos (by omega)]
    · rw [if_neg q, if_neg (by omega)]
      by_cases q' : i + j + l = m + n + n
      · rw [if_pos q', if_pos (by omega)]; rfl
      · rw [if_neg q', if_neg (by omega)]; rfl
theorem sm_ite {n : Nat} {c : Prop} [Decidable c] (f g : Nat → Int) : (if c then sm n f else - sm n g) = sm n (fun l => if c then f l else - g l) := by
  by_cases h : c
  · simp only [if_pos h]
  · simp only [if_neg h]
    have e : sm n (fun l => - g l) = sm n fun l => -1 * g l := sm_congr fun l _ => by omega
    rw [e, sm_mul]; omega

theorem nc_assoc {n m : Nat} (a b c : Nat → Int) (hm : m < n) : nc n (nc n a b) c m = nc n a (nc n b c) m := by
  have L : nc n (nc n a b) c m = sm n fun i => sm n fun j => sm n fun l => ef n (i + j + l) m * (a i * (b j * c l)) := by
    rw [nc_lin]
    have : ∀ k, nc n a b k * (sm n fun l => cf n k l m * c l) = sm n fun i => sm n fun j => (a i * b j) * (cf n i j k * sm n fun l => cf n k l m * c l) := by
      intro k
      unfold nc
      rw [← sm_mul_r]
      refine sm_congr fun i _ => ?_
      rw [← sm_mul_r]
      exact sm_congr fun j _ => by grind
    rw [sm_congr fun k _ => this k, sm_swap]
    refine sm_congr fun i hi => ?_
    rw [sm_swap]
    refine sm_congr fun j hj => ?_
    rw [sm_mul, cf_sum _ hi hj, sm_ite, ← sm_mul]
    refine sm_congr fun l hl => ?_
    rw [← cf_ef1 hi hj hl hm]
    split <;> grind
  have R : nc n a (nc n b c) m = sm n fun i => sm n fun j => sm n fun l => ef n (i + j + l) m * (a i * (b j * c l)) := by
    unfold nc
    refine sm_congr fun i hi => ?_
    have : ∀ k, cf n i k m * (a i * sm n fun j => sm n fun l => cf n j l k * (b j * c l)) = sm n fun j => sm n fun l => (a i * (b j * c l)) * (cf n j l k * cf n i k m) := by
      intro k
      rw [← sm_mul, ← sm_mul]
      refine sm_congr fun j _ => ?_
      rw [← sm_mul, ← sm_mul]
      exact sm_congr fun l _ => by grind
    rw [sm_congr fun k _ => this k, sm_swap]
    refine sm_congr fun j hj => ?_
    rw [sm_swap]
    refine sm_congr fun l hl => ?_
    rw [sm_mul, cf_sum _ hj hl]
    have e := cf_ef1 (n := n) (m := m) hj hl hi hm
    rw [cf_comm n (j + l) i, cf_comm n (j + l - n) i] at e
    rw [e, show j + l + i = i + j + l by omega, Int.mul_comm]
  rw [L, R]

-- modulo q
theorem sm_mod {n : Nat} {q : Int} {f g : Nat → Int} (h : ∀ i, i < n → f i % q = g i % q) : sm n f % q = sm n g % q := by
  induction n with
  | zero => rfl
  | succ n ih =>
    rw [sm_succ, sm_succ, Int.add_emod, ih fun i hi => h i (Nat.lt_succ_of_lt hi), h n (Nat.lt_succ_self n), ← Int.add_emod]
theorem nc_mod {n : Nat} {q : Int} {a a' b b' : Nat → Int} (k : Nat) (ha : ∀ i, i < n → a i % q = a' i % q) (hb : ∀ i, i < n → b i % q = b' i % q) : nc n a b k % q = nc n a' b' k % q := by
  refine sm_mod fun i hi => sm_mod fun j hj => ?_
  rw [Int.mul_emod, Int.mul_emod (a i), ha i hi, hb j hj, ← Int.mul_emod (a' i), ← Int.mul_emod]

-- rows
def lf (n : Nat) (f : Nat → Int) : List Int := (List.range n).map f
theorem lf_length (n : Nat) (f : Nat → Int) : (lf n f).length = n := by unfold lf; simp
theorem lf_get {n i : Nat} (f : Nat → Int) (h : i < n) : (lf n f)[i]? = some (f i) := by unfold lf; simp [h]
theorem lf_none {n i : Nat} (f : Nat → Int) (h : n ≤ i) : (lf n f)[i]? = none := by unfold lf; simp [h]
theorem lf_ext {n : Nat} {f g : Nat → Int} (h : ∀ i, i < n → f i = g i) : lf n f = lf n g := by
  unfold lf; exact List.map_congr_left fun i hi => h i (List.mem_range.mp hi)
theorem lf_inj {n : Nat} {f g : Nat → Int} (h : lf n f = lf n g) : ∀ i, i < n → f i = g i := fun i hi => by
  have := congrArg (fun l => l[i]?) h
  simp only [lf_get f hi, lf_get g hi] at this
  exact Option.some.inj this
theorem lf_of {n : Nat} {cs : List Int} (h : cs.length = n) : cs = lf n fun i => cs.getD i 0 := by
  refine List.ext_getElem? fun i => ?_
  by_cases q : i < n
  · rw [lf_get _ q]; simp [List.getD, h ▸ q]
  · rw [lf_none _ (by omega)]; exact List.getElem?_eq_none (by omega)
theorem lf_set (n i : Nat) (f : Nat → Int) (x : Int) : (lf n f).set i x = lf n fun k => if i = k then x else f k := by
  refine List.ext_getElem? fun k => ?_
  by_cases q : k < n
  · rw [lf_get _ q, List.getElem?_set]
    by_cases r : i = k
    · rw [if_pos r, if_pos r, if_pos (by rw [lf_length]; omega)]
    · rw [if_neg r, if_neg r, lf_get _ q]
  · rw [lf_none _ (by omega)]; exact List.getElem?_eq_none (by rw [List.length_set, lf_length]; omega)
theorem lf_succ (n : Nat) (f : Nat → Int) : lf (n + 1) f = lf n f ++ [f n] := by unfold lf; rw [List.range_succ, List.map_append]; rfl
theorem lf_rep (n : Nat) (x : Int) : List.replicate n x = lf n fun _ => x := by
  refine List.ext_getElem? fun k => ?_
  by_cases q : k < n
  · rw [lf_get _ q]; simp [q]
  · rw [lf_none _ (by omega)]; simp; omega
theorem lf_map (n : Nat) (f : Nat → Int) (F : Int → Int) : (lf n f).map F = lf n fun i => F (f i) := by unfold lf; rw [List.map_map]; rfl
end Mine
namespace Mine
theorem sm_split (m k : Nat) (f : Nat → Int) : sm (m + k) f = sm m f + sm k fun u => f (m + u) := by
  induction k with
  | zero => show sm m f = sm m f + 0; omega
  | succ k ih => rw [← Nat.add_assoc, sm_succ, sm_succ, ih]; omega
theorem sm_trunc {m n : Nat} {f : Nat → Int} (h : m ≤ n) (z : ∀ j, m ≤ j → j < n → f j = 0) : sm n f = sm m f := by
  obtain ⟨k, rfl⟩ := Nat.exists_eq_add_of_le h
  rw [sm_split, sm_zero' (n := k) fun i hi => z _ (Nat.le_add_right _ _) (by omega)]; omega

/-- the two runs of the schoolbook product, i rows in, j places in -/
def sA (n : Nat) (a b : Nat → Int) (i k : Nat) : Int := sm i fun i' => sm (n - i') fun j => if i' + j = k then a i' * b j else 0
def sB (n : Nat) (a b : Nat → Int) (t k : Nat) : Int := sm t fun t' => sm (t' + 1) fun u => if u = k then a (n - (1 + t') + u) * b (1 + t') else 0

theorem school_eq {n k : Nat} (a b : Nat → Int) (hk : k < n) : sA n a b n k - sB n a b (n - 1) k = nc n a b k := by
  have e : nc n a b k = (sm n fun i => sm n fun j => if i + j = k then a i * b j else 0) - (sm n fun j => sm n fun i => if i + j = k + n then a i * b j else 0) := by
    rw [sm_swap n n fun j i => if i + j = k + n then a i * b j else 0, ← sm_sub]
    refine sm_congr fun i hi => ?_
    rw [← sm_sub]
    refine sm_congr fun j hj => ?_
    unfold cf
    by_cases q : i + j = k
    · rw [if_pos q, if_pos q, if_neg (by omega)]; omega
    · rw [if_neg q, if_neg q]
      by_cases q' : i + j = k + n
      · rw [if_pos q', if_pos q']; omega
      · rw [if_neg q', if_neg q']; omega
  rw [e]
  have e1 : sA n a b n k = sm n fun i => sm n fun j => if i + j = k then a i * b j else 0 :=
    sm_congr fun i hi => (sm_trunc (Nat.sub_le _ _) fun j hj hj' => if_neg (by omega)).symm
  have e2 : sB n a b (n - 1) k = sm n fun j => sm n fun i => if i + j = k + n then a i * b j else 0 := by
    obtain ⟨r, rfl⟩ : ∃ r, n = 1 + r := ⟨n - 1, by omega⟩
    rw [sm_split 1 r]
    have z : (sm 1 fun j => sm (1 + r) fun i => if i + j = k + (1 + r) then a i * b j else 0) = 0 := by
      refine sm_zero' fun j hj => sm_zero' fun i hi => if_neg (by omega)
    rw [z, show 1 + r - 1 = r by omega]
    unfold sB
    rw [Int.zero_add]
    refine sm_congr fun t ht => ?_
    have sp := sm_split (1 + r - (1 + t)) (t + 1) (fun i => if i + (1 + t) = k + (1 + r) then a i * b (1 + t) else 0)
    rw [show 1 + r - (1 + t) + (t + 1) = 1 + r by omega] at sp
    rw [sp, sm_zero' (n := 1 + r - (1 + t)) fun i hi => if_neg (by omega), Int.zero_add]
    refine sm_congr fun u hu => ?_
    by_cases q : u = k
    · rw [if_pos q, if_pos (by omega)]
    · rw [if_neg q, if_neg (by omega)]
  rw [e1, e2]

/-- the run of the law's own product -/
def sP (n : Nat) (a b : Nat → Int) (i k : Nat) : Int := sm i fun j => sm n fun l => if j + l < n then (if j + l = k then a j * b l else 0) else if j + l - n = k then 0 - a j * b l else 0
theorem sP_eq {n k : Nat} (a b : Nat → Int) (hk : k < n) : sP n a b n k = nc n a b k := by
  refine sm_congr fun i hi => sm_congr fun j hj => ?_
  unfold cf
  by_cases h : i + j < n
  · rw [if_pos h]
    by_cases q : i + j = k
    · rw [if_pos q, if_pos q]; omega
    · rw [if_neg q, if_neg q, if_neg (by omega)]; omega
  · rw [if_neg h]
    by_cases q : i + j - n = k
    · rw [if_pos q, if_neg (by omega), if_pos (by omega)]; omega
    · rw [if_neg q, if_neg (by omega), if_neg (by omega)]; omega

/-- X^s -/
def ex (s k : Nat) : Int := if k = s then 1 else 0
end Mine
namespace Mine
/-- one turn by X -/
def sh (n : Nat) (f : Nat → Int) (k : Nat) : Int := if k = 0 then - f (n - 1) else f (k - 1)
theorem nc_gen {n k : Nat} (f : Nat → Int) (hn : 2 ≤ n) (hk : k < n) : nc n f (ex 1) k = sh n f k := by
  rw [nc_comm, nc_lin]
  have e : ∀ i, i < n → ex 1 i * (sm n fun l => cf n i l k * f l) = if 1 = i then (sm n fun l => cf n i l k * f l) else 0 := by
    intro i _
    unfold ex
    by_cases h : i = 1
    · rw [if_pos h, if_pos h.symm]; omega
    · rw [if_neg h, if_neg (fun z => h z.symm)]; omega
  rw [sm_congr e, sm_one (fun i => sm n fun l => cf n i l k * f l) (by omega)]
  unfold sh cf
  by_cases h : k = 0
  · rw [if_pos h]
    have e2 : (sm n fun l => (if 1 + l = k then 1 else if 1 + l = k + n then (-1 : Int) else 0) * f l) = sm n fun l => if n - 1 = l then - f l else 0 := by
      refine sm_congr fun l hl => ?_
      rw [if_neg (by omega)]
      by_cases q : n - 1 = l
      · rw [if_pos (by omega), if_pos q]; omega
      · rw [if_neg (by omega), if_neg q]; omega
    rw [e2, sm_one (fun l => - f l) (by omega)]
  · rw [if_neg h]
    have e2 : (sm n fun l => (if 1 + l = k then 1 else if 1 + l = k + n then (-1 : Int) else 0) * f l) = sm n fun l => if k - 1 = l then f l else 0 := by
      refine sm_congr fun l hl => ?_
      by_cases q : k - 1 = l
      · rw [if_pos (by omega), if_pos q]; omega
      · rw [if_neg (by omega), if_neg (by omega), if_neg q]; omega
    rw [e2, sm_one (fun l => f l) (by omega)]
theorem nc_one {n k : Nat} (f : Nat → Int) (hk : k < n) : nc n f (ex 0) k = f k := by
  rw [nc_comm, nc_lin]
  have e : ∀ i, i < n → ex 0 i * (sm n fun l => cf n i l k * f l) = if 0 = i then (sm n fun l => cf n i l k * f l) else 0 := by
    intro i _
    unfold ex
    by_cases h : i = 0
    · rw [if_pos h, if_pos h.symm]; omega
    · rw [if_neg h, if_neg (fun z => h z.symm)]; omega
  rw [sm_congr e, sm_one (fun i => sm n fun l => cf n i l k * f l) (by omega)]
  unfold cf
  have e2 : (sm n fun l => (if 0 + l = k then 1 else if 0 + l = k + n then (-1 : Int) else 0) * f l) = sm n fun l => if k = l then f l else 0 := by
    refine sm_congr fun l hl => ?_
    by_cases q : k = l
    · rw [if_pos (by omega), if_pos q]; omega
    · rw [if_neg (by omega), if_neg (by omega), if_neg q]; omega
  rw [e2, sm_one (fun l => f l) hk]

/-- the powers of X as the ring gives them -/
def xp (n : Nat) (q : Int) : Nat → Nat → Int
  | 0 => ex 0
  | s + 1 => fun k => nc n (xp n q s) (ex 1) k % q
def shs (n : Nat) (f : Nat → Int) : Nat → Nat → Int
  | 0 => f
  | s + 1 => sh n (shs n f s)
theorem nc_xp {n : Nat} {q : Int} (f : Nat → Int) (hn : 2 ≤ n) : ∀ s k, k < n → nc n f (xp n q s) k % q = shs n f s k % q
  | 0, k, hk => by show nc n f (ex 0) k % q = f k % q; rw [nc_one f hk]
  | s + 1, k, hk => by
    have e1 : nc n f (xp n q (s + 1)) k % q = nc n f (nc n (xp n q s) (ex 1)) k % q := nc_mod k (fun _ _ => rfl) fun i _ => Int.emod_emod_of_dvd _ (Int.dvd_refl _)
    rw [e1, ← nc_assoc f _ _ hk]
    have e2 : nc n (nc n f (xp n q s)) (ex 1) k % q = nc n (shs n f s) (ex 1) k % q := nc_mod k (fun i hi => nc_xp f hn s i hi) fun _ _ => rfl
    rw [e2, nc_gen _ hn hk]; rfl
theorem xp_small {n : Nat} {q : Int} (hq : 2 ≤ q) (s k : Nat) : 0 ≤ xp n q s k ∧ xp n q s k < q := by
  cases s with
  | zero => show 0 ≤ ex 0 k ∧ ex 0 k < q; unfold ex; split <;> omega
  | succ s => exact ⟨Int.emod_nonneg _ (by omega), Int.emod_lt_of_pos _ (by omega)⟩

/-- where X^t goes, and its sign -/
def pl (n t : Nat) : Nat := if t < n then t else if t < 2 * n then t - n else t - 2 * n
def sg (n t : Nat) : Int := if t < n then 1 else if t < 2 * n then -1 else 1
theorem pl1 {n t : Nat} (h : t < n) : pl n t = t ∧ sg n t = 1 := ⟨if_pos h, if_pos h⟩
theorem pl2 {n t : Nat} (h1 : n ≤ t) (h2 : t < 2 * n) : pl n t = t - n ∧ sg n t = -1 := by
  unfold pl sg
  rw [if_neg (Nat.not_lt.mpr h1), if_neg (Nat.not_lt.mpr h1), if_pos h2, if_pos h2]; exact ⟨rfl, rfl⟩
theorem pl3 {n t : Nat} (h1 : n ≤ t) (h2 : 2 * n ≤ t) : pl n t = t - 2 * n ∧ sg n t = 1 := by
  unfold pl sg
  rw [if_neg (Nat.not_lt.mpr h1), if_neg (Nat.not_lt.mpr h1), if_neg (Nat.not_lt.mpr h2), if_neg (Nat.not_lt.mpr h2)]; exact ⟨rfl, rfl⟩
theorem pl_step {n t : Nat} (hn : 0 < n) (h : t + 1 < 3 * n) : (pl n (t + 1) = pl n t + 1 ∧ sg n (t + 1) = sg n t) ∨ (pl n (t + 1) = 0 ∧ pl n t = n - 1 ∧ sg n (t + 1) = - sg n t) := by
  rcases Nat.lt_or_ge t n with a | a
  · obtain ⟨e1, e2⟩ := pl1 a
    rcases Nat.lt_or_ge (t + 1) n with c | c
    · obtain ⟨f1, f2⟩ := pl1 c
      exact .inl ⟨by rw [e1, f1], by rw [e2, f2]⟩
    · obtain ⟨f1, f2⟩ := pl2 c (by omega)
      exact .inr ⟨by omega, by omega, by rw [e2, f2]⟩
  · rcases Nat.lt_or_ge t (2 * n) with a2 | a2
    · obtain ⟨e1, e2⟩ := pl2 a a2
      rcases Nat.lt_or_ge (t + 1) (2 * n) with c | c
      · obtain ⟨f1, f2⟩ := pl2 (n := n) (t := t + 1) (by omega) c
        exact .inl ⟨by omega, by rw [e2, f2]⟩
      · obtain ⟨f1, f2⟩ := pl3 (n := n) (t := t + 1) (by omega) c
        exact .inr ⟨by omega, by omega, by rw [e2, f2]; rfl⟩
    · obtain ⟨e1, e2⟩ := pl3 a a2
      obtain ⟨f1, f2⟩ := pl3 (n := n) (t := t + 1) (by omega) (by omega)
      exact .inl ⟨by omega, by rw [e2, f2]⟩
theorem shs_at {n : Nat} (f : Nat → Int) {k : Nat} (hk : k < n) : ∀ s, k + s < 3 * n → shs n f s (pl n (k + s)) = sg n (k + s) * f k
  | 0, _ => by
    show f (pl n k) = sg n k * f k
    obtain ⟨e1, e2⟩ := pl1 hk
    rw [e1, e2, Int.one_mul]
  | s + 1, h => by
    have h : k + s + 1 < 3 * n := h
    have ih := shs_at f hk s (Nat.lt_of_succ_lt h)
    show sh n (shs n f s) (pl n (k + s + 1)) = sg n (k + s + 1) * f k
    rcases pl_step (Nat.zero_lt_of_lt hk) h with ⟨e1, e2⟩ | ⟨e1, e2, e3⟩
    · rw [e1, e2, ← ih]; rfl
    · rw [e1, e3, Int.neg_mul, ← ih, e2]; rfl

/-- the row as the law moves it, i places in -/
def mv (n s : Nat) (q : Int) (f : Nat → Int) : Nat → Nat → Int
  | 0, _ => 0
  | i + 1, p => if pl n (i + s) = p then sg n (i + s) * f i % q else mv n s q f i p
theorem mv_at {n s : Nat} {q : Int} (f : Nat → Int) (hs : s ≤ 2 * n) {p : Nat} : ∀ i, i ≤ n → (∃ k, k < i ∧ pl n (k + s) = p) → mv n s q f i p = shs n f s p % q
  | 0, _, ⟨_, h, _⟩ => by omega
  | i + 1, hi, ⟨k, h, e⟩ => by
    unfold mv
    by_cases z : pl n (i + s) = p
    · rw [if_pos z, ← z, shs_at f (by omega) s (by omega)]
    · rw [if_neg z]
      refine mv_at f hs i (by omega) ⟨k, ?_, e⟩
      rcases Nat.lt_succ_iff_lt_or_eq.mp h with h | h
      · exact h
      · subst h; exact absurd e z
theorem pl_onto {n s p : Nat} (hp : p < n) (hs : s ≤ 2 * n) : ∃ k, k < n ∧ pl n (k + s) = p := by
  rcases Nat.lt_or_ge p s with h1 | h1
  · rcases Nat.lt_or_ge (p + n) s with h2 | h2
    · exact ⟨p + 2 * n - s, by omega, by rw [show p + 2 * n - s + s = p + 2 * n by omega, (pl3 (by omega) (by omega)).1]; omega⟩
    · exact ⟨p + n - s, by omega, by rw [show p + n - s + s = p + n by omega, (pl2 (by omega) (by omega)).1]; omega⟩
  · exact ⟨p - s, by omega, by rw [show p - s + s = p by omega, (pl1 hp).1]⟩
theorem mv_eq {n s p : Nat} {q : Int} (f : Nat → Int) (hs : s ≤ 2 * n) (hp : p < n) : mv n s q f n p = shs n f s p % q := mv_at f hs n (Nat.le_refl _) (pl_onto hp hs)
theorem pl_lt {n t : Nat} (h : t < 3 * n) : pl n t < n := by unfold pl; split <;> (try split) <;> omega
/-- the law's four turns of a place and its sign -/
def tp (n t : Nat) : Nat → Nat
  | 0 => t
  | c + 1 => if n ≤ tp n t c then tp n t c - n else tp n t c
def ts (n t : Nat) : Nat → Int
  | 0 => 1
  | c + 1 => if n ≤ tp n t c then 0 - ts n t c else ts n t c
theorem tp_le (n t : Nat) : ∀ c, tp n t c ≤ t
  | 0 => Nat.le_refl _
  | c + 1 => by
    have := tp_le n t c
    unfold tp
    split <;> omega
theorem turn_on {n t c : Nat} (h : n ≤ tp n t c) : tp n t (c + 1) = tp n t c - n ∧ ts n t (c + 1) = 0 - ts n t c := ⟨if_pos h, if_pos h⟩
theorem turn_off {n t c : Nat} (h : tp n t c < n) : ∀ d, tp n t (c + d) = tp n t c ∧ ts n t (c + d) = ts n t c
  | 0 => ⟨rfl, rfl⟩
  | d + 1 => by
    obtain ⟨e1, e2⟩ := turn_off h d
    have h' : ¬ n ≤ tp n t (c + d) := by rw [e1]; exact Nat.not_le.mpr h
    exact ⟨(if_neg h').trans e1, (if_neg h').trans e2⟩
theorem turns_end {n t : Nat} (h : t < 3 * n) : tp n t 4 = pl n t ∧ ts n t 4 = sg n t := by
  rcases Nat.lt_or_ge t n with a | a
  · obtain ⟨e1, e2⟩ := pl1 a
    obtain ⟨f1, f2⟩ := turn_off (n := n) (t := t) (c := 0) a 4
    exact ⟨f1.trans e1.symm, f2.trans e2.symm⟩
  · obtain ⟨g1, g2⟩ := turn_on (n := n) (t := t) (c := 0) a
    have g1 : tp n t 1 = t - n := g1
    have g2 : ts n t 1 = -1 := g2
    rcases Nat.lt_or_ge t (2 * n) with a2 | a2
    · obtain ⟨e1, e2⟩ := pl2 a a2
      obtain ⟨f1, f2⟩ := turn_off (n := n) (t := t) (c := 1) (by rw [g1]; omega) 3
      exact ⟨f1.trans (g1.trans e1.symm), f2.trans (g2.trans e2.symm)⟩
    · obtain ⟨e1, e2⟩ := pl3 a a2
      obtain ⟨k1, k2⟩ := turn_on (n := n) (t := t) (c := 1) (by rw [g1]; omega)
      have k1 : tp n t 2 = t - n - n := by rw [← g1]; exact k1
      have k2 : ts n t 2 = 1 := by rw [show (2 : Nat) = 1 + 1 from rfl, k2, g2]; rfl
      obtain ⟨f1, f2⟩ := turn_off (n := n) (t := t) (c := 2) (by rw [k1]; omega) 2
      exact ⟨f1.trans (k1.trans (by rw [e1]; omega)), f2.trans (k2.trans e2.symm)⟩
end Mine
namespace Mine
theorem ints_ext {ys : List Value} {n : Nat} {f f' : Nat → Int} (h : IntsAre ys (lf n f)) (e : ∀ k, k < n → f k = f' k) : IntsAre ys (lf n f') := lf_ext e ▸ h
theorem IntL.ext {g : FM} {l : Addr} {n : Nat} {f f' : Nat → Int} (h : IntL g l (lf n f)) (e : ∀ k, k < n → f k = f' k) : IntL g l (lf n f') := lf_ext e ▸ h
theorem ints_push {ys : List Value} {n : Nat} {f : Nat → Int} {x : Int} {t : Tok} (h : IntsAre ys (lf n f)) (e : x = f n) : IntsAre (ys ++ [.int x t]) (lf (n + 1) f) := by
  rw [lf_succ, ← e]; exact h.append (.cons _ _ .nil)
theorem ints_put {ys : List Value} {n i : Nat} {f f' : Nat → Int} {x : Int} {t : Tok} (h : IntsAre ys (lf n f)) (e : ∀ k, k < n → (if i = k then x else f k) = f' k) : IntsAre (ys.set i (.int x t)) (lf n f') := by
  have := ints_set h i x t
  rw [lf_set] at this
  exact ints_ext this e
theorem ints_at {ys : List Value} {n i : Nat} {f : Nat → Int} (h : IntsAre ys (lf n f)) (hi : i < n) : ∃ t, ys[i]? = some (.int (f i) t) := h.get i (f i) (lf_get f hi)
theorem ints_rep (n : Nat) (x : Int) (t : Tok) : IntsAre (List.replicate n (.int x t)) (lf n fun _ => x) := by
  rw [← lf_rep]
  induction n with
  | zero => exact .nil
  | succ n ih => exact .cons _ _ ih
theorem ints_len {ys : List Value} {n : Nat} {f : Nat → Int} (h : IntsAre ys (lf n f)) : ys.length = n := by rw [h.length, lf_length]
section
variable {prog : Program} {w : World} {b : Heap} {S : List Addr} {g0 : FM} {h0 : Heap} {env : Env} {g : FM} {m mc : Str → Option Value} {mu pre post : List (Addr × Obj)} {A : Around} {s : Shared} {E : Value → Shared → Prop}
/-- a row that is turned, read at a place; and written -/
theorem row_get {l : Addr} {o : Obj} {ys : List Value} {n i : Nat} {f : Nat → Int} {k : Int} {t : Tok} {Q : Value → Shared → Prop} (H : St b S g0 h0 env g m mc mu s.heap) (hm : (l, o) ∈ mu) (isl : IsL o ys) (hf : IntsAre ys (lf n f)) (hk : k = i) (hi : i < n) (hn : n ≤ 1000) (h : ∀ u, Q (.int (f i) u) s) :
    wpAny (model prog w) A (getItem (.ref l) (.int k t)) Q E s := by
  obtain ⟨u, hu⟩ := ints_at hf hi
  subst hk
  exact get_mu H hm isl (by omega) (by omega) hu (h u)
theorem row_sub {value slice : Expr} {l : Addr} {o : Obj} {ys : List Value} {n i : Nat} {f : Nat → Int} {k : Int} {t : Tok} {Q : Value → Shared → Prop} (H : St b S g0 h0 env g m mc mu s.heap) (hm : (l, o) ∈ mu) (isl : IsL o ys) (hf : IntsAre ys (lf n f)) (hk : k = i) (hi : i < n) (hn : n ≤ 1000) (h : ∀ u, Q (.int (f i) u) s)
    (hs : subscripted slice false (.ref l) (.int k t) = operate [.ref l, .int k t] (getItem (.ref l) (.int k t)) := by with_unfolding_all rfl) :
    wpAny (model prog w) A (subscriptTail value slice (.ref l) (.int k t)) Q E s := by
  obtain ⟨u, hu⟩ := ints_at hf hi
  subst hk
  exact sub_mu H hm isl (by omega) (by omega) hu (h u) hs
theorem row_set {a : Addr} {o : Obj} {ys : List Value} {n i : Nat} {f : Nat → Int} {k x : Int} {t u : Tok} {Q : Unit → Shared → Prop} (H : St b S g0 h0 env g m mc (pre ++ (a, o) :: post) s.heap) (isl : IsL o ys) (hf : IntsAre ys (lf n f)) (hk : k = i) (hi : i < n) (hn : n ≤ 1000)
    (h : ∀ h' o' ys', IsL o' ys' → (∀ f' : Nat → Int, (∀ k, k < n → (if i = k then x else f k) = f' k) → IntsAre ys' (lf n f')) → St b S g0 h0 env g m mc (pre ++ (a, o') :: post) h' → Q () { s with heap := h' }) : wpAny (model prog w) A (setItem (.ref a) (.int k t) (.int x u)) Q E s := by
  have hl := ints_len hf
  subst hk
  refine set_list H isl (by omega) (by omega) (by omega) fun h' o' isl' H' => ?_
  exact h h' o' _ isl' (fun f' e => by
    have := ints_put (i := i) (x := x) (t := u) hf e
    rwa [show ((i : Int)).toNat = i by omega]) H'
/-- a row that stands for good, read at a place -/
theorem row_il {value slice : Expr} {l : Addr} {n i : Nat} {f : Nat → Int} {k : Int} {t : Tok} {Q : Value → Shared → Prop} (H : St b S g0 h0 env g m mc mu s.heap) (I : IntL g l (lf n f)) (hk : k = i) (hi : i < n) (hn : n ≤ 1000) (h : ∀ u, Q (.int (f i) u) s)
    (hs : subscripted slice false (.ref l) (.int k t) = operate [.ref l, .int k t] (getItem (.ref l) (.int k t)) := by with_unfolding_all rfl) :
    wpAny (model prog w) A (subscriptTail value slice (.ref l) (.int k t)) Q E s := by
  subst hk
  exact sub_il H I (by omega) (by omega) (by rw [show ((i : Int)).toNat = i by omega]; exact lf_get f hi) h hs
theorem x_fn0 {K : Frag} {p : Program} {loose : List Str} {mean : ExcName → Option Value} {mg mb : Str → Option Value} {f : Value} {first : List Value} {pos : Pos} {Q : Value → Shared → Prop}
    (W : Wd K p loose mean mg mb b) (H : St b S g0 h0 env g m mc mu s.heap) (hk : keepIn K f = true) (h : wpAny (model prog w) A (call f (first ++ [])) Q E s) :
    wpAny (model prog w) A (callWith pos f first (backTo pos (starEach [] env)) []) Q E s := callWith_K0 (H.X W) hk h
theorem eq_il {l l' : Addr} {ns ms : List Int} {Q : Value → Shared → Prop} {n : Nat} (H : St b S g0 h0 env g m mc mu s.heap) (hA : Ao n A) (I : IntL g l ns) (J : IntL g l' ms) (h : Q (.bool (decide (ns = ms))) s) : wpAny (model prog w) A (compareOp .Eq (.ref l) (.ref l')) Q E s := by
  obtain ⟨vs, hl, hi⟩ := (I.mono H.on).list (.refl _)
  obtain ⟨us, hl', hi'⟩ := (J.mono H.on).list (.refl _)
  exact eq_intsK hl hi hl' hi' (by have := hA.un; unfold cLine; omega) h
theorem ne_il {l l' : Addr} {ns ms : List Int} {Q : Value → Shared → Prop} {n : Nat} (H : St b S g0 h0 env g m mc mu s.heap) (hA : Ao n A) (I : IntL g l ns) (J : IntL g l' ms) (h : Q (.bool (!decide (ns = ms))) s) : wpAny (model prog w) A (compareOp .NotEq (.ref l) (.ref l')) Q E s := by
  obtain ⟨vs, hl, hi⟩ := (I.mono H.on).list (.refl _)
  obtain ⟨us, hl', hi'⟩ := (J.mono H.on).list (.refl _)
  exact ne_intsK hl hi hl' hi' (by have := hA.un; unfold cLine; omega) h
/-- list(row), of a row that stands for good -/
theorem copy_il {l : Addr} {ns : List Int} {Q : Value → Shared → Prop} (H : St b S g0 h0 env g m mc mu s.heap) (I : IntL g l ns) (hz : ns.length ≤ 1000000)
    (h : ∀ l' g' h', g.le g' → IntL g' l' ns → St b S g0 h0 env g' m mc mu h' → Q (.ref l') { s with heap := h' }) : wpAny (model prog w) A (call (.type "list") [.ref l]) Q E s := by
  obtain ⟨vs, hl, hi⟩ := (I.mono H.on).list (.refl _)
  refine copy_list H hl (by rw [hi.length, sizeLine_eq]; omega) fun a o h' isl fa H' => ?_
  obtain ⟨H2, le⟩ := H'.freeze fa
  exact h a _ h' le (IntL.mk (FM.put_self ..) isl hi) H2
theorem tup_swap2 {x y : Str} {t : Addr} {u v : Value} {Q : Unit → Shared → Prop} (hh : A.handled = none) (H : St b S g0 h0 env g m mc mu s.heap) (ht : IsTup s.heap t [u, v].toArray)
    (h : ∀ h', St b S g0 h0 env g m mc mu h' → wpAny (model prog w) A (storeName env y v) (fun _ s₁ => wpAny (model prog w) A (storeName env x u) Q E s₁) E { s with heap := h' }) :
    wpAny (model prog w) A (unpackItems (.ref t) [x, y].length none) (fun items s₂ => wpAny (model prog w) A (assignInOrder ([x, y].reverse.map fun n => bindName env n) items.reverse) Q E s₂) E s :=
  tup_unpack hh H ht rfl fun h' H' => x_order (bindName_ (wpAny_mono (h h' H') (fun _ s₁ z => x_order (bindName_ (wpAny_mono z (fun _ _ z => x_order0 z) fun _ _ z => z))) fun _ _ z => z))
theorem tup_swap3 {x y r : Str} {t : Addr} {u v k : Value} {Q : Unit → Shared → Prop} (hh : A.handled = none) (H : St b S g0 h0 env g m mc mu s.heap) (ht : IsTup s.heap t [u, v, k].toArray)
    (h : ∀ h', St b S g0 h0 env g m mc mu h' → wpAny (model prog w) A (storeName env r k) (fun _ s₀ => wpAny (model prog w) A (storeName env y v) (fun _ s₁ => wpAny (model prog w) A (storeName env x u) Q E s₁) E s₀) E { s with heap := h' }) :
    wpAny (model prog w) A (unpackItems (.ref t) [x, y, r].length none) (fun items s₂ => wpAny (model prog w) A (assignInOrder ([x, y, r].reverse.map fun n => bindName env n) items.reverse) Q E s₂) E s :=
  tup_unpack hh H ht rfl fun h' H' => x_order (bindName_ (wpAny_mono (h h' H') (fun _ s₁ z => x_order (bindName_ (wpAny_mono z (fun _ _ z => x_order (bindName_ (wpAny_mono z (fun _ _ z => x_order0 z) fun _ _ z => z))) fun _ _ z => z))) fun _ _ z => z))
theorem tup_assign2 {x y : Str} {px py pos : Pos} {x1} {t : Addr} {u v : Value} {Q : Unit → Shared → Prop} (hh : A.handled = none) (H : St b S g0 h0 env g m mc mu s.heap) (ht : IsTup s.heap t [u, v].toArray)
    (h : ∀ h', St b S g0 h0 env g m mc mu h' → wpAny (model prog w) A (storeName env x u) (fun _ s₁ => wpAny (model prog w) A (storeName env y v) Q E s₁) E { s with heap := h' }) :
    wpAny (model prog w) A (assign (.Tuple [.Name x px, .Name y py] x1 pos) env (.ref t)) Q E s :=
  tup_assign hh H ht fun h' H' => x_order (wpAny_assign_Name (wpAny_mono (h h' H') (fun _ s₁ z => x_order (wpAny_assign_Name (wpAny_mono z (fun _ _ z => x_order0 z) fun _ _ z => z))) fun _ _ z => z))
theorem tup_assign3 {x y r : Str} {px py pr pos : Pos} {x1} {t : Addr} {u v k : Value} {Q : Unit → Shared → Prop} (hh : A.handled = none) (H : St b S g0 h0 env g m mc mu s.heap) (ht : IsTup s.heap t [u, v, k].toArray)
    (h : ∀ h', St b S g0 h0 env g m mc mu h' → wpAny (model prog w) A (storeName env x u) (fun _ s₀ => wpAny (model prog w) A (storeName env y v) (fun _ s₁ => wpAny (model prog w) A (storeName env r k) Q E s₁) E s₀) E { s with heap := h' }) :
    wpAny (model prog w) A (assign (.Tuple [.Name x px, .Name y py, .Name r pr] x1 pos) env (.ref t)) Q E s :=
  tup_assign hh H ht fun h' H' => x_order (wpAny_assign_Name (wpAny_mono (h h' H') (fun _ s₁ z => x_order (wpAny_assign_Name (wpAny_mono z (fun _ _ z => x_order (wpAny_assign_Name (wpAny_mono z (fun _ _ z => x_order0 z) fun _ _ z => z))) fun _ _ z => z))) fun _ _ z => z))
theorem IntL.row {g : FM} {l : Addr} {ns : List Int} {n : Nat} {lo hi : Int} (I : IntL g l ns) (hl : ns.length = n) (hb : ∀ x ∈ ns, lo ≤ x ∧ x ≤ hi) : ∃ a, IntL g l (lf n a) ∧ ∀ i, i < n → lo ≤ a i ∧ a i ≤ hi := by
  refine ⟨_, lf_of hl ▸ I, fun i h => hb _ ?_⟩
  have : ns.getD i 0 = ns[i]'(by omega) := by simp [List.getD, hl ▸ h]
  rw [this]
  exact List.getElem_mem _
/-- the draws' state, made by a call -/
theorem St.draws {h' : Heap} {g' : FM} {mu' : List (Addr × Obj)} {h : Heap} (H : St b S g0 h0 env g m mc mu h) (ev : Ev [] g h g' h') (live : ∀ q ∈ mu', h'.get? q.1 = some q.2 ∧ h.get? q.1 = none ∧ g' q.1 = none) (nd : (mu'.map (·.1)).Nodup) : St b S g0 h0 env g' m mc (mu' ++ mu) h' :=
  St.adopts (H.call0 ev) (fun q hq => ⟨(live q hq).1, H.not_owned (live q hq).2.1, (live q hq).2.2, H.h0fresh (live q hq).2.1⟩) nd
theorem rng {n : Nat} (h : n ≤ 100000) : Builtin.Range.small 0 (n : Int) 1 = true := small_one (by decide) (by decide) (by omega) (by omega)
theorem rng2 {a c : Int} (h1 : 0 ≤ a) (h2 : a ≤ 1000) (h3 : 0 ≤ c) (h4 : c ≤ 1000) : Builtin.Range.small a c 1 = true := small_one (by omega) (by omega) (by omega) (by omega)
theorem nat0 (n : Nat) : (0 : Int) ≤ (n : Int) := Int.natCast_nonneg n
theorem to_nat0 (n : Nat) : ((n : Int) - 0).toNat = n := by omega
theorem szl {n : Nat} (h : n ≤ 1000) : n ≤ sizeLine := by rw [sizeLine_eq]; omega
theorem sz1 {n : Nat} (h : n.ble 10 = true) : n ≤ sizeLine := by rw [sizeLine_eq]; have := Nat.le_of_ble_eq_true h; omega
end
end Mine
namespace Mine
section
variable {prog : Program} {w : World} {b : Heap} {S : List Addr} {g0 : FM} {h0 : Heap} {env : Env} {g : FM} {m mc : Str → Option Value} {mu pre post : List (Addr × Obj)} {A : Around} {s : Shared} {E : Value → Shared → Prop}
theorem St.Xh {K : Frag} {p : Program} {loose : List Str} {mean : ExcName → Option Value} {mg mb : Str → Option Value} {h : Heap} (H : St b S g0 h0 env g m mc mu h) (W : Wd K p loose mean mg mb b) : K.In h := W.X.keeps H.base
theorem eq_same {l l' : Addr} {ns ms : List Int} {Q : Value → Shared → Prop} {n : Nat} (H : St b S g0 h0 env g m mc mu s.heap) (hA : Ao n A) (I : IntL g l ns) (J : IntL g l' ms) (e : ns = ms) (h : Q (.bool true) s) : wpAny (model prog w) A (compareOp .Eq (.ref l) (.ref l')) Q E s :=
  eq_il H hA I J (by rw [decide_eq_true e]; exact h)
theorem ne_same {l l' : Addr} {ns ms : List Int} {Q : Value → Shared → Prop} {n : Nat} (H : St b S g0 h0 env g m mc mu s.heap) (hA : Ao n A) (I : IntL g l ns) (J : IntL g l' ms) (e : ns = ms) (h : Q (.bool false) s) : wpAny (model prog w) A (compareOp .NotEq (.ref l) (.ref l')) Q E s :=
  ne_il H hA I J (by rw [decide_eq_true e]; exact h)
/-- a turned object turns no more, its maker's word apart -/
theorem St.freeze' {a : Addr} {o : Obj} {h : Heap} (H : St b S g0 h0 env g m mc ((a, o) :: mu) h) (h0a : h0.get? a = none) : ∃ g', g.le g' ∧ g' a = some o ∧ St b S g0 h0 env g' m mc mu h :=
  ⟨_, (H.freeze h0a).2, FM.put_self .., (H.freeze h0a).1⟩
end
end Mine
open PySem PySem.W PyProof.Rows PySem.Calls Mine
local macro_rules | `(tactic| walk_at "M1") => `(tactic| with_reducible first
  | ((show wpAny _ _ (eval (Expr.Name _ _) _) _ _ _); first
    | refine ev_loc (by assumption) (by with_unfolding_all rfl) ?_
    | refine ev_cell (by assumption) (by with_unfolding_all rfl) ?_
    | refine ev_loc (by assumption) (by with_unfolding_all assumption) ?_
    | (refine ev_blt (by assumption) (by assumption) (by with_unfolding_all k_is) (by with_unfolding_all boot_by_name) ?_)
    | (refine ev_glob (by assumption) (by assumption) (by with_unfolding_all k_is) ?_))
  | ((show wpAny _ _ (eval (Expr.Constant _ _ _) _) _ _ _); first
    | refine wpAny_Constant_int ?_
    | refine wpAny_Constant_bool ?_
    | refine wpAny_Constant_none ?_)
  | ((show wpAny _ _ (eval _ _) _ _ _); first
    | refine wpAny_BinOp ?_
    | refine Subscript_ ?_
    | refine x_meth ?_
    | refine x_attr ?_
    | refine x_list ?_
    | refine x_tuple ?_
    | refine wpAny_UnaryOp ?_
    | refine wpAny_Call_NameR ?_
    | refine x_cmp ?_)
  | ((show wpAny _ _ (execs _ _) _ _ _); first
    | refine wpAny_execs_nil ?_
    | (refine wpAny_execs_cons ?_; try dsimp only))
  | ((show wpAny _ _ (exec _ _) _ _ _); first
    | refine wpAny_Return_some ?_
    | refine wpAny_If ?_
    | refine x_assign ?_
    | refine x_assignSub ?_
    | refine x_assignAttr ?_
    | refine x_assignTup ?_
    | refine x_assignSwap (by with_unfolding_all rfl) ?_
    | refine x_for ?_
    | refine x_augSub ?_)
  | ((show wpAny _ _ (isTrue _ _ _) _ _ _); first
    | refine wpAny_isTrue_Compare1 ?_
    | refine wpAny_isTrue_Not ?_
    | refine PyProof.Rows.isTrue_and ?_
    | refine PyProof.Rows.isTrue_or ?_
    | refine PyProof.Rows.isTrue_and_nil ?_
    | refine PyProof.Rows.isTrue_or_nil ?_
    | ((show wpAny _ _ (isTrue (Expr.Call _ _ _ _) _ _) _ _ _); refine x_isTrue ?_)
    | ((show wpAny _ _ (isTrue (Expr.Name _ _) _ _) _ _ _); refine x_isTrue ?_))
  | refine wpAny_truthy_bool ?_
  | refine if_t ?_
  | refine if_f ?_
  | refine if_nt ?_
  | refine if_nf ?_
  | ((show wpAny _ _ (storeName _ _ _) _ _ _); first
    | (refine st_loc (by assumption) ?_; intro _ _)
    | (refine st_cell (by assumption) ?_; intro _ _))
  | ((show wpAny _ _ (callWith _ _ _ _ _) _ _ _); first
    | refine x_builtin ?_
    | refine x_type ?_
    | refine x_fn (by assumption) (by with_unfolding_all k_is) ?_)
  | ((show Frag.In _ _ ∧ _); refine ⟨St.X (by assumption) (by assumption), ?_⟩)
  | ((show wpAny _ _ (spliced _) _ _ _); first
    | refine spliced_none ?_
    | refine x_arg ?_)
  | ((show wpAny _ _ (binaryOp _ (Value.int _ _) (Value.int _ _)) _ _ _); first
    | refine PyProof.Rows.add_int ?_
    | refine PyProof.Rows.sub_int ?_
    | (refine mul_lit (by with_unfolding_all decide) ?_)
    | (refine mod_pos (by first | decide | assumption) ?_)
    | (refine div_pos (by first | decide | assumption) (by first | decide | omega) ?_))
  | ((show wpAny _ _ (compareOp _ (Value.int _ _) (Value.int _ _)) _ _ _); first
    | refine ge_int ?_
    | refine PyProof.Rows.gt_int ?_
    | refine PyProof.Rows.lt_int ?_
    | refine PyProof.Rows.le_int ?_
    | refine PyProof.Rows.eq_int ?_
    | refine PyProof.Rows.ne_int ?_)
  | ((show wpAny _ _ (unaryOp _ (Value.int _ _)) _ _ _); refine PyProof.Rows.neg_int ?_)
  | ((show wpAny _ _ (inplaceOp _ (Value.int _ _) (Value.int _ _)) _ _ _); first
    | refine PyProof.Rows.iadd_int ?_
    | refine PyProof.Rows.isub_int ?_)
  | refine call_int_int ?_
  | ((show wpAny _ _ (subscriptTail _ _ _ _) _ _ _);
     (refine sub_mu (by assumption) (by walk_at "mem") (by assumption) (by decide) (by decide) (by with_unfolding_all rfl) ?_))
  | ((show wpAny _ _ (call (Value.builtin "len") _) _ _ _);
     (refine len_mu (by assumption) (by walk_at "mem") (by assumption) (by omega) ?_)))
local macro_rules | `(tactic| walk_at "mem") => `(tactic| with_unfolding_all first | exact List.Mem.head _ | exact List.Mem.tail _ (List.Mem.head _) | exact List.Mem.tail _ (List.Mem.tail _ (List.Mem.head _)) | exact List.Mem.tail _ (List.Mem.tail _ (List.Mem.tail _ (List.Mem.head _))))
local macro_rules | `(tactic| walk_at "M") => `(tactic| repeat (walk_at "M1"))
local macro_rules | `(tactic| walk_at "ok") => `(tactic| (
  refine ⟨?a1, ?a2, ?a3, ?a4, ?a5, ?a6, ?a7, ?a8, ?a9, ?a10⟩
  (case a1 => with_unfolding_all rfl)
  (case a2 => (repeat (first | exact trivial | refine ⟨by with_unfolding_all rfl, ?_⟩)))
  (case a3 => rfl)
  (case a4 => decide)
  (case a5 => rfl)
  (case a6 => decide)
  (case a7 => decide)
  (case a8 => with_unfolding_all rfl)
  (case a9 => first | decide | (intro _; rfl))
  (case a10 => decide)))
local macro_rules | `(tactic| walk_at "okz") => `(tactic| (
  refine ⟨?a1, ?a2, ?a3, ?a4, ?a5, ?a6, ?a7, ?a8, ?a9⟩
  (case a1 => with_unfolding_all rfl)
  (case a2 => (repeat (first | exact trivial | refine ⟨by with_unfolding_all rfl, ?_⟩)))
  (case a3 => rfl)
  (case a4 => decide)
  (case a5 => rfl)
  (case a6 => decide)
  (case a7 => decide)
  (case a8 => with_unfolding_all rfl)
  (case a9 => with_unfolding_all rfl)))
namespace Mine
section
variable {prog : Program} {w : World} {p : Program} {loose : List Str} {mean : ExcName → Option Value} {mg mb : Str → Option Value} {b : Heap}
variable {S : List Addr} {g0 : FM} {h0 : Heap} {env : Env} {g : FM} {m mc : Str → Option Value} {mu : List (Addr × Obj)}
variable {A : Around} {s : Shared} {E : Value → Shared → Prop} {R : Result → Shared → Prop}

set_option maxHeartbeats 400000 in
theorem ring_init (W : Wd (Mine.hd.heap_39 w.params) p loose mean mg mb b) (hB : Bg b g s.heap) (hA : Ao 1 A)
    {x dx : Addr} {q n : Int} {tq tn : Tok} (hx : g x = some (instObj 59 dx)) (hd : s.heap.get? dx = some (dictOf [] 0)) (gd : g dx = none)
    (ret : ∀ h1 t1 u1 h2 t2 u2 nn h' tk, Ev [dx] g s.heap g h' → h'.get? dx = some (dictOf [⟨h1, .str "q" t1, .int q u1⟩, ⟨h2, .str "n" t2, .int n u2⟩] nn) → R (.ok (.ret .none)) { s with heap := h', toks := tk }) :
    codeAny (model prog w) A (.call (.ref 35) ⟨[.ref x, .int q tq, .int n tn], []⟩) R s := by
  refine enter (mu := [(dx, dictOf [] 0)]) (binds := [("self", .ref x), ("q", .int q tq), ("n", .int n tn)]) (m := up "n" (.int n tn) (up "q" (.int q tq) (up "self" (.ref x) no))) (mc := no)
    W hB hA (by k_is) (by k_is) (BindsTo.of_eq rfl) rfl (by decide) (fun q hq => by rw [List.mem_singleton.mp hq]; exact ⟨hd, gd⟩) (by simp) (fun _ => rfl) (fun _ => rfl) ?_
  intro L h₁ tk E' hA' H
  walk_at "M"
  refine sa_own W H (H.on _ _ hx) (by k_is) (by k_is) (by k_is) (by k_is) (by rfl) (by rfl) (Nat.le_of_ble_eq_true rfl) ?_
  intro h2 H2
  walk_at "M"
  refine sa_own W H2 (H2.on _ _ hx) (by k_is) (by k_is) (by k_is) (by k_is) (by rfl) (by rfl) (Nat.le_of_ble_eq_true rfl) ?_
  intro h3 H3
  walk_at "M"
  exact ret _ _ _ _ _ _ _ _ _ H3.ev (H3.mus _ (.head _))

theorem ring_make (W : Wd (Mine.hd.heap_39 w.params) p loose mean mg mb b) (hB : Bg b g s.heap) (hA : Ao 2 A)
    {q n : Int} {tq tn : Tok} {Q : Value → Shared → Prop}
    (ret : ∀ x g' h' tk, Ev [] g s.heap g' h' → Ring 59 g' x q n → Q (.ref x) { s with heap := h', toks := tk }) :
    wpAny (model prog w) A (call (.ref 59) [.int q tq, .int n tn]) Q E s := by
  refine mk_inst (kw := []) (W.X.keeps fun a o e => hB.on _ _ (hB.bg a o e)) hB.on (by k_is) (by k_is) (by k_is) ?_
  intro x dx h1 fx fd ne hx hd k1 sz
  refine ring_init W (hB.put fx hx k1 sz) hA.make (FM.put_self ..) hd ?_ ?_
  · unfold FM.put
    rw [if_neg ne.symm]
    cases q : g dx with
    | none => rfl
    | some o' => have := hB.on _ _ q; rw [fd] at this; cases this
  · intro a1 t1 u1 a2 t2 u2 nn h' tk ev hd'
    obtain ⟨ev', le⟩ := ev.made hB.on fx fd ne k1 hd hd'
    exact ⟨rfl, ret _ _ _ _ ev' ⟨a1, t1, u1, a2, t2, u2, dx, nn, le _ _ (ev.gg _ _ (FM.put_self ..)), FM.put_self ..⟩⟩
end
end Mine
namespace Mine
section
variable {prog : Program} {w : World} {p : Program} {loose : List Str} {mean : ExcName → Option Value} {mg mb : Str → Option Value} {b : Heap}
variable {S : List Addr} {g0 : FM} {h0 : Heap} {env : Env} {g : FM} {m mc : Str → Option Value} {mu : List (Addr × Obj)}
variable {A : Around} {s : Shared} {E : Value → Shared → Prop} {R : Result → Shared → Prop}

theorem ga_q {x : Addr} {q n : Int} {expr : Bool} {Q : Value → Shared → Prop} (W : Wd (Mine.hd.heap_39 w.params) p loose mean mg mb b) (H : St b S g0 h0 env g m mc mu s.heap) (I : Ring 59 g x q n)
    (h : ∀ t, Q (.int q t) { s with toks := s.toks + 1 }) : wpAny (model prog w) A (getAttr (.ref x) "q" expr) Q E s := by
  obtain ⟨h1, t1, u1, h2, t2, u2, i⟩ := I
  refine ga_own (attr := none) (H.X W) (i.mono H.on) ?a ?b ?c ?d rfl rfl (h _)
  case a => k_is
  case b => k_is
  case c => k_is
  case d => k_is
theorem ga_n {x : Addr} {q n : Int} {expr : Bool} {Q : Value → Shared → Prop} (W : Wd (Mine.hd.heap_39 w.params) p loose mean mg mb b) (H : St b S g0 h0 env g m mc mu s.heap) (I : Ring 59 g x q n)
    (h : ∀ t, Q (.int n t) { s with toks := s.toks + 1 }) : wpAny (model prog w) A (getAttr (.ref x) "n" expr) Q E s := by
  obtain ⟨h1, t1, u1, h2, t2, u2, i⟩ := I
  refine ga_own (attr := none) (H.X W) (i.mono H.on) ?a ?b ?c ?d rfl rfl (h _)
  case a => k_is
  case b => k_is
  case c => k_is
  case d => k_is
theorem ga_parent {x r : Addr} {cs : List Int} {expr : Bool} {Q : Value → Shared → Prop} (W : Wd (Mine.hd.heap_39 w.params) p loose mean mg mb b) (H : St b S g0 h0 env g m mc mu s.heap) (I : Poly 222 g x r cs)
    (h : Q (.ref r) { s with toks := s.toks + 1 }) : wpAny (model prog w) A (getAttr (.ref x) "parent" expr) Q E s := by
  obtain ⟨h1, t1, h2, t2, l, i, j⟩ := I
  refine ga_own (attr := none) (H.X W) (i.mono H.on) ?a ?b ?c ?d rfl rfl h
  case a => k_is
  case b => k_is
  case c => k_is
  case d => k_is
theorem ga_coeffs {x r : Addr} {cs : List Int} {expr : Bool} {Q : Value → Shared → Prop} (W : Wd (Mine.hd.heap_39 w.params) p loose mean mg mb b) (H : St b S g0 h0 env g m mc mu s.heap) (I : Poly 222 g x r cs)
    (h : ∀ l, IntL g l cs → Q (.ref l) { s with toks := s.toks + 1 }) : wpAny (model prog w) A (getAttr (.ref x) "coeffs" expr) Q E s := by
  obtain ⟨h1, t1, h2, t2, l, i, j⟩ := I
  refine ga_own (attr := none) (H.X W) (i.mono H.on) ?a ?b ?c ?d rfl rfl (h l j)
  case a => k_is
  case b => k_is
  case c => k_is
  case d => k_is

theorem add_mod_q (W : Wd (Mine.hd.heap_39 w.params) p loose mean mg mb b) (hB : Bg b g s.heap) (hA : Ao 2 A)
    {self r : Addr} {cs : List Int} {q n x y : Int} {tx ty : Tok} (hp : Poly 222 g self r cs) (hr : Ring 59 g r q n) (hq : q ≠ 0)
    (ret : ∀ t g' h' tk, Ev [] g s.heap g' h' → R (.ok (.ret (.int ((x + y).fmod q) t))) { s with heap := h', toks := tk }) :
    codeAny (model prog w) A (.call (.ref 110) ⟨[.ref self, .int x tx, .int y ty], []⟩) R s := by
  refine enter (mu := []) (binds := [("self", .ref self), ("x", .int x tx), ("y", .int y ty)]) (m := up "y" (.int y ty) (up "x" (.int x tx) (up "self" (.ref self) no))) (mc := no)
    W hB hA (by k_is) (by k_is) (BindsTo.of_eq rfl) rfl (by decide) (fun _ q => nomatch q) .nil (fun _ => rfl) (fun _ => rfl) ?_
  intro L h₁ tk E' hA' H
  refine wpAny_execs_cons (wpAny_Return_some (wpAny_BinOp (wpAny_BinOp ?_)))
  refine ev_loc H rfl ?_
  refine ev_loc H rfl ?_
  refine PyProof.Rows.add_int ?_
  refine Attribute_any_ (Attribute_any_ ?_)
  refine ev_loc H rfl ?_
  refine ga_parent W H hp ?_
  refine ga_q W H hr ?_
  intro t1
  refine PyProof.Rows.mod_int' hq ?_
  exact ret _ _ _ _ H.ev
end
end Mine
namespace Mine
section
variable {prog : Program} {w : World} {p : Program} {loose : List Str} {mean : ExcName → Option Value} {mg mb : Str → Option Value} {b : Heap}
variable {S : List Addr} {g0 : FM} {h0 : Heap} {env : Env} {g : FM} {m mc : Str → Option Value} {mu : List (Addr × Obj)}
variable {A : Around} {s : Shared} {E : Value → Shared → Prop} {R : Result → Shared → Prop}

theorem ga_parent0 {x dx r : Addr} {h1 : Int} {t1 : Tok} {nn : Nat} {expr : Bool} {Q : Value → Shared → Prop} (W : Wd (Mine.hd.heap_39 w.params) p loose mean mg mb b) (H : St b S g0 h0 env g m mc mu s.heap) (hx : g x = some (instObj 222 dx)) (hm : (dx, dictOf [⟨h1, .str "parent" t1, .ref r⟩] nn) ∈ mu)
    (h : Q (.ref r) { s with toks := s.toks + 1 }) : wpAny (model prog w) A (getAttr (.ref x) "parent" expr) Q E s := by
  refine ga_own (attr := none) (H.X W) ⟨dx, nn, H.on _ _ hx, H.mus _ hm⟩ ?a ?b ?c ?d rfl rfl h
  case a => k_is
  case b => k_is
  case c => k_is
  case d => k_is

set_option maxHeartbeats 400000 in
theorem parse_spec (W : Wd (Mine.hd.heap_39 w.params) p loose mean mg mb b) (hB : Bg b g s.heap) (hA : Ao 2 A)
    {x dx r l : Addr} {cs : List Int} {q : Int} {n : Nat} {h1 : Int} {t1 : Tok} {nn : Nat} (hx : g x = some (instObj 222 dx)) (hd : s.heap.get? dx = some (dictOf [⟨h1, .str "parent" t1, .ref r⟩] nn)) (gd : g dx = none)
    (hr : Ring 59 g r q n) (hl : IntL g l cs) (hn : n ≤ 1000) (hc : cs.length ≤ n)
    (ret : ∀ l' g' h' tk, Ev [dx] g s.heap g' h' → h'.get? dx = some (dictOf [⟨h1, .str "parent" t1, .ref r⟩] nn) → IntL g' l' (cs ++ List.replicate (n - cs.length) 0) → R (.ok (.ret (.ref l'))) { s with heap := h', toks := tk }) :
    codeAny (model prog w) A (.call (.ref 96) ⟨[.ref x, .ref l], []⟩) R s := by
  refine enter (mu := [(dx, dictOf [⟨h1, .str "parent" t1, .ref r⟩] nn)]) (binds := [("self", .ref x), ("coefficients", .ref l)]) (m := up "coefficients" (.ref l) (up "self" (.ref x) no)) (mc := no)
    W hB hA (by k_is) (by k_is) (BindsTo.of_eq rfl) rfl (by decide) (fun q hq => by rw [List.mem_singleton.mp hq]; exact ⟨hd, gd⟩) (by simp) (fun _ => rfl) (fun _ => rfl) ?_
  intro L h₁ tk E' hA' H
  walk_at "M"
  refine len_il H hl (by omega) ?_
  walk_at "M"
  rename St _ _ _ _ _ _ _ _ _ _ => H1
  refine ga_parent0 W H1 hx (.head _) ?_
  refine ga_n W H1 hr ?_
  intro t2
  walk_at "M"
  split
  · rename_i hh
    have := of_decide_eq_true hh
    omega
  · walk_at "M"
    refine ga_parent0 W H1 hx (.head _) ?_
    refine ga_n W H1 hr ?_
    intro t3
    walk_at "M"
    split
    · rename_i hlt
      have hlt := of_decide_eq_true hlt
      walk_at "M"
      refine ev_lc (cl := []) (cn := []) (xc := false) (by walk_at "ok") fun ok => ?_
      walk_at "M"
      refine ga_parent0 W H1 hx (.head _) ?_
      refine ga_n W H1 hr ?_
      intro t4
      walk_at "M"
      refine call_range1 H1 ?_
      intro h2 tk2 rr t5 u5 v5 hrr H2
      refine lc_run ok H2 (Src.range hA'.hh hrr (small_one (by decide) (by decide) (by omega) (by omega)) (by omega)) (by rw [sizeLine_eq]; omega) (fun i g₁ mu₁ ys => mu₁ = [(dx, dictOf [⟨h1, .str "parent" t1, .ref r⟩] nn)] ∧ IntsAre ys (List.replicate i 0)) ⟨rfl, .nil⟩ ?_ ?_
      · rintro i v C D oD I oI g₁ mu₁ ys h₁ tk E' hi hP le ha ⟨rfl, hns⟩ hl H3
        walk_at "M"
        exact EltEnd.mk (.refl _) H3 rfl ⟨rfl, by rw [List.replicate_succ']; exact hns.append (.cons _ _ .nil)⟩
      · rintro g₁ mu₁ ys D oD h₁ tk le ha ⟨rfl, hns⟩ hl2 isl fD H3
        obtain ⟨vs, hvl, hvi⟩ := ((hl.mono le).mono H3.on).list (.refl _)
        have e1 := hvi.length
        refine add_lists H3 hvl (isl.at_ (H3.mus _ (.head _))) (by rw [sizeLine_eq]; omega) ?_
        intro a h3 fa _ H4
        walk_at "M"
        rename St _ _ _ _ _ _ _ _ _ _ => H5
        obtain ⟨H6, le6⟩ := H5.freeze fa
        have hk : (((n : Int) - (cs.length : Int)) - 0).toNat = n - cs.length := by omega
        rw [hk] at hns
        exact ret _ _ _ _ H6.ev (H6.mus _ (.tail _ (.head _))) (IntL.mk (FM.put_self ..) (IsL.lst _) (hvi.append hns))
    · rename_i hlt
      have hlt : ¬ ((cs.length : Int) < n) := fun z => hlt (decide_eq_true z)
      walk_at "M"
      rw [show n - cs.length = 0 by omega] at ret
      exact ret _ _ _ _ H1.ev (H1.mus _ (.head _)) (by simpa using hl)
end
end Mine
namespace Mine
section
variable {prog : Program} {w : World} {p : Program} {loose : List Str} {mean : ExcName → Option Value} {mg mb : Str → Option Value} {b : Heap}
variable {S : List Addr} {g0 : FM} {h0 : Heap} {env : Env} {g : FM} {m mc : Str → Option Value} {mu : List (Addr × Obj)}
variable {A : Around} {s : Shared} {E : Value → Shared → Prop} {R : Result → Shared → Prop}

set_option maxHeartbeats 400000 in
theorem poly_init (W : Wd (Mine.hd.heap_39 w.params) p loose mean mg mb b) (hB : Bg b g s.heap) (hA : Ao 3 A)
    {x dx r l : Addr} {cs : List Int} {q : Int} {n : Nat} (hx : g x = some (instObj 222 dx)) (hd : s.heap.get? dx = some (dictOf [] 0)) (gd : g dx = none)
    (hr : Ring 59 g r q n) (hl : IntL g l cs) (hn : n ≤ 1000) (hc : cs.length ≤ n)
    (ret : ∀ l' h1 t1 h2 t2 nn g' h' tk, Ev [dx] g s.heap g' h' → h'.get? dx = some (dictOf [⟨h1, .str "parent" t1, .ref r⟩, ⟨h2, .str "coeffs" t2, .ref l'⟩] nn) → IntL g' l' (cs ++ List.replicate (n - cs.length) 0) → R (.ok (.ret .none)) { s with heap := h', toks := tk }) :
    codeAny (model prog w) A (.call (.ref 77) ⟨[.ref x, .ref r, .ref l], []⟩) R s := by
  refine enter (mu := [(dx, dictOf [] 0)]) (binds := [("self", .ref x), ("parent", .ref r), ("coefficients", .ref l)]) (m := up "coefficients" (.ref l) (up "parent" (.ref r) (up "self" (.ref x) no))) (mc := no)
    W hB hA (by k_is) (by k_is) (BindsTo.of_eq rfl) rfl (by decide) (fun q hq => by rw [List.mem_singleton.mp hq]; exact ⟨hd, gd⟩) (by simp) (fun _ => rfl) (fun _ => rfl) ?_
  intro L h₁ tk E' hA' H
  walk_at "M"
  refine sa_own W H (H.on _ _ hx) (by k_is) (by k_is) (by k_is) (by k_is) (by rfl) (by rfl) (Nat.le_of_ble_eq_true rfl) ?_
  intro h2 H2
  walk_at "M"
  refine gm_fn (f := 96) (H2.X W) ⟨dx, _, H2.on _ _ hx, H2.mus _ (.head _)⟩ (by k_is) (by k_is) (by k_is) rfl ?_
  walk_at "M"
  refine wpAny_call (parse_spec W H2.Bg (hA'.le (by decide)) hx (H2.mus _ (.head _)) (H2.own _ (owns_mu (.head _))).1 hr hl hn hc ?_)
  intro l' g' h' tk' ev hd' hl'
  have H3 := H2.callMu (pre := []) (mu' := [(dx, _)]) ev rfl (fun q hq => by rw [List.mem_singleton.mp hq]; exact hd')
  walk_at "M"
  refine sa_own W H3 (H3.on _ _ (ev.gg _ _ hx)) (by k_is) (by k_is) (by k_is) (by k_is) (by rfl) (by rfl) (Nat.le_of_ble_eq_true rfl) ?_
  intro h4 H4
  walk_at "M"
  exact ret _ _ _ _ _ _ _ _ _ H4.ev (H4.mus _ (.head _)) hl'

theorem poly_make (W : Wd (Mine.hd.heap_39 w.params) p loose mean mg mb b) (hB : Bg b g s.heap) (hA : Ao 4 A)
    {r l : Addr} {cs : List Int} {q : Int} {n : Nat} {Q : Value → Shared → Prop} (hr : Ring 59 g r q n) (hl : IntL g l cs) (hn : n ≤ 1000) (hc : cs.length ≤ n)
    (ret : ∀ x g' h' tk, Ev [] g s.heap g' h' → Poly 222 g' x r (cs ++ List.replicate (n - cs.length) 0) → Q (.ref x) { s with heap := h', toks := tk }) :
    wpAny (model prog w) A (call (.ref 222) [.ref r, .ref l]) Q E s := by
  refine mk_inst (kw := []) (W.X.keeps fun a o e => hB.on _ _ (hB.bg a o e)) hB.on (by k_is) (by k_is) (by k_is) ?_
  intro x dx h1 fx fd ne hx hd k1 sz
  have gx : g x = none := by
    cases q : g x with
    | none => rfl
    | some o' => have := hB.on _ _ q; rw [fx] at this; cases this
  have le0 := FM.put_le (o := instObj 222 dx) gx
  refine poly_init W (hB.put fx hx k1 sz) hA.make (FM.put_self ..) hd ?_ (hr.mono le0) (hl.mono le0) hn hc ?_
  · unfold FM.put
    rw [if_neg ne.symm]
    cases q : g dx with
    | none => rfl
    | some o' => have := hB.on _ _ q; rw [fd] at this; cases this
  · intro l' a1 t1 a2 t2 nn g' h' tk ev hd' hl'
    obtain ⟨ev', le⟩ := ev.made hB.on fx fd ne k1 hd hd'
    exact ⟨rfl, ret _ _ _ _ ev' ⟨a1, t1, a2, t2, l', ⟨dx, nn, le _ _ (ev.gg _ _ (FM.put_self ..)), FM.put_self ..⟩, hl'.mono le⟩⟩

theorem ring_call (W : Wd (Mine.hd.heap_39 w.params) p loose mean mg mb b) (hB : Bg b g s.heap) (hA : Ao 5 A)
    {r l : Addr} {cs : List Int} {q : Int} {n : Nat} (hr : Ring 59 g r q n) (hl : IntL g l cs) (hn : n ≤ 1000) (hc : cs.length ≤ n)
    (ret : ∀ x g' h' tk, Ev [] g s.heap g' h' → Poly 222 g' x r (cs ++ List.replicate (n - cs.length) 0) → R (.ok (.ret (.ref x))) { s with heap := h', toks := tk }) :
    codeAny (model prog w) A (.call (.ref 56) ⟨[.ref r, .ref l], []⟩) R s := by
  refine enter (mu := []) (binds := [("self", .ref r), ("coefficients", .ref l)]) (m := up "coefficients" (.ref l) (up "self" (.ref r) no)) (mc := no)
    W hB hA (by k_is) (by k_is) (BindsTo.of_eq rfl) rfl (by decide) (fun _ q => nomatch q) .nil (fun _ => rfl) (fun _ => rfl) ?_
  intro L h₁ tk E' hA' H
  obtain ⟨vs, o, k, go, oc, od, hi⟩ := hl
  walk_at "M"
  refine isi_list (H.X W) (H.on _ _ go) oc (r := false) (by kit_is) ?_
  intro tk2
  walk_at "M"
  refine isi_list (H.X W) (H.on _ _ go) oc (r := true) (by kit_is) ?_
  intro tk3
  walk_at "M"
  refine poly_make W H.Bg hA' hr ⟨vs, o, k, go, oc, od, hi⟩ hn hc ?_
  intro x g' h' tk' ev hp
  have H2 := H.call0 ev
  walk_at "M"
  exact ret _ _ _ _ H2.ev hp

theorem ring_callI (W : Wd (Mine.hd.heap_39 w.params) p loose mean mg mb b) (hB : Bg b g s.heap) (hA : Ao 5 A)
    {r : Addr} {c : Int} {tc : Tok} {q : Int} {n : Nat} (hr : Ring 59 g r q n) (hn : n ≤ 1000) (hc : 1 ≤ n)
    (ret : ∀ x g' h' tk, Ev [] g s.heap g' h' → Poly 222 g' x r ([c] ++ List.replicate (n - 1) 0) → R (.ok (.ret (.ref x))) { s with heap := h', toks := tk }) :
    codeAny (model prog w) A (.call (.ref 56) ⟨[.ref r, .int c tc], []⟩) R s := by
  refine enter (mu := []) (binds := [("self", .ref r), ("coefficients", .int c tc)]) (m := up "coefficients" (.int c tc) (up "self" (.ref r) no)) (mc := no)
    W hB hA (by k_is) (by k_is) (BindsTo.of_eq rfl) rfl (by decide) (fun _ q => nomatch q) .nil (fun _ => rfl) (fun _ => rfl) ?_
  intro L h₁ tk E' hA' H
  walk_at "M"
  refine isi_int (H.X W) (r := true) (by kit_is) ?_
  intro tk2
  walk_at "M"
  refine ⟨sz1 rfl, fun a h2 ea eh => ?_⟩
  obtain ⟨fa, H2⟩ := H.mkL ea eh
  obtain ⟨H3, le⟩ := H2.freeze fa
  walk_at "M"
  refine poly_make W H3.Bg hA' (hr.mono le) (IntL.mk (FM.put_self ..) (IsL.lst _) (.cons _ _ .nil)) hn hc ?_
  intro x g' h' tk' ev hp
  have H4 := H3.call0 ev
  walk_at "M"
  exact ret _ _ _ _ H4.ev hp
end
end Mine
namespace Mine
section
variable {prog : Program} {w : World} {p : Program} {loose : List Str} {mean : ExcName → Option Value} {mg mb : Str → Option Value} {b : Heap}
variable {S : List Addr} {g0 : FM} {h0 : Heap} {env : Env} {g : FM} {m mc : Str → Option Value} {mu : List (Addr × Obj)}
variable {A : Around} {s : Shared} {E : Value → Shared → Prop} {R : Result → Shared → Prop}

set_option maxHeartbeats 1000000 in
theorem school_spec (W : Wd (Mine.hd.heap_39 w.params) p loose mean mg mb b) (hB : Bg b g s.heap) (hA : Ao 2 A)
    {self other r r' : Addr} {q : Int} {n : Nat} {a c : Nat → Int} (hp : Poly 222 g self r (lf n a)) (ho : Poly 222 g other r' (lf n c)) (hr : Ring 59 g r q n) (hq : 0 < q) (hn : n ≤ 1000) (hn1 : 1 ≤ n) (hm : ∀ i j, i < n → j < n → IntMulOk (a i) (c j))
    (ret : ∀ l g' h' tk, Ev [] g s.heap g' h' → IntL g' l (lf n fun k => nc n a c k % q) → R (.ok (.ret (.ref l))) { s with heap := h', toks := tk }) :
    codeAny (model prog w) A (.call (.ref 122) ⟨[.ref self, .ref other], []⟩) R s := by
  refine enter (mu := []) (binds := [("self", .ref self), ("other", .ref other)]) (m := up "other" (.ref other) no) (mc := up "self" (.ref self) no)
    W hB hA (by k_is) (by k_is) (BindsTo.of_eq rfl) rfl (by decide) (fun _ q => nomatch q) .nil (fun _ => rfl) (fun _ => rfl) ?_
  intro L h₁ tk E' hA' H
  walk_at "M"
  refine ga_parent W H hp ?_
  refine ga_n W H hr ?_
  intro t1
  walk_at "M"
  rename St _ _ _ _ _ _ _ _ _ _ => H2
  refine ga_coeffs W H2 hp ?_
  intro la hla
  walk_at "M"
  rename St _ _ _ _ _ _ _ _ _ _ => H3
  refine ga_coeffs W H3 ho ?_
  intro lb hlb
  walk_at "M"
  refine as_lc (cl := []) (cn := []) (xc := false) (by walk_at "ok") fun ok => ?_
  walk_at "M"
  rename St _ _ _ _ _ _ _ _ _ _ => H4
  refine call_range1 H4 ?_
  intro h5 tk5 rr t5 u5 v5 hrr H5
  refine lc_runA ok H5 (Src.range hA'.hh hrr (rng (by omega)) (nat0 _)) (by rw [sizeLine_eq]; omega) (fun i g₁ mu₁ ys => mu₁ = [] ∧ IntsAre ys (lf i fun _ => 0)) ⟨rfl, .nil⟩ ?_ ?_
  · rintro i v C D oD I oI g₁ mu₁ ys h₁ tk E' hi hP le ha ⟨rfl, hns⟩ hl H3
    walk_at "M"
    exact EltEnd.mk (.refl _) H3 rfl ⟨rfl, ints_push hns rfl⟩
  rintro g₁ mu₁ ys D oD h6 tk6 le ha ⟨rfl, hns⟩ hl2 isl fD H6
  rw [to_nat0] at hns
  replace hla := hla.mono le
  replace hlb := hlb.mono le
  replace hr := hr.mono le
  replace hp := hp.mono le
  dsimp only
  walk_at "M"
  refine call_range1 H6 ?_
  intro h7 tk7 rr7 t7 u7 v7 hrr7 H7
  refine loop_for H7 (Src.range hA'.hh hrr7 (rng (by omega)) (nat0 _)) (fun i g₁ m₁ mc₁ mu₁ => mc₁ = up "self" (.ref self) no ∧ m₁ "n" = some (.int n t1) ∧ m₁ "a" = some (.ref la) ∧ m₁ "b" = some (.ref lb) ∧ m₁ "new_coeffs" = some (.ref D) ∧ ∃ oD ys, mu₁ = [(D, oD)] ∧ IsL oD ys ∧ IntsAre ys (lf n fun k => sA n a c i k))
    ⟨rfl, by with_unfolding_all rfl, by with_unfolding_all rfl, by with_unfolding_all rfl, by with_unfolding_all rfl, oD, ys, rfl, isl, hns⟩ ?_ ?_
  · rintro i v I oI g₁ m₁ mc₁ mu₁ h₁ tk E' hi hP le1 ⟨rfl, e1, e2, e3, e4, oD, ys, rfl, isl, hns⟩ H8
    obtain ⟨ti, e⟩ := hP
    rw [Int.zero_add] at e
    subst e
    replace hla := hla.mono le1
    replace hlb := hlb.mono le1
    walk_at "M"
    refine call_range2 H8 ?_
    intro h9 tk9 rr9 t9 u9 v9 hrr9 H9
    refine loop_for H9 (Src.range hA'.hh hrr9 (rng2 (by omega) (by omega) (by omega) (by omega)) (by omega)) (fun j g₁ m₁ mc₁ mu₁ => mc₁ = up "self" (.ref self) no ∧ m₁ "n" = some (.int n t1) ∧ m₁ "a" = some (.ref la) ∧ m₁ "b" = some (.ref lb) ∧ m₁ "new_coeffs" = some (.ref D) ∧ m₁ "i" = some (.int i ti) ∧ ∃ oD ys, mu₁ = [(I, oI), (D, oD)] ∧ IsL oD ys ∧ IntsAre ys (lf n fun k => sA n a c i k + sm j fun j' => if i + j' = k then a i * c j' else 0))
      ⟨rfl, by with_unfolding_all assumption, by with_unfolding_all assumption, by with_unfolding_all assumption, by with_unfolding_all assumption, by with_unfolding_all rfl, oD, ys, rfl, isl, ints_ext hns fun k _ => (Int.add_zero _).symm⟩ ?_ ?_
    · rintro j v I2 oI2 g₂ m₂ mc₂ mu₂ h₂ tk₂ E2 hj hP2 le2 ⟨rfl, f1, f2, f3, f4, f5, oD, ys, rfl, isl, hns⟩ H10
      obtain ⟨tj, e⟩ := hP2
      rw [Int.zero_add] at e
      subst e
      replace hla := hla.mono le2
      replace hlb := hlb.mono le2
      have hin : (i : Int) < n := by omega
      have hjn : i + j < n := by omega
      walk_at "M"
      refine row_get (i := i + j) H10 (by walk_at "mem") isl hns (by omega) hjn hn ?_
      intro u1
      walk_at "M"
      refine row_il (i := i) H10 hla rfl (by omega) hn ?_
      intro u2
      walk_at "M"
      refine row_il (i := j) H10 hlb rfl (by omega) hn ?_
      intro u3
      walk_at "M"
      refine imul_ok (hm i j (by omega) (by omega)) ?_
      walk_at "M"
      refine row_set (i := i + j) (pre := [(I2, oI2), (I, oI)]) (post := []) H10 isl hns (by omega) hjn hn ?_
      intro h11 o11 ys11 isl11 hns11 H11
      walk_at "M"
      refine LoopEnd.mk (.refl _) H11 ⟨rfl, by with_unfolding_all assumption, by with_unfolding_all assumption, by with_unfolding_all assumption, by with_unfolding_all assumption, by with_unfolding_all assumption, o11, ys11, rfl, isl11, hns11 _ fun k hk => ?_⟩
      rw [sm_succ]
      by_cases z : i + j = k
      · subst z; rw [if_pos rfl, if_pos rfl]; omega
      · rw [if_neg z, if_neg z]; omega
    · rintro g₂ m₂ mc₂ mu₂ h₂ tk₂ le2 ⟨rfl, f1, f2, f3, f4, f5, oD, ys, rfl, isl, hns⟩ H10
      walk_at "M"
      refine LoopEnd.mk le2 H10 ⟨rfl, f1, f2, f3, f4, oD, ys, rfl, isl, ints_ext hns fun k hk => ?_⟩
      unfold sA
      rw [sm_succ, show (((n : Int) - i) - 0).toNat = n - i by omega]
  rintro g₁ m₁ mc₁ mu₁ h8 tk8 le1 ⟨rfl, e1, e2, e3, e4, oD, ys, rfl, isl, hns⟩ H8
  rw [to_nat0] at hns
  replace hla := hla.mono le1
  replace hlb := hlb.mono le1
  replace hr := hr.mono le1
  replace hp := hp.mono le1
  walk_at "M"
  refine call_range2 H8 ?_
  intro h9 tk9 rr9 t9 u9 v9 hrr9 H9
  refine loop_for H9 (Src.range hA'.hh hrr9 (rng2 (by omega) (by omega) (by omega) (by omega)) (by omega)) (fun j g₁ m₁ mc₁ mu₁ => mc₁ = up "self" (.ref self) no ∧ m₁ "n" = some (.int n t1) ∧ m₁ "a" = some (.ref la) ∧ m₁ "b" = some (.ref lb) ∧ m₁ "new_coeffs" = some (.ref D) ∧ ∃ oD ys, mu₁ = [(D, oD)] ∧ IsL oD ys ∧ IntsAre ys (lf n fun k => sA n a c n k - sB n a c j k))
    ⟨rfl, e1, e2, e3, e4, oD, ys, rfl, isl, ints_ext hns fun k _ => (Int.sub_zero _).symm⟩ ?_ ?_
  · rintro j v I oI g₁ m₁ mc₁ mu₁ h₁ tk E' hj hP le1 ⟨rfl, e1, e2, e3, e4, oD, ys, rfl, isl, hns⟩ H8
    obtain ⟨tj, e⟩ := hP
    subst e
    replace hla := hla.mono le1
    replace hlb := hlb.mono le1
    walk_at "M"
    refine call_range2 H8 ?_
    intro h9 tk9 rr9 t9 u9 v9 hrr9 H9
    refine loop_for H9 (Src.range hA'.hh hrr9 (rng2 (by omega) (by omega) (by omega) (by omega)) (by omega)) (fun i g₁ m₁ mc₁ mu₁ => mc₁ = up "self" (.ref self) no ∧ m₁ "n" = some (.int n t1) ∧ m₁ "a" = some (.ref la) ∧ m₁ "b" = some (.ref lb) ∧ m₁ "new_coeffs" = some (.ref D) ∧ m₁ "j" = some (.int (1 + j) tj) ∧ ∃ oD ys, mu₁ = [(I, oI), (D, oD)] ∧ IsL oD ys ∧ IntsAre ys (lf n fun k => sA n a c n k - (sB n a c j k + sm i fun u => if u = k then a (n - (1 + j) + u) * c (1 + j) else 0)))
      ⟨rfl, by with_unfolding_all assumption, by with_unfolding_all assumption, by with_unfolding_all assumption, by with_unfolding_all assumption, by with_unfolding_all rfl, oD, ys, rfl, isl, ints_ext hns fun k _ => by show _ = _ - (_ + 0); rw [Int.add_zero]⟩ ?_ ?_
    · rintro u v I2 oI2 g₂ m₂ mc₂ mu₂ h₂ tk₂ E2 hu hP2 le2 ⟨rfl, f1, f2, f3, f4, f5, oD, ys, rfl, isl, hns⟩ H10
      obtain ⟨ti, e⟩ := hP2
      subst e
      replace hla := hla.mono le2
      replace hlb := hlb.mono le2
      have hun : u < n := by omega
      have hi2 : n - (1 + j) + u < n := by omega
      walk_at "M"
      refine row_get (i := u) H10 (by walk_at "mem") isl hns (by omega) hun hn ?_
      intro u1
      walk_at "M"
      refine row_il (i := n - (1 + j) + u) H10 hla (by omega) hi2 hn ?_
      intro u2
      walk_at "M"
      refine row_il (i := 1 + j) H10 hlb (by omega) (by omega) hn ?_
      intro u3
      walk_at "M"
      refine imul_ok (hm _ _ (by omega) (by omega)) ?_
      walk_at "M"
      refine row_set (i := u) (pre := [(I2, oI2), (I, oI)]) (post := []) H10 isl hns (by omega) hun hn ?_
      intro h11 o11 ys11 isl11 hns11 H11
      walk_at "M"
      refine LoopEnd.mk (.refl _) H11 ⟨rfl, by with_unfolding_all assumption, by with_unfolding_all assumption, by with_unfolding_all assumption, by with_unfolding_all assumption, by with_unfolding_all assumption, o11, ys11, rfl, isl11, hns11 _ fun k hk => ?_⟩
      rw [sm_succ]
      by_cases z : u = k
      · subst z; rw [if_pos rfl, if_pos rfl]; omega
      · rw [if_neg z, if_neg z]; omega
    · rintro g₂ m₂ mc₂ mu₂ h₂ tk₂ le2 ⟨rfl, f1, f2, f3, f4, f5, oD, ys, rfl, isl, hns⟩ H10
      walk_at "M"
      refine LoopEnd.mk le2 H10 ⟨rfl, f1, f2, f3, f4, oD, ys, rfl, isl, ints_ext hns fun k hk => ?_⟩
      unfold sB
      rw [sm_succ, show ((n : Int) - ((n : Int) - (1 + (j : Int)))).toNat = j + 1 by omega]
  rintro g₁ m₁ mc₁ mu₁ h10 tk10 le1 ⟨rfl, e1, e2, e3, e4, oD, ys, rfl, isl, hns⟩ H10
  replace hr := hr.mono le1
  replace hp := hp.mono le1
  obtain ⟨H11, le11⟩ := H10.freeze fD
  replace hr := hr.mono le11
  replace hp := hp.mono le11
  walk_at "M"
  refine ev_lc (cl := [("self", L + 1)]) (cn := ["self"]) (xc := false) (by walk_at "ok") fun ok => ?_
  walk_at "M"
  have hys := ints_len hns
  refine lc_run ok H11 (Src.list hA'.hh (FM.put_self ..) H11.on (isl.at_ (H11.on _ _ (FM.put_self ..)))) (by rw [sizeLine_eq]; omega) (fun i g₁ mu₁ zs => mu₁ = [] ∧ IntsAre zs (lf i fun k => nc n a c k % q)) ⟨rfl, .nil⟩ ?_ ?_
  · rintro i v C D2 oD2 I oI g₂ mu₁ zs h₁ tk E' hi hP le2 ha ⟨rfl, hzs⟩ hl H12
    obtain ⟨tv, hv⟩ := ints_at hns (show i < n by omega)
    rw [hv] at hP
    obtain rfl := Option.some.inj hP
    walk_at "M"
    refine ga_parent W H12 (hp.mono le2) ?_
    refine ga_q W H12 (hr.mono le2) ?_
    intro tq
    walk_at "M"
    refine EltEnd.mk (.refl _) H12 rfl ⟨rfl, ints_push hzs ?_⟩
    rw [← school_eq a c (show i < n by omega), show ((n : Int) - 1).toNat = n - 1 by omega]
  · rintro g₂ mu₁ zs D2 oD2 h₁ tk le2 ha ⟨rfl, hzs⟩ hl isl2 fD2 H12
    obtain ⟨H13, le13⟩ := H12.freeze fD2
    rw [hys] at hzs
    dsimp only
    exact ret _ _ _ _ H13.ev (IntL.mk (FM.put_self ..) isl2 hzs)
end
end Mine
namespace Mine
section
variable {prog : Program} {w : World} {p : Program} {loose : List Str} {mean : ExcName → Option Value} {mg mb : Str → Option Value} {b : Heap}
variable {S : List Addr} {g0 : FM} {h0 : Heap} {env : Env} {g : FM} {m mc : Str → Option Value} {mu : List (Addr × Obj)}
variable {A : Around} {s : Shared} {E : Value → Shared → Prop} {R : Result → Shared → Prop}

theorem sub_mod_q (W : Wd (Mine.hd.heap_39 w.params) p loose mean mg mb b) (hB : Bg b g s.heap) (hA : Ao 2 A)
    {self r : Addr} {cs : List Int} {q n x y : Int} {tx ty : Tok} (hp : Poly 222 g self r cs) (hr : Ring 59 g r q n) (hq : q ≠ 0)
    (ret : ∀ t g' h' tk, Ev [] g s.heap g' h' → R (.ok (.ret (.int ((x - y).fmod q) t))) { s with heap := h', toks := tk }) :
    codeAny (model prog w) A (.call (.ref 117) ⟨[.ref self, .int x tx, .int y ty], []⟩) R s := by
  refine enter (mu := []) (binds := [("self", .ref self), ("x", .int x tx), ("y", .int y ty)]) (m := up "y" (.int y ty) (up "x" (.int x tx) (up "self" (.ref self) no))) (mc := no)
    W hB hA (by k_is) (by k_is) (BindsTo.of_eq rfl) rfl (by decide) (fun _ q => nomatch q) .nil (fun _ => rfl) (fun _ => rfl) ?_
  intro L h₁ tk E' hA' H
  walk_at "M"
  refine ga_parent W H hp ?_
  refine ga_q W H hr ?_
  intro t1
  refine PyProof.Rows.mod_int' hq ?_
  exact ret _ _ _ _ H.ev

theorem Poly.inst {C x r : Addr} {cs : List Int} (hp : Poly C g x r cs) : ∃ es, Inst g x C es := let ⟨_, _, _, _, _, i, _⟩ := hp; ⟨_, i⟩
theorem Ring.at {C x : Addr} {q n : Int} (hr : Ring C g x q n) : ∃ d es k, At g x C d es k := let ⟨_, _, _, _, _, _, d, k, e1, e2⟩ := hr; ⟨d, _, k, e1, e2⟩

theorem gm_parent {x r : Addr} {cs : List Int} {pl : Sem Bool} {Q : Value × List Value → Shared → Prop} (W : Wd (Mine.hd.heap_39 w.params) p loose mean mg mb b) (H : St b S g0 h0 env g m mc mu s.heap) (I : Poly 222 g x r cs)
    (h : Q (.ref r, []) { s with toks := s.toks + 1 }) : wpAny (model prog w) A (getMethod (.ref x) "parent" pl) Q E s := by
  have I' := I
  obtain ⟨h1, t1, h2, t2, l, i, j⟩ := I
  obtain ⟨d, n, J⟩ := (i.mono H.on).at_
  have hg : plainGet (Mine.hd.heap_39 w.params) 222 "parent" = true := by k_is
  refine method_usual (r := none) (H.X W) J (plainGet_of hg).1 (plainGet_of hg).2 ?a rfl (ga_parent W H I' h)
  case a => k_is
/-- a method of the class, looked up -/
theorem gm_P {x r : Addr} {cs : List Int} {name : Str} {f : Addr} {pl : Sem Bool} {Q : Value × List Value → Shared → Prop} (W : Wd (Mine.hd.heap_39 w.params) p loose mean mg mb b) (H : St b S g0 h0 env g m mc mu s.heap) (I : Poly 222 g x r cs)
    (hg : plainGet (Mine.hd.heap_39 w.params) 222 name = true) (hf : findIn (Mine.hd.heap_39 w.params) (.ref 222) name = some (some (.ref f))) (ht : isFn (Mine.hd.heap_39 w.params) (.ref f) = true) (hn : ∀ (h1 : Int) (t1 : Tok) (r : Addr) (h2 : Int) (t2 : Tok) (l : Addr), getL name [⟨h1, .str "parent" t1, .ref r⟩, ⟨h2, .str "coeffs" t2, .ref l⟩] = some none)
    (h : Q (.ref f, [.ref x]) s) : wpAny (model prog w) A (getMethod (.ref x) name pl) Q E s := by
  obtain ⟨h1, t1, h2, t2, l, i, j⟩ := I
  exact gm_fn (f := f) (H.X W) (i.mono H.on) hg hf ht (hn _ _ _ _ _ _) h

/-- the ring called with a list -/
theorem rcall {r l : Addr} {cs : List Int} {q : Int} {n : Nat} {pos : Pos} {x : Expr} {Q : Value → Shared → Prop} (W : Wd (Mine.hd.heap_39 w.params) p loose mean mg mb b) (H : St b S g0 h0 env g m mc mu s.heap) (hA : Ao 5 A)
    (hr : Ring 59 g r q n) (hl : IntL g l cs) (hn : n ≤ 1000) (hc : cs.length ≤ n)
    (ret : ∀ x g' h' tk, Ev [] g s.heap g' h' → Poly 222 g' x r (cs ++ List.replicate (n - cs.length) 0) → Q (.ref x) { s with heap := h', toks := tk }) :
    wpAny (model prog w) A (call (.ref r) [.ref l]) Q E s := by
  obtain ⟨d, es, k, i⟩ := hr.at
  exact icall (f := 56) (H.X W) (i.mono H.on) (by k_is) (by k_is) (by k_is) (ring_call W H.Bg hA hr hl hn hc ret)

set_option maxHeartbeats 400000 in
theorem add_ (W : Wd (Mine.hd.heap_39 w.params) p loose mean mg mb b) (hB : Bg b g s.heap) (hA : Ao 3 A)
    {self other r r' : Addr} {q : Int} {n : Nat} {a c : Nat → Int} (hp : Poly 222 g self r (lf n a)) (ho : Poly 222 g other r' (lf n c)) (hr : Ring 59 g r q n) (hq : 0 < q) (hn : n ≤ 1000)
    (ret : ∀ l g' h' tk, Ev [] g s.heap g' h' → IntL g' l (lf n fun k => (a k + c k) % q) → R (.ok (.ret (.ref l))) { s with heap := h', toks := tk }) :
    codeAny (model prog w) A (.call (.ref 132) ⟨[.ref self, .ref other], []⟩) R s := by
  refine enter (mu := []) (binds := [("self", .ref self), ("other", .ref other)]) (m := up "other" (.ref other) no) (mc := up "self" (.ref self) no)
    W hB hA (by k_is) (by k_is) (BindsTo.of_eq rfl) rfl (by decide) (fun _ q => nomatch q) .nil (fun _ => rfl) (fun _ => rfl) ?_
  intro L h₁ tk E' hA' H
  walk_at "M"
  obtain ⟨es, I1⟩ := hp.inst
  obtain ⟨es', I2⟩ := ho.inst
  refine type_inst (I1.mono H.on) ?_
  walk_at "M"
  refine isi_inst (r := true) (H.X W) (I2.mono H.on) (by kit_is) (by k_is) (by k_is) (by k_is) (by k_is) (by k_is) (by k_is) ?_
  intro tk2
  walk_at "M"
  refine as_lcz (cl := [("self", L + 1)]) (cn := ["self"]) (by walk_at "okz") fun ok => ?_
  walk_at "M"
  refine ga_coeffs W H hp ?_
  intro la hla
  walk_at "M"
  refine ga_coeffs W H ho ?_
  intro lb hlb
  walk_at "M"
  obtain ⟨vs1, o1, k1, go1, oc1, od1, hi1⟩ := hla
  obtain ⟨vs2, o2, k2, go2, oc2, od2, hi2⟩ := hlb
  have n1 := ints_len hi1
  have n2 := ints_len hi2
  refine zip_runA hA'.hh ok H go1 go2 ⟨oc1, k1, od1⟩ ⟨oc2, k2, od2⟩ (by omega) (by rw [sizeLine_eq]; omega) (fun i g₁ ys => IntsAre ys (lf i fun k => (a k + c k) % q)) .nil ?_ ?_
  · intro s' i v1 v2 C Dl oD mu' g₁ ys h₁ tk E' hi hv1 hv2 le j hl H3
    obtain ⟨u1, e1⟩ := ints_at hi1 (show i < n by omega)
    obtain ⟨u2, e2⟩ := ints_at hi2 (show i < n by omega)
    rw [e1] at hv1; obtain rfl := Option.some.inj hv1
    rw [e2] at hv2; obtain rfl := Option.some.inj hv2
    walk_at "M"
    refine gm_P (f := 110) W H3 (hp.mono le) (by k_is) (by k_is) (by k_is) (fun _ _ _ _ _ _ => rfl) ?_
    walk_at "M"
    refine wpAny_call (add_mod_q W H3.Bg (hA'.le (by decide)) (hp.mono le) (hr.mono le) (by omega) ?_)
    intro t g' h' tk' ev
    have H4 := H3.call0 ev
    exact ZipEnd.mk ev.gg H4 (ints_push j (Int.fmod_eq_emod_of_nonneg _ (by omega)))
  · intro g₁ ys D oD h₁ tk le j hl isl fD H3
    rw [n1] at j
    obtain ⟨H4, le4⟩ := H3.freeze fD
    dsimp only
    walk_at "M"
    exact ret _ _ _ _ H4.ev (IntL.mk (FM.put_self ..) isl j)
end
end Mine
namespace Mine
section
variable {prog : Program} {w : World} {p : Program} {loose : List Str} {mean : ExcName → Option Value} {mg mb : Str → Option Value} {b : Heap}
variable {S : List Addr} {g0 : FM} {h0 : Heap} {env : Env} {g : FM} {m mc : Str → Option Value} {mu : List (Addr × Obj)}
variable {A : Around} {s : Shared} {E : Value → Shared → Prop} {R : Result → Shared → Prop}
theorem pad_full {n : Nat} {f : Nat → Int} : lf n f ++ List.replicate (n - (lf n f).length) 0 = lf n f := by rw [lf_length, Nat.sub_self]; simp

set_option maxHeartbeats 400000 in
theorem padd_spec (W : Wd (Mine.hd.heap_39 w.params) p loose mean mg mb b) (hB : Bg b g s.heap) (hA : Ao 6 A)
    {self other r r' : Addr} {q : Int} {n : Nat} {a c : Nat → Int} (hp : Poly 222 g self r (lf n a)) (ho : Poly 222 g other r' (lf n c)) (hr : Ring 59 g r q n) (hq : 0 < q) (hn : n ≤ 1000)
    (ret : ∀ x g' h' tk, Ev [] g s.heap g' h' → Poly 222 g' x r (lf n fun k => (a k + c k) % q) → R (.ok (.ret (.ref x))) { s with heap := h', toks := tk }) :
    codeAny (model prog w) A (.call (.ref 139) ⟨[.ref self, .ref other], []⟩) R s := by
  refine enter (mu := []) (binds := [("self", .ref self), ("other", .ref other)]) (m := up "other" (.ref other) (up "self" (.ref self) no)) (mc := no)
    W hB hA (by k_is) (by k_is) (BindsTo.of_eq rfl) rfl (by decide) (fun _ q => nomatch q) .nil (fun _ => rfl) (fun _ => rfl) ?_
  intro L h₁ tk E' hA' H
  walk_at "M"
  refine gm_P (f := 132) W H hp (by k_is) (by k_is) (by k_is) (fun _ _ _ _ _ _ => rfl) ?_
  walk_at "M"
  refine wpAny_call (add_ W H.Bg (hA'.le (by decide)) hp ho hr hq hn ?_)
  intro l g' h' tk' ev hl
  have H2 := H.call0 ev
  walk_at "M"
  rename St _ _ _ _ _ _ _ _ _ _ => H3
  refine gm_parent W H3 (hp.mono ev.gg) ?_
  obtain ⟨d, es, k, i⟩ := (hr.mono ev.gg).at
  refine x_icall (H3.X W) (i.mono H3.on) (by k_is) ?_
  walk_at "M"
  refine ⟨⟨H3.X W, i.mono H3.on⟩, ?_⟩
  refine rcall (x := .Name "x" ⟨0, 0, 0, 0⟩) (pos := ⟨0, 0, 0, 0⟩) W H3 hA' (hr.mono ev.gg) hl hn (by rw [lf_length]; exact Nat.le_refl _) ?_
  intro x g2 h2 tk2 ev2 hx
  rw [pad_full] at hx
  have H4 := H3.call0 ev2
  walk_at "M"
  exact ret _ _ _ _ H4.ev hx

set_option maxHeartbeats 400000 in
theorem pmul_spec (W : Wd (Mine.hd.heap_39 w.params) p loose mean mg mb b) (hB : Bg b g s.heap) (hA : Ao 6 A)
    {self other r r' : Addr} {q : Int} {n : Nat} {a c : Nat → Int} (hp : Poly 222 g self r (lf n a)) (ho : Poly 222 g other r' (lf n c)) (hr : Ring 59 g r q n) (hq : 0 < q) (hn : n ≤ 1000) (hn1 : 1 ≤ n) (hm : ∀ i j, i < n → j < n → IntMulOk (a i) (c j))
    (ret : ∀ x g' h' tk, Ev [] g s.heap g' h' → Poly 222 g' x r (lf n fun k => nc n a c k % q) → R (.ok (.ret (.ref x))) { s with heap := h', toks := tk }) :
    codeAny (model prog w) A (.call (.ref 184) ⟨[.ref self, .ref other], []⟩) R s := by
  refine enter (mu := []) (binds := [("self", .ref self), ("other", .ref other)]) (m := no) (mc := up "other" (.ref other) (up "self" (.ref self) no))
    W hB hA (by k_is) (by k_is) (BindsTo.of_eq rfl) rfl (by decide) (fun _ q => nomatch q) .nil (fun _ => rfl) (fun _ => rfl) ?_
  intro L h₁ tk E' hA' H
  walk_at "M"
  obtain ⟨es, I1⟩ := hp.inst
  obtain ⟨es', I2⟩ := ho.inst
  refine type_inst (I1.mono H.on) ?_
  walk_at "M"
  refine isi_inst (r := true) (H.X W) (I2.mono H.on) (by kit_is) (by k_is) (by k_is) (by k_is) (by k_is) (by k_is) (by k_is) ?_
  intro tk2
  walk_at "M"
  refine gm_P (f := 122) W H hp (by k_is) (by k_is) (by k_is) (fun _ _ _ _ _ _ => rfl) ?_
  walk_at "M"
  refine wpAny_call (school_spec W H.Bg (hA'.le (by decide)) hp ho hr hq hn hn1 hm ?_)
  intro l g' h' tk' ev hl
  have H2 := H.call0 ev
  walk_at "M"
  rename St _ _ _ _ _ _ _ _ _ _ => H3
  refine gm_parent W H3 (hp.mono ev.gg) ?_
  obtain ⟨d, es, k, i⟩ := (hr.mono ev.gg).at
  refine x_icall (H3.X W) (i.mono H3.on) (by k_is) ?_
  walk_at "M"
  refine ⟨⟨H3.X W, i.mono H3.on⟩, ?_⟩
  refine rcall (x := .Name "x" ⟨0, 0, 0, 0⟩) (pos := ⟨0, 0, 0, 0⟩) W H3 hA' (hr.mono ev.gg) hl hn (by rw [lf_length]; exact Nat.le_refl _) ?_
  intro x g2 h2 tk2 ev2 hx
  rw [pad_full] at hx
  have H4 := H3.call0 ev2
  walk_at "M"
  exact ret _ _ _ _ H4.ev hx

set_option maxHeartbeats 400000 in
theorem pmulI_spec (W : Wd (Mine.hd.heap_39 w.params) p loose mean mg mb b) (hB : Bg b g s.heap) (hA : Ao 6 A)
    {self r : Addr} {q : Int} {n : Nat} {a : Nat → Int} {y : Int} {ty : Tok} (hp : Poly 222 g self r (lf n a)) (hr : Ring 59 g r q n) (hq : 0 < q) (hn : n ≤ 1000) (hy : Builtin.Int.intBits y ≤ 64)
    (ret : ∀ x g' h' tk, Ev [] g s.heap g' h' → Poly 222 g' x r (lf n fun k => a k * y % q) → R (.ok (.ret (.ref x))) { s with heap := h', toks := tk }) :
    codeAny (model prog w) A (.call (.ref 184) ⟨[.ref self, .int y ty], []⟩) R s := by
  refine enter (mu := []) (binds := [("self", .ref self), ("other", .int y ty)]) (m := no) (mc := up "other" (.int y ty) (up "self" (.ref self) no))
    W hB hA (by k_is) (by k_is) (BindsTo.of_eq rfl) rfl (by decide) (fun _ q => nomatch q) .nil (fun _ => rfl) (fun _ => rfl) ?_
  intro L h₁ tk E' hA' H
  walk_at "M"
  obtain ⟨es, I1⟩ := hp.inst
  refine type_inst (I1.mono H.on) ?_
  walk_at "M"
  refine isi_int (r := false) (H.X W) (by kit_is) ?_
  intro tk2
  walk_at "M"
  refine isi_int (r := true) (H.X W) (by kit_is) ?_
  intro tk3
  walk_at "M"
  refine as_lc (cl := [("self", L + 1), ("other", L + 2)]) (cn := ["self", "other"]) (xc := false) (by walk_at "ok") fun ok => ?_
  walk_at "M"
  refine ga_coeffs W H hp ?_
  intro la hla
  obtain ⟨vs1, o1, k1, go1, oc1, od1, hi1⟩ := hla
  have n1 := ints_len hi1
  refine lc_runA ok H (Src.list hA'.hh go1 H.on (IsL.at_ ⟨oc1, k1, od1⟩ (H.on _ _ go1))) (by rw [sizeLine_eq]; omega) (fun i g₁ mu₁ zs => mu₁ = [] ∧ IntsAre zs (lf i fun k => a k * y % q)) ⟨rfl, .nil⟩ ?_ ?_
  · rintro i v C D2 oD2 I oI g₂ mu₁ zs h₁ tk E' hi hP le2 ha ⟨rfl, hzs⟩ hl H12
    obtain ⟨tv, hv⟩ := ints_at hi1 (show i < n by omega)
    rw [hv] at hP
    obtain rfl := Option.some.inj hP
    walk_at "M"
    refine mul_lit hy ?_
    walk_at "M"
    refine ga_parent W H12 (hp.mono le2) ?_
    refine ga_q W H12 (hr.mono le2) ?_
    intro tq
    walk_at "M"
    exact EltEnd.mk (.refl _) H12 rfl ⟨rfl, ints_push hzs rfl⟩
  rintro g₂ mu₁ zs D2 oD2 h₁ tk le2 ha ⟨rfl, hzs⟩ hl isl2 fD2 H12
  obtain ⟨H3, le13⟩ := H12.freeze fD2
  rw [n1] at hzs
  replace hr := (hr.mono le2).mono le13
  replace hp := (hp.mono le2).mono le13
  dsimp only
  walk_at "M"
  refine gm_parent W H3 hp ?_
  obtain ⟨d, es, k, i⟩ := hr.at
  refine x_icall (H3.X W) (i.mono H3.on) (by k_is) ?_
  walk_at "M"
  refine ⟨⟨H3.X W, i.mono H3.on⟩, ?_⟩
  refine rcall (x := .Name "x" ⟨0, 0, 0, 0⟩) (pos := ⟨0, 0, 0, 0⟩) W H3 hA' hr (IntL.mk (FM.put_self ..) isl2 hzs) hn (by rw [lf_length]; exact Nat.le_refl _) ?_
  intro x g2 h2 tk2 ev2 hx
  rw [pad_full] at hx
  have H4 := H3.call0 ev2
  walk_at "M"
  exact ret _ _ _ _ H4.ev hx
end
end Mine
namespace Mine
section
variable {prog : Program} {w : World} {p : Program} {loose : List Str} {mean : ExcName → Option Value} {mg mb : Str → Option Value} {b : Heap}
variable {S : List Addr} {g0 : FM} {h0 : Heap} {env : Env} {g : FM} {m mc : Str → Option Value} {mu : List (Addr × Obj)}
variable {A : Around} {s : Shared} {E : Value → Shared → Prop} {R : Result → Shared → Prop}
theorem gen_row {n : Nat} (hn : 2 ≤ n) : ([0, 1] : List Int) ++ List.replicate (n - 2) 0 = lf n (ex 1) := by
  refine List.ext_getElem? fun k => ?_
  by_cases q : k < n
  · rw [lf_get _ q]
    match k, q with
    | 0, _ => rfl
    | 1, _ => rfl
    | k + 2, q => 
      show (List.replicate (n - 2) (0 : Int))[k]? = _
      rw [List.getElem?_replicate, if_pos (by omega)]
      show some (0 : Int) = some (if k + 2 = 1 then 1 else 0)
      rw [if_neg (by omega)]
  · rw [lf_none _ (by omega)]
    exact List.getElem?_eq_none (by simp; omega)
theorem gen_ints {n : Nat} (hn : 2 ≤ n) (t1 t2 t3 : Tok) : IntsAre ([.int 0 t1, .int 1 t2] ++ List.replicate ((n : Int) - 2).toNat (.int 0 t3)) (lf n (ex 1)) := by
  rw [← gen_row hn, show ((n : Int) - 2).toNat = n - 2 by omega]
  have e := ints_rep (n - 2) 0 t3
  rw [← lf_rep] at e
  exact IntsAre.append (vs := [.int 0 t1, .int 1 t2]) (.cons _ _ (.cons _ _ .nil)) e
theorem one_row {n : Nat} (hn : 1 ≤ n) : ([1] : List Int) ++ List.replicate (n - 1) 0 = lf n (ex 0) := by
  refine List.ext_getElem? fun k => ?_
  by_cases q : k < n
  · rw [lf_get _ q]
    match k, q with
    | 0, _ => rfl
    | k + 1, q => 
      show (List.replicate (n - 1) (0 : Int))[k]? = _
      rw [List.getElem?_replicate, if_pos (by omega)]
      show some (0 : Int) = some (if k + 1 = 0 then 1 else 0)
      rw [if_neg (by omega)]
  · rw [lf_none _ (by omega)]
    exact List.getElem?_eq_none (by simp; omega)

theorem gm_R {x : Addr} {q n : Int} {name : Str} {f : Addr} {pl : Sem Bool} {Q : Value × List Value → Shared → Prop} (W : Wd (Mine.hd.heap_39 w.params) p loose mean mg mb b) (H : St b S g0 h0 env g m mc mu s.heap) (I : Ring 59 g x q n)
    (hg : plainGet (Mine.hd.heap_39 w.params) 59 name = true) (hf : findIn (Mine.hd.heap_39 w.params) (.ref 59) name = some (some (.ref f))) (ht : isFn (Mine.hd.heap_39 w.params) (.ref f) = true) (hn : ∀ (h1 : Int) (t1 u1 : Tok) (h2 : Int) (t2 u2 : Tok), getL name [⟨h1, .str "q" t1, .int q u1⟩, ⟨h2, .str "n" t2, .int n u2⟩] = some none)
    (h : Q (.ref f, [.ref x]) s) : wpAny (model prog w) A (getMethod (.ref x) name pl) Q E s := by
  obtain ⟨h1, t1, u1, h2, t2, u2, i⟩ := I
  exact gm_fn (f := f) (H.X W) (i.mono H.on) hg hf ht (hn _ _ _ _ _ _) h

/-- the ring called with an int -/
theorem rcallI {r : Addr} {c : Int} {tc : Tok} {q : Int} {n : Nat} {Q : Value → Shared → Prop} (W : Wd (Mine.hd.heap_39 w.params) p loose mean mg mb b) (H : St b S g0 h0 env g m mc mu s.heap) (hA : Ao 5 A)
    (hr : Ring 59 g r q n) (hn : n ≤ 1000) (hc : 1 ≤ n)
    (ret : ∀ x g' h' tk, Ev [] g s.heap g' h' → Poly 222 g' x r ([c] ++ List.replicate (n - 1) 0) → Q (.ref x) { s with heap := h', toks := tk }) :
    wpAny (model prog w) A (call (.ref r) [.int c tc]) Q E s := by
  obtain ⟨d, es, k, i⟩ := hr.at
  exact icall (f := 56) (H.X W) (i.mono H.on) (by k_is) (by k_is) (by k_is) (ring_callI W H.Bg hA hr hn hc ret)

set_option maxHeartbeats 400000 in
theorem gen_spec (W : Wd (Mine.hd.heap_39 w.params) p loose mean mg mb b) (hB : Bg b g s.heap) (hA : Ao 6 A)
    {r : Addr} {q : Int} {n : Nat} (hr : Ring 59 g r q n) (hn : n ≤ 1000) (hn2 : 2 ≤ n)
    (ret : ∀ x g' h' tk, Ev [] g s.heap g' h' → Poly 222 g' x r (lf n (ex 1)) → R (.ok (.ret (.ref x))) { s with heap := h', toks := tk }) :
    codeAny (model prog w) A (.call (.ref 49) ⟨[.ref r], []⟩) R s := by
  refine enter (mu := []) (binds := [("self", .ref r)]) (m := up "self" (.ref r) no) (mc := no)
    W hB hA (by k_is) (by k_is) (BindsTo.of_eq rfl) rfl (by decide) (fun _ q => nomatch q) .nil (fun _ => rfl) (fun _ => rfl) ?_
  intro L h₁ tk E' hA' H
  walk_at "M"
  obtain ⟨d, es, k, i⟩ := hr.at
  refine x_icall (H.X W) (i.mono H.on) (by k_is) ?_
  walk_at "M"
  refine ⟨sz1 rfl, fun a h2 ea eh => ?_⟩
  obtain ⟨fa, H2⟩ := H.mkL ea eh
  obtain ⟨H3, le⟩ := H2.freeze fa
  walk_at "M"
  refine ⟨⟨H3.X W, (i.mono le).mono H3.on⟩, ?_⟩
  refine rcall (x := .Name "x" ⟨0, 0, 0, 0⟩) (pos := ⟨0, 0, 0, 0⟩) W H3 hA' (hr.mono le) (IntL.mk (ns := [0, 1]) (FM.put_self ..) (IsL.lst _) (.cons _ _ (.cons _ _ .nil))) hn hn2 ?_
  intro x g2 h2 tk2 ev2 hx
  rw [show ([0, 1] : List Int).length = 2 from rfl, gen_row hn2] at hx
  have H4 := H3.call0 ev2
  walk_at "M"
  exact ret _ _ _ _ H4.ev hx

/-- two polynomials of the class, multiplied and added -/
theorem bin_mul {x y r r' : Addr} {q : Int} {n : Nat} {a c : Nat → Int} {Q : Value → Shared → Prop} (W : Wd (Mine.hd.heap_39 w.params) p loose mean mg mb b) (H : St b S g0 h0 env g m mc mu s.heap) (hA : Ao 6 A)
    (hx : Poly 222 g x r (lf n a)) (hy : Poly 222 g y r' (lf n c)) (hr : Ring 59 g r q n) (hq : 0 < q) (hn : n ≤ 1000) (hn1 : 1 ≤ n) (hm : ∀ i j, i < n → j < n → IntMulOk (a i) (c j))
    (ret : ∀ z g' h' tk, Ev [] g s.heap g' h' → Poly 222 g' z r (lf n fun k => nc n a c k % q) → Q (.ref z) { s with heap := h', toks := tk }) :
    wpAny (model prog w) A (binaryOp .Mult (.ref x) (.ref y)) Q E s := by
  obtain ⟨es, I⟩ := hx.inst
  obtain ⟨es', J⟩ := hy.inst
  refine bin_same (f := 184) W H I J ?a ?b ?c (wpAny_call (pmul_spec W H.Bg hA hx hy hr hq hn hn1 hm fun z g' h' tk ev hz => ret z g' h' tk ev hz))
  case a => k_is
  case b => k_is
  case c => k_is
theorem bin_add {x y r r' : Addr} {q : Int} {n : Nat} {a c : Nat → Int} {Q : Value → Shared → Prop} (W : Wd (Mine.hd.heap_39 w.params) p loose mean mg mb b) (H : St b S g0 h0 env g m mc mu s.heap) (hA : Ao 6 A)
    (hx : Poly 222 g x r (lf n a)) (hy : Poly 222 g y r' (lf n c)) (hr : Ring 59 g r q n) (hq : 0 < q) (hn : n ≤ 1000)
    (ret : ∀ z g' h' tk, Ev [] g s.heap g' h' → Poly 222 g' z r (lf n fun k => (a k + c k) % q) → Q (.ref z) { s with heap := h', toks := tk }) :
    wpAny (model prog w) A (binaryOp .Add (.ref x) (.ref y)) Q E s := by
  obtain ⟨es, I⟩ := hx.inst
  obtain ⟨es', J⟩ := hy.inst
  refine bin_same (f := 139) W H I J ?a ?b ?c (wpAny_call (padd_spec W H.Bg hA hx hy hr hq hn fun z g' h' tk ev hz => ret z g' h' tk ev hz))
  case a => k_is
  case b => k_is
  case c => k_is
theorem bin_mulI {x r : Addr} {q : Int} {n : Nat} {a : Nat → Int} {y : Int} {ty : Tok} {Q : Value → Shared → Prop} (W : Wd (Mine.hd.heap_39 w.params) p loose mean mg mb b) (H : St b S g0 h0 env g m mc mu s.heap) (hA : Ao 6 A)
    (hx : Poly 222 g x r (lf n a)) (hr : Ring 59 g r q n) (hq : 0 < q) (hn : n ≤ 1000) (hy : Builtin.Int.intBits y ≤ 64)
    (ret : ∀ z g' h' tk, Ev [] g s.heap g' h' → Poly 222 g' z r (lf n fun k => a k * y % q) → Q (.ref z) { s with heap := h', toks := tk }) :
    wpAny (model prog w) A (binaryOp .Mult (.ref x) (.int y ty)) Q E s := by
  obtain ⟨es, I⟩ := hx.inst
  refine' bin_int (f := 184) W H I ?a ?b ?c ?d ?e ?f ?g ?h (wpAny_call (pmulI_spec W H.Bg hA hx hr hq hn hy fun z g' h' tk ev hz => ret z g' h' tk ev hz))
  case a => k_is
  case b => k_is
  case c => k_is
  case d => k_is
  case e => exact .inr ⟨_, rfl⟩
  case f => k_is
  case g => k_is
  case h => k_is
end
end Mine
namespace Mine
section
variable {prog : Program} {w : World} {p : Program} {loose : List Str} {mean : ExcName → Option Value} {mg mb : Str → Option Value} {b : Heap}
variable {S : List Addr} {g0 : FM} {h0 : Heap} {env : Env} {g : FM} {m mc : Str → Option Value} {mu : List (Addr × Obj)}
variable {A : Around} {s : Shared} {E : Value → Shared → Prop} {R : Result → Shared → Prop}

set_option maxHeartbeats 1000000 in
theorem powers_spec (W : Wd (Mine.hd.heap_39 w.params) p loose mean mg mb b) (hB : Bg b g s.heap) (hA : Ao 8 A)
    {r la : Addr} {q : Int} {n sft : Nat} {tn tq ts : Tok} {a : Nat → Int} (hr : Ring 59 g r q n) (hla : IntL g la (lf n a)) (hn : n ≤ 1000) (hn2 : 2 ≤ n) (hq : 2 ≤ q) (hq2 : q ≤ 1000000) (hs : sft ≤ 2 * n)
    (ret : ∀ g' h' tk, Ev [] g s.heap g' h' → R (.ok (.ret (.bool true))) { s with heap := h', toks := tk }) :
    codeAny (model prog w) A (.call (.ref 255) ⟨[.ref r, .ref la, .int n tn, .int q tq, .int sft ts], []⟩) R s := by
  refine enter (mu := []) (binds := [("ring", .ref r), ("row", .ref la), ("n", .int n tn), ("q", .int q tq), ("shift", .int sft ts)]) (m := up "shift" (.int sft ts) (up "q" (.int q tq) (up "n" (.int n tn) (up "row" (.ref la) (up "ring" (.ref r) no))))) (mc := no)
    W hB hA (by k_is) (by k_is) (BindsTo.of_eq rfl) rfl (by decide) (fun _ q => nomatch q) .nil (fun _ => rfl) (fun _ => rfl) ?_
  intro L h₁ tk E' hA' H
  have hq0 : 0 < q := by omega
  have small : ∀ i j (f : Nat → Int), IntMulOk (f i) (xp n q j i) := fun i j f => by
    have := xp_small (n := n) hq j i
    exact IntMulOk.of_right (intBits_le_64 (by omega) (by omega))
  walk_at "M"
  obtain ⟨d, es, k, i⟩ := hr.at
  refine x_icall (H.X W) (i.mono H.on) (by k_is) ?_
  walk_at "M"
  refine ⟨⟨H.X W, i.mono H.on⟩, ?_⟩
  refine rcallI W H (hA'.le (by decide)) hr hn (by omega) ?_
  intro x g2 h2 tk2 ev2 hx
  rw [one_row (by omega)] at hx
  have H2 := H.call0 ev2
  replace hr := hr.mono ev2.gg
  replace hla := hla.mono ev2.gg
  walk_at "M"
  rename St _ _ _ _ _ _ _ _ _ _ => H3
  refine call_range1 H3 ?_
  intro h7 tk7 rr7 t7 u7 v7 hrr7 H7
  refine loop_for H7 (Src.range hA'.hh hrr7 (rng (by omega)) (nat0 _)) (fun i g₁ m₁ mc₁ mu₁ => mc₁ = no ∧ mu₁ = [] ∧ m₁ "ring" = some (.ref r) ∧ m₁ "row" = some (.ref la) ∧ m₁ "n" = some (.int n tn) ∧ m₁ "q" = some (.int q tq) ∧ m₁ "shift" = some (.int sft ts) ∧ ∃ y, m₁ "power" = some (.ref y) ∧ Poly 222 g₁ y r (lf n (xp n q i)))
    ⟨rfl, rfl, by with_unfolding_all rfl, by with_unfolding_all rfl, by with_unfolding_all rfl, by with_unfolding_all rfl, by with_unfolding_all rfl, x, by with_unfolding_all rfl, hx⟩ ?_ ?_
  · rintro i v I oI g₁ m₁ mc₁ mu₁ h₁ tk E' hi hP le1 ⟨rfl, rfl, e1, e2, e3, e4, e5, y, e6, hy⟩ H8
    replace hr := hr.mono le1
    walk_at "M"
    refine gm_R (f := 49) W H8 hr (by k_is) (by k_is) (by k_is) (fun _ _ _ _ _ _ => rfl) ?_
    refine x_fn0 W H8 (by k_is) ?_
    refine wpAny_call (gen_spec W H8.Bg (hA'.le (by decide)) hr hn hn2 ?_)
    intro z g2 h2 tk2 ev2 hz
    have H9 := H8.call0 ev2
    refine bin_mul W H9 (hA'.le (by decide)) (hy.mono ev2.gg) hz (hr.mono ev2.gg) hq0 hn (by omega) (fun i j _ _ => IntMulOk.of_right (intBits_le_64 (by unfold ex; split <;> omega) (by unfold ex; split <;> omega))) ?_
    intro z2 g3 h3 tk3 ev3 hz2
    have H10 := H9.call0 ev3
    walk_at "M"
    rename St _ _ _ _ _ _ _ _ _ _ => H11
    exact LoopEnd.mk (ev2.gg.trans ev3.gg) H11 ⟨rfl, rfl, by with_unfolding_all assumption, by with_unfolding_all assumption, by with_unfolding_all assumption, by with_unfolding_all assumption, by with_unfolding_all assumption, z2, by with_unfolding_all rfl, hz2⟩
  rintro g₁ m₁ mc₁ mu₁ h8 tk8 le1 ⟨rfl, rfl, e1, e2, e3, e4, e5, y, e6, hy⟩ H8
  rw [show ((sft : Int) - 0).toNat = sft by omega] at hy
  replace hr := hr.mono le1
  replace hla := hla.mono le1
  walk_at "M"
  refine ⟨sz1 rfl, fun a1 h3 ea eh => ?_⟩
  obtain ⟨fa, H3⟩ := H8.mkL ea eh
  walk_at "M"
  refine mul_one H3 (by omega) (by omega) ?_
  intro D h4 fD _ H4
  walk_at "M"
  rename St _ _ _ _ _ _ _ _ _ _ => H5
  refine call_range1 H5 ?_
  intro h9 tk9 rr9 t9 u9 v9 hrr9 H9
  refine loop_for H9 (Src.range hA'.hh hrr9 (rng (by omega)) (nat0 _)) (fun i g₁ m₁ mc₁ mu₁ => mc₁ = no ∧ m₁ "ring" = some (.ref r) ∧ m₁ "row" = some (.ref la) ∧ m₁ "n" = some (.int n tn) ∧ m₁ "q" = some (.int q tq) ∧ m₁ "shift" = some (.int sft ts) ∧ m₁ "power" = some (.ref y) ∧ m₁ "moved" = some (.ref D) ∧ ∃ oD ys, mu₁ = [(D, oD)] ∧ IsL oD ys ∧ IntsAre ys (lf n (mv n sft q a i)))
    ⟨rfl, by with_unfolding_all assumption, by with_unfolding_all assumption, by with_unfolding_all assumption, by with_unfolding_all assumption, by with_unfolding_all assumption, by with_unfolding_all assumption, by with_unfolding_all rfl, _, _, rfl, IsL.lst _, by rw [Int.toNat_natCast]; exact ints_rep _ _ _⟩ ?_ ?_
  · rintro i v I oI g₁ m₁ mc₁ mu₁ h₁ tk E' hi hP le1 ⟨rfl, e1, e2, e3, e4, e5, e6, e7, oD, ys, rfl, isl, hns⟩ H10
    obtain ⟨ti, e⟩ := hP
    rw [Int.zero_add] at e
    subst e
    replace hla := hla.mono le1
    have hin : i < n := by omega
    walk_at "M"
    refine ⟨sz1 rfl, fun a1 h3 ea eh => ?_⟩
    obtain ⟨g3, le3, ht3, _, H3⟩ := H10.mkT ea eh
    refine tup_swap2 hA'.hh H3 ht3 ?_
    intro h4 H4
    walk_at "M"
    rename St _ _ _ _ _ _ _ _ _ _ => H5
    refine call_range1 H5 ?_
    intro h9 tk9 rr9 t9 u9 v9 hrr9 H9
    refine loop_for H9 (Src.range hA'.hh hrr9 (rng2 (by decide) (by decide) (by decide) (by decide)) (by decide)) (fun c g₁ m₁ mc₁ mu₁ => mc₁ = no ∧ m₁ "ring" = some (.ref r) ∧ m₁ "row" = some (.ref la) ∧ m₁ "n" = some (.int n tn) ∧ m₁ "q" = some (.int q tq) ∧ m₁ "shift" = some (.int sft ts) ∧ m₁ "power" = some (.ref y) ∧ m₁ "moved" = some (.ref D) ∧ m₁ "k" = some (.int i ti) ∧ mu₁ = [(I, oI), (D, oD)] ∧
        ∃ pp tpp sv tsv, m₁ "place" = some (.int pp tpp) ∧ m₁ "sign" = some (.int sv tsv) ∧ pp = tp n (i + sft) c ∧ sv = Mine.ts n (i + sft) c)
      ⟨rfl, by with_unfolding_all assumption, by with_unfolding_all assumption, by with_unfolding_all assumption, by with_unfolding_all assumption, by with_unfolding_all assumption, by with_unfolding_all assumption, by with_unfolding_all assumption, by with_unfolding_all rfl, rfl, _, _, _, _, by with_unfolding_all rfl, by with_unfolding_all rfl, rfl, rfl⟩ ?_ ?_
    · rintro c v I2 oI2 g₂ m₂ mc₂ mu₂ h₂ tk₂ E2 hc hP2 le2 ⟨rfl, f1, f2, f3, f4, f5, f6, f7, f8, rfl, pp, tpp, sv, tsv, f9, f10, dis1, dis2⟩ H11
      obtain ⟨tc, e⟩ := hP2
      subst e
      walk_at "M"
      split
      · rename_i hge
        have hge := of_decide_eq_true hge
        walk_at "M"
        refine ⟨sz1 rfl, fun a2 h12 ea eh => ?_⟩
        obtain ⟨g12, le12, ht12, _, H12⟩ := H11.mkT ea eh
        refine tup_swap2 hA'.hh H12 ht12 ?_
        intro h13 H13
        walk_at "M"
        rename St _ _ _ _ _ _ _ _ _ _ => H14
        exact LoopEnd.mk le12 H14 ⟨rfl, by with_unfolding_all assumption, by with_unfolding_all assumption, by with_unfolding_all assumption, by with_unfolding_all assumption, by with_unfolding_all assumption, by with_unfolding_all assumption, by with_unfolding_all assumption, by with_unfolding_all assumption, rfl, _, _, _, _, by with_unfolding_all rfl, by with_unfolding_all rfl, by rw [tp, if_pos (by omega)]; omega, by rw [Mine.ts, if_pos (by omega), dis2]⟩
      · rename_i hge
        have hge : ¬ (pp ≥ n) := fun z => hge (decide_eq_true z)
        walk_at "M"
        exact LoopEnd.mk (.refl _) H11 ⟨rfl, by with_unfolding_all assumption, by with_unfolding_all assumption, by with_unfolding_all assumption, by with_unfolding_all assumption, by with_unfolding_all assumption, by with_unfolding_all assumption, by with_unfolding_all assumption, by with_unfolding_all assumption, rfl, pp, tpp, sv, tsv, by with_unfolding_all assumption, by with_unfolding_all assumption, by rw [tp, if_neg (by omega)]; exact dis1, by rw [Mine.ts, if_neg (by omega)]; exact dis2⟩
    rintro g₂ m₂ mc₂ mu₂ h10 tk10 le2 ⟨rfl, f1, f2, f3, f4, f5, f6, f7, f8, rfl, pp, tpp, sv, tsv, f9, f10, dis1, dis2⟩ H11
    have te := turns_end (n := n) (t := i + sft) (by omega)
    have ep : pp = pl n (i + sft) := by rw [dis1]; exact congrArg Nat.cast te.1
    have es2 : sv = sg n (i + sft) := dis2.trans te.2
    have sgb : sv = 1 ∨ sv = -1 := by rw [es2]; unfold sg; split; exact .inl rfl; split; exact .inr rfl; exact .inl rfl
    have plt := pl_lt (n := n) (t := i + sft) (by omega)
    replace hla := (hla.mono le3).mono le2
    walk_at "M"
    refine row_il (i := i) H11 hla rfl hin hn ?_
    intro u2
    refine imul_ok (IntMulOk.of_left (intBits_le_64 (by omega) (by omega))) ?_
    walk_at "M"
    refine row_set (i := pl n (i + sft)) (pre := [(I, oI)]) (post := []) H11 isl hns ep plt hn ?_
    intro h11 o11 ys11 isl11 hns11 H12
    walk_at "M"
    refine LoopEnd.mk (le3.trans le2) H12 ⟨rfl, by with_unfolding_all assumption, by with_unfolding_all assumption, by with_unfolding_all assumption, by with_unfolding_all assumption, by with_unfolding_all assumption, by with_unfolding_all assumption, by with_unfolding_all assumption, o11, ys11, rfl, isl11, hns11 _ fun k hk => ?_⟩
    rw [es2]; rfl
  rintro g₂ m₂ mc₂ mu₂ h10 tk10 le2 ⟨rfl, e1, e2, e3, e4, e5, e6, e7, oD, ys, rfl, isl, hns⟩ H10
  obtain ⟨H11, le11⟩ := H10.freeze fD
  replace hr := (hr.mono le2).mono le11
  replace hla := (hla.mono le2).mono le11
  replace hy := (hy.mono le2).mono le11
  rw [to_nat0] at hns
  have hD := IntL.mk (FM.put_self ..) isl hns (g := FM.put g₂ D oD)
  walk_at "M"
  obtain ⟨d, es, k, i⟩ := hr.at
  refine x_icall (H11.X W) (i.mono H11.on) (by k_is) ?_
  walk_at "M"
  refine copy_il H11 hla (by rw [lf_length]; omega) ?_
  intro l2 g3 h3 le3 hl2 H12
  walk_at "M"
  refine ⟨⟨H12.X W, (i.mono le3).mono H12.on⟩, ?_⟩
  refine rcall (x := .Name "x" ⟨0, 0, 0, 0⟩) (pos := ⟨0, 0, 0, 0⟩) W H12 (hA'.le (by decide)) (hr.mono le3) hl2 hn (by rw [lf_length]; exact Nat.le_refl _) ?_
  intro x2 g4 h4 tk4 ev4 hx2
  rw [pad_full] at hx2
  have H13 := H12.call0 ev4
  walk_at "M"
  refine bin_mul W H13 (hA'.le (by decide)) hx2 ((hy.mono le3).mono ev4.gg) ((hr.mono le3).mono ev4.gg) hq0 hn (by omega) (fun i j _ hj => small j sft (fun _ => a i)) ?_
  intro z2 g5 h5 tk5 ev5 hz2
  have H14 := H13.call0 ev5
  refine ga_coeffs W H14 hz2 ?_
  intro lz hlz
  walk_at "M"
  refine eq_il H14 hA' hlz (((hD.mono le3).mono ev4.gg).mono ev5.gg) ?_
  rw [decide_eq_true (lf_ext fun k hk => by rw [nc_xp a hn2 sft k hk, mv_eq a hs hk])]
  exact ret _ _ _ H14.ev
end
end Mine
namespace Mine
section
variable {prog : Program} {w : World} {p : Program} {loose : List Str} {mean : ExcName → Option Value} {mg mb : Str → Option Value} {b : Heap}
variable {S : List Addr} {g0 : FM} {h0 : Heap} {env : Env} {g : FM} {m mc : Str → Option Value} {mu : List (Addr × Obj)}
variable {A : Around} {s : Shared} {E : Value → Shared → Prop} {R : Result → Shared → Prop}

set_option maxHeartbeats 400000 in
theorem state_spec (W : Wd (Mine.hd.heap_39 w.params) p loose mean mg mb b) (hB : Bg b g s.heap) (hA : Ao 2 A)
    {l : Addr} {ns : List Int} (hl : IntL g l ns) (hn : ns.length ≤ 63)
    (ret : ∀ st cl mu' g' h' tk, Ev [] g s.heap g' h' → StOk st cl mu' → (∀ q ∈ mu', h'.get? q.1 = some q.2 ∧ s.heap.get? q.1 = none ∧ g' q.1 = none) → (mu'.map (·.1)).Nodup → R (.ok (.ret (.ref st))) { s with heap := h', toks := tk }) :
    codeAny (model prog w) A (.call (.ref 231) ⟨[.ref l], []⟩) R s := by
  refine enter (mu := []) (binds := [("script", .ref l)]) (m := up "script" (.ref l) no) (mc := no)
    W hB hA (by k_is) (by k_is) (BindsTo.of_eq rfl) rfl (by decide) (fun _ q => nomatch q) .nil (fun _ => rfl) (fun _ => rfl) ?_
  intro L h₁ tk E' hA' H
  have fin : ∀ {D : Addr} {o : Obj} {vs : List Value} {ns : List Int} {g2 : FM} {h2 : Heap} {tk2 t0 : Nat} {st : Addr} {h3 : Heap} {env : Env} {m mc : Str → Option Value}, St b [] g s.heap env g2 m mc [(D, o)] h2 → IsL o vs → IntsAre vs ns → 0 < vs.length → vs.length ≤ 63 →
      st = h2.objs.size → h3 = h2.push (lst [.int 0 t0, .ref D]) → R (.ok (.ret (.ref st))) { s with heap := h3, toks := tk2 } := by
    intro D o vs ns g2 h2 tk2 t0 st h3 env m mc H2 isl hi h0 h1 ea eh
    obtain ⟨f3, H3⟩ := H2.mkL ea eh
    obtain ⟨mf, nd⟩ := H3.muFacts (pre := [])
    refine ret st D _ _ _ _ H3.ev ⟨_, o, 0, t0, vs, ns, rfl, IsL.lst _, isl, hi, h0, by omega⟩ (fun q hq => ⟨(mf q hq).1, ?_, (mf q hq).2⟩) nd
    exact (H3.own q.1 (owns_mu hq)).2.elim id fun z => nomatch z
  walk_at "M"
  refine as_lc (cl := []) (cn := []) (xc := false) (by walk_at "ok") fun ok => ?_
  walk_at "M"
  refine wpAny_Slice (wpAny_evalPart_none (wpAny_evalPart_some (wpAny_Constant_int (wpAny_evalPart_none ?_))))
  obtain ⟨vs, hvl, hvi⟩ := (hl.mono H.on).list (.refl _)
  have e1 := hvi.length
  refine sub_upto (s := { s with heap := h₁, toks := _ }) H hvl hvi (by decide) (by rw [sizeLine_eq]; omega) ?_
  intro D o ws h2 isl hws fD H2
  have e2 : ws.length ≤ 63 := by rw [hws.length]; simp; omega
  obtain ⟨H3, le3⟩ := H2.freeze fD
  dsimp only
  refine lc_runA ok H3 (Src.list hA'.hh (FM.put_self ..) H3.on (isl.at_ (H3.on _ _ (FM.put_self ..)))) (by rw [sizeLine_eq]; omega) (fun i g₁ mu₁ zs => mu₁ = [] ∧ ∃ ns, IntsAre zs ns) ⟨rfl, [], .nil⟩ ?_ ?_
  · rintro i v C D2 oD2 I oI g₂ mu₁ zs h₁ tk E' hi hP le2 ha ⟨rfl, ms, hzs⟩ hl H12
    obtain ⟨x, tx, rfl⟩ : ∃ x t, v = .int x t := by
      have hk : i < (ns.take (63 : Int).toNat).length := by rw [← hws.length]; exact hi
      obtain ⟨t, ht⟩ := hws.get i _ (List.getElem?_eq_getElem hk)
      rw [ht] at hP
      exact ⟨_, t, (Option.some.inj hP).symm⟩
    walk_at "M"
    refine call_abs_int ?_
    intro u tk2
    exact EltEnd.mk (.refl _) H12 rfl ⟨rfl, _, hzs.append (.cons _ _ .nil)⟩
  rintro g₂ mu₁ zs D2 oD2 h₁ tk le2 ha ⟨rfl, ms, hzs⟩ hl isl2 fD2 H12
  dsimp only
  walk_at "M"
  split
  · walk_at "M"
    refine ⟨sz1 rfl, fun a h5 ea eh => ?_⟩
    obtain ⟨fa, H5⟩ := H12.mkL ea eh
    walk_at "M"
    rename St _ _ _ _ _ _ _ _ _ _ => H6
    refine ⟨sz1 rfl, fun a h7 ea eh => ?_⟩
    exact fin (vs := [_]) (H6.perm (List.Perm.swap _ _ _)).drop (IsL.lst _) (.cons _ _ .nil) (Nat.le_of_ble_eq_true rfl) (Nat.le_of_ble_eq_true rfl) ea eh
  · rename_i hz
    walk_at "M"
    refine ⟨sz1 rfl, fun a h7 ea eh => ?_⟩
    have hz : zs.length ≠ 0 := fun z => hz (by rw [z]; rfl)
    exact fin H12 isl2 hzs (by omega) (by omega) ea eh
end
end Mine
namespace Mine
section
variable {prog : Program} {w : World} {p : Program} {loose : List Str} {mean : ExcName → Option Value} {mg mb : Str → Option Value} {b : Heap}
variable {S : List Addr} {g0 : FM} {h0 : Heap} {env : Env} {g : FM} {m mc : Str → Option Value} {mu : List (Addr × Obj)}
variable {A : Around} {s : Shared} {E : Value → Shared → Prop} {R : Result → Shared → Prop}

set_option maxHeartbeats 1000000 in
theorem product_spec (W : Wd (Mine.hd.heap_39 w.params) p loose mean mg mb b) (hB : Bg b g s.heap) (hA : Ao 2 A)
    {la lb : Addr} {q : Int} {tq : Tok} {n : Nat} {a c : Nat → Int} (hla : IntL g la (lf n a)) (hlb : IntL g lb (lf n c)) (hq : 0 < q) (hn : n ≤ 1000) (hm : ∀ i j, i < n → j < n → IntMulOk (a i) (c j))
    (ret : ∀ l g' h' tk, Ev [] g s.heap g' h' → IntL g' l (lf n fun k => nc n a c k % q) → R (.ok (.ret (.ref l))) { s with heap := h', toks := tk }) :
    codeAny (model prog w) A (.call (.ref 248) ⟨[.ref la, .ref lb, .int q tq], []⟩) R s := by
  refine enter (mu := []) (binds := [("one", .ref la), ("two", .ref lb), ("q", .int q tq)]) (m := up "two" (.ref lb) (up "one" (.ref la) no)) (mc := up "q" (.int q tq) no)
    W hB hA (by k_is) (by k_is) (BindsTo.of_eq rfl) rfl (by decide) (fun _ q => nomatch q) .nil (fun _ => rfl) (fun _ => rfl) ?_
  intro L h₁ tk E' hA' H
  walk_at "M"
  refine len_il H hla (by rw [lf_length]; omega) ?_
  rw [lf_length]
  walk_at "M"
  rename St _ _ _ _ _ _ _ _ _ _ => H2
  refine ⟨sz1 rfl, fun a1 h3 ea eh => ?_⟩
  obtain ⟨fa, H3⟩ := H2.mkL ea eh
  walk_at "M"
  refine mul_one H3 (by omega) (by omega) ?_
  intro D h4 fD _ H4
  walk_at "M"
  rename St _ _ _ _ _ _ _ _ _ _ => H5
  refine call_range1 H5 ?_
  intro h7 tk7 rr7 t7 u7 v7 hrr7 H7
  refine loop_for H7 (Src.range hA'.hh hrr7 (rng (by omega)) (nat0 _)) (fun i g₁ m₁ mc₁ mu₁ => mc₁ = up "q" (.int q tq) no ∧ (∃ tn, m₁ "n" = some (.int n tn)) ∧ m₁ "one" = some (.ref la) ∧ m₁ "two" = some (.ref lb) ∧ m₁ "row" = some (.ref D) ∧ ∃ oD ys, mu₁ = [(D, oD)] ∧ IsL oD ys ∧ IntsAre ys (lf n fun k => sP n a c i k))
    ⟨rfl, ⟨_, by with_unfolding_all rfl⟩, by with_unfolding_all rfl, by with_unfolding_all rfl, by with_unfolding_all rfl, _, _, rfl, IsL.lst _, by rw [Int.toNat_natCast]; exact ints_rep _ _ _⟩ ?_ ?_
  · rintro i v I oI g₁ m₁ mc₁ mu₁ h₁ tk E' hi hP le1 ⟨rfl, ⟨tn, e1⟩, e2, e3, e4, oD, ys, rfl, isl, hns⟩ H8
    obtain ⟨ti, e⟩ := hP
    rw [Int.zero_add] at e
    subst e
    replace hla := hla.mono le1
    replace hlb := hlb.mono le1
    walk_at "M"
    refine call_range1 H8 ?_
    intro h9 tk9 rr9 t9 u9 v9 hrr9 H9
    refine loop_for H9 (Src.range hA'.hh hrr9 (rng (by omega)) (nat0 _)) (fun j g₁ m₁ mc₁ mu₁ => mc₁ = up "q" (.int q tq) no ∧ m₁ "n" = some (.int n tn) ∧ m₁ "one" = some (.ref la) ∧ m₁ "two" = some (.ref lb) ∧ m₁ "row" = some (.ref D) ∧ m₁ "j" = some (.int i ti) ∧ ∃ oD ys, mu₁ = [(I, oI), (D, oD)] ∧ IsL oD ys ∧ IntsAre ys (lf n fun k => sP n a c i k + sm j fun l => if i + l < n then (if i + l = k then a i * c l else 0) else if i + l - n = k then 0 - a i * c l else 0))
      ⟨rfl, by with_unfolding_all assumption, by with_unfolding_all assumption, by with_unfolding_all assumption, by with_unfolding_all assumption, by with_unfolding_all rfl, oD, ys, rfl, isl, ints_ext hns fun k _ => (Int.add_zero _).symm⟩ ?_ ?_
    · rintro j v I2 oI2 g₂ m₂ mc₂ mu₂ h₂ tk₂ E2 hj hP2 le2 ⟨rfl, f1, f2, f3, f4, f5, oD, ys, rfl, isl, hns⟩ H10
      obtain ⟨tj, e⟩ := hP2
      rw [Int.zero_add] at e
      subst e
      replace hla := hla.mono le2
      replace hlb := hlb.mono le2
      have hjn : j < n := by omega
      have hin : i < n := by omega
      walk_at "M"
      split
      · rename_i hlt
        have hlt := of_decide_eq_true hlt
        have hjn' : i + j < n := by omega
        walk_at "M"
        refine row_sub (i := i + j) H10 (by walk_at "mem") isl hns (by omega) hjn' hn ?_
        intro u1
        walk_at "M"
        refine row_il (i := i) H10 hla rfl hin hn ?_
        intro u2
        walk_at "M"
        refine row_il (i := j) H10 hlb rfl hjn hn ?_
        intro u3
        walk_at "M"
        refine imul_ok (hm i j hin hjn) ?_
        walk_at "M"
        refine row_set (i := i + j) (pre := [(I2, oI2), (I, oI)]) (post := []) H10 isl hns (by omega) hjn' hn ?_
        intro h11 o11 ys11 isl11 hns11 H11
        walk_at "M"
        refine LoopEnd.mk (.refl _) H11 ⟨rfl, by with_unfolding_all assumption, by with_unfolding_all assumption, by with_unfolding_all assumption, by with_unfolding_all assumption, by with_unfolding_all assumption, o11, ys11, rfl, isl11, hns11 _ fun k hk => ?_⟩
        rw [sm_succ, if_pos hjn']
        by_cases z : i + j = k
        · subst z; rw [if_pos rfl, if_pos rfl]; omega
        · rw [if_neg z, if_neg z]; omega
      · rename_i hlt
        have hlt : ¬ ((i : Int) + j < n) := fun z => hlt (decide_eq_true z)
        have hjn' : i + j - n < n := by omega
        walk_at "M"
        refine row_sub (i := i + j - n) H10 (by walk_at "mem") isl hns (by omega) hjn' hn ?_
        intro u1
        walk_at "M"
        refine row_il (i := i) H10 hla rfl hin hn ?_
        intro u2
        walk_at "M"
        refine row_il (i := j) H10 hlb rfl hjn hn ?_
        intro u3
        walk_at "M"
        refine imul_ok (hm i j hin hjn) ?_
        walk_at "M"
        refine row_set (i := i + j - n) (pre := [(I2, oI2), (I, oI)]) (post := []) H10 isl hns (by omega) hjn' hn ?_
        intro h11 o11 ys11 isl11 hns11 H11
        walk_at "M"
        refine LoopEnd.mk (.refl _) H11 ⟨rfl, by with_unfolding_all assumption, by with_unfolding_all assumption, by with_unfolding_all assumption, by with_unfolding_all assumption, by with_unfolding_all assumption, o11, ys11, rfl, isl11, hns11 _ fun k hk => ?_⟩
        rw [sm_succ, if_neg (show ¬ i + j < n by omega)]
        by_cases z : i + j - n = k
        · subst z; rw [if_pos rfl, if_pos rfl]; omega
        · rw [if_neg z, if_neg z]; omega
    · rintro g₂ m₂ mc₂ mu₂ h₂ tk₂ le2 ⟨rfl, f1, f2, f3, f4, f5, oD, ys, rfl, isl, hns⟩ H10
      walk_at "M"
      refine LoopEnd.mk le2 H10 ⟨rfl, ⟨_, f1⟩, f2, f3, f4, oD, ys, rfl, isl, ints_ext hns fun k hk => ?_⟩
      unfold sP
      rw [sm_succ, to_nat0]
  rintro g₁ m₁ mc₁ mu₁ h8 tk8 le1 ⟨rfl, ⟨tn, e1⟩, e2, e3, e4, oD, ys, rfl, isl, hns⟩ H8
  obtain ⟨H11, le11⟩ := H8.freeze fD
  walk_at "M"
  refine ev_lc (cl := [("q", L + 1)]) (cn := ["q"]) (xc := false) (by walk_at "ok") fun ok => ?_
  walk_at "M"
  have hys := ints_len hns
  refine lc_run ok H11 (Src.list hA'.hh (FM.put_self ..) H11.on (isl.at_ (H11.on _ _ (FM.put_self ..)))) (by rw [sizeLine_eq]; omega) (fun i g₁ mu₁ zs => mu₁ = [] ∧ IntsAre zs (lf i fun k => nc n a c k % q)) ⟨rfl, .nil⟩ ?_ ?_
  · rintro i v C D2 oD2 I oI g₂ mu₁ zs h₁ tk E' hi hP le2 ha ⟨rfl, hzs⟩ hl H12
    obtain ⟨tv, hv⟩ := ints_at hns (show i < n by omega)
    rw [hv] at hP
    obtain rfl := Option.some.inj hP
    walk_at "M"
    refine EltEnd.mk (.refl _) H12 rfl ⟨rfl, ints_push hzs ?_⟩
    rw [← sP_eq a c (show i < n by omega), show ((n : Int) - 0).toNat = n by omega]
  · rintro g₂ mu₁ zs D2 oD2 h₁ tk le2 ha ⟨rfl, hzs⟩ hl isl2 fD2 H12
    obtain ⟨H13, le13⟩ := H12.freeze fD2
    rw [hys] at hzs
    dsimp only
    exact ret _ _ _ _ H13.ev (IntL.mk (FM.put_self ..) isl2 hzs)
end
end Mine
namespace Mine
section
variable {prog : Program} {w : World} {p : Program} {loose : List Str} {mean : ExcName → Option Value} {mg mb : Str → Option Value} {b : Heap}
variable {S : List Addr} {g0 : FM} {h0 : Heap} {env : Env} {g : FM} {m mc : Str → Option Value} {mu : List (Addr × Obj)}
variable {A : Around} {s : Shared} {E : Value → Shared → Prop} {R : Result → Shared → Prop}
set_option maxHeartbeats 400000 in

theorem take_spec (W : Wd (Mine.hd.heap_39 w.params) p loose mean mg mb b) (hB : Bg b g s.heap) (hA : Ao 2 A)
    {st cl : Addr} {most : Int} {tm : Tok} (hok : StOk st cl mu) (hlive : (∀ q ∈ mu, s.heap.get? q.1 = some q.2 ∧ g q.1 = none) ∧ (mu.map (·.1)).Nodup) (hm : 0 < most) (hm2 : most ≤ 1000000)
    (ret : ∀ r t mu' g' h' tk, Ev (mu.map (·.1)) g s.heap g' h' → StOk st cl mu' → (∀ q ∈ mu', h'.get? q.1 = some q.2) → 0 ≤ r → r < most → R (.ok (.ret (.int r t))) { s with heap := h', toks := tk }) :
    codeAny (model prog w) A (.call (.ref 238) ⟨[.ref st, .int most tm], []⟩) R s := by
  obtain ⟨oS, oC, k, tk0, vs, ns, rfl, iS, iC, hi, hne, hl64⟩ := hok
  refine enter (binds := [("state", .ref st), ("most", .int most tm)]) (m := up "most" (.int most tm) (up "state" (.ref st) no)) (mc := no)
    W hB hA (by k_is) (by k_is) (BindsTo.of_eq rfl) rfl (by decide) hlive.1 hlive.2 (fun _ => rfl) (fun _ => rfl) ?_
  intro L h₁ tk E' hA' H
  walk_at "M"
  have hlen := hi.length
  have hlen0 : (0 : Int) < vs.length := by omega
  refine mod_pos (by omega) ?_
  walk_at "M"
  have hz0 : 0 ≤ k % (vs.length : Int) := Int.emod_nonneg _ (by omega)
  have hz1 : k % (vs.length : Int) < vs.length := Int.emod_lt_of_pos _ (by omega)
  obtain ⟨tc, hc⟩ := hi.get (k % (vs.length : Int)).toNat (ns[(k % (vs.length : Int)).toNat]'(by omega)) (List.getElem?_eq_getElem (by omega))
  generalize ns[(k % (vs.length : Int)).toNat]'(by omega) = c at hc
  refine sub_mu (by assumption) (by walk_at "mem") iC hz0 (by omega) hc ?_
  walk_at "M"
  split
  · walk_at "M"
    rename St _ _ _ _ _ _ _ _ _ _ => H2
    refine set_list (pre := [(st, oS)]) (post := []) H2 iC hz0 (by omega) (by omega) ?_
    intro h3 o3 isl3 H3
    walk_at "M"
    refine ret _ _ _ _ _ _ H3.ev ⟨oS, o3, k, tk0, _, _, rfl, iS, isl3, ints_set hi _ _ _, by rw [List.length_set]; omega, by rw [List.length_set]; omega⟩ H3.mus (Int.emod_nonneg _ (by omega)) (Int.emod_lt_of_pos _ hm)
  · walk_at "M"
    rename St _ _ _ _ _ _ _ _ _ _ => H2
    refine set_list (pre := []) (post := [(cl, oC)]) H2 iS (by decide) (by decide) (Nat.le_of_ble_eq_true rfl) ?_
    intro h3 o3 isl3 H3
    replace isl3 : IsL o3 [_, .ref cl] := isl3
    walk_at "M"
    rename St _ _ _ _ _ _ _ _ _ _ => H4
    refine ret _ _ _ _ _ _ H4.ev ⟨o3, oC, _, _, _, _, rfl, isl3, iC, hi, by omega, by omega⟩ H4.mus (Int.emod_nonneg _ (by omega)) (Int.emod_lt_of_pos _ hm)
end
end Mine
namespace Mine
section
variable {prog : Program} {w : World} {p : Program} {loose : List Str} {mean : ExcName → Option Value} {mg mb : Str → Option Value} {b : Heap}
variable {S : List Addr} {g0 : FM} {h0 : Heap} {env : Env} {g : FM} {m mc : Str → Option Value} {mu : List (Addr × Obj)}
variable {A : Around} {s : Shared} {E : Value → Shared → Prop} {R : Result → Shared → Prop}

set_option maxHeartbeats 400000 in
theorem part_spec (W : Wd (Mine.hd.heap_39 w.params) p loose mean mg mb b) (hB : Bg b g s.heap) (hA : Ao 4 A)
    {st cl : Addr} {n : Int} {tn : Tok} (hok : StOk st cl mu) (hlive : (∀ q ∈ mu, s.heap.get? q.1 = some q.2 ∧ g q.1 = none) ∧ (mu.map (·.1)).Nodup) (hn0 : 0 ≤ n) (hn1 : n ≤ 1000)
    (ret : ∀ l ns mu' g' h' tk, Ev (mu.map (·.1)) g s.heap g' h' → StOk st cl mu' → (∀ q ∈ mu', h'.get? q.1 = some q.2) → IntL g' l ns → ns.length = n.toNat → (∀ x ∈ ns, -400 ≤ x ∧ x ≤ 598) → R (.ok (.ret (.ref l))) { s with heap := h', toks := tk }) :
    codeAny (model prog w) A (.call (.ref 243) ⟨[.ref st, .int n tn], []⟩) R s := by
  refine enter (binds := [("state", .ref st), ("n", .int n tn)]) (m := up "n" (.int n tn) no) (mc := up "state" (.ref st) no)
    W hB hA (by k_is) (by k_is) (BindsTo.of_eq rfl) rfl (by decide) hlive.1 hlive.2 (fun _ => rfl) (fun _ => rfl) ?_
  intro L h₁ tk E' hA' H
  walk_at "M"
  refine ev_lc (cl := [("state", L + 1)]) (cn := ["state"]) (xc := false) (by walk_at "ok") fun ok => ?_
  walk_at "M"
  refine call_range1 H ?_
  intro h2 tk2 r t1 u1 v1 hr H2
  refine lc_run ok H2 (Src.range hA'.hh hr (small_one (by decide) (by decide) (by omega) (by omega)) hn0) ?_
    (fun i g₁ mu₁ ys => StOk st cl mu₁ ∧ ∃ ns, IntsAre ys ns ∧ ∀ x ∈ ns, -400 ≤ x ∧ x ≤ 598) ⟨hok, [], .nil, fun _ q => nomatch q⟩ ?_ ?_
  · rw [sizeLine_eq]; omega
  · rintro i v C D oD I oI g₁ mu₁ ys h₁ tk E' hi hP le ha ⟨hok1, ns, hns, hbd⟩ hl H3
    walk_at "M"
    refine wpAny_call (take_spec W H3.Bg (hA'.le (by decide)) hok1 (H3.muFacts (pre := [(D, oD), (I, oI)])) (by decide) (by decide) ?_)
    intro r2 t2 mu2 g2 h4 tk4 ev2 hok2 live2 hr0 hr1
    have H4 := H3.callMu (pre := [(D, oD), (I, oI)]) ev2 (by rw [hok2.adr, hok1.adr]) live2
    walk_at "M"
    refine EltEnd.mk (mu₂ := mu2) ev2.gg H4 (by rw [hok2.adr, hok.adr]) ⟨hok2, ns ++ [r2 - 400], hns.append (.cons _ _ .nil), fun x hx => ?_⟩
    rcases List.mem_append.mp hx with hx | hx
    · exact hbd x hx
    · rw [List.mem_singleton.mp hx]; omega
  · rintro g₁ mu₁ ys D oD h₁ tk le ha ⟨hok1, ns, hns, hbd⟩ hl isl fD H3
    obtain ⟨H4, le4⟩ := H3.freeze fD
    refine ret D ns mu₁ _ _ _ H4.ev hok1 H4.mus (IntL.mk (FM.put_self ..) isl hns) (by rw [← hns.length, hl]; omega) hbd
end
end Mine
namespace Mine
section
variable {prog : Program} {w : World} {p : Program} {loose : List Str} {mean : ExcName → Option Value} {mg mb : Str → Option Value} {b : Heap}
variable {S : List Addr} {g0 : FM} {h0 : Heap} {env : Env} {g : FM} {m mc : Str → Option Value} {mu : List (Addr × Obj)}
variable {A : Around} {s : Shared} {E : Value → Shared → Prop} {R : Result → Shared → Prop}
theorem mulok {x y : Int} (h1 : -1000000 ≤ y) (h2 : y ≤ 1000000) : IntMulOk x y := IntMulOk.of_right (intBits_le_64 (by omega) (by omega))
theorem mulok_mod {x y q : Int} (h1 : 0 < q) (h2 : q ≤ 1000000) : IntMulOk x (y % q) := by
  have a := Int.emod_nonneg y (show q ≠ 0 by omega)
  have c := Int.emod_lt_of_pos y h1
  exact mulok (by omega) (by omega)

set_option maxHeartbeats 2000000 in
theorem law_spec (W : Wd (Mine.hd.heap_39 w.params) p loose mean mg mb b) (hB : Bg b g s.heap) (hA : Ao 12 A)
    {l : Addr} {ns : List Int} (hl : IntL g l ns) (hn63 : ns.length ≤ 63)
    (ret : ∀ g' h' tk, Ev [] g s.heap g' h' → R (.ok (.ret (.bool true))) { s with heap := h', toks := tk }) :
    codeAny (model prog w) A (.call (.ref 260) ⟨[.ref l], []⟩) R s := by
  refine enter (mu := []) (binds := [("script", .ref l)]) (m := up "script" (.ref l) no) (mc := no)
    W hB hA (by k_is) (by k_is) (BindsTo.of_eq rfl) rfl (by decide) (fun _ q => nomatch q) .nil (fun _ => rfl) (fun _ => rfl) ?_
  intro L h₁ tk E' hA' H
  walk_at "M"
  try dsimp only
  refine wpAny_call (state_spec W H.Bg (hA'.le (by decide)) hl hn63 ?_)
  intro st cl mu1 g1 h1 tk1 ev1 hok1 live1 nd1
  have H1 := H.draws ev1 live1 nd1
  walk_at "M"
  try dsimp only
  rename St _ _ _ _ _ _ _ _ _ _ => H2
  rw [List.append_nil] at H2
  refine wpAny_call (take_spec W H2.Bg (hA'.le (by decide)) hok1 (H2.muFacts (pre := [])) (by decide) (by decide) ?_)
  intro r1 t1 mu2 g2 h2 tk2 ev2 hok2 live2 r10 r11
  have H3 := H2.callMu (pre := []) ev2 (by rw [hok2.adr, hok1.adr]) live2
  walk_at "M"
  try dsimp only
  refine wpAny_call (take_spec W H3.Bg (hA'.le (by decide)) hok2 (H3.muFacts (pre := [])) (by decide) (by decide) ?_)
  intro r2 t2 mu3 g3 h3 tk3 ev3 hok3 live3 r20 r21
  have H4 := H3.callMu (pre := []) ev3 (by rw [hok3.adr, hok2.adr]) live3
  walk_at "M"
  try dsimp only
  obtain ⟨q, hq⟩ : ∃ q, 2 + r1 = q := ⟨_, rfl⟩
  obtain ⟨n, hnn⟩ : ∃ n : Nat, 2 + r2 = (n : Int) := ⟨(2 + r2).toNat, by omega⟩
  have hq2 : 2 ≤ q := by omega
  have hq5 : q ≤ 500 := by omega
  have hq0 : 0 < q := by omega
  have hn2 : 2 ≤ n := by omega
  have hn6 : n ≤ 6 := by omega
  have hn : n ≤ 1000 := by omega
  refine ⟨sz1 rfl, fun a5 h5 ea eh => ?_⟩
  obtain ⟨g5, le5, ht5, _, H5⟩ := H4.mkT ea eh
  rw [hq, hnn] at ht5
  refine tup_assign2 hA'.hh H5 ht5 ?_
  intro h6 H6
  walk_at "M"
  try dsimp only
  rename St _ _ _ _ _ _ _ _ _ _ => H7
  refine ring_make W H7.Bg (hA'.le (by decide)) ?_
  intro r g8 h8 tk8 ev8 hr
  have H8 := H7.call0 ev8
  walk_at "M"
  try dsimp only
  rename St _ _ _ _ _ _ _ _ _ _ => H8
  refine gm_R (f := 49) W H8 hr (by k_is) (by k_is) (by k_is) (fun _ _ _ _ _ _ => rfl) ?_
  refine x_fn0 W H8 (by k_is) ?_
  refine wpAny_call (gen_spec W H8.Bg (hA'.le (by decide)) hr hn hn2 ?_)
  intro z9 g9 h9 tk9 ev9 hz9
  have H9 := H8.call0 ev9
  replace hr := hr.mono (ev9.gg)
  refine ga_coeffs W H9 hz9 ?_
  intro lz9 hlz9
  walk_at "M"
  try dsimp only
  refine ⟨sz1 rfl, fun a10 h10 ea eh => ?_⟩
  obtain ⟨f10, H10⟩ := H9.mkL ea eh
  walk_at "M"
  try dsimp only
  refine ⟨sz1 rfl, fun a11 h11 ea eh => ?_⟩
  obtain ⟨f11, H11⟩ := H10.mkL ea eh
  walk_at "M"
  try dsimp only
  refine mul_one H11 (by omega) (by omega) ?_
  intro a12 h12 f12 _ H12
  refine add_lists H12 ((IsL.lst _).at_ (H12.mus _ (.tail _ (.head _)))) ((IsL.lst _).at_ (H12.mus _ (.head _))) (by rw [sizeLine_eq]; simp; omega) ?_
  intro a13 h13 f13 _ H13
  have H14 := (H13.freeze f13).1
  have le14 := (H13.freeze f13).2
  replace hr := hr.mono (le14)
  replace hlz9 := hlz9.mono (le14)
  refine ne_same H14 hA' hlz9 (IntL.mk (FM.put_self ..) (IsL.lst _) (gen_ints hn2 _ _ _)) rfl ?_
  walk_at "M"
  try dsimp only
  refine wpAny_call (part_spec W H14.Bg (hA'.le (by decide)) hok3 (H14.muFacts (pre := [(a12, _), (a10, _)])) (by omega) (by omega) ?_)
  intro l1 ns1 mu4 g16 h16 tk16 ev16 hok4 live4 hl1 len1 bd1
  have H16 := H14.callMu (pre := [(a12, _), (a10, _)]) ev16 (by rw [hok4.adr, hok3.adr]) live4
  replace hr := hr.mono (ev16.gg)
  walk_at "M"
  try dsimp only
  refine wpAny_call (part_spec W H16.Bg (hA'.le (by decide)) hok4 (H16.muFacts (pre := [(a12, _), (a10, _)])) (by omega) (by omega) ?_)
  intro l2 ns2 mu5 g17 h17 tk17 ev17 hok5 live5 hl2 len2 bd2
  have H17 := H16.callMu (pre := [(a12, _), (a10, _)]) ev17 (by rw [hok5.adr, hok4.adr]) live5
  replace hr := hr.mono (ev17.gg)
  replace hl1 := hl1.mono (ev17.gg)
  walk_at "M"
  try dsimp only
  refine wpAny_call (part_spec W H17.Bg (hA'.le (by decide)) hok5 (H17.muFacts (pre := [(a12, _), (a10, _)])) (by omega) (by omega) ?_)
  intro l3 ns3 mu6 g18 h18 tk18 ev18 hok6 live6 hl3 len3 bd3
  have H18 := (H17.callMu (pre := [(a12, _), (a10, _)]) ev18 (by rw [hok6.adr, hok5.adr]) live6).drop.drop
  replace hr := hr.mono (ev18.gg)
  replace hl1 := hl1.mono (ev18.gg)
  replace hl2 := hl2.mono (ev18.gg)
  obtain ⟨a1, hl1, bd1⟩ := hl1.row (by rw [len1, Int.toNat_natCast]) bd1
  obtain ⟨a2, hl2, bd2⟩ := hl2.row (by rw [len2, Int.toNat_natCast]) bd2
  obtain ⟨a3, hl3, bd3⟩ := hl3.row (by rw [len3, Int.toNat_natCast]) bd3
  walk_at "M"
  try dsimp only
  refine ⟨sz1 rfl, fun a19 h19 ea eh => ?_⟩
  obtain ⟨g19, le19, ht19, _, H19⟩ := H18.mkT ea eh
  clear ea eh
  refine tup_assign3 hA'.hh H19 ht19 ?_
  intro h20 H20
  replace hr := hr.mono (le19)
  replace hl1 := hl1.mono (le19)
  replace hl2 := hl2.mono (le19)
  replace hl3 := hl3.mono (le19)
  walk_at "M"
  try dsimp only
  rename St _ _ _ _ _ _ _ _ _ _ => H21
  obtain ⟨d22, es22, k22, i22⟩ := hr.at
  refine x_icall (H21.X W) (i22.mono H21.on) (by k_is) ?_
  walk_at "M"
  try dsimp only
  refine copy_il H21 hl1 (by rw [lf_length]; omega) ?_
  intro lc22 gc22 hc22 lec22 hlc22 Hc22
  walk_at "M"
  try dsimp only
  refine ⟨⟨Hc22.Xh W, (i22.mono lec22).mono Hc22.on⟩, ?_⟩
  refine rcall (x := .Name "x" ⟨0, 0, 0, 0⟩) (pos := ⟨0, 0, 0, 0⟩) W Hc22 (hA'.le (by decide)) (hr.mono lec22) hlc22 hn (by rw [lf_length]; exact Nat.le_refl _) ?_
  intro f1 gd22 hd22 tkd22 evd22 pf1
  rw [pad_full] at pf1
  have H22 := Hc22.call0 evd22
  replace hr := hr.mono (lec22)
  replace hl1 := hl1.mono (lec22)
  replace hl2 := hl2.mono (lec22)
  replace hl3 := hl3.mono (lec22)
  replace hr := hr.mono (evd22.gg)
  replace hl1 := hl1.mono (evd22.gg)
  replace hl2 := hl2.mono (evd22.gg)
  replace hl3 := hl3.mono (evd22.gg)
  clear i22 hlc22 Hc22
  walk_at "M"
  try dsimp only
  obtain ⟨d23, es23, k23, i23⟩ := hr.at
  refine x_icall (H22.X W) (i23.mono H22.on) (by k_is) ?_
  walk_at "M"
  try dsimp only
  refine copy_il H22 hl2 (by rw [lf_length]; omega) ?_
  intro lc23 gc23 hc23 lec23 hlc23 Hc23
  walk_at "M"
  try dsimp only
  refine ⟨⟨Hc23.Xh W, (i23.mono lec23).mono Hc23.on⟩, ?_⟩
  refine rcall (x := .Name "x" ⟨0, 0, 0, 0⟩) (pos := ⟨0, 0, 0, 0⟩) W Hc23 (hA'.le (by decide)) (hr.mono lec23) hlc23 hn (by rw [lf_length]; exact Nat.le_refl _) ?_
  intro f2 gd23 hd23 tkd23 evd23 pf2
  rw [pad_full] at pf2
  have H23 := Hc23.call0 evd23
  replace hr := hr.mono (lec23)
  replace hl1 := hl1.mono (lec23)
  replace hl2 := hl2.mono (lec23)
  replace hl3 := hl3.mono (lec23)
  replace pf1 := pf1.mono (lec23)
  replace hr := hr.mono (evd23.gg)
  replace hl1 := hl1.mono (evd23.gg)
  replace hl2 := hl2.mono (evd23.gg)
  replace hl3 := hl3.mono (evd23.gg)
  replace pf1 := pf1.mono (evd23.gg)
  clear i23 hlc23 Hc23
  walk_at "M"
  try dsimp only
  obtain ⟨d24, es24, k24, i24⟩ := hr.at
  refine x_icall (H23.X W) (i24.mono H23.on) (by k_is) ?_
  walk_at "M"
  try dsimp only
  refine copy_il H23 hl3 (by rw [lf_length]; omega) ?_
  intro lc24 gc24 hc24 lec24 hlc24 Hc24
  walk_at "M"
  try dsimp only
  refine ⟨⟨Hc24.Xh W, (i24.mono lec24).mono Hc24.on⟩, ?_⟩
  refine rcall (x := .Name "x" ⟨0, 0, 0, 0⟩) (pos := ⟨0, 0, 0, 0⟩) W Hc24 (hA'.le (by decide)) (hr.mono lec24) hlc24 hn (by rw [lf_length]; exact Nat.le_refl _) ?_
  intro f3 gd24 hd24 tkd24 evd24 pf3
  rw [pad_full] at pf3
  have H24 := Hc24.call0 evd24
  replace hr := hr.mono (lec24)
  replace hl1 := hl1.mono (lec24)
  replace hl2 := hl2.mono (lec24)
  replace hl3 := hl3.mono (lec24)
  replace pf1 := pf1.mono (lec24)
  replace pf2 := pf2.mono (lec24)
  replace hr := hr.mono (evd24.gg)
  replace hl1 := hl1.mono (evd24.gg)
  replace hl2 := hl2.mono (evd24.gg)
  replace hl3 := hl3.mono (evd24.gg)
  replace pf1 := pf1.mono (evd24.gg)
  replace pf2 := pf2.mono (evd24.gg)
  clear i24 hlc24 Hc24
  walk_at "M"
  try dsimp only
  refine ⟨sz1 rfl, fun a25 h25 ea eh => ?_⟩
  obtain ⟨g25, le25, ht25, _, H25⟩ := H24.mkT ea eh
  clear ea eh
  refine tup_swap3 hA'.hh H25 ht25 ?_
  intro h26 H26
  replace hr := hr.mono (le25)
  replace hl1 := hl1.mono (le25)
  replace hl2 := hl2.mono (le25)
  replace hl3 := hl3.mono (le25)
  replace pf1 := pf1.mono (le25)
  replace pf2 := pf2.mono (le25)
  replace pf3 := pf3.mono (le25)
  walk_at "M"
  try dsimp only
  rename St _ _ _ _ _ _ _ _ _ _ => H27
  refine wpAny_call (product_spec W H27.Bg (hA'.le (by decide)) hl1 hl2 hq0 hn (fun i j _ hj => mulok (by have := bd2 j hj; omega) (by have := bd2 j hj; omega)) ?_)
  intro ld g28 h28 tk28 ev28 hld
  have H28 := H27.call0 ev28
  replace hr := hr.mono (ev28.gg)
  replace hl1 := hl1.mono (ev28.gg)
  replace hl2 := hl2.mono (ev28.gg)
  replace hl3 := hl3.mono (ev28.gg)
  replace pf1 := pf1.mono (ev28.gg)
  replace pf2 := pf2.mono (ev28.gg)
  replace pf3 := pf3.mono (ev28.gg)
  walk_at "M"
  try dsimp only
  rename St _ _ _ _ _ _ _ _ _ _ => H29
  have m12 : ∀ i j, i < n → j < n → IntMulOk (a1 i) (a2 j) := fun i j _ hj => mulok (by have := bd2 j hj; omega) (by have := bd2 j hj; omega)
  have m21 : ∀ i j, i < n → j < n → IntMulOk (a2 i) (a1 j) := fun i j _ hj => mulok (by have := bd1 j hj; omega) (by have := bd1 j hj; omega)
  have m13 : ∀ i j, i < n → j < n → IntMulOk (a1 i) (a3 j) := fun i j _ hj => mulok (by have := bd3 j hj; omega) (by have := bd3 j hj; omega)
  have m23 : ∀ i j, i < n → j < n → IntMulOk (a2 i) (a3 j) := fun i j _ hj => mulok (by have := bd3 j hj; omega) (by have := bd3 j hj; omega)
  have hn1 : 1 ≤ n := by omega
  refine bin_mul W H29 (hA'.le (by decide)) pf1 pf2 hr hq0 hn hn1 m12 ?_
  intro z30 g30 h30 tk30 ev30 q1
  have H30 := H29.call0 ev30
  replace hr := hr.mono (ev30.gg)
  replace hl1 := hl1.mono (ev30.gg)
  replace hl2 := hl2.mono (ev30.gg)
  replace hl3 := hl3.mono (ev30.gg)
  replace pf1 := pf1.mono (ev30.gg)
  replace pf2 := pf2.mono (ev30.gg)
  replace pf3 := pf3.mono (ev30.gg)
  replace hld := hld.mono (ev30.gg)
  refine ga_coeffs W H30 q1 ?_
  intro lc1 c1
  walk_at "M"
  try dsimp only
  refine ne_same H30 hA' c1 hld rfl ?_
  walk_at "M"
  try dsimp only
  refine bin_mul W H30 (hA'.le (by decide)) pf2 pf1 hr hq0 hn hn1 m21 ?_
  intro z31 g31 h31 tk31 ev31 q2
  have H31 := H30.call0 ev31
  replace hr := hr.mono (ev31.gg)
  replace hl1 := hl1.mono (ev31.gg)
  replace hl2 := hl2.mono (ev31.gg)
  replace hl3 := hl3.mono (ev31.gg)
  replace pf1 := pf1.mono (ev31.gg)
  replace pf2 := pf2.mono (ev31.gg)
  replace pf3 := pf3.mono (ev31.gg)
  replace hld := hld.mono (ev31.gg)
  refine ga_coeffs W H31 q2 ?_
  intro lc2 c2
  walk_at "M"
  try dsimp only
  refine ne_same H31 hA' c2 hld (lf_ext fun k _ => by rw [nc_comm]) ?_
  walk_at "M"
  try dsimp only
  refine bin_add W H31 (hA'.le (by decide)) pf2 pf3 hr hq0 hn ?_
  intro z32 g32 h32 tk32 ev32 q3
  have H32 := H31.call0 ev32
  replace hr := hr.mono (ev32.gg)
  replace hl1 := hl1.mono (ev32.gg)
  replace hl2 := hl2.mono (ev32.gg)
  replace hl3 := hl3.mono (ev32.gg)
  replace pf1 := pf1.mono (ev32.gg)
  replace pf2 := pf2.mono (ev32.gg)
  replace pf3 := pf3.mono (ev32.gg)
  refine bin_mul W H32 (hA'.le (by decide)) pf1 q3 hr hq0 hn hn1 (fun i j _ _ => mulok_mod hq0 (by omega)) ?_
  intro z33 g33 h33 tk33 ev33 q4
  have H33 := H32.call0 ev33
  replace hr := hr.mono (ev33.gg)
  replace hl1 := hl1.mono (ev33.gg)
  replace hl2 := hl2.mono (ev33.gg)
  replace hl3 := hl3.mono (ev33.gg)
  replace pf1 := pf1.mono (ev33.gg)
  replace pf2 := pf2.mono (ev33.gg)
  replace pf3 := pf3.mono (ev33.gg)
  refine ga_coeffs W H33 q4 ?_
  intro lc4 c4
  walk_at "M"
  try dsimp only
  refine bin_mul W H33 (hA'.le (by decide)) pf1 pf2 hr hq0 hn hn1 m12 ?_
  intro z34 g34 h34 tk34 ev34 q5
  have H34 := H33.call0 ev34
  replace hr := hr.mono (ev34.gg)
  replace hl1 := hl1.mono (ev34.gg)
  replace hl2 := hl2.mono (ev34.gg)
  replace hl3 := hl3.mono (ev34.gg)
  replace pf1 := pf1.mono (ev34.gg)
  replace pf2 := pf2.mono (ev34.gg)
  replace pf3 := pf3.mono (ev34.gg)
  replace c4 := c4.mono (ev34.gg)
  walk_at "M"
  try dsimp only
  refine bin_mul W H34 (hA'.le (by decide)) pf1 pf3 hr hq0 hn hn1 m13 ?_
  intro z35 g35 h35 tk35 ev35 q6
  have H35 := H34.call0 ev35
  replace hr := hr.mono (ev35.gg)
  replace hl1 := hl1.mono (ev35.gg)
  replace hl2 := hl2.mono (ev35.gg)
  replace hl3 := hl3.mono (ev35.gg)
  replace pf1 := pf1.mono (ev35.gg)
  replace pf2 := pf2.mono (ev35.gg)
  replace pf3 := pf3.mono (ev35.gg)
  replace c4 := c4.mono (ev35.gg)
  replace q5 := q5.mono (ev35.gg)
  refine bin_add W H35 (hA'.le (by decide)) q5 q6 hr hq0 hn ?_
  intro z36 g36 h36 tk36 ev36 q7
  have H36 := H35.call0 ev36
  replace hr := hr.mono (ev36.gg)
  replace hl1 := hl1.mono (ev36.gg)
  replace hl2 := hl2.mono (ev36.gg)
  replace hl3 := hl3.mono (ev36.gg)
  replace pf1 := pf1.mono (ev36.gg)
  replace pf2 := pf2.mono (ev36.gg)
  replace pf3 := pf3.mono (ev36.gg)
  replace c4 := c4.mono (ev36.gg)
  refine ga_coeffs W H36 q7 ?_
  intro lc7 c7
  walk_at "M"
  try dsimp only
  refine ne_same H36 hA' c4 c7 (lf_ext fun k _ => by
    have e := nc_mod (n := n) (q := q) (a := a1) (a' := a1) (b := fun k => (a2 k + a3 k) % q) (b' := fun k => a2 k + a3 k) k (fun _ _ => rfl) (fun i _ => Int.emod_emod_of_dvd _ (Int.dvd_refl _))
    rw [e, nc_add, ← Int.add_emod]) ?_
  walk_at "M"
  try dsimp only
  refine bin_mul W H36 (hA'.le (by decide)) pf1 pf2 hr hq0 hn hn1 m12 ?_
  intro z37 g37 h37 tk37 ev37 q8
  have H37 := H36.call0 ev37
  replace hr := hr.mono (ev37.gg)
  replace hl1 := hl1.mono (ev37.gg)
  replace hl2 := hl2.mono (ev37.gg)
  replace hl3 := hl3.mono (ev37.gg)
  replace pf1 := pf1.mono (ev37.gg)
  replace pf2 := pf2.mono (ev37.gg)
  replace pf3 := pf3.mono (ev37.gg)
  walk_at "M"
  try dsimp only
  refine bin_mul W H37 (hA'.le (by decide)) q8 pf3 hr hq0 hn hn1 (fun i j _ hj => mulok (by have := bd3 j hj; omega) (by have := bd3 j hj; omega)) ?_
  intro z38 g38 h38 tk38 ev38 q9
  have H38 := H37.call0 ev38
  replace hr := hr.mono (ev38.gg)
  replace hl1 := hl1.mono (ev38.gg)
  replace hl2 := hl2.mono (ev38.gg)
  replace hl3 := hl3.mono (ev38.gg)
  replace pf1 := pf1.mono (ev38.gg)
  replace pf2 := pf2.mono (ev38.gg)
  replace pf3 := pf3.mono (ev38.gg)
  refine ga_coeffs W H38 q9 ?_
  intro lc9 c9
  walk_at "M"
  try dsimp only
  refine bin_mul W H38 (hA'.le (by decide)) pf2 pf3 hr hq0 hn hn1 m23 ?_
  intro z39 g39 h39 tk39 ev39 q10
  have H39 := H38.call0 ev39
  replace hr := hr.mono (ev39.gg)
  replace hl1 := hl1.mono (ev39.gg)
  replace hl2 := hl2.mono (ev39.gg)
  replace hl3 := hl3.mono (ev39.gg)
  replace pf1 := pf1.mono (ev39.gg)
  replace pf2 := pf2.mono (ev39.gg)
  replace pf3 := pf3.mono (ev39.gg)
  replace c9 := c9.mono (ev39.gg)
  refine bin_mul W H39 (hA'.le (by decide)) pf1 q10 hr hq0 hn hn1 (fun i j _ _ => mulok_mod hq0 (by omega)) ?_
  intro z40 g40 h40 tk40 ev40 q11
  have H40 := H39.call0 ev40
  replace hr := hr.mono (ev40.gg)
  replace hl1 := hl1.mono (ev40.gg)
  replace hl2 := hl2.mono (ev40.gg)
  replace hl3 := hl3.mono (ev40.gg)
  replace pf1 := pf1.mono (ev40.gg)
  replace pf2 := pf2.mono (ev40.gg)
  replace pf3 := pf3.mono (ev40.gg)
  replace c9 := c9.mono (ev40.gg)
  refine ga_coeffs W H40 q11 ?_
  intro lc11 c11
  walk_at "M"
  try dsimp only
  refine ne_same H40 hA' c9 c11 (lf_ext fun k hk => by
    have e1 := nc_mod (n := n) (q := q) (a := fun k => nc n a1 a2 k % q) (a' := nc n a1 a2) (b := a3) (b' := a3) k (fun i _ => Int.emod_emod_of_dvd _ (Int.dvd_refl _)) (fun _ _ => rfl)
    have e2 := nc_mod (n := n) (q := q) (a := a1) (a' := a1) (b := fun k => nc n a2 a3 k % q) (b' := nc n a2 a3) k (fun _ _ => rfl) (fun i _ => Int.emod_emod_of_dvd _ (Int.dvd_refl _))
    rw [e1, e2, nc_assoc a1 a2 a3 hk]) ?_
  walk_at "M"
  try dsimp only
  refine wpAny_call (take_spec W H40.Bg (hA'.le (by decide)) hok6 (H40.muFacts (pre := [])) (by decide) (by decide) ?_)
  intro r50 t50 mu7 g50 h50 tk50 ev50 hok7 live7 r500 r501
  have H50 := H40.callMu (pre := []) ev50 (by rw [hok7.adr, hok6.adr]) live7
  replace hr := hr.mono (ev50.gg)
  replace hl1 := hl1.mono (ev50.gg)
  replace hl2 := hl2.mono (ev50.gg)
  replace hl3 := hl3.mono (ev50.gg)
  replace pf1 := pf1.mono (ev50.gg)
  replace pf2 := pf2.mono (ev50.gg)
  replace pf3 := pf3.mono (ev50.gg)
  walk_at "M"
  try dsimp only
  rename St _ _ _ _ _ _ _ _ _ _ => H51
  have hy : Builtin.Int.intBits (r50 - 1000) ≤ 64 := intBits_le_64 (by omega) (by omega)
  refine bin_mulI W H51 (hA'.le (by decide)) pf1 hr hq0 hn hy ?_
  intro z52 g52 h52 tk52 ev52 q52
  have H52 := H51.call0 ev52
  replace hr := hr.mono (ev52.gg)
  replace hl1 := hl1.mono (ev52.gg)
  replace hl2 := hl2.mono (ev52.gg)
  replace hl3 := hl3.mono (ev52.gg)
  replace pf1 := pf1.mono (ev52.gg)
  replace pf2 := pf2.mono (ev52.gg)
  replace pf3 := pf3.mono (ev52.gg)
  refine ga_coeffs W H52 q52 ?_
  intro lc52 c52
  walk_at "M"
  try dsimp only
  refine ev_lc (cl := [("q", L + 1), ("number", L + 4)]) (cn := ["q", "number"]) (xc := false) (by walk_at "ok") fun ok => ?_
  walk_at "M"
  try dsimp only
  obtain ⟨vs53, o53, k53, go53, oc53, od53, hi53⟩ := id hl1
  have n53 := ints_len hi53
  refine lc_run ok H52 (Src.list hA'.hh go53 H52.on (IsL.at_ ⟨oc53, k53, od53⟩ (H52.on _ _ go53))) (by rw [sizeLine_eq]; omega) (fun i g₁ mu₁ zs => mu7 = mu₁ ∧ IntsAre zs (lf i fun k => a1 k * (r50 - 1000) % q)) ⟨rfl, .nil⟩ ?_ ?_
  · rintro i v C D2 oD2 I oI g₂ mu₁ zs h₁ tk E' hi hP le2 ha ⟨rfl, hzs⟩ hl H12
    obtain ⟨tv, hv⟩ := ints_at hi53 (show i < n by omega)
    rw [hv] at hP
    obtain rfl := Option.some.inj hP
    walk_at "M"
    refine mul_lit hy ?_
    walk_at "M"
    exact EltEnd.mk (.refl _) H12 rfl ⟨rfl, ints_push hzs rfl⟩
  rintro g54 mu₁ zs D54 oD54 h54 tk54 le54 ha ⟨rfl, hzs⟩ hl54 isl54 fD54 H54
  obtain ⟨g55, le55, p55, H55⟩ := H54.freeze' fD54
  replace hr := hr.mono (le54)
  replace hl1 := hl1.mono (le54)
  replace hl2 := hl2.mono (le54)
  replace hl3 := hl3.mono (le54)
  replace pf1 := pf1.mono (le54)
  replace pf2 := pf2.mono (le54)
  replace pf3 := pf3.mono (le54)
  replace c52 := c52.mono (le54)
  replace hr := hr.mono (le55)
  replace hl1 := hl1.mono (le55)
  replace hl2 := hl2.mono (le55)
  replace hl3 := hl3.mono (le55)
  replace pf1 := pf1.mono (le55)
  replace pf2 := pf2.mono (le55)
  replace pf3 := pf3.mono (le55)
  replace c52 := c52.mono (le55)
  rw [n53] at hzs
  walk_at "M"
  try dsimp only
  refine ne_same H55 hA' c52 (IntL.mk p55 isl54 hzs) rfl ?_
  walk_at "M"
  try dsimp only
  refine bin_add W H55 (hA'.le (by decide)) pf2 pf3 hr hq0 hn ?_
  intro z60 g60 h60 tk60 ev60 q60
  have H60 := H55.call0 ev60
  replace hr := hr.mono (ev60.gg)
  replace hl1 := hl1.mono (ev60.gg)
  replace hl2 := hl2.mono (ev60.gg)
  replace hl3 := hl3.mono (ev60.gg)
  replace pf1 := pf1.mono (ev60.gg)
  replace pf2 := pf2.mono (ev60.gg)
  replace pf3 := pf3.mono (ev60.gg)
  refine ga_coeffs W H60 q60 ?_
  intro lc60 c60
  walk_at "M"
  try dsimp only
  refine ev_lc (cl := [("two", L + 2), ("three", L + 3), ("q", L + 1)]) (cn := ["two", "three", "q"]) (xc := false) (by walk_at "ok") fun ok => ?_
  walk_at "M"
  try dsimp only
  refine call_range1 H60 ?_
  intro h61 tk61 rr61 t61 u61 v61 hrr61 H61
  walk_at "M"
  try dsimp only
  refine lc_run ok H61 (Src.range hA'.hh hrr61 (rng (by omega)) (nat0 _)) (by rw [sizeLine_eq]; omega) (fun i g₁ mu₁ zs => mu7 = mu₁ ∧ IntsAre zs (lf i fun k => (a2 k + a3 k) % q)) ⟨rfl, .nil⟩ ?_ ?_
  · rintro i v C D2 oD2 I oI g₂ mu₁ zs h₁ tk E' hi hP le2 ha ⟨rfl, hzs⟩ hl H12
    obtain ⟨ti, e⟩ := hP
    rw [Int.zero_add] at e
    subst e
    have hin : i < n := by omega
    walk_at "M"
    refine row_il (i := i) H12 (hl2.mono le2) rfl hin hn ?_
    intro u2
    walk_at "M"
    refine row_il (i := i) H12 (hl3.mono le2) rfl hin hn ?_
    intro u3
    walk_at "M"
    exact EltEnd.mk (.refl _) H12 rfl ⟨rfl, ints_push hzs rfl⟩
  rintro g62 mu₁ zs D62 oD62 h62 tk62 le62 ha ⟨rfl, hzs⟩ hl62 isl62 fD62 H62
  obtain ⟨g63, le63, p63, H63⟩ := H62.freeze' fD62
  replace hr := hr.mono (le62)
  replace hl1 := hl1.mono (le62)
  replace hl2 := hl2.mono (le62)
  replace hl3 := hl3.mono (le62)
  replace pf1 := pf1.mono (le62)
  replace pf2 := pf2.mono (le62)
  replace pf3 := pf3.mono (le62)
  replace c60 := c60.mono (le62)
  replace hr := hr.mono (le63)
  replace hl1 := hl1.mono (le63)
  replace hl2 := hl2.mono (le63)
  replace hl3 := hl3.mono (le63)
  replace pf1 := pf1.mono (le63)
  replace pf2 := pf2.mono (le63)
  replace pf3 := pf3.mono (le63)
  replace c60 := c60.mono (le63)
  rw [to_nat0] at hzs
  walk_at "M"
  try dsimp only
  refine ne_same H63 hA' c60 (IntL.mk p63 isl62 hzs) rfl ?_
  walk_at "M"
  try dsimp only
  refine imul_ok (IntMulOk.of_left (intBits_le_64 (by omega) (by omega))) ?_
  walk_at "M"
  try dsimp only
  refine wpAny_call (take_spec W H63.Bg (hA'.le (by decide)) hok7 (H63.muFacts (pre := [])) (by omega) (by omega) ?_)
  intro r64 t64 mu8 g64 h64 tk64 ev64 hok8 live8 r640 r641
  have H64 := H63.callMu (pre := []) ev64 (by rw [hok8.adr, hok7.adr]) live8
  replace hr := hr.mono (ev64.gg)
  replace hl1 := hl1.mono (ev64.gg)
  obtain ⟨sft, rfl⟩ := Int.eq_ofNat_of_zero_le r640
  walk_at "M"
  try dsimp only
  refine wpAny_call (powers_spec W H64.Bg (hA'.le (by decide)) hr hl1 hn hn2 hq2 (by omega) (by omega) ?_)
  intro g65 h65 tk65 ev65
  have H65 := H64.call0 ev65
  walk_at "M"
  try dsimp only
  exact ret _ _ _ H65.ev
end
end Mine
namespace Mine
theorem good_true {s s' : Shared} {cl : Str → Option Addr} {mean : ExcName → Option Value} {args : List WData} {c : ClaimW} (hr : ∀ k, c.raises args k = false) (hp : c.post args (.bool true) args = true)
    (k : ∀ a o, s.heap.get? a = some o → s'.heap.get? a = some o) (os : s'.os = s.os) (gs : s'.gens = #[]) : GoodW c cl mean args s (.ok (.ret (.bool true))) s' :=
  ⟨.inl ⟨_, _, [], rfl, hr, .bool true, hp, fun _ => ⟨.nil, fun _ q => nomatch q⟩⟩, k, os, gs⟩
theorem room_caller : Ao 12 callerA := ⟨rfl, by decide, by decide⟩
end Mine
set_option maxHeartbeats 4000000 in
theorem PySem.Challenge.cw_yb0001_01_holds : PySem.Challenge.rw_yb0001_01.Holds :=
  Mine.hd (by
    k_fill
    intro w s₀ s₁ mg mb G Y fa o pm cd doc dV kV ho hd hcd hD hmg hg args vals as hpre hlay hrd hwl hlo
    have KX := kIn_of Y
    refine Ground.open G ?_
    intro T B D TE TW
    have efa : (some (Value.ref fa) : Option Value) = some (.ref 260) := Eq.trans hmg.symm (mg_of KX T.g (by k_is))
    obtain rfl := Value.ref.inj (Option.some.inj efa)
    wrow_args hpre hlay hrd hwl hlo
    refine enter_call ?_
    w_top on
    refine codeAny_mono ?_ (fun _ _ g => GoodW.toG g)
    clear ho hd hcd hD hmg
    rename IntsAre _ _ => hI
    rename Heap.IsList _ _ _ => hLL
    obtain ⟨oL, eL, cL, kL, dL⟩ := hLL
    refine Mine.law_spec (b := s₁.heap) (g := s₁.heap.get?) ⟨KX, T⟩ ⟨fun _ _ e => e, Nat.le_refl _, fun _ _ e => e⟩ Mine.room_caller ⟨_, oL, kL, eL, cL, dL, hI⟩ (by omega) ?_
    intro g' h' tk ev
    exact Mine.good_true (fun _ => rfl) (by with_unfolding_all rfl) (fun a o e => ev.keep a o (fun q => nomatch q) e) rfl hg)
