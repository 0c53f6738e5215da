import PyProof.Rows.All
import Wide.All
import OpenK.AllK
import Wide.FinOn
import KE.KDictIter
import PyProof.ForAny
import KE.KPairComp
import Open.Tops
import PySem.Challenge.RW_bj0030_01
set_option Elab.async false
set_option maxRecDepth 100000
set_option maxHeartbeats 8000000
namespace Mine

/-! Hd0 -/
section
open PySem PySem.W PySem.Calls
/-- the top's run, its heap a tree -/
noncomputable def topT (tb : String → Option Builtin) (p : Program) (w : World) (n₀ : Nat) (ann : Option Value) : Nat → SharedT → Thread → Option SharedT
  | 0, _, _ => none
  | n + 1, s, t => match through t with
    | true => some s
    | false => match stepOk n₀ ann t with
      | false => none
      | true => match stepT (denote tb) p w s t with
        | some (s', t') => topT tb p w n₀ ann n s' t'
        | none => none
theorem topT_spec {tb : String → Option Builtin} {p : Program} {w : World} {n₀ : Nat} {ann : Option Value} : ∀ (n : Nat) {s r : SharedT} {t : Thread}, topT tb p w n₀ ann n s t = some r → topRun tb p w n₀ ann n s.abs t = some r.abs := by
  intro n
  induction n with
  | zero => intro s r t h; exact nomatch h
  | succ n ih =>
    intro s r t h
    rw [topT] at h
    rw [topRun]
    match ht : through t with
    | true => rw [ht] at h; exact congrArg (Option.map SharedT.abs) h
    | false =>
      match hk : stepOk n₀ ann t with
      | false => rw [ht, hk] at h; exact nomatch h
      | true =>
        match hs : stepT (denote tb) p w s t with
        | none => rw [ht, hk, hs] at h; exact nomatch h
        | some (s', t') =>
          rw [ht, hk, hs] at h
          rw [stepT_spec hs]
          exact ih h

/-- the whole top at once -/
theorem leftAt {p q : Program} {loose : List Str} {Xt : Shared → Bool} {α : Type} {Yf : Shared → α} {Ya : World → α} {N : Nat} {g0 : Bool} {m₀ : Nat} {ann : Option Value} (T₀ : Params → BT) (life : Params → Life)
    (he : opening p = plainProg p.main.scope.names) (hN : Nat.ble 600 N = true) (hf : ∀ s, fenceModules? p s = some s)
    (h0 : ∀ P, absHeap (T₀ P) m₀ (life P) = boot_heap P)
    (size : ∀ P, ((boot_heap P).isNs mainGlobals, (boot_heap P).objs.size, (boot_heap P).nsMap mainGlobals "__annotations__") = (true, m₀, ann))
    (all : ∀ w : World, (fun os => (topT treeTable p w m₀ ann N ⟨T₀ w.params, m₀, life w.params, Array.mk [], boot_drawn, boot_toks, os⟩ (topStub p)).map (fun x =>
        ((staticsOk (importedModules p.main.body) (boot_heap w.params) x.abs.heap && namesBound p x.abs.heap && gensDone x.abs && laidKept (boot_heap w.params) x.abs.heap),
          openSeen q loose (importedModules p.main.body) Xt g0 x.abs, Yf x.abs))) = fun _ => some (true, openGood q loose, Ya w)) : LeftO p q loose Xt Yf Ya N g0 := by
  intro w
  obtain ⟨⟨h, gs, d, k, os⟩, e, e'⟩ := Option.map_eq_some_iff.mp (boot_open he hN hf w)
  injection e' with a1 a2; injection a2 with a2 a3; injection a3 with a3 a4
  dsimp only at a1 a2 a3 a4
  subst a1 a2 a3 a4
  obtain ⟨x, hx, hy⟩ := Option.map_eq_some_iff.mp (congrFun (all w) os)
  have hr := topT_spec _ hx
  have hs : (SharedT.abs ⟨T₀ w.params, m₀, life w.params, Array.mk [], boot_drawn, boot_toks, os⟩) = ⟨boot_heap w.params, Array.mk [], boot_drawn, boot_toks, os⟩ := by
    show (⟨absHeap (T₀ w.params) m₀ (life w.params), _, _, _, _⟩ : Shared) = _
    rw [h0]
  rw [hs] at hr
  injection hy with y1 y2
  have hz := size w.params
  injection hz with z1 z2; injection z2 with z2 z3
  unfold openEnds
  rw [e]
  show (topFrom treeTable p w N ⟨boot_heap w.params, Array.mk [], boot_drawn, boot_toks, os⟩).map _ = _
  have ht : topFrom treeTable p w N ⟨boot_heap w.params, Array.mk [], boot_drawn, boot_toks, os⟩ = some x.abs := by
    unfold topFrom
    dsimp only
    rw [z1, z2, z3, hr]
    show (match (staticsOk (importedModules p.main.body) (boot_heap w.params) x.abs.heap && namesBound p x.abs.heap && gensDone x.abs && laidKept (boot_heap w.params) x.abs.heap) with | true => _ | false => _) = _
    rw [y1]
  rw [ht]
  exact congrArg some y2

noncomputable def bootT (P : Params) : BT := (boot_heap P).objs.toList.zipIdx.foldl (fun t x => t.ins x.2 x.1) .nil
noncomputable def bootLife (P : Params) : Life := (boot_heap P).life
theorem bootAt : ∀ P : Params, absHeap (bootT P) 11 (bootLife P) = boot_heap P := fun P => by kernel_rfl
end

/-! Sh -/
section
open PySem PySem.W PyProof.Rows
open_shared top for (OpenRow.toRowW (OpenLaw.row PySem.Challenge.rw_bj0030_01)).prog leaving 9
end

/-! Hd4e -/
section
open PySem PySem.W PySem.Calls
noncomputable abbrev pg : Program := (OpenRow.toRowW (OpenLaw.row PySem.Challenge.rw_bj0030_01)).prog
noncomputable abbrev bodyC : Code := .body (behindTheImports pg) top.env_1
noncomputable abbrev S4 (w : World) (os : OsState) : SharedT := ⟨top.tree_4 w.params, 15, {}, Array.mk [], {}, 187, os⟩
noncomputable abbrev S879 (w : World) (os : OsState) : SharedT := ⟨top.tree_879 w.params, 629, {}, Array.mk [], {}, 1063, os⟩
abbrev pos0 : Pos := { line := 0, col := 0, endLine := 0, endCol := 0 }
noncomputable def restS : List Stmt := (behindTheImports pg).drop 22
theorem preS (w : World) : (fun os => topGo treeTable pg w 11 (some (.ref 6)) 12 ⟨boot_heap w.params, Array.mk [], boot_drawn, boot_toks, os⟩ (topStub pg)) = fun os => some ((S4 w os).abs, ⟨denote treeTable bodyC, bodyC, pos0, [topFrame pos0]⟩) := by kernel_rfl
theorem blockS (w : World) : (fun os => segRun treeTable pg w 11 (some (.ref 6)) 1 1 (S4 w os).abs (blockOf (behindTheImports pg) top.env_1 bodyC pos0 [topFrame pos0])) = fun os => some (.next, (S4 w os).abs, bodyC, pos0) := by kernel_rfl
theorem listS : top.sts_4 ++ (top.sts_38 ++ (top.sts_54 ++ (top.sts_114 ++ (top.sts_147 ++ (top.sts_208 ++ (top.sts_260 ++ (top.sts_299 ++ (top.sts_356 ++ (top.sts_396 ++ (top.sts_443 ++ (top.sts_879 ++ restS))))))))))) = behindTheImports pg := by kernel_rfl
def steps (N : Nat) : Nat := 12 + (1 + (Nat.add 293 (Nat.add 223 (Nat.add 400 (Nat.add 313 (Nat.add 402 (Nat.add 408 (Nat.add 341 (Nat.add 416 (Nat.add 389 (Nat.add 344 (Nat.add 2246 (Nat.add 10 N)))))))))))))
theorem goS (w : World) (os : OsState) (N : Nat) (r : Shared) (h : topRun treeTable pg w 11 (some (.ref 6)) N (S879 w os).abs (restOf restS top.env_1 bodyC { line := 407, col := 0, endLine := 407, endCol := 8 } [topFrame pos0]) = some r) :
    topRun treeTable pg w 11 (some (.ref 6)) (steps N) ⟨boot_heap w.params, Array.mk [], boot_drawn, boot_toks, os⟩ (topStub pg) = some r := by
  have k := top.chain pg (behindTheImports pg) w os restS N r h
  rw [listS] at k
  exact go_top (congrFun (preS w) os) (piece_block (congrFun (blockS w) os) k)

noncomputable def getT (x : SharedT) (a : Nat) : Option Obj := match Nat.blt a x.n with
  | true => match x.tree.get a with
    | some o => alive o
    | none => x.abs.heap.get? a
  | false => none
theorem getT_abs (x : SharedT) (a : Nat) : x.abs.heap.get? a = getT x a := by
  unfold getT
  cases e : Nat.blt a x.n with
  | true =>
    cases e2 : x.tree.get a with
    | some o => exact abs_get (Nat.le_of_ble_eq_true e) e2
    | none => rfl
  | false => exact abs_get_none fun h => by rw [show Nat.blt a x.n = true from Nat.ble_eq_true_of_le h] at e; cases e

noncomputable def runTop (w : World) (os : OsState) : Option SharedT := topT treeTable pg w 11 (some (.ref 6)) 4000 (S879 w os) (restOf restS top.env_1 bodyC { line := 407, col := 0, endLine := 407, endCol := 8 } [topFrame pos0])
noncomputable def bitsOf (P : Params) (x : SharedT) : Bool := staticsOk (importedModules pg.main.body) (boot_heap P) x.abs.heap && namesBound pg x.abs.heap && gensDone x.abs && laidKept (boot_heap P) x.abs.heap

/-- the head of a law whose top is run by any run that the semantics own -/
theorem leftRun {q : Program} {loose : List Str} {Xt : Shared → Bool} {K : Params → Frag} {as : List Addr} {eK : ∀ P, as = (K P).map (·.1)} {ts : List Addr} {g0 : Bool} {n : Nat} {run : World → OsState → Option SharedT}
    (hrun : ∀ w os x, run w os = some x → topRun treeTable pg w 11 (some (.ref 6)) n ⟨boot_heap w.params, Array.mk [], boot_drawn, boot_toks, os⟩ (topStub pg) = some x.abs)
    (a2 : ∀ w : World, (fun os => (run w os).map fun x => openSeen q loose (importedModules pg.main.body) Xt g0 x.abs) = fun _ => some (openGood q loose))
    (a3 : ∀ w : World, (fun os => (run w os).map fun x => (bitsOf w.params x, ((K w.params).map (·.1)).map (getT x), ts.map (getT x))) = fun _ => some (true, (K w.params).map fun p => some p.2, ts.map fun _ => some (tabObj #[])))
    (hf : ∀ s, fenceModules? pg s = some s)
    (size : ∀ P, ((boot_heap P).isNs mainGlobals, (boot_heap P).objs.size, (boot_heap P).nsMap mainGlobals "__annotations__") = (true, 11, some (.ref 6)))
    (he : opening pg = plainProg pg.main.scope.names) (hN : Nat.ble 600 n = true) :
    LeftO pg q loose Xt (Hook.obs (kmHook K as eK ts)) (Hook.val (kmHook K as eK ts)) n g0 := by
  intro w
  obtain ⟨⟨h, gs, d, k, os⟩, e, e'⟩ := Option.map_eq_some_iff.mp (boot_open he hN hf w)
  injection e' with b1 b2; injection b2 with b2 b3; injection b3 with b3 b4
  dsimp only at b1 b2 b3 b4
  subst b1 b2 b3 b4
  obtain ⟨x, hx, y⟩ := Option.map_eq_some_iff.mp (congrFun (a3 w) os)
  injection y with y1 y3
  have y2 := congrFun (a2 w) os
  try dsimp only at y2
  rw [hx] at y2
  rw [← eK w.params] at y3
  have y2 := Option.some.inj y2
  have hr := hrun w os x hx
  have hz := size w.params
  injection hz with z1 z2; injection z2 with z2 z3
  unfold openEnds
  rw [e]
  show (topFrom treeTable pg w n ⟨boot_heap w.params, Array.mk [], boot_drawn, boot_toks, os⟩).map _ = _
  have ht : topFrom treeTable pg w n ⟨boot_heap w.params, Array.mk [], boot_drawn, boot_toks, os⟩ = some x.abs := by
    unfold topFrom
    dsimp only
    rw [z1, z2, z3, hr]
    show (match bitsOf w.params x with | true => _ | false => _) = _
    rw [y1]
  rw [ht]
  have e3 : (fun a => x.abs.heap.get? a) = getT x := funext fun a => getT_abs x a
  refine congrArg some (Prod.ext y2 ?_)
  show (as.map (fun a => x.abs.heap.get? a), ts.map (fun a => x.abs.heap.get? a)) = _
  rw [e3]
  exact y3
theorem runTop_spec (w : World) (os : OsState) (x : SharedT) (h : runTop w os = some x) : topRun treeTable pg w 11 (some (.ref 6)) (steps 4000) ⟨boot_heap w.params, Array.mk [], boot_drawn, boot_toks, os⟩ (topStub pg) = some x.abs := goS w os 4000 x.abs (topT_spec 4000 h)
noncomputable def vw : Program := PySem.W.view pg [0, 4, 5, 7, 8, 11, 12, 13, 14, 15, 17, 18, 20, 22, 24, 25, 26, 27, 28, 29, 30]
def ls : List Str := [Str.ofString "dfs_edges", Str.ofString "AtlasView", Str.ofString "AdjacencyView", Str.ofString "_nbunch_iter", Str.ofString "NodeView", Str.ofString "OutEdgeDataView", Str.ofString "EdgeDataView", Str.ofString "OutEdgeView", Str.ofString "EdgeView", Str.ofString "_NOT_FOUND", Str.ofString "cached_property", Str.ofString "Graph", Str.ofString "DiGraph"]
noncomputable def xt (s : Shared) : Bool := xlAt vw [] s && recOk (RowW.records (OpenRow.toRowW (OpenLaw.row PySem.Challenge.rw_bj0030_01))) s
end

/-! Hd5e -/
section
open PySem PySem.W PyProof.Rows
local macro_rules | `(tactic| o_head $H) => `(tactic| (
  refine (fun h0 h1 h2 => And.elim (fun x y => holds_open (q := vw) (loose := ls) (Xt := xt) (XP := XL vw []) (Yf := Hook.obs $H) (Ya := Hook.val $H) (YP := Hook.says $H) (N := steps 4000) x (Hook.of $H) (Hook.keeps $H) (fun s e => xl_of s (Bool.and_eq_true_iff.mp e).1) XL.keeps (by rfl) (by rfl) (by rfl) (fun s e => recFacts_of (Bool.and_eq_true_iff.mp e).2) (by rfl) h0 (by decide +kernel) ⟨rfl, rfl, rfl, rfl, rfl, by decide +kernel⟩ h1 y) h2) (by first | assumption | decide +kernel) ?hw ?hc))
open_top hd for PySem.Challenge.rw_bj0030_01
end

/-! Hd6e -/
section
open PySem PySem.W PyProof.Rows
noncomputable def good2 := openGood vw ls
noncomputable def see2 (w : World) (os : OsState) := (runTop w os).map fun x => openSeen vw ls (importedModules pg.main.body) xt true x.abs
noncomputable def see3 (as ts : List Addr) (w : World) (os : OsState) : Option (Bool × List (Option Obj) × List (Option Obj)) := (runTop w os).map fun x => (bitsOf w.params x, as.map (getT x), ts.map (getT x))
lay_quick good2 see2 see3
end

/-! Hd7e -/
section
open PySem PySem.W PyProof.Rows
theorem twin2 (w : World) : (fun os => PySem.W.Fast.tw17005917181909149106 w os) = fun _ => some PySem.W.Fast.tw14205110778110953275 := by kernel_rfl
theorem twin3 (w : World) : (fun os => PySem.W.Fast.tw10243187602037131687 ((hd.heap_39 w.params).map (·.1)) [136, 211, 25] w os) = fun _ => some (true, (hd.heap_39 w.params).map fun p => some p.2, [136, 211, 25].map fun _ => some (tabObj #[])) := by kernel_rfl
theorem look2 (w : World) : (fun os => see2 w os) = fun _ => some good2 := by
  rw [PySem.W.Fast.te17005917181909149106, PySem.W.Fast.te14205110778110953275]
  exact twin2 w
theorem look3 (w : World) : (fun os => see3 ((hd.heap_39 w.params).map (·.1)) [136, 211, 25] w os) = fun _ => some (true, (hd.heap_39 w.params).map fun p => some p.2, [136, 211, 25].map fun _ => some (tabObj #[])) := by
  rw [PySem.W.Fast.te10243187602037131687]
  exact twin3 w
end

/-! M0 -/
section
open PySem PySem.W PyProof.Rows PySem.Calls
abbrev Mu := Addr → Option Obj
def upd (μ : Mu) (a : Addr) (o : Obj) : Mu := fun b => if b = a then some o else μ b
def MuLe (μ μ' : Mu) : Prop := ∀ a o, μ a = some o → μ' a = some o
def Nn (μ : Mu) (a : Addr) : Prop := μ a = none
theorem MuLe.refl (μ : Mu) : MuLe μ μ := fun _ _ e => e
theorem MuLe.trans {μ μ' μ'' : Mu} (x : MuLe μ μ') (y : MuLe μ' μ'') : MuLe μ μ'' := fun a o e => y a o (x a o e)
theorem upd_self (μ : Mu) (a : Addr) (o : Obj) : upd μ a o a = some o := if_pos rfl
theorem upd_ne {μ : Mu} {a b : Addr} {o : Obj} (h : b ≠ a) : upd μ a o b = μ b := if_neg h
theorem MuLe.updN {μ : Mu} {a : Addr} {o : Obj} (h : Nn μ a) : MuLe μ (upd μ a o) := fun b o' e => by
  rw [upd_ne]; exact e
  rintro rfl; rw [show μ b = none from h] at e; cases e
theorem ne_of_mu {μ : Mu} {a b : Addr} {o : Obj} (ha : μ a = some o) (hb : Nn μ b) : a ≠ b := by
  rintro rfl; unfold Nn at hb; rw [ha] at hb; cases hb

def del (μ : Mu) (L : Addr) : Mu := fun a => if a = L then none else μ a
theorem del_some {μ : Mu} {L a : Addr} {o : Obj} (e : del μ L a = some o) : a ≠ L ∧ μ a = some o := by
  unfold del at e
  by_cases q : a = L
  · simp [q] at e
  · simp [q] at e; exact ⟨q, e⟩
theorem del_of {μ : Mu} {L a : Addr} {o : Obj} (h : a ≠ L) (e : μ a = some o) : del μ L a = some o := by unfold del; rw [if_neg h]; exact e
theorem MuLe.delN {μ μ' : Mu} {L : Addr} {oL : Obj} (hL : Nn μ L) (k : MuLe (upd μ L oL) μ') : MuLe μ (del μ' L) := fun a o e => by
  have ne : a ≠ L := ne_of_mu e hL
  exact del_of ne (k a o (by rw [upd_ne ne]; exact e))

structure St (g : Heap) (L : Addr) (m : Str → Option Value) (μ : Mu) (h : Heap) : Prop where
  fr : Fr g L h m
  mu : ∀ a o, μ a = some o → h.get? a = some o ∧ a ≠ L ∧ g.get? a = none ∧ a ≠ sysModules
  lo : sysModules < g.objs.size

section
variable {g h h' : Heap} {L : Addr} {m m' : Str → Option Value} {μ μ' : Mu}
theorem St.get (S : St g L m μ h) {a : Addr} {o : Obj} (e : μ a = some o) : h.get? a = some o := (S.mu a o e).1
theorem St.weaken (S : St g L m μ h) (k : MuLe μ' μ) : St g L m μ' h := ⟨S.fr, fun a o e => S.mu a o (k a o e), S.lo⟩
theorem St.set (S : St g L m μ h) (hn : h'.Ns L m') (hs : Heap.SameBut L h h') : St g L m' μ h' :=
  ⟨S.fr.set hn hs, fun a o e => let z := S.mu a o e; ⟨(hs.2 a z.2.1).trans z.1, z.2⟩, S.lo⟩
theorem St.keep (S : St g L m μ h) (k : ∀ b o, h.get? b = some o → h'.get? b = some o) : St g L m μ h' :=
  ⟨S.fr.keeps k, fun a o e => let z := S.mu a o e; ⟨k _ _ z.1, z.2⟩, S.lo⟩
theorem St.none_size (S : St g L m μ h) : μ h.objs.size = none := by
  cases e : μ h.objs.size with
  | none => rfl
  | some o => exact absurd (Heap.lt_size (S.get e)) (Nat.lt_irrefl _)
theorem get_size (h : Heap) : h.get? h.objs.size = none := by
  cases e : h.get? h.objs.size with
  | none => rfl
  | some o => exact absurd (Heap.lt_size e) (Nat.lt_irrefl _)
theorem St.base_none (S : St g L m μ h) {a : Addr} (e : h.get? a = none) : g.get? a = none := by
  cases q : g.get? a with
  | none => rfl
  | some o => rw [S.fr.keep a o q] at e; cases e
theorem St.lt (S : St g L m μ h) : L < h.objs.size := S.fr.ns.lt
theorem St.Llo (S : St g L m μ h) : L ≠ sysModules := Nat.ne_of_gt (Nat.lt_of_lt_of_le S.lo S.fr.above)
theorem St.sizelo (S : St g L m μ h) : h.objs.size ≠ sysModules := Nat.ne_of_gt (Nat.lt_trans (Nat.lt_of_lt_of_le S.lo S.fr.above) S.lt)
theorem St.sys (S : St g L m μ h) {a : Addr} {o : Obj} (e : μ a = some o) : (a == sysModules) = false := by
  have := (S.mu a o e).2.2.2
  simpa using this
theorem St.push (S : St g L m μ h) (o : Obj) : St g L m μ (h.push o) := S.keep fun _ _ e => Heap.get?_push_of_some _ e
theorem St.alloc (S : St g L m μ h) (o : Obj) (hf : o.isFreed = false) : St g L m (upd μ h.objs.size o) (h.push o) := by
  refine ⟨(S.push o).fr, fun a o' e => ?_, S.lo⟩
  by_cases q : a = h.objs.size
  · subst q
    rw [upd_self] at e
    cases e
    exact ⟨Heap.get?_push_size _ hf, Nat.ne_of_gt S.lt, S.base_none (get_size h), S.sizelo⟩
  · rw [upd_ne q] at e
    exact (S.push o).mu a o' e
theorem St.change (S : St g L m μ h) {d : Addr} {o o' : Obj} (hd : μ d = some o) (hs : Heap.SameBut d h h') (ho : h'.get? d = some o') : St g L m (upd μ d o') h' := by
  have z := S.mu d o hd
  refine ⟨S.fr.change hs z.2.1 z.2.2.1, fun a oa e => ?_, S.lo⟩
  by_cases q : a = d
  · subst q
    rw [upd_self] at e
    cases e
    exact ⟨ho, z.2⟩
  · rw [upd_ne q] at e
    have y := S.mu a oa e
    exact ⟨(hs.2 a q).trans y.1, y.2⟩
/-- the frame's own dict, seen from a callee -/
def NsObj (o : Obj) (m : Str → Option Value) : Prop := ∃ es ep, o.data = .dict es ep ∧ StrKeys es ∧ ∀ name, nsFind es name = m name
theorem NsObj.ns {C : Addr} {o : Obj} (x : NsObj o m) (e : h.get? C = some o) : h.Ns C m := let ⟨es, ep, hd, r⟩ := x; ⟨o, es, ep, e, hd, r⟩
theorem ns_obj {C : Addr} (x : h.Ns C m) : ∃ o, h.get? C = some o ∧ NsObj o m := let ⟨o, es, ep, e, hd, r⟩ := x; ⟨o, e, es, ep, hd, r⟩

theorem St.leave {L' : Addr} (S : St g L' m' μ' h) {oL : Obj} (hL : μ' L = some oL) (hn : NsObj oL m) (ab : g.objs.size ≤ L) (k : ∀ a o, μ a = some o → a ≠ L ∧ μ' a = some o) : St g L m μ h :=
  ⟨⟨hn.ns (S.get hL), S.fr.keep, ab⟩, fun a o e => let z := k a o e; ⟨S.get z.2, z.1, (S.mu a o z.2).2.2⟩, S.lo⟩
end

/-- the ground: the text's own objects, the names of the top -/
structure Gd (w : World) (mg mb : Str → Option Value) (g : Heap) : Prop where
  K : (hd.heap_39 w.params).In g
  T : ∃ p loose mean, Top p loose mean mg mb g
theorem Gd.nolimit {w : World} {mg mb : Str → Option Value} {g : Heap} (G : Gd w mg mb g) : g.NoLimit := let ⟨_, _, _, T⟩ := G.T; T.nolimit

section
variable {prog : Program} {w : World} {A : Around} {E : Value → Shared → Prop} {s : Shared} {g : Heap} {L : Addr} {m : Str → Option Value} {μ : Mu} {env : Env} {mg mb : Str → Option Value}

theorem r_ld {x : Str} {pos : Pos} {v : Value} {Q : Value → Shared → Prop} (S : St g L m μ s.heap) (hv : m x = some v) (h : Q v s)
    (hL : env.locals = L := by rfl) (hk : env.scope.kind = .function := by rfl) (hl : env.kindOf x = some .local := by rfl)
    (hd : (x == ("__debug__" : Str)) = false := by decide) :
    wpAny (model prog w) A (eval (.Name x pos) env) Q E s := wpAny_Name (wpAny_loadName_local hk hl (hL ▸ S.fr.ns) hv h) hd

theorem r_st {x : Str} {v : Value} {Q : Unit → Shared → Prop} (S : St g L m μ s.heap)
    (h : ∀ h', St g L (fun y => if y = x then some v else m y) μ h' → Q () { s with heap := h', toks := s.toks + 1 })
    (hL : env.locals = L := by rfl) (hk : env.scope.kind = .function := by rfl) (hl : env.kindOf x = some .local := by rfl) :
    wpAny (model prog w) A (storeName env x v) Q E s := by
  subst hL
  exact wpAny_storeName_local hl S.fr.ns (fun h' hn hs => h h' (S.set hn hs))
    (by show (env.scope.kind == .class || (env.scope.kind == .module && env.locals != env.globals)) = false; rw [hk]; rfl)

theorem St.at (S : St g L m μ s.heap) {tk : Nat} : St g L m μ ({ s with toks := tk } : Shared).heap := S

theorem r_callG {f : Addr} {name qual : Str} {params : Arguments} {body : List Stmt} {scope : Scope} {dV kV doc pm cdv ct oc : Value} {an od : Option Addr} {osl : Array (Option Value)} {args : Args} {R : Result → Shared → Prop}
    (Bd : List (Str × Value) → Mu → Prop)
    (G : Gd w mg mb g) (S : St g L m μ s.heap)
    (ho : (hd.heap_39 w.params).lookup f = some ⟨oc, od, .func (fnOf name qual params body scope dV kV doc pm an cdv ct), osl⟩)
    (hcd : codeIn (hd.heap_39 w.params) cdv qual = true) (hroom : A.depth < recursionLimit)
    (hbind : ∀ (Q : List (Str × Value) → Shared → Prop) (E' : Value → Shared → Prop), (∀ b h₀ μ₀, Bd b μ₀ → St g L m μ₀ h₀ → (∀ x ∈ b, scope.names.lookup x.1 = some .local) → Q b { s with heap := h₀ }) →
      wpAny (model prog w) A.in1 (bindArgs (fnOf name qual params body scope dV kV doc pm an cdv ct) args) Q E' s)
    (h : ∀ b μ₀, Bd b μ₀ → ∀ oL L' h₁ tk (E' : Value → Shared → Prop), NsObj oL m → Nn μ₀ L → St g L' (fun x => b.reverse.lookup x) (upd μ₀ L oL) h₁ →
      wpAny (model prog w) (A.deeper (envOf qual scope L' f cdv)) (execs body (envOf qual scope L' f cdv))
        (fun fl s' => ∃ m' μ' h' tk', s' = { s with heap := h', toks := tk' } ∧ St g L' m' μ' h' ∧ μ' L = some oL ∧
          (St g L m (del μ' L) h' → R (.ok (.ret (match fl with | .ret v => v | _ => .none))) s')) E' { s with heap := h₁, toks := tk })
    (hco : scope.isCoroutine = false := by rfl) (hgen : scope.isGenerator = false := by rfl) (hk : scope.kind = .function := by rfl)
    (hcell : ∀ x ∈ scope.names, x.2 ≠ .cell := by decide) :
    codeAny (model prog w) A (.call (.ref f) args) R s := by
  have hget : s.heap.get? f = some ⟨oc, od, .func (fnOf name qual params body scope dV kV doc pm an cdv ct), osl⟩ := S.fr.keep _ _ (G.K _ _ ho)
  refine codeAny_call_function hroom hget rfl hco hgen rfl ((codeRec_of G.K hcd).keeps S.fr.keep) ?_
  refine hbind _ _ fun b h₀ μ₀ hB S₀ hloc => ?_
  obtain ⟨oL, eL, nL⟩ := ns_obj S₀.fr.ns
  have hμL : μ₀ L = none := by
    cases e : μ₀ L with
    | none => rfl
    | some o => exact absurd rfl (S₀.mu L o e).2.1
  refine wpAny_newFunctionEnv hcell hloc (fun h₁ hns hsb => ⟨(G.nolimit.keeps S₀.fr.keep).fresh _ hsb, ?_⟩) hk
  show codeAny _ _ (.func body (envOf qual scope h₀.objs.size f cdv)) _ _
  have keep : ∀ b o, h₀.get? b = some o → h₁.get? b = some o := fun b o e => hsb.extBut b o (Nat.ne_of_lt (Heap.lt_size e)) (Heap.get?_push_of_some _ e)
  have S₁ : St g h₀.objs.size (fun x => b.reverse.lookup x) (upd μ₀ L oL) h₁ := by
    refine ⟨⟨hns, fun b o e => keep b o (S₀.fr.keep b o e), Nat.le_trans S₀.fr.above (Nat.le_of_lt S₀.lt)⟩, fun a o e => ?_, S₀.lo⟩
    by_cases q : a = L
    · subst q
      rw [upd_self] at e
      cases e
      exact ⟨keep _ _ eL, Nat.ne_of_lt S₀.lt, Heap.get?_none_of_le S₀.fr.above, S₀.Llo⟩
    · rw [upd_ne q] at e
      have z := S₀.mu a o e
      exact ⟨keep _ _ z.1, Nat.ne_of_lt (Heap.lt_size z.1), z.2.2⟩
  refine codeAny_func (wpAny_mono (h b μ₀ hB oL h₀.objs.size h₁ _ _ nL hμL S₁) (fun fl s' hq => ?_) fun _ _ x => x)
  obtain ⟨m', μ', h', tk', rfl, S', hL', r⟩ := hq
  exact r (S'.leave hL' nL S₀.fr.above fun a o e => del_some e)

abbrev WantV (Q : Value → Shared → Prop) (E : Value → Shared → Prop) : Result → Shared → Prop := fun r s' => match r with | .ok (.ret v) => Q v s' | .ok _ => False | .error e => E e s'
theorem r_call {f : Addr} {name qual : Str} {params : Arguments} {body : List Stmt} {scope : Scope} {dV kV doc pm cdv ct oc : Value} {an od : Option Addr} {osl : Array (Option Value)} {args : List Value} {kw : List (Str × Value)} {binds : List (Str × Value)} {Q : Value → Shared → Prop}
    (G : Gd w mg mb g) (S : St g L m μ s.heap)
    (ho : (hd.heap_39 w.params).lookup f = some ⟨oc, od, .func (fnOf name qual params body scope dV kV doc pm an cdv ct), osl⟩)
    (hcd : codeIn (hd.heap_39 w.params) cdv qual = true) (hroom : A.depth < recursionLimit)
    (hbind : BindsTo s (fnOf name qual params body scope dV kV doc pm an cdv ct) ⟨args, kw⟩ binds)
    (hloc : ∀ x ∈ binds, scope.names.lookup x.1 = some .local)
    (h : ∀ oL L' h₁ tk (E' : Value → Shared → Prop), NsObj oL m → Nn μ L → St g L' (fun x => binds.reverse.lookup x) (upd μ L oL) h₁ →
      wpAny (model prog w) (A.deeper (envOf qual scope L' f cdv)) (execs body (envOf qual scope L' f cdv))
        (fun fl s' => ∃ m' μ' h' tk', s' = { s with heap := h', toks := tk' } ∧ St g L' m' μ' h' ∧ μ' L = some oL ∧
          (St g L m (del μ' L) h' → Q (match fl with | .ret v => v | _ => .none) s')) E' { s with heap := h₁, toks := tk })
    (hco : scope.isCoroutine = false := by rfl) (hgen : scope.isGenerator = false := by rfl) (hk : scope.kind = .function := by rfl)
    (hcell : ∀ x ∈ scope.names, x.2 ≠ .cell := by decide) :
    wpAny (model prog w) A (call (.ref f) args kw) Q E s :=
  wpAny_call (r_callG (R := WantV Q E) (fun b μ₀ => b = binds ∧ μ₀ = μ) G S ho hcd hroom (fun Q E' hq => hbind _ _ _ _ (hq binds s.heap μ ⟨rfl, rfl⟩ S hloc)) (fun b μ₀ hb => by obtain ⟨rfl, rfl⟩ := hb; exact h) hco hgen hk hcell)

abbrev dict0 : Obj := { cls := .type "dict", data := .dict #[] }
/-- a def that takes **attr and is given none -/
theorem r_callKw {f : Addr} {name qual : Str} {params : Arguments} {body : List Stmt} {scope : Scope} {dV kV doc pm cdv ct oc : Value} {an od : Option Addr} {osl : Array (Option Value)} {args : Args} {binds : List (Str × Value)} {R : Result → Shared → Prop} {attr : Str}
    (G : Gd w mg mb g) (S : St g L m μ s.heap)
    (ho : (hd.heap_39 w.params).lookup f = some ⟨oc, od, .func (fnOf name qual params body scope dV kV doc pm an cdv ct), osl⟩)
    (hcd : codeIn (hd.heap_39 w.params) cdv qual = true) (hroom : A.depth < recursionLimit)
    (hbind : ∀ (Q : List (Str × Value) → Shared → Prop) (E' : Value → Shared → Prop), wpAny (model prog w) A.in1 (alloc dict0 >>= fun d => pure (binds ++ [(attr, Value.ref d)])) Q E' s →
      wpAny (model prog w) A.in1 (bindArgs (fnOf name qual params body scope dV kV doc pm an cdv ct) args) Q E' s)
    (hloc : ∀ x ∈ binds ++ [(attr, Value.none)], scope.names.lookup x.1 = some .local)
    (h : ∀ d oL L' h₁ tk (E' : Value → Shared → Prop), Nn μ d → NsObj oL m → Nn (upd μ d dict0) L → St g L' (fun x => (binds ++ [(attr, Value.ref d)]).reverse.lookup x) (upd (upd μ d dict0) L oL) h₁ →
      wpAny (model prog w) (A.deeper (envOf qual scope L' f cdv)) (execs body (envOf qual scope L' f cdv))
        (fun fl s' => ∃ m' μ' h' tk', s' = { s with heap := h', toks := tk' } ∧ St g L' m' μ' h' ∧ μ' L = some oL ∧
          (St g L m (del μ' L) h' → R (.ok (.ret (match fl with | .ret v => v | _ => .none))) s')) E' { s with heap := h₁, toks := tk })
    (hco : scope.isCoroutine = false := by rfl) (hgen : scope.isGenerator = false := by rfl) (hk : scope.kind = .function := by rfl)
    (hcell : ∀ x ∈ scope.names, x.2 ≠ .cell := by decide) :
    codeAny (model prog w) A (.call (.ref f) args) R s := by
  refine r_callG (fun b μ₀ => ∃ d, μ d = none ∧ b = binds ++ [(attr, Value.ref d)] ∧ μ₀ = upd μ d dict0) G S ho hcd hroom (fun Q E' hq => hbind _ _ (wpAny_bind (wpAny_alloc (wpAny_pure (hq _ _ _ ⟨_, S.none_size, rfl, rfl⟩ (S.alloc dict0 rfl) fun x hx => ?_)))))
    (fun b μ₀ hb => by obtain ⟨d, hd, rfl, rfl⟩ := hb; exact fun oL L' h₁ tk E' => h d oL L' h₁ tk E' hd) hco hgen hk hcell
  rcases List.mem_append.mp hx with hx | hx
  · exact hloc x (List.mem_append.mpr (.inl hx))
  · rw [List.mem_singleton.mp hx]
    exact hloc (attr, Value.none) (List.mem_append.mpr (.inr (List.mem_singleton.mpr rfl)))

theorem r_gk {x : Str} {pos : Pos} {v : Value} {Q : Value → Shared → Prop} (G : Gd w mg mb g) (S : St g L m μ s.heap) (e : nsIn (hd.heap_39 w.params) mainGlobals x = some (some v)) (h : Q v s)
    (hk : env.scope.kind = .function := by rfl) (hx : env.kindOf x = some .globalImplicit := by rfl) (hG : env.globals = mainGlobals := by rfl) (hd : (x == ("__debug__" : Str)) = false := by decide) :
    wpAny (model prog w) A (eval (.Name x pos) env) Q E s := by
  obtain ⟨_, _, _, T⟩ := G.T
  exact Name_function_global hk hx (loadGlobal_global (by rw [hG]; exact T.g.keeps S.fr.keep) (mg_of G.K T.g e) h) hd
theorem r_gb {x : Str} {pos : Pos} {v : Value} {Q : Value → Shared → Prop} (G : Gd w mg mb g) (S : St g L m μ s.heap) (e : nsIn (hd.heap_39 w.params) mainGlobals x = some none) (hv : bootBuiltins x = some v) (hn : x ≠ "__name__") (h : Q v s)
    (hk : env.scope.kind = .function := by rfl) (hx : env.kindOf x = some .globalImplicit := by rfl) (hG : env.globals = mainGlobals := by rfl) (hB : env.builtins = builtinsNs := by rfl) (hd : (x == ("__debug__" : Str)) = false := by decide) :
    wpAny (model prog w) A (eval (.Name x pos) env) Q E s := by
  obtain ⟨_, _, _, T⟩ := G.T
  exact Name_function_global hk hx (loadGlobal_builtin (by rw [hG]; exact T.g.keeps S.fr.keep) (mg_none_of G.K T.g e) (by rw [hB]; exact T.b.keeps S.fr.keep) ((T.builtins x hn).trans hv) h) hd
theorem r_cell {x : Str} {pos : Pos} {v : Value} {c : Addr} {o : Obj} {Q : Value → Shared → Prop} (S : St g L m μ s.heap) (hc : env.cells.lookup x = some c) (hm : μ c = some o) (hd : o.data = .cell (some v)) (h : Q v s)
    (hk : env.scope.kind = .function := by rfl) (hx : env.kindOf x = some .cell := by rfl) (hb : (x == ("__debug__" : Str)) = false := by decide) :
    wpAny (model prog w) A (eval (.Name x pos) env) Q E s := wpAny_Name (wpAny_loadName_cell hk hx hc ⟨o, S.get hm, hd⟩ h) hb
theorem r_free {x : Str} {pos : Pos} {v : Value} {c : Addr} {o : Obj} {Q : Value → Shared → Prop} (S : St g L m μ s.heap) (hc : env.cells.lookup x = some c) (hm : μ c = some o) (hd : o.data = .cell (some v)) (h : Q v s)
    (hk : env.scope.kind = .function := by rfl) (hx : env.kindOf x = some .free := by rfl) (hb : (x == ("__debug__" : Str)) = false := by decide) (hn : (x == ("__classdict__" : Str)) = false := by decide) :
    wpAny (model prog w) A (eval (.Name x pos) env) Q E s := wpAny_Name (wpAny_loadName_free hk hx hc ⟨o, S.get hm, hd⟩ h hn) hb

theorem ne_of_mu' {a b : Addr} {o : Obj} (hb : Nn μ b) (ha : μ a = some o) : a ≠ b := ne_of_mu ha hb
/-- lists of the ledger -/
def lstO (vs : List Value) (o : Obj) : Prop := ∃ n, o = { cls := .type "list", data := .seq vs.toArray n }
theorem lstO.isList {h : Heap} {a : Addr} {vs : List Value} {o : Obj} (x : lstO vs o) (e : h.get? a = some o) : h.IsList a vs.toArray := by
  obtain ⟨n, rfl⟩ := x
  exact ⟨_, e, rfl, n, rfl⟩
theorem mu_up {a b : Addr} {o ob : Obj} (h : μ a = some o) (hb : Nn μ b) : upd μ b ob a = some o := MuLe.updN hb a o h
theorem mu_up' {a b : Addr} {o ob : Obj} (hb : Nn μ b) (h : μ a = some o) : upd μ b ob a = some o := MuLe.updN hb a o h
theorem mu_ch' {a d : Addr} {o od : Obj} (hd : a ≠ d) (h : μ a = some o) : upd μ d od a = some o := by rw [upd_ne hd]; exact h
theorem mu_ch {a d : Addr} {o od : Obj} (h : μ a = some o) (hd : a ≠ d) : upd μ d od a = some o := by rw [upd_ne hd]; exact h
theorem r_listMethod {name : Str} {id : String} {pl : Sem Bool} {l : Addr} {o : Obj} {vs : List Value} {Q : Value × List Value → Shared → Prop} (S : St g L m μ s.heap) (hl : μ l = some o) (ho : lstO vs o)
    (slot : Slot "list" name id) (hty : typeOf (.builtin id) = pure (.type "method_descriptor")) (h : Q (.builtin id, [.ref l]) s) : wpAny (model prog w) A (getMethod (.ref l) name pl) Q E s := by
  obtain ⟨n, rfl⟩ := ho
  exact getMethod_builtin ⟨_, S.get hl, rfl⟩ PySem.F.plainAttrs_list slot hty (fun a e => by cases e; exact ⟨_, S.get hl, rfl⟩) h

theorem r_newList {vs : List Value} {Q : Value → Shared → Prop} (S : St g L m μ s.heap) (hsz : vs.length ≤ sizeLine)
    (h : ∀ a o h', Nn μ a → lstO vs o → St g L m (upd μ a o) h' → Q (.ref a) { s with heap := h' }) : wpAny (model prog w) A (newList vs) Q E s :=
  wpAny_newObj_type (h _ _ _ S.none_size ⟨0, rfl⟩ (S.alloc _ rfl)) (by show vs.toArray.size ≤ sizeLine; rw [List.size_toArray]; exact hsz)
def tupO (vs : List Value) (o : Obj) : Prop := ∃ n, o = { cls := .type "tuple", data := .seq vs.toArray n }
theorem r_newTuple {vs : List Value} {Q : Value → Shared → Prop} (S : St g L m μ s.heap) (hsz : vs.length ≤ sizeLine)
    (h : ∀ a o h', Nn μ a → tupO vs o → St g L m (upd μ a o) h' → Q (.ref a) { s with heap := h' }) : wpAny (model prog w) A (newTuple vs) Q E s :=
  wpAny_newObj_type (h _ _ _ S.none_size ⟨0, rfl⟩ (S.alloc _ rfl)) (by show vs.toArray.size ≤ sizeLine; rw [List.size_toArray]; exact hsz)
theorem r_append {l : Addr} {vs : List Value} {o : Obj} {x : Value} {Q : Value → Shared → Prop} (S : St g L m μ s.heap) (hl : μ l = some o) (ho : lstO vs o) (hsz : vs.length ≤ sizeLine)
    (h : ∀ o' h', lstO (vs ++ [x]) o' → St g L m (upd μ l o') h' → Q .none { s with heap := h' }) : wpAny (model prog w) A (call (.builtin "list.append") [.ref l, x]) Q E s := by
  obtain ⟨n, rfl⟩ := ho
  refine append_at (S.get hl) (fun h' hs e => h _ h' ⟨n + 1, ?_⟩ (S.change hl hs e)) (by rw [List.size_toArray]; exact hsz)
  rw [List.push_toArray]
end
end

/-! M0b -/
section
open PySem PySem.W PyProof.Rows PySem.Calls
section
variable {w : World} {prog : Program} {A : Around} {E : Value → Shared → Prop} {s : Shared} {g : Heap} {L : Addr} {m : Str → Option Value} {μ : Mu} {env : Env}

def LoopEnd (s : Shared) (g : Heap) (L I : Addr) (oI : Obj) (Src : Mu → Prop) (Inv : (Str → Option Value) → Mu → Prop) (R : Result → Shared → Prop) (f : Flow) (s₃ : Shared) : Prop :=
  match f with
  | .next | .cont => ∃ m' μ' h' tk', s₃ = { s with heap := h', toks := tk' } ∧ St g L m' μ' h' ∧ μ' I = some oI ∧ Src (del μ' I) ∧ Inv m' (del μ' I)
  | .brk => R (.ok .next) s₃
  | .ret v => R (.ok (.ret v)) s₃

theorem St.but {h h' : Heap} {I : Addr} {oI : Obj} (S : St g L m (upd μ I oI) h) (hI : Nn μ I) (k : ∀ b o, b ∉ [I] → h.get? b = some o → h'.get? b = some o) : St g L m μ h' := by
  have zI := S.mu I oI (upd_self ..)
  refine ⟨⟨S.fr.ns.at' fun o e => k L o (by simpa using Ne.symm zI.2.1) e, fun b o e => k b o (fun hm => by rw [List.mem_singleton.mp hm, zI.2.2.1] at e; cases e) (S.fr.keep b o e), S.fr.above⟩, fun a o e => ?_, S.lo⟩
  have ne : a ≠ I := ne_of_mu e hI
  have z := S.mu a o (by rw [upd_ne ne]; exact e)
  exact ⟨k a o (by simpa using ne) z.1, z.2⟩
theorem St.add {h : Heap} {I : Addr} {oI : Obj} (S : St g L m μ h) (e : h.get? I = some oI) (hL : I ≠ L) (hg : g.get? I = none ∧ I ≠ sysModules) : St g L m (upd μ I oI) h := by
  refine ⟨S.fr, fun a o q => ?_, S.lo⟩
  by_cases z : a = I
  · subst z
    rw [upd_self] at q
    cases q
    exact ⟨e, hL, hg⟩
  · rw [upd_ne z] at q
    exact S.mu a o q

theorem r_forC {CI : Obj → Prop} {R : Result → Shared → Prop} {target : Expr} {body orelse : List Stmt} {I : Addr} {fp : List Addr} {n : Nat} {P : Nat → Value → Prop} {Stt : Nat → Heap → Prop} {Src : Mu → Prop} {oI₀ : Obj}
    (W : Walks prog w A I fp [I] n P Stt) (hIo : ∀ i h, Stt i h → ∃ o, h.get? I = some o)
    (hSt : ∀ i h h' oI μ', Stt i h → h.get? I = some oI → h'.get? I = some oI → (∀ b o, g.get? b = some o → h'.get? b = some o) → (∀ a o, μ' a = some o → h'.get? a = some o) → Src μ' → Stt i h')
    (hCI : ∀ i h o, Stt i h → h.get? I = some o → CI o) (Inv : Nat → (Str → Option Value) → Mu → Prop)
    (turn : ∀ i v m' μ' oI h tk (E' : Value → Shared → Prop), i < n → P i v → CI oI → Inv i m' μ' → Nn μ' I → Src μ' → St g L m' (upd μ' I oI) h →
      wpAny (model prog w) A (assign target env v) (fun _ s₂ => wpAny (model prog w) A (execs body env) (LoopEnd s g L I oI Src (Inv (i + 1)) R) E' s₂) E' { s with heap := h, toks := tk })
    (fin : ∀ m' μ' h tk (E' : Value → Shared → Prop), Inv n m' μ' → Nn μ' I → St g L m' μ' h → wpAny (model prog w) A (execs orelse env) (fun f s₃ => R (.ok f) s₃) E' { s with heap := h, toks := tk })
    (S : St g L m (upd μ I oI₀) s.heap) (hI : Nn μ I) (hs : Stt 0 s.heap) (hsrc : Src μ) (h0 : Inv 0 m μ)
    (ht : ∀ v, letOwnedTupleGo target (.ref I) v = pure () := by intro _; rfl) :
    codeAny (model prog w) A (.forLoop target (.ref I) body orelse env) R s := by
  refine codeAny_forLoop (fun k s' => ∃ h' tk' i m' μ' oI, s' = { s with heap := h', toks := tk' } ∧ i ≤ n ∧ k = n + 1 - i ∧ Stt i h' ∧ St g L m' (upd μ' I oI) h' ∧ μ' I = none ∧ Src μ' ∧ Inv i m' μ') ?_ (n + 1)
    ⟨s.heap, s.toks, 0, m, μ, oI₀, rfl, Nat.zero_le _, rfl, hs, S, hI, hsrc, h0⟩ ht
  rintro k s' ⟨h', tk', i, m', μ', oI, rfl, hi, rfl, hst, S', hI', hsrc', hinv⟩
  have zI := S'.mu I oI (upd_self ..)
  by_cases hlt : i < n
  · refine W.item i _ _ _ hlt hst fun v h₂ tk₂ hP hst₂ hk₂ => ?_
    have S₂ : St g L m' μ' h₂ := S'.but hI' hk₂
    obtain ⟨oI₂, eI₂⟩ := hIo _ _ hst₂
    refine wpAny_mono (turn i v m' μ' oI₂ h₂ tk₂ _ hlt hP (hCI _ _ _ hst₂ eI₂) hinv hI' hsrc' (S₂.add eI₂ zI.2.1 zI.2.2)) (fun _ s₂ h₂' => wpAny_mono h₂' (fun f s₃ hf => ?_) fun _ _ e => e) fun _ _ e => e
    have go : (∃ m'' μ'' h'' tk'', s₃ = { s with heap := h'', toks := tk'' } ∧ St g L m'' μ'' h'' ∧ μ'' I = some oI₂ ∧ Src (del μ'' I) ∧ Inv (i + 1) m'' (del μ'' I)) →
        ∃ k', k' < n + 1 - i ∧ ∃ h' tk' i m' μ' oI, s₃ = { s with heap := h', toks := tk' } ∧ i ≤ n ∧ k' = n + 1 - i ∧ Stt i h' ∧ St g L m' (upd μ' I oI) h' ∧ μ' I = none ∧ Src μ' ∧ Inv i m' μ' := by
      rintro ⟨m'', μ'', h'', tk'', rfl, S'', eI'', hsrc'', hinv''⟩
      refine ⟨n + 1 - (i + 1), by omega, h'', tk'', i + 1, m'', del μ'' I, oI₂, rfl, hlt, rfl, ?_, ?_, if_pos rfl, hsrc'', hinv''⟩
      · exact hSt _ _ _ _ _ hst₂ eI₂ (S''.get eI'') S''.fr.keep (fun a o e => S''.get (del_some e).2) hsrc''
      · refine S''.weaken fun a o e => ?_
        by_cases z : a = I
        · subst z
          rw [upd_self] at e
          cases e
          exact eI''
        · rw [upd_ne z] at e
          exact (del_some e).2
    cases f with
    | next => exact go hf
    | cont => exact go hf
    | brk => exact hf
    | ret v => exact hf
  · obtain rfl : i = n := Nat.le_antisymm hi (Nat.not_lt.mp hlt)
    exact W.done _ _ _ hst fun h₂ tk₂ hk₂ => fin m' μ' h₂ tk₂ _ hinv hI' (S'.but hI' hk₂)

theorem r_for {R : Result → Shared → Prop} {target : Expr} {body orelse : List Stmt} {I : Addr} {fp : List Addr} {n : Nat} {P : Nat → Value → Prop} {Stt : Nat → Heap → Prop} {Src : Mu → Prop} {oI₀ : Obj}
    (W : Walks prog w A I fp [I] n P Stt) (hIo : ∀ i h, Stt i h → ∃ o, h.get? I = some o)
    (hSt : ∀ i h h' oI μ', Stt i h → h.get? I = some oI → h'.get? I = some oI → (∀ b o, g.get? b = some o → h'.get? b = some o) → (∀ a o, μ' a = some o → h'.get? a = some o) → Src μ' → Stt i h')
    (Inv : Nat → (Str → Option Value) → Mu → Prop)
    (turn : ∀ i v m' μ' oI h tk (E' : Value → Shared → Prop), i < n → P i v → Inv i m' μ' → Nn μ' I → Src μ' → St g L m' (upd μ' I oI) h →
      wpAny (model prog w) A (assign target env v) (fun _ s₂ => wpAny (model prog w) A (execs body env) (LoopEnd s g L I oI Src (Inv (i + 1)) R) E' s₂) E' { s with heap := h, toks := tk })
    (fin : ∀ m' μ' h tk (E' : Value → Shared → Prop), Inv n m' μ' → Nn μ' I → St g L m' μ' h → wpAny (model prog w) A (execs orelse env) (fun f s₃ => R (.ok f) s₃) E' { s with heap := h, toks := tk })
    (S : St g L m (upd μ I oI₀) s.heap) (hI : Nn μ I) (hs : Stt 0 s.heap) (hsrc : Src μ) (h0 : Inv 0 m μ)
    (ht : ∀ v, letOwnedTupleGo target (.ref I) v = pure () := by intro _; rfl) :
    codeAny (model prog w) A (.forLoop target (.ref I) body orelse env) R s :=
  r_forC (CI := fun _ => True) W hIo hSt (fun _ _ _ _ _ => trivial) Inv (fun i v m' μ' oI h tk E' a b _ c => turn i v m' μ' oI h tk E' a b c) fin S hI hs hsrc h0 ht

theorem set_assign {x : Str} {px : Pos} {v : Value} {Q : Unit → Shared → Prop} (S : St g L m μ s.heap)
    (h : ∀ h' tk', St g L (fun y => if y = x then some v else m y) μ h' → Q () { s with heap := h', toks := tk' })
    (hL : env.locals = L := by rfl) (hk : env.scope.kind = .function := by rfl) (hl : env.kindOf x = some .local := by rfl) :
    wpAny (model prog w) A (assign (.Name x px) env v) Q E s := wpAny_assign_Name (r_st S (fun h' S' => h h' _ S') hL hk hl)

abbrev rngI (x n : Int) : Obj := { cls := .type "range_iterator", data := .fields #[rawInt x, rawInt n, rawInt 1] }
def rngO (n : Int) (o : Obj) : Prop := ∃ t u v, o = { cls := .type "range", data := .fields #[.int 0 t, .int n u, .int 1 v] }
theorem r_range1 {n : Int} {t : Tok} {Q : Value → Shared → Prop} (S : St g L m μ s.heap)
    (h : ∀ r o h' tk', Nn μ r → rngO n o → St g L m (upd μ r o) h' → Q (.ref r) { s with heap := h', toks := tk' }) :
    wpAny (model prog w) A (call (.type "range") [.int n t]) Q E s :=
  call_range_1 (h _ _ _ _ S.none_size ⟨_, _, _, rfl⟩ (S.alloc _ rfl))
theorem r_iter_range {n : Nat} {r : Addr} {o : Obj} {Q : Value → Shared → Prop} (S : St g L m μ s.heap) (hr : μ r = some o) (ho : rngO n o) (hn : n < 2 ^ 62)
    (h : ∀ I h', Nn μ I → St g L m (upd μ I (rngI 0 n)) h' → Q (.ref I) { s with heap := h' }) :
    wpAny (model prog w) A (pyIter (.ref r)) Q E s := by
  obtain ⟨t, u, v, rfl⟩ := ho
  have hsz : Builtin.Range.rangeSize 0 (n : Int) 1 = n := by rw [rangeSize_one]; split <;> omega
  refine wpAny_pyIter_range (S.get hr) (small_one (by omega) (by omega) (by omega) (by omega)) ?_
  rw [hsz]
  exact h _ _ S.none_size (S.alloc _ rfl)
theorem r_for_range {R : Result → Shared → Prop} {x : Str} {px : Pos} {body orelse : List Stmt} {I : Addr} {n : Nat} (hh : A.handled = none)
    (Inv : Nat → (Str → Option Value) → Mu → Prop)
    (S : St g L m (upd μ I (rngI 0 n)) s.heap) (hI : Nn μ I) (h0 : Inv 0 m μ)
    (turn : ∀ i t m' μ' oI h tk (E' : Value → Shared → Prop), i < n → Inv i m' μ' → Nn μ' I → St g L (fun y => if y = x then some (.int (i : Int) t) else m' y) (upd μ' I oI) h →
      wpAny (model prog w) A (execs body env) (LoopEnd s g L I oI (fun _ => True) (Inv (i + 1)) R) E' { s with heap := h, toks := tk })
    (fin : ∀ m' μ' h tk (E' : Value → Shared → Prop), Inv n m' μ' → St g L m' μ' h → wpAny (model prog w) A (execs orelse env) (fun f s₃ => R (.ok f) s₃) E' { s with heap := h, toks := tk })
    (hL : env.locals = L := by rfl) (hk : env.scope.kind = .function := by rfl) (hl : env.kindOf x = some .local := by rfl) :
    codeAny (model prog w) A (.forLoop (.Name x px) (.ref I) body orelse env) R s := by
  refine r_for (Src := fun _ => True) (LCg.range_walks hh 0 n) (fun i h st => ⟨_, st⟩) (fun i h h' oI μ' st e e' _ _ _ => ?_) Inv (fun i v m' μ' oI h tk E' hi hP hinv hI' _ S' => ?_) (fun m' μ' h tk E' hinv _ S' => fin m' μ' h tk E' hinv S') S hI ?_ trivial h0
  · have st' : h.get? I = some _ := st
    show h'.get? I = some _
    rw [e', ← e]; exact st'
  · obtain ⟨t, rfl⟩ := hP
    refine set_assign (s := { s with heap := h, toks := tk }) S' (fun h' tk' S'' => ?_) hL hk hl
    rw [Int.zero_add] at S''
    exact turn i t m' μ' oI h' tk' E' hi hinv hI' S''
  · show s.heap.get? I = some _
    have := S.get (upd_self μ I (rngI 0 n))
    simpa [rngI] using this

theorem r_iter_list {l : Addr} {o : Obj} {vs : List Value} {Q : Value → Shared → Prop} (S : St g L m μ s.heap) (hl : μ l = some o) (ho : lstO vs o)
    (h : ∀ I oI h', Nn μ I → h'.IsListIter I l 0 → St g L m (upd μ I oI) h' → Q (.ref I) { s with heap := h' }) :
    wpAny (model prog w) A (pyIter (.ref l)) Q E s :=
  wpAny_pyIter_list (ho.isList (S.get hl)) (h _ _ _ S.none_size ⟨_, Heap.get?_push_size _ rfl, rfl, rfl⟩ (S.alloc _ rfl))
theorem r_for_list {R : Result → Shared → Prop} {x : Str} {px : Pos} {body orelse : List Stmt} {I l : Addr} {vs : List Value} {oI₀ ol : Obj} (hh : A.handled = none)
    (Inv : Nat → (Str → Option Value) → Mu → Prop)
    (S : St g L m (upd μ I oI₀) s.heap) (hI : Nn μ I) (hit : s.heap.IsListIter I l 0) (hl : μ l = some ol) (ho : lstO vs ol) (h0 : Inv 0 m μ)
    (turn : ∀ i v m' μ' oI h tk (E' : Value → Shared → Prop), vs[i]? = some v → Inv i m' μ' → Nn μ' I → μ' l = some ol → St g L (fun y => if y = x then some v else m' y) (upd μ' I oI) h →
      wpAny (model prog w) A (execs body env) (LoopEnd s g L I oI (fun μ' => μ' l = some ol) (Inv (i + 1)) R) E' { s with heap := h, toks := tk })
    (fin : ∀ m' μ' h tk (E' : Value → Shared → Prop), Inv vs.length m' μ' → St g L m' μ' h → wpAny (model prog w) A (execs orelse env) (fun f s₃ => R (.ok f) s₃) E' { s with heap := h, toks := tk })
    (hL : env.locals = L := by rfl) (hk : env.scope.kind = .function := by rfl) (hl' : env.kindOf x = some .local := by rfl) :
    codeAny (model prog w) A (.forLoop (.Name x px) (.ref I) body orelse env) R s := by
  have hne : l ≠ I := ne_of_mu hl hI
  refine r_for (Src := fun μ' => μ' l = some ol) (Walks.list hh I l hne vs.toArray) (fun i h st => let ⟨o, e, _⟩ := st.1; ⟨o, e⟩) (fun i h h' oI μ' st e e' _ k q => ?_) Inv (fun i v m' μ' oI h tk E' hi hP hinv hI' hsrc S' => ?_)
    (fun m' μ' h tk E' hinv _ S' => fin m' μ' h tk E' (by simpa using hinv) S') S hI ⟨hit, ho.isList (S.get (by rw [upd_ne hne]; exact hl))⟩ hl h0
  · refine ⟨?_, ho.isList (k _ _ q)⟩
    obtain ⟨o', q', r⟩ := st.1
    rw [e] at q'
    cases q'
    exact ⟨oI, e', r⟩
  · refine set_assign (s := { s with heap := h, toks := tk }) S' (fun h' tk' S'' => ?_) hL hk hl'
    exact turn i v m' μ' oI h' tk' E' (by simpa using hP) hinv hI' hsrc S''
theorem r_for_listC {R : Result → Shared → Prop} {x : Str} {px : Pos} {body orelse : List Stmt} {I l : Addr} {vs : List Value} {oI₀ ol : Obj} (hh : A.handled = none)
    (Inv : Nat → (Str → Option Value) → Mu → Prop)
    (S : St g L m (upd μ I oI₀) s.heap) (hI : Nn μ I) (hit : s.heap.IsListIter I l 0) (hl : μ l = some ol) (ho : lstO vs ol) (h0 : Inv 0 m μ)
    (turn : ∀ i v m' μ' oI h tk (E' : Value → Shared → Prop), vs[i]? = some v → oI.cls = .type "list_iterator" → Inv i m' μ' → Nn μ' I → μ' l = some ol → St g L (fun y => if y = x then some v else m' y) (upd μ' I oI) h →
      wpAny (model prog w) A (execs body env) (LoopEnd s g L I oI (fun μ' => μ' l = some ol) (Inv (i + 1)) R) E' { s with heap := h, toks := tk })
    (fin : ∀ m' μ' h tk (E' : Value → Shared → Prop), Inv vs.length m' μ' → St g L m' μ' h → wpAny (model prog w) A (execs orelse env) (fun f s₃ => R (.ok f) s₃) E' { s with heap := h, toks := tk })
    (hL : env.locals = L := by rfl) (hk : env.scope.kind = .function := by rfl) (hl' : env.kindOf x = some .local := by rfl) :
    codeAny (model prog w) A (.forLoop (.Name x px) (.ref I) body orelse env) R s := by
  have hne : l ≠ I := ne_of_mu hl hI
  refine r_forC (CI := fun o => o.cls = .type "list_iterator") (Src := fun μ' => μ' l = some ol) (Walks.list hh I l hne vs.toArray) (fun i h st => let ⟨o, e, _⟩ := st.1; ⟨o, e⟩) (fun i h h' oI μ' st e e' _ k q => ?_) (fun i h o st e => by obtain ⟨o', q, r, _⟩ := st.1; rw [e] at q; cases q; exact r) Inv (fun i v m' μ' oI h tk E' hi hP hcI hinv hI' hsrc S' => ?_)
    (fun m' μ' h tk E' hinv _ S' => fin m' μ' h tk E' (by simpa using hinv) S') S hI ⟨hit, ho.isList (S.get (by rw [upd_ne hne]; exact hl))⟩ hl h0
  · refine ⟨?_, ho.isList (k _ _ q)⟩
    obtain ⟨o', q', r⟩ := st.1
    rw [e] at q'
    cases q'
    exact ⟨oI, e', r⟩
  · refine set_assign (s := { s with heap := h, toks := tk }) S' (fun h' tk' S'' => ?_) hL hk hl'
    exact turn i v m' μ' oI h' tk' E' (by simpa using hP) hcI hinv hI' hsrc S''
end
end

/-! M0c -/
section
open PySem PySem.W PyProof.Rows PySem.Calls
theorem lookIn_ns {o : Obj} {m : Str → Option Value} (x : NsObj o m) (name : Str) : lookIn name o = some (m name) := by
  obtain ⟨es, ep, hd, hk, hf⟩ := x
  unfold lookIn
  rw [hd, ← hf name]
  dsimp only
  have hany : es.toList.any (·.refKey) = false := by
    rw [List.any_eq_false]
    intro e he
    obtain ⟨n, t, h⟩ := hk e (Array.mem_toList_iff.mp he)
    simp [DictEntry.refKey, h]
  unfold nsFind findBy
  rw [← Array.find?_toList]
  cases q : es.toList.find? (fun e => e.key.isStr name) with
  | some e => rfl
  | none => rw [hany]; rfl

/-- an object's own dict: names, each once, at most n -/
def NsO (o : Obj) (m : Str → Option Value) (n : Nat) : Prop := ∃ es ep ns, o.data = .dict es ep ∧ StrKeys es ∧ UniqKeys es ∧ (∀ name, nsFind es name = m name) ∧ Within m ns ∧ ns.length ≤ n
theorem NsO.nsObj {o : Obj} {m : Str → Option Value} {n : Nat} (x : NsO o m n) : NsObj o m := let ⟨es, ep, _, hd, hk, _, hf, _⟩ := x; ⟨es, ep, hd, hk, hf⟩
theorem NsO.ns1 {h : Heap} {a : Addr} {o : Obj} {m : Str → Option Value} {n : Nat} (x : NsO o m n) (e : h.get? a = some o) : h.Ns1 a m := let ⟨es, ep, _, hd, hk, hu, hf, _⟩ := x; ⟨o, es, ep, e, hd, hk, hu, hf⟩
theorem NsO.empty : NsO dict0 (fun _ => none) 0 := ⟨#[], 0, [], rfl, fun _ he => by simp at he, by simp [UniqKeys], fun _ => rfl, Within.nil, Nat.le_refl _⟩

structure Inst (μ : Mu) (x dx C : Addr) (mA : Str → Option Value) (n : Nat) : Prop where
  at_ : μ x = some (instObj C dx)
  dict : ∃ od, μ dx = some od ∧ NsO od mA n
theorem Inst.mono {μ μ' : Mu} {x dx C : Addr} {mA : Str → Option Value} {n : Nat} (I : Inst μ x dx C mA n) (k : MuLe μ μ') : Inst μ' x dx C mA n := ⟨k _ _ I.at_, let ⟨od, e, n⟩ := I.dict; ⟨od, k _ _ e, n⟩⟩

section
variable {w : World} {prog : Program} {A : Around} {E : Value → Shared → Prop} {s : Shared} {g : Heap} {L : Addr} {m : Str → Option Value} {μ : Mu} {env : Env} {mg mb : Str → Option Value} {x dx C : Addr} {mA : Str → Option Value} {name : Str} {nA : Nat}

theorem Gd.keeps {h : Heap} (G : Gd w mg mb g) (S : St g L m μ h) : (hd.heap_39 w.params).In h := G.K.keeps S.fr.keep
theorem Inst.instAt {h : Heap} (I : Inst μ x dx C mA nA) (S : St g L m μ h) : ∃ od, PySem.W.InstAt h x (instObj C dx) C (some od) ∧ NsObj od mA := by
  obtain ⟨od, e, n⟩ := I.dict
  exact ⟨od, ⟨S.get I.at_, rfl, rfl, S.get e⟩, n.nsObj⟩

theorem r_getOwn {v : Value} {attr : Option Value} {expr : Bool} {Q : Value → Shared → Prop} (G : Gd w mg mb g) (S : St g L m μ s.heap) (I : Inst μ x dx C mA nA) (hv : mA name = some v) (hg : plainGet (hd.heap_39 w.params) C name = true) (hh : hasDictIn (hd.heap_39 w.params) C = true)
    (ha : findIn (hd.heap_39 w.params) (.ref C) name = some attr) (hn : noGet (hd.heap_39 w.params) attr = true) (ho : handedIn v = true) (h : Q v { s with toks := s.toks + 1 }) : wpAny (model prog w) A (getAttr (.ref x) name expr) Q E s := by
  obtain ⟨od, IA, n⟩ := I.instAt S
  exact get_value (G.keeps S) IA (plainGet_of hg).1 (findObj_own hh ha hn (by rw [lookIn_ns n, hv])) ho h
theorem r_getCls {a : Value} {expr : Bool} {Q : Value → Shared → Prop} (G : Gd w mg mb g) (S : St g L m μ s.heap) (I : Inst μ x dx C mA nA) (hv : mA name = none) (hg : plainGet (hd.heap_39 w.params) C name = true) (hh : hasDictIn (hd.heap_39 w.params) C = true)
    (ha : findIn (hd.heap_39 w.params) (.ref C) name = some (some a)) (hn : specialIn (hd.heap_39 w.params) a "__get__" = some none) (ho : handedIn a = true) (hc : copiedNames.contains name = false) (h : Q a { s with toks := s.toks + 1 }) :
    wpAny (model prog w) A (getAttr (.ref x) name expr) Q E s := by
  obtain ⟨od, IA, n⟩ := I.instAt S
  exact get_value (G.keeps S) IA (plainGet_of hg).1 (findObj_cls hh ha hn ho hc (by rw [lookIn_ns n, hv])) ho h
theorem r_methFn {f : Addr} {pl : Sem Bool} {Q : Value × List Value → Shared → Prop} (G : Gd w mg mb g) (S : St g L m μ s.heap) (I : Inst μ x dx C mA nA) (hv : mA name = none) (hg : plainGet (hd.heap_39 w.params) C name = true)
    (hf : findIn (hd.heap_39 w.params) (.ref C) name = some (some (.ref f))) (ht : isFn (hd.heap_39 w.params) (.ref f) = true) (h : Q (.ref f, [.ref x]) s) : wpAny (model prog w) A (getMethod (.ref x) name pl) Q E s := by
  obtain ⟨od, IA, n⟩ := I.instAt S
  exact method_fn (G.keeps S) IA (plainGet_of hg).1 (plainGet_of hg).2 hf (beq_iff_eq.mp ht) (by show (lookIn name od).map _ = _; rw [lookIn_ns n, hv]; rfl) h
theorem typeOf_dictT : typeOf (.type "dict") = pure (.type "type") := by kernel_rfl
theorem noGet_type : typeLookup (.type "type") "__get__" = pure none := by rw [typeLookup_type, builtinLookup_eq_fast]; kernel_rfl
theorem looks_findT {M : Model} {h : Heap} {od : Obj} {cd : ClassData} (X : (hd.heap_39 w.params).In h) (IA : PySem.W.InstAt h x (instObj C dx) C (some od)) (hc : clsIn (hd.heap_39 w.params) C = some cd) (hd' : cd.hasDict = true)
    (ha : findIn (hd.heap_39 w.params) (.ref C) name = some (some (.type "dict"))) (hl : lookIn name od = some none) (hcn : copiedNames.contains name = false) :
    Looks M h (PySem.Builtin.ObjectAttr.find (.ref x) (.ref C) name) (.value (.type "dict")) := by
  refine (looks_findIn X ha).andThen (Looks.andThen (a := none) ?_ (Looks.now.andThen ?_))
  · exact (Looks.of_pure typeOf_dictT).andThen (Looks.of_pure noGet_type)
  · refine (looks_own X IA hc (r := none) (by unfold PySem.W.ownOf; rw [if_pos hd']; exact hl)).andThen ?_
    refine Looks.andThen (a := ()) ?_ (Looks.tag ((Looks.of_pure (by rfl)).andThen .now))
    unfold PySem.Builtin.ObjectAttr.copiedAttributeGuard
    have hcn' : (["__module__", "__name__", "__qualname__", "__doc__", "__annotations__"] : List Str).contains name = false := hcn
    dsimp only
    rw [hcn']
    exact .now
theorem get_valueT {od : Obj} {expr : Bool} {Q : Value → Shared → Prop} {cd : ClassData} (X : (hd.heap_39 w.params).In s.heap) (IA : PySem.W.InstAt s.heap x (instObj C dx) C (some od)) (hga : findIn (hd.heap_39 w.params) (.ref C) "__getattribute__" = some (some (.builtin "object.__getattribute__")))
    (hc : clsIn (hd.heap_39 w.params) C = some cd) (hd' : cd.hasDict = true)
    (ha : findIn (hd.heap_39 w.params) (.ref C) name = some (some (.type "dict"))) (hl : lookIn name od = some none) (hcn : copiedNames.contains name = false) (h : Q (.type "dict") { s with toks := s.toks + 1 }) : wpAny (model prog w) A (getAttr (.ref x) name expr) Q E s := by
  refine get_open X IA hga ?_
  obtain ⟨hh', gs, d, t, os⟩ := s
  have L0 := IA.type (M := model prog w)
  have L1 := looks_findT (M := model prog w) X IA hc hd' ha hl hcn
  refine wpAny_bind (wpAny_pure (wpAny_bind (L0.at (wpAny_bind (L1.at ?_)))))
  refine wpAny_pure ?_
  show wpAny _ _ (handedOut (.type "dict")) _ _ _
  exact wpAny_pure h
/-- a class's own value, called as a method: self.make() where make = dict -/
theorem r_methVal {pl : Sem Bool} {Q : Value × List Value → Shared → Prop} (G : Gd w mg mb g) (S : St g L m μ s.heap) (I : Inst μ x dx C mA nA) (hv : mA name = none) (hg : plainGet (hd.heap_39 w.params) C name = true) (hh : hasDictIn (hd.heap_39 w.params) C = true)
    (ha : findIn (hd.heap_39 w.params) (.ref C) name = some (some (.type "dict"))) (hc : copiedNames.contains name = false)
    (h : Q (.type "dict", []) { s with toks := s.toks + 1 }) : wpAny (model prog w) A (getMethod (.ref x) name pl) Q E s := by
  obtain ⟨od, IA, n⟩ := I.instAt S
  have X := G.keeps S
  obtain ⟨cd, hc1, hc2⟩ := any_some hh
  unfold getMethod specialOf
  refine wpAny_bind (wpAny_bind (IA.type.here ((looks_findIn X (plainGet_of hg).1).here ?_)))
  dsimp only
  rw [PySem.F.canon_object_ga, if_neg (by decide)]
  refine wpAny_bind (wpAny_bind (IA.type.here ((looks_findIn X (plainGet_of hg).2).here ?_)))
  refine wpAny_bind (wpAny_bind (IA.type.here ((looks_findIn X ha).here (wpAny_bind ((Looks.of_pure typeOf_dictT).here ?_)))))
  rw [if_pos (by decide +kernel)]
  exact wpAny_bind (get_valueT X IA (plainGet_of hg).1 hc1 hc2 ha (by rw [lookIn_ns n, hv]) hc (wpAny_pure h))

theorem r_setAttr {v : Value} {Q : Unit → Shared → Prop} (G : Gd w mg mb g) (S : St g L m μ s.heap) (I : Inst μ x dx C mA nA)
    (hs : findIn (hd.heap_39 w.params) (.ref C) "__setattr__" = some (some (.builtin "object.__setattr__"))) (hp : plainOver (hd.heap_39 w.params) C = true) (ht : takerIn (hd.heap_39 w.params) C name = some none) (hh : hasDictIn (hd.heap_39 w.params) C = true)
    (hn : nA ≤ 1000) (h : ∀ od h' tk', NsO od (fun y => if y = name then some v else mA y) (nA + 1) → St g L m (upd μ dx od) h' → Q () { s with heap := h', toks := tk' }) :
    wpAny (model prog w) A (setAttr (.ref x) name v) Q E s := by
  obtain ⟨od, ed, n⟩ := I.dict
  have IA : PySem.W.InstAt s.heap x (instObj C dx) C (some od) := ⟨S.get I.at_, rfl, rfl, S.get ed⟩
  have X := G.keeps S
  refine set_plain X IA hs (osa_open (s := { s with toks := s.toks + 1 }) X IA hp ht fun b => ?_)
  obtain ⟨cd, hc, hd'⟩ := any_some hh
  refine wpAny_bind (wpAny_pure (wpAny_bind (wpAny_bind (wpAny_loadPart IA.at_ (wpAny_bind (Looks.here (s := { s with toks := s.toks + 1 }) (looks_clsIn X hc) ?_))))))
  rw [hd']
  refine wpAny_pure (a := some dx) (wpAny_bind (wpAny_pure (wpAny_bind ?_)))
  obtain ⟨es, ep, ns, h1, h2, h3, h4, h5, h6⟩ := id n
  refine wpAny_nsSet1 (n.ns1 IA.dict) fun h' hn' hs' => ?_
  obtain ⟨o', es', ep', e', hd', hle⟩ := hn'.count (h5.cons name v)
  obtain ⟨o₂, es₂, ep₂, e₂, k1, k2, k3, k4⟩ := hn'
  have q : o₂ = o' := Option.some.inj (e₂.symm.trans e')
  subst q
  have hsz : es'.size ≤ nA + 1 := by rw [List.length_cons] at hle; omega
  refine wpAny_bind (wpAny_lookBehind (s := { s with heap := h', toks := s.toks + 1 + 1 }) e' (by rw [hd']; exact pastItsLine_dict (by rw [sizeLine_eq]; omega)) ?_)
  exact wpAny_pure (h _ h' _ ⟨es₂, ep₂, name :: ns, k1, k2, k3, k4, h5.cons name v, by rw [List.length_cons]; omega⟩ (S.change ed hs' e'))

theorem Inst.set {od : Obj} {m' : Str → Option Value} {n' : Nat} (I : Inst μ x dx C mA nA) (hne : x ≠ dx) (hn : NsO od m' n') : Inst (upd μ dx od) x dx C m' n' := ⟨mu_ch I.at_ hne, od, upd_self .., hn⟩
theorem ite_of_true {b : Bool} {X Y : Prop} (e : b = true) (h : X) : if b = true then X else Y := by rw [if_pos e]; exact h
theorem ite_of_false {b : Bool} {X Y : Prop} (e : b = false) (h : Y) : if b = true then X else Y := by rw [if_neg (by rw [e]; exact Bool.false_ne_true)]; exact h
theorem r_new {C : Addr} {args : List Value} {kw : List (Str × Value)} {fI : Addr} {Q : Value → Shared → Prop} (G : Gd w mg mb g) (S : St g L m μ s.heap) (hm : makesIn (hd.heap_39 w.params) C = true) (hi : findIn (hd.heap_39 w.params) (.ref C) "__init__" = some (some (.ref fI))) (hf : isFn (hd.heap_39 w.params) (.ref fI) = true)
    (h : ∀ x dx h', Nn μ dx → Nn (upd μ dx dict0) x → St g L m (upd (upd μ dx dict0) x (instObj C dx)) h' →
      codeAny (model prog w) (A.under (.builtin "type.__call__" ⟨.ref C :: args, kw⟩)) (.call (.ref fI) ⟨.ref x :: args, kw⟩) (InitBack x (WantV Q E)) { s with heap := h' }) :
    wpAny (model prog w) A (call (.ref C) args kw) Q E s := by
  obtain ⟨hh, gs, d, t, os⟩ := s
  have X := G.keeps S
  have S1 := S.alloc dict0 rfl
  have S2 := S1.alloc (instObj C hh.objs.size) rfl
  have h2 := S1.none_size
  rw [Heap.size_push] at S2 h2
  exact wpAny_call (make_core (makes_of X hm) (looks_findIn X hi) (fun self => bind_fn X self (beq_iff_eq.mp hf)) (.inl rfl) (h _ _ _ S.none_size h2 S2))
end
end

/-! M0d -/
section
open PySem PySem.W PyProof.Rows PySem.Calls
theorem typeCall_dict_0 : checkTypeCall "dict" ⟨[], []⟩ = pure () := by kernel_rfl
theorem newCall_dict_0 : checkBuiltinCall "dict.__new__" ⟨[.type "dict"], []⟩ = pure () := by kernel_rfl

section
variable {w : World} {prog : Program} {A : Around} {E : Value → Shared → Prop} {s : Shared} {g : Heap} {L : Addr} {m : Str → Option Value} {μ : Mu} {env : Env} {mg mb : Str → Option Value}

theorem code_dict_new0 {Q₁ : Value → Shared → Prop} (h : Q₁ (.ref s.heap.objs.size) { s with heap := s.heap.push dict0 }) :
    codeAny (model prog w) A (.call (.builtin "dict.__new__") ⟨[.type "dict"], []⟩) (wants Q₁ E) s := by
  refine codeAny_call_builtin F.kt_plain_dict_new F.kt_entry_dict_new (wpAny_of_eq newCall_dict_0 ?_)
  have hsub := F.kt_sub_dict
  have hmro := F.kt_mro_dict
  obtain ⟨hp, g, d, tk, os⟩ := s
  unfold Builtin.«dict.__new__»
  wp_walk
  exact h
theorem call_dict0 {Q : Value → Shared → Prop} (h : Q (.ref s.heap.objs.size) { s with heap := s.heap.push dict0 }) : wpAny (model prog w) A (call (.type "dict") [] []) Q E s := by
  refine callType_codes (Q₁ := fun obj s₁ => obj = .ref s.heap.objs.size ∧ s₁ = { s with heap := s.heap.push dict0 }) F.kt_called_dict typeCall_dict_0 F.entry_dict_init (code_dict_new0 ⟨rfl, rfl⟩) ?_
  rintro obj s₁ ⟨rfl, rfl⟩
  have hnew : (s.heap.push dict0).DictOf (intKind prog w) s.heap.objs.size [] := Heap.DictOf.new s.heap
  refine ⟨hnew.typeIs, F.args_dict_init_1 _, ?_⟩
  unfold Builtin.«dict.__init__»
  refine wpAny_bind ?_
  unfold Builtin.Dict.selfAndRest
  refine wpAny_bind (wpAny_notOrdered_dict hnew.typeIs ?_)
  refine wpAny_pure ?_
  exact wpAny_bind (wpAny_pure (wpAny_pure ⟨rfl, h⟩))

/-- dicts of the ledger, by int keys -/
abbrev PR : Program := PySem.Challenge.rw_bj0030_01.prog
def DO (w : World) (kvs : List (Int × Value)) (o : Obj) : Prop := o.IsDictOf (intKind PR w) kvs
theorem DO.nil : DO w [] dict0 := ⟨#[], 0, ⟨rfl, rfl, rfl⟩, rfl, fun _ he => by simp at he, .nil, List.nodup_nil⟩
theorem DO.at {h : Heap} {d : Addr} {kvs : List (Int × Value)} {o : Obj} (x : DO w kvs o) (e : h.get? d = some o) : h.DictOf (intKind PR w) d kvs :=
  let ⟨es, ep, r⟩ := x; ⟨o, es, ep, e, r⟩
theorem DO.nodup {kvs : List (Int × Value)} {o : Obj} (x : DO w kvs o) : (kvs.map (·.1)).Nodup := let ⟨_, _, _, _, _, _, h⟩ := x; h

theorem r_seqK {M : Model} {a : Addr} {oc : Value} {od : Option Addr} {items : Array Value} {n : Nat} {osl : Array (Option Value)} {Q : Option (Array Value) → Shared → Prop} (G : Gd w mg mb g) (S : St g L m μ s.heap)
    (e : (hd.heap_39 w.params).lookup a = some ⟨oc, od, .seq items n, osl⟩) (h : Q (some items) s) : wpAny M A (seqItems? (.ref a)) Q E s :=
  wpAny_seqItems (S.fr.keep _ _ (G.K _ _ e)) rfl h
theorem r_dict0 {Q : Value → Shared → Prop} (S : St g L m μ s.heap) (h : ∀ d h', Nn μ d → St g L m (upd μ d dict0) h' → Q (.ref d) { s with heap := h' }) : wpAny (model PR w) A (call (.type "dict") [] []) Q E s :=
  call_dict0 (h _ _ S.none_size (S.alloc _ rfl))
theorem r_in {d : Addr} {o : Obj} {kvs : List (Int × Value)} {k : Int} {t : Tok} {Q : Value → Shared → Prop} (S : St g L m μ s.heap) (hd : μ d = some o) (ho : DO w kvs o) (h : ∀ tk', Q (.bool (valueAt kvs k).isSome) { s with toks := tk' }) :
    wpAny (model PR w) A (compareOp .In (.int k t) (.ref d)) Q E s :=
  wpAny_in_of (knd := intKind PR w) (intKind_is PR w k t) (S.sys hd) (ho.at (S.get hd)).mapOf (h _)
theorem r_notIn {d : Addr} {o : Obj} {kvs : List (Int × Value)} {k : Int} {t : Tok} {Q : Value → Shared → Prop} (S : St g L m μ s.heap) (hd : μ d = some o) (ho : DO w kvs o) (h : ∀ tk', Q (.bool (!(valueAt kvs k).isSome)) { s with toks := tk' }) :
    wpAny (model PR w) A (compareOp .NotIn (.int k t) (.ref d)) Q E s :=
  wpAny_notIn_of (knd := intKind PR w) (intKind_is PR w k t) (S.sys hd) (ho.at (S.get hd)).mapOf (h _)
theorem r_dictItem {d : Addr} {o : Obj} {kvs : List (Int × Value)} {k : Int} {t : Tok} {v : Value} {value slice : Expr} {Q : Value → Shared → Prop} (S : St g L m μ s.heap) (hd : μ d = some o) (ho : DO w kvs o) (hv : valueAt kvs k = some v) (h : ∀ tk', Q v { s with toks := tk' })
    (hs : subscripted slice false (.ref d) (.int k t) = operate [.ref d, .int k t] (getItem (.ref d) (.int k t)) := by with_unfolding_all rfl) :
    wpAny (model PR w) A (subscriptTail value slice (.ref d) (.int k t)) Q E s :=
  tail_any (ho.at (S.get hd)).typeIs PySem.F.slot_dict_getitem.lookup (wpAny_getItem_of (intKind_is PR w k t) (ho.at (S.get hd)).mapOf hv (h _)) hs
theorem r_dictStore {d : Addr} {o : Obj} {kvs : List (Int × Value)} {k : Int} {t : Tok} {v : Value} {Q : Unit → Shared → Prop} (S : St g L m μ s.heap) (hd : μ d = some o) (ho : DO w kvs o) (hsz : kvs.length ≤ sizeLine)
    (h : ∀ o' h' tk', DO w (stored kvs k v) o' → St g L m (upd μ d o') h' → Q () { s with heap := h', toks := tk' }) : wpAny (model PR w) A (setItem (.ref d) (.int k t) v) Q E s := by
  refine wpAny_setItem_pairs (knd := intKind PR w) (intKind_is PR w k t) (ho.at (S.get hd)) (fun h' hd' hs => ?_) hsz
  obtain ⟨o', es, ep, e', r⟩ := hd'
  exact h o' h' _ ⟨es, ep, r⟩ (S.change hd hs e')
theorem r_dictMethod {name : Str} {id : String} {pl : Sem Bool} {d : Addr} {o : Obj} {kvs : List (Int × Value)} {Q : Value × List Value → Shared → Prop} (S : St g L m μ s.heap) (hd : μ d = some o) (ho : DO w kvs o)
    (slot : Slot "dict" name id) (hty : typeOf (.builtin id) = pure (.type "method_descriptor")) (h : Q (.builtin id, [.ref d]) s) : wpAny (model PR w) A (getMethod (.ref d) name pl) Q E s :=
  let D := ho.at (S.get hd)
  getMethod_builtin D.typeIs PySem.F.plainAttrs_dict slot hty D.mapOf.noDict h
theorem r_dictUpdate {d o₁ : Addr} {o oo : Obj} {kvs : List (Int × Value)} {Q : Value → Shared → Prop} (S : St g L m μ s.heap) (hd : μ d = some o) (ho : DO w kvs o) (h1 : μ o₁ = some oo) (ho1 : DO w [] oo) (hne : d ≠ o₁) (hsz : kvs.length ≤ sizeLine)
    (h : ∀ o' h', DO w kvs o' → St g L m (upd μ d o') h' → Q .none { s with heap := h' }) : wpAny (model PR w) A (call (.builtin "dict.update") [.ref d, .ref o₁] []) Q E s := by
  refine call_meetsIn PySem.F.slot_dict_update (ho.at (S.get hd)).typeIs PySem.F.entry_dict_update (PySem.F.args_dict_update_2 _ _) (meets_dict_update (intKind PR w) d o₁ hne (S.sys h1)) ?_
  refine ⟨kvs, [], ho.at (S.get hd), ho1.at (S.get h1), by simpa using hsz, fun h' hd' _ hs => ?_⟩
  obtain ⟨o', es, ep, e', r⟩ := hd'
  exact h o' h' ⟨es, ep, r⟩ (S.change hd hs e')
end
end

/-! M0e -/
section
open PySem PySem.W PyProof.Rows PySem.Calls
theorem bsplit {b : Bool} {X Y : Prop} (h1 : b = true → X) (h2 : b = false → Y) : if b = true then X else Y := by cases b with | true => rw [if_pos rfl]; exact h1 rfl | false => rw [if_neg Bool.false_ne_true]; exact h2 rfl
/-! the graph under work: which addresses are what -/
abbrev Col := Addr → Nat
structure Kd (w : World) (μ : Mu) (col : Col) (c : Nat) (kvs : List (Int × Value)) (a : Addr) : Prop where
  c : col a = c
  o : ∃ o, μ a = some o ∧ DO w kvs o
def RowOk (w : World) (μ : Mu) (col : Col) (many c : Nat) (a : Addr) : Prop :=
  ∃ kvs, Kd w μ col c kvs a ∧ ∀ kv ∈ kvs, (0 ≤ kv.1 ∧ kv.1 < many) ∧ ∃ d, kv.2 = .ref d ∧ Kd w μ col 4 [] d
def AdjK (w : World) (μ : Mu) (col : Col) (many c c0 : Nat) (ord : List Nat) (a : Addr) (kvs : List (Int × Value)) : Prop :=
  Kd w μ col c kvs a ∧ (∀ kv ∈ kvs, 0 ≤ kv.1 ∧ kv.1 < many) ∧ ∀ i : Nat, i ∈ ord → ∃ r, valueAt kvs i = some (.ref r) ∧ RowOk w μ col many (c0 + i) r
def AdjOk (w : World) (μ : Mu) (col : Col) (many c c0 : Nat) (ord : List Nat) (a : Addr) : Prop := ∃ kvs, AdjK w μ col many c c0 ord a kvs
def NdOk (w : World) (μ : Mu) (col : Col) (ord : List Nat) (a : Addr) : Prop :=
  ∃ kvs, Kd w μ col 1 kvs a ∧ kvs.map (·.1) = ord.map Int.ofNat ∧ ∀ kv ∈ kvs, ∃ d, kv.2 = .ref d ∧ Kd w μ col 4 [] d
def clsOf (dir : Bool) : Addr := if dir then 789 else 620
def mAOf (dir : Bool) (dg dn da dp : Addr) : Str → Option Value := match dir with
  | true => fun y => if y = Str.ofString "_succ" then some (.ref da) else if y = Str.ofString "_pred" then some (.ref dp) else if y = Str.ofString "_adj" then some (.ref da) else if y = Str.ofString "_node" then some (.ref dn) else if y = Str.ofString "graph" then some (.ref dg) else none
  | false => fun y => if y = Str.ofString "_adj" then some (.ref da) else if y = Str.ofString "_node" then some (.ref dn) else if y = Str.ofString "graph" then some (.ref dg) else none
structure GrA (w : World) (μ : Mu) (col : Col) (dir : Bool) (many : Nat) (oN oA oP : List Nat) (x dx dg dn da dp : Addr) : Prop where
  inst : ∃ n, n ≤ 10 ∧ Inst μ x dx (clsOf dir) (mAOf dir dg dn da dp) n
  cx : col x = 5
  cdx : col dx = 6
  nd : NdOk w μ col oN dn
  adj : AdjOk w μ col many 2 10 oA da
  pred : dir = true → AdjOk w μ col many 3 20 oP dp
  cz : ∀ b, col b ≠ 0 → ∃ o, μ b = some o
  lt : ∀ i, (i ∈ oN ∨ i ∈ oA ∨ i ∈ oP) → i < many
  m6 : many ≤ 6
def Tr (w : World) (μ : Mu) (col : Col) (μ' : Mu) (col' : Col) (x : Nat) : Prop :=
  ∀ b o, μ b = some o → col b ≠ 0 → col b ≠ x → col' b = col b ∧ ∃ o', μ' b = some o' ∧ (col b ≠ 4 → o' = o) ∧ ∀ kvs, DO w kvs o → DO w kvs o'
def Kp (μ : Mu) (col : Col) (μ' : Mu) (col' : Col) : Prop := ∀ b o, μ b = some o → col b = 0 → μ' b = some o ∧ col' b = 0
section
variable {w : World} {μ μ' μ'' : Mu} {col col' col'' : Col} {dir : Bool} {many : Nat} {ord oN oA oP : List Nat} {x dx dg dn da dp : Addr} {q : Nat}
theorem Kp.refl : Kp μ col μ col := fun _ _ e c => ⟨e, c⟩
theorem Kp.trans (a : Kp μ col μ' col') (b : Kp μ' col' μ'' col'') : Kp μ col μ'' col'' := fun x o e c => let ⟨e', c'⟩ := a x o e c; b x o e' c'
theorem Kp.mono (h : MuLe μ μ') : Kp μ col μ' col := fun _ _ e c => ⟨h _ _ e, c⟩
theorem Kp.chg {b : Addr} {o : Obj} (h : col b ≠ 0) : Kp μ col (upd μ b o) col := fun b' _ e c => ⟨mu_ch e (fun q => h (q ▸ c)), c⟩
def recol (col : Col) (a : Addr) (c : Nat) : Col := fun b => if b = a then c else col b
theorem Kp.fresh {a : Addr} {o : Obj} {c : Nat} (h : Nn μ a) : Kp μ col (upd μ a o) (recol col a c) := fun b o' e k => ⟨mu_up e h, by unfold recol; rw [if_neg (ne_of_mu e h)]; exact k⟩
theorem Tr.mono (h : MuLe μ μ') : Tr w μ col μ' col q := fun b o e _ _ => ⟨rfl, o, h _ _ e, fun _ => rfl, fun _ x => x⟩
theorem Tr.fresh {a : Addr} {o : Obj} {c : Nat} (h : Nn μ a) : Tr w μ col (upd μ a o) (recol col a c) q := fun b o' e _ _ => ⟨by unfold recol; rw [if_neg (ne_of_mu e h)], o', mu_up e h, fun _ => rfl, fun _ x => x⟩
theorem Tr.chg {b : Addr} {o : Obj} : Tr w μ col (upd μ b o) col (col b) := fun b' o' e _ c => ⟨rfl, o', mu_ch e (fun q => c (q ▸ rfl)), fun _ => rfl, fun _ x => x⟩
theorem Tr.chgN {b : Addr} {o : Obj} (h : col b = 0) : Tr w μ col (upd μ b o) col q := fun b' o' e z c => ⟨rfl, o', mu_ch e (fun q => z (q ▸ h)), fun _ => rfl, fun _ x => x⟩
theorem Tr.del {L : Addr} (h : col L = 0) : Tr w μ col (del μ L) col q := fun b o e z _ => ⟨rfl, o, del_of (fun q => z (q ▸ h)) e, fun _ => rfl, fun _ x => x⟩
theorem DO.uniq {o : Obj} {kvs : List (Int × Value)} (a : DO w [] o) (b : DO w kvs o) : kvs = [] := by
  obtain ⟨es, ep, _, hd, _, hp, _⟩ := a
  obtain ⟨es', ep', _, hd', _, hp', _⟩ := b
  rw [hd] at hd'; cases hd'
  have := hp.length
  rw [hp'.length] at this
  exact List.eq_nil_of_length_eq_zero this
theorem Tr.data {b : Addr} {o o' : Obj} (e : μ b = some o) (h : DO w [] o) (h' : DO w [] o') (hc : col b = 4) : Tr w μ col (upd μ b o') col q := fun b' ob eb _ _ => by
  by_cases k : b' = b
  · subst k
    rw [e] at eb; cases eb
    exact ⟨rfl, o', upd_self .., fun n => absurd hc n, fun kvs x => by rw [DO.uniq h x]; exact h'⟩
  · exact ⟨rfl, ob, mu_ch eb k, fun _ => rfl, fun _ x => x⟩
theorem Kd.tr {c : Nat} {kvs : List (Int × Value)} {a : Addr} (T : Tr w μ col μ' col' q) (h0 : c ≠ 0) (hq : c ≠ q) (K : Kd w μ col c kvs a) : Kd w μ' col' c kvs a := by
  obtain ⟨hc, o, e, d⟩ := K
  subst hc
  obtain ⟨h1, o', e', _, h3⟩ := T a o e h0 hq
  exact ⟨h1, o', e', h3 _ d⟩
theorem RowOk.tr {c : Nat} {a : Addr} (T : Tr w μ col μ' col' q) (h0 : c ≠ 0) (hq : c ≠ q) (h4 : q ≠ 4) (K : RowOk w μ col many c a) : RowOk w μ' col' many c a := by
  obtain ⟨kvs, K, R⟩ := K
  exact ⟨kvs, K.tr T h0 hq, fun kv hm => let ⟨r, d, e, D⟩ := R kv hm; ⟨r, d, e, D.tr T (by decide) (Ne.symm h4)⟩⟩
theorem AdjOk.tr {c c0 : Nat} {a : Addr} (T : Tr w μ col μ' col' q) (h0 : c ≠ 0) (hq : c ≠ q) (h4 : q ≠ 4) (h5 : c0 ≠ 0) (hr : ∀ i ∈ ord, c0 + i ≠ q) (K : AdjOk w μ col many c c0 ord a) : AdjOk w μ' col' many c c0 ord a := by
  obtain ⟨kvs, K, R, N⟩ := K
  exact ⟨kvs, K.tr T h0 hq, R, fun i hi => let ⟨r, e, O⟩ := N i hi; ⟨r, e, O.tr T (by omega) (hr i hi) h4⟩⟩
theorem NdOk.tr {a : Addr} (T : Tr w μ col μ' col' q) (hq : q ≠ 1) (h4 : q ≠ 4) (K : NdOk w μ col ord a) : NdOk w μ' col' ord a := by
  obtain ⟨kvs, K, R, N⟩ := K
  exact ⟨kvs, K.tr T (by decide) (Ne.symm hq), R, fun kv hm => let ⟨d, e, O⟩ := N kv hm; ⟨d, e, O.tr T (by decide) (Ne.symm h4)⟩⟩
theorem Inst.tr {C : Addr} {mA : Str → Option Value} {n : Nat} (T : Tr w μ col μ' col' q) (hx : col x = 5) (hdx : col dx = 6) (h5 : q ≠ 5) (h6 : q ≠ 6) (I : Inst μ x dx C mA n) : Inst μ' x dx C mA n ∧ col' x = 5 ∧ col' dx = 6 := by
  obtain ⟨e, od, ed, h⟩ := I
  obtain ⟨a1, o1, b1, c1, _⟩ := T x _ e (by omega) (by omega)
  obtain ⟨a2, o2, b2, c2, _⟩ := T dx _ ed (by omega) (by omega)
  rw [c1 (by omega)] at b1
  rw [c2 (by omega)] at b2
  exact ⟨⟨b1, od, b2, h⟩, by omega, by omega⟩
/-- a change that no kind of the graph feels -/
theorem GrA.tr (T : Tr w μ col μ' col' 0) (cz : ∀ b, col' b ≠ 0 → ∃ o, μ' b = some o) (X : GrA w μ col dir many oN oA oP x dx dg dn da dp) : GrA w μ' col' dir many oN oA oP x dx dg dn da dp := by
  obtain ⟨n, hn, I⟩ := X.inst
  obtain ⟨I', h5, h6⟩ := I.tr T X.cx X.cdx (by decide) (by decide)
  exact ⟨⟨n, hn, I'⟩, h5, h6, X.nd.tr T (by decide) (by decide), X.adj.tr T (by decide) (by decide) (by decide) (by decide) (fun i _ => by omega), fun e => (X.pred e).tr T (by decide) (by decide) (by decide) (by decide) (fun i _ => by omega), cz, X.lt, X.m6⟩
theorem GrA.mono (h : MuLe μ μ') (X : GrA w μ col dir many oN oA oP x dx dg dn da dp) : GrA w μ' col dir many oN oA oP x dx dg dn da dp := X.tr (Tr.mono h) fun b hb => let ⟨o, e⟩ := X.cz b hb; ⟨o, h _ _ e⟩
theorem GrA.c0 {a : Addr} (X : GrA w μ col dir many oN oA oP x dx dg dn da dp) (h : Nn μ a) : col a = 0 := Decidable.byContradiction fun n => by obtain ⟨o, e⟩ := X.cz a n; unfold Nn at h; rw [h] at e; cases e
theorem GrA.fresh {a : Addr} {o : Obj} {c : Nat} (X : GrA w μ col dir many oN oA oP x dx dg dn da dp) (h : Nn μ a) : GrA w (upd μ a o) (recol col a c) dir many oN oA oP x dx dg dn da dp := X.tr (Tr.fresh h) fun b hb => by
  by_cases q : b = a
  · exact ⟨o, by rw [q]; exact upd_self ..⟩
  · unfold recol at hb; rw [if_neg q] at hb
    obtain ⟨o, e⟩ := X.cz b hb
    exact ⟨o, mu_ch e q⟩
theorem GrA.del {L : Addr} (X : GrA w μ col dir many oN oA oP x dx dg dn da dp) (h : col L = 0) : GrA w (del μ L) col dir many oN oA oP x dx dg dn da dp := X.tr (Tr.del h) fun b hb => let ⟨o, e⟩ := X.cz b hb; ⟨o, del_of (fun q => hb (q ▸ h)) e⟩
theorem GrA.chg {b : Addr} {o : Obj} (X : GrA w μ col dir many oN oA oP x dx dg dn da dp) (h : col b = 0) : GrA w (upd μ b o) col dir many oN oA oP x dx dg dn da dp := X.tr (Tr.chgN h) fun b' hb => let ⟨o, e⟩ := X.cz b' hb; ⟨o, mu_ch e (fun q => hb (q ▸ h))⟩
theorem cz_upd {b : Addr} {o : Obj} (h : ∀ b, col b ≠ 0 → ∃ o, μ b = some o) : ∀ b', col b' ≠ 0 → ∃ o', upd μ b o b' = some o' := fun b' hb => by
  by_cases q : b' = b
  · exact ⟨o, by rw [q]; exact upd_self ..⟩
  · obtain ⟨o', e⟩ := h b' hb; exact ⟨o', mu_ch e q⟩
theorem GrA.data {b : Addr} {o o' : Obj} (X : GrA w μ col dir many oN oA oP x dx dg dn da dp) (e : μ b = some o) (h : DO w [] o) (h' : DO w [] o') (hc : col b = 4) : GrA w (upd μ b o') col dir many oN oA oP x dx dg dn da dp :=
  X.tr (Tr.data e h h' hc) (cz_upd X.cz)
theorem mem_stored {kvs : List (Int × Value)} {k : Int} {v : Value} {kv : Int × Value} (h : kv ∈ stored kvs k v) : kv = (k, v) ∨ kv ∈ kvs := by
  unfold stored at h
  split at h
  · obtain ⟨a, ha, rfl⟩ := List.mem_map.mp h
    split
    · rename_i q; exact Or.inl (by rw [← q])
    · exact Or.inr ha
  · rcases List.mem_append.mp h with h | h
    · exact Or.inr h
    · exact Or.inl (List.mem_singleton.mp h)
theorem lenKeys {kvs : List (Int × Value)} (n : (kvs.map (·.1)).Nodup) (h : ∀ kv ∈ kvs, 0 ≤ kv.1 ∧ kv.1 < many) : kvs.length ≤ many := by
  have hb := List.Nodup.length_le_of_subset n (l₂ := (List.range many).map Int.ofNat) (fun k hk => by
    obtain ⟨kv, hm, rfl⟩ := List.mem_map.mp hk
    have := h kv hm
    exact List.mem_map.mpr ⟨kv.1.toNat, List.mem_range.mpr (by omega), by simp; omega⟩)
  simpa using hb
/-- a row of the one or the other table takes an edge -/
theorem GrA.rowStore {a : Addr} {c c0 u : Nat} (X : GrA w μ col dir many oN oA oP x dx dg dn da dp) (hc : (c = 2 ∧ c0 = 10) ∨ (c = 3 ∧ c0 = 20)) (hA : AdjOk w μ col many c c0 ord a) (hlt : ∀ i ∈ ord, i < many) (hu : u ∈ ord) :
    ∃ oa ka r o kvs, μ a = some oa ∧ DO w ka oa ∧ valueAt ka u = some (.ref r) ∧ μ r = some o ∧ DO w kvs o ∧ kvs.length ≤ 6 ∧ col r = c0 + u ∧ (∀ kv ∈ kvs, (0 ≤ kv.1 ∧ kv.1 < many) ∧ ∃ d, kv.2 = .ref d ∧ Kd w μ col 4 [] d) ∧
      ∀ (v : Nat) d o', v < many → Kd w μ col 4 [] d → DO w (stored kvs v (.ref d)) o' → GrA w (upd μ r o') col dir many oN oA oP x dx dg dn da dp := by
  obtain ⟨ka, ⟨hca, oa, ea, hda⟩, hrng, hN⟩ := hA
  obtain ⟨r, hv, kvs, ⟨hcr, o, er, hdr⟩, hR⟩ := hN u hu
  have h6 := X.m6
  have hu6 : u < many := hlt u hu
  refine ⟨oa, ka, r, o, kvs, ea, hda, hv, er, hdr, Nat.le_trans (lenKeys hdr.nodup fun kv hm => (hR kv hm).1) h6, hcr, hR, fun v d o' hvm K hd' => ?_⟩
  have T : Tr w μ col (upd μ r o') col (c0 + u) := by rw [← hcr]; exact Tr.chg
  have R' : RowOk w (upd μ r o') col many (c0 + u) r := ⟨_, ⟨hcr, o', upd_self .., hd'⟩, fun kv hm => by
    rcases mem_stored hm with rfl | hm
    · exact ⟨⟨by simp, by simpa using hvm⟩, d, rfl, K.tr T (by decide) (by omega)⟩
    · obtain ⟨q1, d', e', K'⟩ := hR kv hm
      exact ⟨q1, d', e', K'.tr T (by decide) (by omega)⟩⟩
  have A' : ∀ c' c0' b (od : List Nat), (∀ i ∈ od, i < many) → ((c' = 2 ∧ c0' = 10) ∨ (c' = 3 ∧ c0' = 20)) → AdjOk w μ col many c' c0' od b → AdjOk w (upd μ r o') col many c' c0' od b := by
    intro c' c0' b od hod hc' hb
    obtain ⟨kb, Kb, hrb, hNb⟩ := hb
    refine ⟨kb, Kb.tr T (by omega) (by omega), hrb, fun i hi => ?_⟩
    obtain ⟨r', e', O'⟩ := hNb i hi
    have hi6 := hod i hi
    by_cases q : c0' + i = c0 + u
    · obtain ⟨kv', ⟨hcr', o1, er', hd1⟩, hR'⟩ := O'
      by_cases qr : r' = r
      · refine ⟨r', e', ?_⟩
        rw [qr, q]; exact R'
      · refine ⟨r', e', kv', ⟨hcr', o1, mu_ch er' qr, hd1⟩, fun kv hm => ?_⟩
        obtain ⟨q1, d', e', K'⟩ := hR' kv hm
        exact ⟨q1, d', e', K'.tr T (by decide) (by omega)⟩
    · exact ⟨r', e', O'.tr T (by omega) q (by omega)⟩
  obtain ⟨n, hn, I⟩ := X.inst
  obtain ⟨I', h5, h6'⟩ := I.tr T X.cx X.cdx (by omega) (by omega)
  exact ⟨⟨n, hn, I'⟩, h5, h6', X.nd.tr T (by omega) (by omega), A' _ _ _ _ (fun i hi => X.lt i (.inr (.inl hi))) (.inl ⟨rfl, rfl⟩) X.adj, fun e => A' _ _ _ _ (fun i hi => X.lt i (.inr (.inr hi))) (.inr ⟨rfl, rfl⟩) (X.pred e), cz_upd X.cz, X.lt, X.m6⟩
theorem valueAt_stored {kvs : List (Int × Value)} {k k' : Int} {v : Value} : valueAt (stored kvs k v) k' = if k' = k then some v else valueAt kvs k' := by
  unfold stored
  by_cases h : kvs.any (fun kv => kv.1 = k) = true
  · rw [if_pos h]
    induction kvs with
    | nil => simp at h
    | cons kv t ih =>
      by_cases q : kv.1 = k
      · by_cases q' : k' = k
        · simp [valueAt, q, q']
        · have : ∀ t : List (Int × Value), valueAt (t.map fun kv => if kv.1 = k then (kv.1, v) else kv) k' = valueAt t k' := by
            intro t
            induction t with
            | nil => rfl
            | cons x t ih2 =>
              unfold valueAt at ih2 ⊢
              by_cases z : x.1 = k
              · rw [List.map_cons, if_pos z, List.find?_cons_of_neg (by simp [z, Ne.symm q']), List.find?_cons_of_neg (by simp [z, Ne.symm q'])]; exact ih2
              · simp only [List.map_cons, if_neg z, List.find?_cons]
                split
                · rfl
                · exact ih2
          rw [this, if_neg q']
      · have h' : t.any (fun kv => kv.1 = k) = true := by simpa [q] using h
        have := ih h'
        unfold valueAt at this ⊢
        simp only [List.map_cons, if_neg q, List.find?_cons]
        by_cases z : kv.1 = k'
        · have : k' ≠ k := fun e => q (z.trans e)
          simp [z, this]
        · simp [z]; simpa using this
  · rw [if_neg h]
    have hn : valueAt kvs k = none := by
      unfold valueAt
      rw [Option.map_eq_none_iff, List.find?_eq_none]
      intro x hx q
      exact h (List.any_eq_true.mpr ⟨x, hx, q⟩)
    unfold valueAt at hn ⊢
    rw [List.find?_append]
    by_cases q' : k' = k
    · subst q'
      rw [Option.map_eq_none_iff] at hn
      simp [hn]
    · simp [q', Ne.symm q']
theorem stored_new {kvs : List (Int × Value)} {k : Int} {v : Value} (h : valueAt kvs k = none) : stored kvs k v = kvs ++ [(k, v)] := by
  unfold stored
  rw [if_neg]
  intro q
  obtain ⟨x, hx, e⟩ := List.any_eq_true.mp q
  unfold valueAt at h
  rw [Option.map_eq_none_iff, List.find?_eq_none] at h
  exact h x hx e
theorem valueAt_isSome_iff {kvs : List (Int × Value)} {k : Int} : (valueAt kvs k).isSome = true ↔ k ∈ kvs.map (·.1) := by
  unfold valueAt
  rw [Option.isSome_map, List.find?_isSome, List.mem_map]
  constructor
  · rintro ⟨x, hx, e⟩; exact ⟨x, hx, by simpa using e⟩
  · rintro ⟨x, hx, e⟩; exact ⟨x, hx, by simpa using e⟩
theorem AdjOk.put {c c0 n : Nat} {a r : Addr} {ka : List (Int × Value)} {o' : Obj} (hA : AdjK w μ col many c c0 ord a ka) (h4 : c ≠ 4 ∧ c < c0 ∧ 4 < c0) (hn : n < many) (hr : Kd w μ col (c0 + n) [] r) (ho : DO w (stored ka n (.ref r)) o') :
    AdjOk w (upd μ a o') col many c c0 (ord ++ [n]) a := by
  obtain ⟨⟨hc, oa, ea, hd⟩, hrng, hN⟩ := hA
  have T : Tr w μ col (upd μ a o') col c := by rw [← hc]; exact Tr.chg
  refine ⟨_, ⟨hc, o', upd_self .., ho⟩, fun kv hm => ?_, fun i hi => ?_⟩
  · rcases mem_stored hm with rfl | hm
    · exact ⟨by simp, by simpa using hn⟩
    · exact hrng kv hm
  · rw [valueAt_stored]
    by_cases q : i = n
    · subst q
      exact ⟨r, by simp, [], hr.tr T (by omega) (by omega), fun _ h => nomatch h⟩
    · have hi' : i ∈ ord := by
        rcases List.mem_append.mp hi with h | h
        · exact h
        · exact absurd (List.mem_singleton.mp h) q
      obtain ⟨r', e', O'⟩ := hN i hi'
      exact ⟨r', by rw [if_neg (by omega)]; exact e', O'.tr T (by omega) (by omega) (Ne.symm (Ne.symm h4.1))⟩
theorem GrA.adjNew {n : Nat} {r : Addr} {ka : List (Int × Value)} {o' : Obj} (X : GrA w μ col dir many oN oA oP x dx dg dn da dp) (hA : AdjK w μ col many 2 10 oA da ka) (hn : n < many) (hr : Kd w μ col (10 + n) [] r) (ho : DO w (stored ka n (.ref r)) o') :
    GrA w (upd μ da o') col dir many oN (oA ++ [n]) oP x dx dg dn da dp := by
  have hc := hA.1.c
  have T : Tr w μ col (upd μ da o') col 2 := by rw [← hc]; exact Tr.chg
  obtain ⟨k, hk, I⟩ := X.inst
  obtain ⟨I', h5, h6⟩ := I.tr T X.cx X.cdx (by decide) (by decide)
  exact ⟨⟨k, hk, I'⟩, h5, h6, X.nd.tr T (by decide) (by decide), AdjOk.put hA (by decide) hn hr ho, fun e => (X.pred e).tr T (by decide) (by decide) (by decide) (by decide) (fun i _ => by omega), cz_upd X.cz,
    fun i hi => by
      rcases hi with h | h | h
      · exact X.lt i (.inl h)
      · rcases List.mem_append.mp h with h | h
        · exact X.lt i (.inr (.inl h))
        · rw [List.mem_singleton.mp h]; exact hn
      · exact X.lt i (.inr (.inr h)), X.m6⟩
theorem GrA.predNew {n : Nat} {r : Addr} {ka : List (Int × Value)} {o' : Obj} (X : GrA w μ col dir many oN oA oP x dx dg dn da dp) (hA : AdjK w μ col many 3 20 oP dp ka) (hn : n < many) (hr : Kd w μ col (20 + n) [] r) (ho : DO w (stored ka n (.ref r)) o') :
    GrA w (upd μ dp o') col dir many oN oA (oP ++ [n]) x dx dg dn da dp := by
  have hc := hA.1.c
  have T : Tr w μ col (upd μ dp o') col 3 := by rw [← hc]; exact Tr.chg
  obtain ⟨k, hk, I⟩ := X.inst
  obtain ⟨I', h5, h6⟩ := I.tr T X.cx X.cdx (by decide) (by decide)
  exact ⟨⟨k, hk, I'⟩, h5, h6, X.nd.tr T (by decide) (by decide), X.adj.tr T (by decide) (by decide) (by decide) (by decide) (fun i _ => by omega), fun _ => AdjOk.put hA (by decide) hn hr ho, cz_upd X.cz,
    fun i hi => by
      rcases hi with h | h | h
      · exact X.lt i (.inl h)
      · exact X.lt i (.inr (.inl h))
      · rcases List.mem_append.mp h with h | h
        · exact X.lt i (.inr (.inr h))
        · rw [List.mem_singleton.mp h]; exact hn, X.m6⟩
theorem GrA.ndNew {n : Nat} {d : Addr} {kn : List (Int × Value)} {o' : Obj} (X : GrA w μ col dir many oN oA oP x dx dg dn da dp) (hK : Kd w μ col 1 kn dn) (hm : kn.map (·.1) = oN.map Int.ofNat) (hv : ∀ kv ∈ kn, ∃ d, kv.2 = .ref d ∧ Kd w μ col 4 [] d)
    (hn : n < many) (hd : Kd w μ col 4 [] d) (hnew : valueAt kn n = none) (ho : DO w (stored kn n (.ref d)) o') :
    GrA w (upd μ dn o') col dir many (oN ++ [n]) oA oP x dx dg dn da dp := by
  have hc := hK.c
  have T : Tr w μ col (upd μ dn o') col 1 := by rw [← hc]; exact Tr.chg
  obtain ⟨k, hk, I⟩ := X.inst
  obtain ⟨I', h5, h6⟩ := I.tr T X.cx X.cdx (by decide) (by decide)
  refine ⟨⟨k, hk, I'⟩, h5, h6, ⟨_, ⟨hc, o', upd_self .., ho⟩, ?_, fun kv hm' => ?_⟩, X.adj.tr T (by decide) (by decide) (by decide) (by decide) (fun i _ => by omega), fun e => (X.pred e).tr T (by decide) (by decide) (by decide) (by decide) (fun i _ => by omega), cz_upd X.cz,
    fun i hi => ?_, X.m6⟩
  · rw [stored_new hnew, List.map_append, hm, List.map_append]; rfl
  · rcases mem_stored hm' with rfl | h
    · exact ⟨d, rfl, hd.tr T (by decide) (by decide)⟩
    · obtain ⟨d', e', K'⟩ := hv kv h
      exact ⟨d', e', K'.tr T (by decide) (by decide)⟩
  · rcases hi with h | h | h
    · rcases List.mem_append.mp h with h | h
      · exact X.lt i (.inl h)
      · rw [List.mem_singleton.mp h]; exact hn
    · exact X.lt i (.inr (.inl h))
    · exact X.lt i (.inr (.inr h))
theorem valueAt_mem {kvs : List (Int × Value)} {k : Int} {v : Value} (h : valueAt kvs k = some v) : (k, v) ∈ kvs := by
  unfold valueAt at h
  obtain ⟨x, hx, rfl⟩ := Option.map_eq_some_iff.mp h
  have e := List.find?_some hx
  have e' : x.1 = k := by simpa using e
  have m := List.mem_of_find?_eq_some hx
  rw [← e']; exact m
theorem NdOk.at {a : Addr} {i : Nat} (K : NdOk w μ col ord a) (hi : i ∈ ord) : ∃ kvs o d, μ a = some o ∧ DO w kvs o ∧ valueAt kvs i = some (.ref d) ∧ Kd w μ col 4 [] d := by
  obtain ⟨kvs, ⟨hc, o, e, hd⟩, hm, hv⟩ := K
  have h1 : (valueAt kvs i).isSome = true := valueAt_isSome_iff.mpr (by rw [hm]; exact List.mem_map.mpr ⟨i, hi, rfl⟩)
  obtain ⟨v, ev⟩ := Option.isSome_iff_exists.mp h1
  obtain ⟨d, ed, K⟩ := hv _ (valueAt_mem ev)
  exact ⟨kvs, o, d, e, hd, by rw [ev]; exact congrArg some ed, K⟩
theorem AdjK.len {a : Addr} {c c0 : Nat} {ka : List (Int × Value)} (h : AdjK w μ col many c c0 ord a ka) : ∃ o, μ a = some o ∧ DO w ka o ∧ ka.length ≤ many := by
  obtain ⟨⟨_, o, e, d⟩, hr, _⟩ := h
  exact ⟨o, e, d, lenKeys d.nodup hr⟩
theorem GrA.ndLen {kn : List (Int × Value)} {o : Obj} (X : GrA w μ col dir many oN oA oP x dx dg dn da dp) (hm : kn.map (·.1) = oN.map Int.ofNat) (hd : DO w kn o) : kn.length ≤ many :=
  lenKeys hd.nodup fun kv hkv => by
    have : kv.1 ∈ oN.map Int.ofNat := by rw [← hm]; exact List.mem_map.mpr ⟨kv, hkv, rfl⟩
    obtain ⟨i, hi, e⟩ := List.mem_map.mp this
    have := X.lt i (.inl hi)
    rw [← e]; exact ⟨by simp, by simpa using this⟩
theorem Kp.delI {μ1 : Mu} {col1 : Col} {I : Addr} {oI : Obj} (a : Kp μ1 col1 μ col) (hI : Nn μ I) (b : Kp (upd μ I oI) col μ' col') : Kp μ1 col1 (del μ' I) col' := fun z o e c => by
  obtain ⟨e', c'⟩ := a z o e c
  have ne := ne_of_mu e' hI
  obtain ⟨e2, c2⟩ := b z o (mu_ch e' ne) c'
  exact ⟨del_of ne e2, c2⟩
theorem Kp.leave {L : Addr} {oL : Obj} (hL : Nn μ L) (b : Kp (upd μ L oL) col μ' col') : Kp μ col (del μ' L) col' := Kp.delI Kp.refl hL b
def colS (x dx dn da : Addr) (dp : Option Addr) : Col := fun b => if b = x then 5 else if b = dx then 6 else if b = dn then 1 else if b = da then 2 else if some b = dp then 3 else 0
theorem GrA.startG {n : Nat} (hn : n ≤ 10) (h6 : many ≤ 6) (I : Inst μ x dx 620 (mAOf false dg dn da dp) n) {on oa : Obj} (e1 : μ dn = some on) (h1 : DO w [] on) (e2 : μ da = some oa) (h2 : DO w [] oa)
    (n1 : x ≠ dx) (n2 : x ≠ dn) (n3 : x ≠ da) (n4 : dx ≠ dn) (n5 : dx ≠ da) (n6 : dn ≠ da) : GrA w μ (colS x dx dn da none) false many [] [] [] x dx dg dn da dp := by
  refine ⟨⟨n, hn, I⟩, by simp [colS], by simp [colS, Ne.symm n1], ⟨[], ⟨by simp [colS, Ne.symm n2, Ne.symm n4], on, e1, h1⟩, rfl, fun _ h => nomatch h⟩,
    ⟨[], ⟨by simp [colS, Ne.symm n3, Ne.symm n5, Ne.symm n6], oa, e2, h2⟩, (fun _ h => nomatch h), fun _ h => nomatch h⟩, (fun e => nomatch e), fun b hb => ?_, (fun _ h => by simp at h), h6⟩
  obtain ⟨ix, od, ed, _⟩ := I
  unfold colS at hb
  split at hb; · rename_i q; exact ⟨_, q ▸ ix⟩
  split at hb; · rename_i q; exact ⟨_, q ▸ ed⟩
  split at hb; · rename_i q; exact ⟨_, q ▸ e1⟩
  split at hb; · rename_i q; exact ⟨_, q ▸ e2⟩
  split at hb; · rename_i q; cases q
  exact absurd rfl hb
theorem GrA.startD {n : Nat} (hn : n ≤ 10) (h6 : many ≤ 6) (I : Inst μ x dx 789 (mAOf true dg dn da dp) n) {on oa op : Obj} (e1 : μ dn = some on) (h1 : DO w [] on) (e2 : μ da = some oa) (h2 : DO w [] oa) (e3 : μ dp = some op) (h3 : DO w [] op)
    (n1 : x ≠ dx) (n2 : x ≠ dn) (n3 : x ≠ da) (n4 : dx ≠ dn) (n5 : dx ≠ da) (n6 : dn ≠ da) (n7 : x ≠ dp) (n8 : dx ≠ dp) (n9 : dn ≠ dp) (n10 : da ≠ dp) : GrA w μ (colS x dx dn da (some dp)) true many [] [] [] x dx dg dn da dp := by
  refine ⟨⟨n, hn, I⟩, by simp [colS], by simp [colS, Ne.symm n1], ⟨[], ⟨by simp [colS, Ne.symm n2, Ne.symm n4], on, e1, h1⟩, rfl, fun _ h => nomatch h⟩,
    ⟨[], ⟨by simp [colS, Ne.symm n3, Ne.symm n5, Ne.symm n6], oa, e2, h2⟩, (fun _ h => nomatch h), fun _ h => nomatch h⟩, (fun _ => ⟨[], ⟨by simp [colS, Ne.symm n7, Ne.symm n8, Ne.symm n9, Ne.symm n10], op, e3, h3⟩, (fun _ h => nomatch h), fun _ h => nomatch h⟩), fun b hb => ?_, (fun _ h => by simp at h), h6⟩
  obtain ⟨ix, od, ed, _⟩ := I
  unfold colS at hb
  split at hb; · rename_i q; exact ⟨_, q ▸ ix⟩
  split at hb; · rename_i q; exact ⟨_, q ▸ ed⟩
  split at hb; · rename_i q; exact ⟨_, q ▸ e1⟩
  split at hb; · rename_i q; exact ⟨_, q ▸ e2⟩
  split at hb; · rename_i q; cases q; exact ⟨_, e3⟩
  exact absurd rfl hb
theorem Kp.startG (h : ∀ b o, μ b = some o → μ' b = some o ∧ b ≠ x ∧ b ≠ dx ∧ b ≠ dn ∧ b ≠ da ∧ b ≠ dp) {od : Option Addr} (hd : ∀ d, od = some d → d = dp) : Kp μ (fun _ => 0) μ' (colS x dx dn da od) := fun b o e _ => by
  obtain ⟨a, h1, h2, h3, h4, h5⟩ := h b o e
  refine ⟨a, ?_⟩
  unfold colS
  rw [if_neg h1, if_neg h2, if_neg h3, if_neg h4, if_neg (fun q => h5 (hd b q.symm))]
theorem Inst.chgN {C b : Addr} {o : Obj} {mA : Str → Option Value} {n : Nat} (I : Inst μ x dx C mA n) (h1 : x ≠ b) (h2 : dx ≠ b) : Inst (upd μ b o) x dx C mA n := let ⟨e, od, ed, h⟩ := I; ⟨mu_ch e h1, od, mu_ch ed h2, h⟩
theorem Inst.delN {C b : Addr} {mA : Str → Option Value} {n : Nat} (I : Inst μ x dx C mA n) (h1 : x ≠ b) (h2 : dx ≠ b) : Inst (del μ b) x dx C mA n := let ⟨e, od, ed, h⟩ := I; ⟨del_of h1 e, od, del_of h2 ed, h⟩
end
theorem r_dictGet {w : World} {A : Around} {E : Value → Shared → Prop} {s : Shared} {g : Heap} {L : Addr} {m : Str → Option Value} {μ : Mu} {d : Addr} {o : Obj} {kvs : List (Int × Value)} {k : Int} {t : Tok} {v0 : Value} {Q : Value → Shared → Prop} (S : St g L m μ s.heap) (hd : μ d = some o) (ho : DO w kvs o)
    (h : Q ((valueAt kvs k).getD v0) { s with toks := s.toks + 1 }) : wpAny (model PR w) A (call (.builtin "dict.get") [.ref d, .int k t, v0] []) Q E s :=
  call_meetsIn PySem.F.slot_dict_get (ho.at (S.get hd)).typeIs PySem.F.entry_dict_get (PySem.F.args_dict_get_3 _ _ _) (meets_dict_get_default (intKind PR w) d (intKind_is PR w k t) (S.sys hd) v0) ⟨_, (ho.at (S.get hd)).mapOf, h⟩
def ptV (p : Nat × Tok) : Value := .int (p.1 : Int) p.2
section
variable {w : World} {A : Around} {E : Value → Shared → Prop} {s : Shared} {g : Heap} {L : Addr} {m : Str → Option Value} {μ : Mu}
theorem tupO.isTup {h : Heap} {a : Addr} {vs : List Value} {o : Obj} (x : tupO vs o) (e : h.get? a = some o) : IsTup h a vs.toArray := by
  obtain ⟨n, rfl⟩ := x
  exact ⟨_, e, rfl, n, rfl⟩
theorem St.ext {h h' : Heap} (S : St g L m μ h) (k : Heap.ExtBut h.objs.size h h') : St g L m μ h' := S.keep fun b o e => k b o (Nat.ne_of_lt (Heap.lt_size e)) e
theorem r_unpackItems {t : Addr} {o : Obj} {vs : List Value} {n : Nat} {Q : List Value → Shared → Prop} (S : St g L m μ s.heap) (ht : μ t = some o) (ho : tupO vs o) (hh : A.handled = none) (hn : n = vs.length)
    (h : ∀ h', St g L m μ h' → Q vs { s with heap := h' }) : wpAny (model PR w) A (unpackItems (.ref t) n none) Q E s := by
  subst hn
  have := unpackItems_tuple (prog := PR) (w := w) (E := E) (Q := Q) hh (ho.isTup (S.get ht)) (fun h' he => h h' (S.ext he))
  simpa using this
theorem r_unpack {t : Addr} {o : Obj} {vs : List Value} {elts : List Expr} {k} {pos : Pos} {env : Env} {Q : Unit → Shared → Prop} (S : St g L m μ s.heap) (ht : μ t = some o) (ho : tupO vs o) (hh : A.handled = none)
    (hn : (assignEach elts env).length = vs.length) (hstar : (assignEach elts env).findIdx? (·.1) = none)
    (h : ∀ h', St g L m μ h' → wpAny (model PR w) A (assignInOrder ((assignEach elts env).map (·.2)) vs) Q E { s with heap := h' }) : wpAny (model PR w) A (assign (.Tuple elts k pos) env (.ref t)) Q E s :=
  assign_Tuple_tuple hh (ho.isTup (S.get ht)) (by simpa using hn) hstar fun h' he => h h' (S.ext he)
end
end

/-! M0f -/
section
open PySem PySem.W PyProof.Rows PySem.Calls
section
variable {w : World} {prog : Program} {A : Around} {E : Value → Shared → Prop} {s : Shared} {g : Heap} {L : Addr} {m : Str → Option Value} {μ : Mu} {env : Env}

theorem St.re {C I : Addr} {oI oI₂ : Obj} {h h₂ : Heap} (S : St g C m μ h) (e : μ I = some oI) (eI : h₂.get? I = some oI₂) (k : ∀ b o, b ∉ [I] → h.get? b = some o → h₂.get? b = some o) : St g C m (upd μ I oI₂) h₂ := by
  have zI := S.mu I oI e
  refine ⟨⟨S.fr.ns.at' fun o q => k C o (by simpa using Ne.symm zI.2.1) q, fun b o q => k b o (fun hm => by rw [List.mem_singleton.mp hm, zI.2.2.1] at q; cases q) (S.fr.keep b o q), S.fr.above⟩, fun a o q => ?_, S.lo⟩
  by_cases z : a = I
  · subst z; rw [upd_self] at q; cases q; exact ⟨eI, zI.2⟩
  · rw [upd_ne z] at q
    have y := S.mu a o q
    exact ⟨k a o (by simpa using z) y.1, y.2⟩
theorem St.congr {h : Heap} {μ' : Mu} (S : St g L m μ h) (e : ∀ a, μ' a = μ a) : St g L m μ' h := S.weaken fun a o q => by rw [← e]; exact q
theorem St.nn {h : Heap} (S : St g L m μ h) : Nn μ L := by
  show μ L = none
  cases e : μ L with
  | none => rfl
  | some o => exact absurd rfl (S.mu L o e).2.1

def TurnEnd (s : Shared) (g : Heap) (L I D C : Addr) (oL oI oD : Obj) (Src : Mu → Prop) (Inv : Mu → Prop) (s₃ : Shared) : Prop :=
  ∃ m' μ' h' tk', s₃ = { s with heap := h', toks := tk' } ∧ St g C m' μ' h' ∧ μ' L = some oL ∧ μ' I = some oI ∧ μ' D = some oD ∧ Src (del (del (del μ' D) I) L) ∧ Inv (del (del (del μ' D) I) L)

theorem r_block {elt iter target : Expr} {ifs : List Expr} {scope : Scope} {cl : List (Str × Addr)} {pos : Pos} {I : Addr} {fp : List Addr} {n : Nat} {P : Nat → Value → Prop} {Stt : Nat → Heap → Prop} {Src : Mu → Prop} {oI₀ : Obj}
    {RR : Value → Addr → Result → Shared → Prop}
    (W : Walks prog w A I fp [I] n P Stt) (hsz : n ≤ sizeLine) (hIo : ∀ i h, Stt i h → ∃ o, h.get? I = some o)
    (hSt : ∀ i h h' oI μ', Stt i h → h.get? I = some oI → h'.get? I = some oI → (∀ b o, g.get? b = some o → h'.get? b = some o) → (∀ a o, μ' a = some o → h'.get? a = some o) → Src μ' → Stt i h')
    (hcell : ∀ y ∈ scope.names, y.2 ≠ .cell) (hkind : scope.kind = .function) (hst : Stt 0 s.heap) (hfp : ∀ b ∈ fp, b < s.heap.objs.size)
    (S : St g L m (upd μ I oI₀) s.heap) (hI : Nn μ I) (hsrc : Src μ)
    (Inv : Nat → List Value → Mu → Prop) (h0 : Inv 0 [] μ)
    (turn : ∀ i v ys μ' oI oL oD C D m₂ h tk (E' : Value → Shared → Prop), i < n → P i v → Inv i ys μ' → ys.length ≤ i → NsObj oL m → Nn μ' L → Nn (upd μ' L oL) I → Nn (upd (upd μ' L oL) I oI) D → lstO ys oD → Src μ' →
      St g C m₂ (upd (upd (upd μ' L oL) I oI) D oD) h →
      wpAny (model prog w) A (assign target (compEnvC scope cl C env) v) (fun _ s₂ =>
        wpAny (model prog w) A (forIn ifs true fun c r => if r = true then do let ok ← isTrue c (compEnvC scope cl C env) (eval c (compEnvC scope cl C env)); pure (ForInStep.yield ok) else pure (ForInStep.yield r)) (fun ok s₃ =>
          if ok = true then wpAny (model prog w) A (eval elt (compEnvC scope cl C env)) (fun y s₄ => TurnEnd s g L I D C oL oI oD Src (Inv (i + 1) (ys ++ [y])) s₄) E' s₃
          else TurnEnd s g L I D C oL oI oD Src (Inv (i + 1) ys) s₃) E' s₂) E' { s with heap := h, toks := tk })
    (fin : ∀ ys μ' C D oC oD mC h tk, Inv n ys μ' → lstO ys oD → NsObj oC mC → Nn μ' D → Nn (upd μ' D oD) C → St g L m (upd (upd μ' D oD) C oC) h → RR (.ref D) C (.ok .next) { s with heap := h, toks := tk })
    (ht : ∀ v, letOwnedTupleGo target (.ref I) v = pure () := by intro _; rfl) :
    wpAny (model prog w) A (newList []) (fun acc s₃ => wpAny (model prog w) A (newFunctionEnv scope env.globals cl [] env.qual none .none (some env)) (fun cenv s₄ =>
      codeAny (model prog w) A (.compStart (.ListComp elt [⟨target, iter, ifs, 0⟩] scope pos) 0 (.ref I) acc { cenv with scope := relabel scope env }) (RR acc cenv.locals) s₄) E s₃) E s := by
  have hsize := S.none_size
  refine wpAny_newObj_type (wpAny_newFunctionEnv hcell (by intro y hy; simp at hy) (fun h₁ hns₁ hsb₁ => ?_) hkind)
  dsimp only at hns₁ hsb₁ ⊢
  have S1 := S.alloc { cls := .type "list", dict := none, data := .seq ([] : List Value).toArray } rfl
  have hst1 : Stt 0 (s.heap.push { cls := .type "list", dict := none, data := .seq ([] : List Value).toArray }) := W.frame _ _ _ hst fun b _ o e => Heap.get?_push_of_some _ e
  have hfpD : s.heap.objs.size ∉ fp := fun hm => Nat.lt_irrefl _ (hfp _ hm)
  generalize hH2 : s.heap.push { cls := .type "list", dict := none, data := .seq ([] : List Value).toArray } = H2 at hns₁ hsb₁ S1 hst1 ⊢
  have hH2s : H2.objs.size = s.heap.objs.size + 1 := by rw [← hH2, Heap.size_push]
  have hfpC : H2.objs.size ∉ fp := fun hm => by have := hfp _ hm; rw [hH2s] at this; exact Nat.lt_irrefl _ (Nat.lt_of_succ_lt this)
  generalize hD : s.heap.objs.size = D at S1 hfpD hsize ⊢
  have old : ∀ b o, H2.get? b = some o → h₁.get? b = some o := fun b o e => hsb₁.extBut b o (Nat.ne_of_lt (Heap.lt_size e)) (Heap.get?_push_of_some _ e)
  obtain ⟨oL, eL, nL⟩ := ns_obj S1.fr.ns
  have hnL := S1.nn
  have hLI : L ≠ I := fun q => by have z := S.mu I oI₀ (upd_self ..); exact z.2.1 q.symm
  have hID : I ≠ D := ne_of_mu (upd_self μ I oI₀) hsize
  have hLD : L ≠ D := fun q => by have z := S1.mu D _ (upd_self ..); exact z.2.1 q.symm
  have hmL : Nn μ L := by
    show μ L = none
    have q : upd (upd μ I oI₀) D { cls := .type "list", dict := none, data := .seq ([] : List Value).toArray } L = none := hnL
    rw [upd_ne hLD, upd_ne hLI] at q; exact q
  have hmD : Nn μ D := by
    show μ D = none
    have q : upd μ I oI₀ D = none := hsize
    rw [upd_ne (Ne.symm hID)] at q; exact q
  have gL : g.get? L = none := Heap.get?_none_of_le S.fr.above
  have Lsm : L ≠ sysModules := S.Llo
  obtain ⟨C, hC⟩ : ∃ C, C = H2.objs.size := ⟨_, rfl⟩
  rw [← hC] at hns₁ hsb₁ hfpC ⊢
  -- the frame of the turns
  have SC : St g C (fun x => ([] : List (Str × Value)).reverse.lookup x) (upd (upd (upd μ L oL) I oI₀) D { cls := .type "list", dict := none, data := .seq ([] : List Value).toArray }) h₁ := by
    refine ⟨⟨hns₁, fun b o e => old b o (S1.fr.keep b o e), by rw [hC]; exact Nat.le_trans S1.fr.above (Nat.le_of_lt S1.lt)⟩, fun a o e => ?_, S.lo⟩
    by_cases q : a = L
    · subst q
      rw [upd_ne hLD, upd_ne hLI, upd_self] at e
      cases e
      exact ⟨old _ _ eL, by rw [hC]; exact Nat.ne_of_lt S1.lt, gL, Lsm⟩
    · have e' : upd (upd μ I oI₀) D { cls := .type "list", dict := none, data := .seq ([] : List Value).toArray } a = some o := by
        by_cases q1 : a = D
        · subst q1; rw [upd_self] at e ⊢; exact e
        · rw [upd_ne q1] at e ⊢
          by_cases q2 : a = I
          · subst q2; rw [upd_self] at e ⊢; exact e
          · rw [upd_ne q2] at e ⊢; rw [upd_ne q] at e; exact e
      have z := S1.mu a o e'
      exact ⟨old _ _ z.1, by rw [hC]; exact Nat.ne_of_lt (Heap.lt_size z.1), z.2.2⟩
  have hst₁ : Stt 0 h₁ := W.frame _ _ _ hst1 fun b _ o e => old b o e
  have chain : ∀ (μ' : Mu) oI, Nn μ' L → Nn μ' I → Nn μ' D → Nn (upd μ' L oL) I ∧ Nn (upd (upd μ' L oL) I oI) D := fun μ' oI a b c =>
    ⟨by show upd μ' L oL I = none; rw [upd_ne (Ne.symm hLI)]; exact b, by show upd (upd μ' L oL) I oI D = none; rw [upd_ne (Ne.symm hID), upd_ne (Ne.symm hLD)]; exact c⟩
  have loop : ∀ s₃ : Shared, s₃ = { s with heap := h₁, toks := s.toks + ([] : List (Str × Value)).length } →
      codeAny (model prog w) A (.compLoop (.ListComp elt [⟨target, iter, ifs, 0⟩] scope pos) 0 (.ref I) (.ref D) (compEnvC scope cl C env)) (RR (.ref D) C) s₃ := by
    rintro s₃ rfl
    refine codeAny_compLoop_tests
      (fun k s' => ∃ h' tk i ys m' μ' oI oD, s' = { s with heap := h', toks := tk } ∧ i ≤ n ∧ k = n + 1 - i ∧ ys.length ≤ i ∧ Stt i h' ∧ St g C m' (upd (upd (upd μ' L oL) I oI) D oD) h' ∧ Nn μ' L ∧ Nn μ' I ∧ Nn μ' D ∧ lstO ys oD ∧ Src μ' ∧ Inv i ys μ') ?_ (n + 1)
      ⟨h₁, _, 0, [], _, μ, oI₀, _, rfl, Nat.zero_le _, rfl, Nat.le_refl _, hst₁, SC, hmL, hI, hmD, ⟨_, rfl⟩, hsrc, h0⟩ ht
    rintro k s' ⟨h', tk, i, ys, m', μ', oI, oD, rfl, hi, rfl, hyl, hst', S', nl, ni, nd, hlo, hsr, hinv⟩
    have eI' : upd (upd (upd μ' L oL) I oI) D oD I = some oI := by rw [upd_ne hID, upd_self]
    by_cases hlt : i < n
    · refine W.item i _ _ _ hlt hst' fun v h₂ tk₂ hPv hst₂ hk₂ => ?_
      obtain ⟨oI₂, eI₂⟩ := hIo _ _ hst₂
      have S2 : St g C m' (upd (upd (upd μ' L oL) I oI₂) D oD) h₂ := (S'.re eI' eI₂ hk₂).congr fun a => by
        by_cases q1 : a = I
        · subst q1; rw [upd_self, upd_ne hID, upd_self]
        · rw [upd_ne q1]
          by_cases q2 : a = D
          · subst q2; rw [upd_self, upd_self]
          · rw [upd_ne q2, upd_ne q2, upd_ne q1, upd_ne q1]
      obtain ⟨c1, c2⟩ := chain μ' oI₂ nl ni nd
      have go : ∀ ys' s₃, ys'.length ≤ i + 1 → TurnEnd s g L I D C oL oI₂ oD Src (Inv (i + 1) ys') s₃ → ∀ (oD' : Obj), lstO ys' oD' → (∃ h', s₃.heap = h') → ∀ h₄, (oD' = oD ∧ h₄ = s₃.heap ∨ (h₄.get? D = some oD' ∧ Heap.SameBut D s₃.heap h₄)) →
          ∃ k', k' < n + 1 - i ∧ ∃ h' tk i ys m' μ' oI oD, ({ s₃ with heap := h₄ } : Shared) = { s with heap := h', toks := tk } ∧ i ≤ n ∧ k' = n + 1 - i ∧ ys.length ≤ i ∧ Stt i h' ∧ St g C m' (upd (upd (upd μ' L oL) I oI) D oD) h' ∧ Nn μ' L ∧ Nn μ' I ∧ Nn μ' D ∧ lstO ys oD ∧ Src μ' ∧ Inv i ys μ' := by
        rintro ys' s₃ hy ⟨m₃, μ₃, h₃, tk₃, rfl, S₃, e1, e2, e3, hs3, hv3⟩ oD' hoD' _ h₄ h4
        have S4 : St g C m₃ (upd μ₃ D oD') h₄ := by
          rcases h4 with ⟨rfl, rfl⟩ | ⟨q1, q2⟩
          · exact S₃.congr fun a => by
              by_cases q : a = D
              · subst q; rw [upd_self, e3]
              · rw [upd_ne q]
          · exact S₃.change e3 q2 q1
        have hst4 : Stt (i + 1) h₃ := hSt _ _ _ _ _ hst₂ eI₂ (S₃.get e2) S₃.fr.keep (fun a o q => S₃.get (del_some (del_some (del_some q).2).2).2) hs3
        have hst5 : Stt (i + 1) h₄ := W.frame (i + 1) h₃ h₄ hst4 fun b hb o e => by
          rcases h4 with ⟨_, rfl⟩ | ⟨_, q2⟩
          · exact e
          · exact q2.extBut b o (fun q => hfpD (q ▸ hb)) e
        refine ⟨n + 1 - (i + 1), by omega, h₄, tk₃, i + 1, ys', m₃, del (del (del μ₃ D) I) L, oI₂, oD', rfl, hlt, rfl, hy, hst5, ?_, if_pos rfl, ?_, ?_, hoD', hs3, hv3⟩
        · refine S4.weaken fun a o q => ?_
          by_cases q1 : a = D
          · subst q1; rw [upd_self] at q ⊢; exact q
          · rw [upd_ne q1] at q ⊢
            by_cases q2 : a = I
            · subst q2; rw [upd_self] at q; rw [e2]; exact q
            · rw [upd_ne q2] at q
              by_cases q3 : a = L
              · subst q3; rw [upd_self] at q; rw [e1]; exact q
              · rw [upd_ne q3] at q
                exact (del_some (del_some (del_some q).2).2).2
        · show del (del (del μ₃ D) I) L I = none
          unfold del; rw [if_neg (Ne.symm hLI), if_pos rfl]
        · show del (del (del μ₃ D) I) L D = none
          unfold del; rw [if_neg (Ne.symm hLD), if_neg (Ne.symm hID), if_pos rfl]
      refine wpAny_mono (turn i v ys μ' oI₂ oL oD C D m' h₂ tk₂ _ hlt hPv hinv hyl nL nl c1 c2 hlo hsr S2) (fun _ s₂' h₂' => wpAny_mono h₂' (fun ok s₃ h₃ => ?_) fun _ _ e => e) fun _ _ e => e
      cases ok with
      | false =>
        rw [if_neg Bool.false_ne_true] at h₃ ⊢
        exact go ys s₃ (by omega) h₃ oD hlo ⟨_, rfl⟩ s₃.heap (.inl ⟨rfl, rfl⟩)
      | true =>
        rw [if_pos rfl] at h₃ ⊢
        refine wpAny_mono h₃ (fun y s₄ h₄ => ?_) fun _ _ e => e
        obtain ⟨nD, rfl⟩ := id hlo
        obtain ⟨m₃, μ₃, hp, tk₃, rfl, S₃, e1, e2, e3, hs3, hv3⟩ := id h₄
        refine append_at (hsz := by show ys.toArray.size ≤ sizeLine; rw [List.size_toArray]; omega) (S₃.get e3) fun h₅ hs₅ hD₅ => ?_
        refine go (ys ++ [y]) _ (by rw [List.length_append, List.length_singleton]; omega) h₄ _ ⟨nD + 1, ?_⟩ ⟨_, rfl⟩ h₅ (.inr ⟨hD₅, hs₅⟩)
        simp
    · obtain rfl : i = n := Nat.le_antisymm hi (Nat.not_lt.mp hlt)
      refine W.done _ _ _ hst' fun h₂ tk₂ hk₂ => ?_
      obtain ⟨oC, eC, nC⟩ := ns_obj S'.fr.ns
      have hCne : ∀ a o, upd (upd (upd μ' L oL) I oI) D oD a = some o → a ≠ C := fun a o q => (S'.mu a o q).2.1
      have hCL : L ≠ C := hCne L oL (by rw [upd_ne hLD, upd_ne hLI, upd_self])
      have hCD : D ≠ C := hCne D oD (upd_self ..)
      have hCI : I ≠ C := hCne I oI eI'
      refine fin ys μ' C D oC oD m' h₂ tk₂ hinv hlo nC nd ?_ ?_
      · show upd μ' D oD C = none
        have q := S'.nn
        have q' : upd (upd (upd μ' L oL) I oI) D oD C = none := q
        rw [upd_ne (Ne.symm hCD)] at q' ⊢
        rw [upd_ne (Ne.symm hCI), upd_ne (Ne.symm hCL)] at q'
        exact q'
      · have eL' := S'.mu L oL (by rw [upd_ne hLD, upd_ne hLI, upd_self])
        have kk : ∀ a o, a ≠ I → h'.get? a = some o → h₂.get? a = some o := fun a o ne e => hk₂ a o (by simpa using ne) e
        refine ⟨⟨nL.ns (kk L _ hLI eL'.1), fun b o e => kk b o (fun q => ?_) (S'.fr.keep b o e), S.fr.above⟩, fun a o q => ?_, S.lo⟩
        · have z := (S'.mu I oI eI').2.2.1
          rw [← q, e] at z; cases z
        · by_cases q1 : a = C
          · subst q1; rw [upd_self] at q; cases q
            exact ⟨kk _ _ (Ne.symm hCI) eC, Ne.symm hCL, Heap.get?_none_of_le S'.fr.above, S'.Llo⟩
          · rw [upd_ne q1] at q
            have aL : a ≠ L := fun e => by
              subst e
              rw [upd_ne hLD] at q
              unfold Nn at nl; rw [nl] at q; cases q
            have aI : a ≠ I := fun e => by
              subst e
              rw [upd_ne hID] at q
              unfold Nn at ni; rw [ni] at q; cases q
            have q' : upd (upd (upd μ' L oL) I oI) D oD a = some o := by
              by_cases q2 : a = D
              · subst q2; rw [upd_self] at q ⊢; exact q
              · rw [upd_ne q2] at q ⊢; rw [upd_ne aI, upd_ne aL]; exact q
            have z := S'.mu a o q'
            exact ⟨kk _ _ aI z.1, aL, z.2.2⟩
  refine codeAny_compStart_list (loop _ rfl) (W.self 0 _ _ _ hst₁ (loop _ rfl))
end
end

/-! M0g -/
section
open PySem PySem.W PyProof.Rows PySem.Calls
noncomputable def cellMu : Mu → List (Addr × Obj) → Mu
  | μ, [] => μ
  | μ, (c, o) :: r => cellMu (upd μ c o) r
noncomputable def NnAll : Mu → List (Addr × Obj) → Prop
  | _, [] => True
  | μ, (c, o) :: r => Nn μ c ∧ NnAll (upd μ c o) r
section
variable {w : World} {prog : Program} {A : Around} {E : Value → Shared → Prop} {s : Shared} {g : Heap} {L : Addr} {m : Str → Option Value} {μ : Mu} {env : Env} {mg mb : Str → Option Value}

theorem ite_join {M : Model} {b : Bool} {t1 t2 : Sem Value} {K : Value → Shared → Prop} (P : Value → Shared → Prop) (h1 : b = true → wpAny M A t1 P E s) (h2 : b = false → wpAny M A t2 P E s) (hk : ∀ v s', P v s' → K v s') :
    if b = true then wpAny M A t1 K E s else wpAny M A t2 K E s := by
  cases b with
  | true => rw [if_pos rfl]; exact wpAny_mono (h1 rfl) hk fun _ _ e => e
  | false => rw [if_neg Bool.false_ne_true]; exact wpAny_mono (h2 rfl) hk fun _ _ e => e
theorem Kp.st {ν : Mu} {col : Col} {c : Addr} {o o' : Obj} (P : Kp ν (fun _ => 0) μ col) (e : ν c = some o) : Kp (upd ν c o') (fun _ => 0) (upd μ c o') col := fun b ob eb _ => by
  by_cases q : b = c
  · subst q; rw [upd_self] at eb ⊢; exact ⟨eb, (P b o e rfl).2⟩
  · rw [upd_ne q] at eb ⊢; exact P b ob eb rfl
theorem Kp.at {ν : Mu} {col : Col} {c : Addr} {o : Obj} (P : Kp ν (fun _ => 0) μ col) (e : ν c = some o) : μ c = some o := (P c o e rfl).1
theorem Kp.c0 {ν : Mu} {col : Col} {c : Addr} {o : Obj} (P : Kp ν (fun _ => 0) μ col) (e : ν c = some o) : col c = 0 := (P c o e rfl).2
theorem Kp.nn {ν : Mu} {col : Col} {a : Addr} (P : Kp ν (fun _ => 0) μ col) (h : Nn μ a) : Nn ν a := by
  show ν a = none
  cases e : ν a with
  | none => rfl
  | some o => have := P.at e; unfold Nn at h; rw [h] at this; cases this
theorem Kp.cons {ν : Mu} {col : Col} {a : Addr} {o : Obj} (e : μ a = some o) (c : col a = 0) (P : Kp ν (fun _ => 0) μ col) : Kp (upd ν a o) (fun _ => 0) μ col := fun b ob eb _ => by
  by_cases q : b = a
  · subst q; rw [upd_self] at eb; cases eb; exact ⟨e, c⟩
  · rw [upd_ne q] at eb; exact P b ob eb rfl
theorem Kp.pin {ν : Mu} {col : Col} {a : Addr} {o : Obj} (P : Kp ν (fun _ => 0) μ col) (h : Nn μ a) (c : col a = 0) : Kp (upd ν a o) (fun _ => 0) (upd μ a o) col :=
  Kp.cons (upd_self ..) c (P.trans (Kp.mono (MuLe.updN h)))
theorem Kp.skip {ν : Mu} {col : Col} {a : Addr} {o : Obj} (P : Kp ν (fun _ => 0) μ col) (h : Nn ν a) : Kp ν (fun _ => 0) (upd μ a o) col := fun b ob eb _ =>
  let z := P b ob eb rfl; ⟨mu_ch z.1 (ne_of_mu eb h), z.2⟩
theorem nn_upd {a b : Addr} {o : Obj} (h : b ≠ a) (n : Nn μ b) : Nn (upd μ a o) b := by show upd μ a o b = none; rw [upd_ne h]; exact n
theorem nn_low {a b : Addr} {o : Obj} (h : b ≠ a) (n : Nn (upd μ a o) b) : Nn μ b := by have q : upd μ a o b = none := n; rw [upd_ne h] at q; exact q
theorem r_for_rangeT {R : Result → Shared → Prop} {target : Expr} {body orelse : List Stmt} {I : Addr} {n : Nat} (hh : A.handled = none)
    (Inv : Nat → (Str → Option Value) → Mu → Prop)
    (S : St g L m (upd μ I (rngI 0 n)) s.heap) (hI : Nn μ I) (h0 : Inv 0 m μ)
    (turn : ∀ i t m' μ' oI h tk (E' : Value → Shared → Prop), i < n → Inv i m' μ' → Nn μ' I → St g L m' (upd μ' I oI) h →
      wpAny (model prog w) A (assign target env (.int (i : Int) t)) (fun _ s₂ => wpAny (model prog w) A (execs body env) (LoopEnd s g L I oI (fun _ => True) (Inv (i + 1)) R) E' s₂) E' { s with heap := h, toks := tk })
    (fin : ∀ m' μ' h tk (E' : Value → Shared → Prop), Inv n m' μ' → St g L m' μ' h → wpAny (model prog w) A (execs orelse env) (fun f s₃ => R (.ok f) s₃) E' { s with heap := h, toks := tk })
    (ht : ∀ v, letOwnedTupleGo target (.ref I) v = pure () := by intro _; rfl) :
    codeAny (model prog w) A (.forLoop target (.ref I) body orelse env) R s := by
  refine r_for (Src := fun _ => True) (LCg.range_walks hh 0 n) (fun i h st => ⟨_, st⟩) (fun i h h' oI μ' st e e' _ _ _ => ?_) Inv (fun i v m' μ' oI h tk E' hi hP hinv hI' _ S' => ?_) (fun m' μ' h tk E' hinv _ S' => fin m' μ' h tk E' hinv S') S hI ?_ trivial h0 ht
  · have st' : h.get? I = some _ := st
    show h'.get? I = some _
    rw [e', ← e]; exact st'
  · obtain ⟨t, rfl⟩ := hP
    rw [Int.zero_add]
    exact turn i t m' μ' oI h tk E' hi hinv hI' S'
  · show s.heap.get? I = some _
    have := S.get (upd_self μ I (rngI 0 n))
    simpa [rngI] using this
theorem cells_in {h₁ : Heap} {L' : Addr} {mL : Str → Option Value} {cm : Str → Option Value} : ∀ (cs : List (Str × Addr)) (μ : Mu), St g L' mL μ h₁ → (∀ n c, (n, c) ∈ cs → h₁.IsCell c (cm n) ∧ L' < c ∧ Nn μ c ∧ g.get? c = none ∧ c ≠ sysModules) → (cs.Pairwise fun x y => x.2 ≠ y.2) →
    ∃ cells, CellsAre cm cs cells ∧ NnAll μ cells ∧ St g L' mL (cellMu μ cells) h₁
  | [], μ, S, _, _ => ⟨[], .nil, trivial, S⟩
  | (n, c) :: cs, μ, S, hx, hp => by
    obtain ⟨⟨o, ho, hd⟩, hlt, hn, hg, hs⟩ := hx n c List.mem_cons_self
    have S1 : St g L' mL (upd μ c o) h₁ := S.add ho (Nat.ne_of_gt hlt) ⟨hg, hs⟩
    rw [List.pairwise_cons] at hp
    obtain ⟨cells, a, b, d⟩ := cells_in cs (upd μ c o) S1 (fun n' c' hm => by
      obtain ⟨a1, a2, a3, a4⟩ := hx n' c' (List.mem_cons_of_mem _ hm)
      refine ⟨a1, a2, ?_, a4⟩
      show upd μ c o c' = none
      rw [upd_ne (Ne.symm (hp.1 _ hm))]; exact a3) hp.2
    exact ⟨(c, o) :: cells, .cons hd a, ⟨hn, b⟩, d⟩

theorem r_callC {f : Addr} {name qual : Str} {params : Arguments} {body : List Stmt} {scope : Scope} {dV kV doc pm cdv ct oc : Value} {an od : Option Addr} {osl : Array (Option Value)} {args : List Value} {kw : List (Str × Value)} {binds : List (Str × Value)} {Q : Value → Shared → Prop}
    (G : Gd w mg mb g) (S : St g L m μ s.heap)
    (ho : (hd.heap_39 w.params).lookup f = some ⟨oc, od, .func (fnOf name qual params body scope dV kV doc pm an cdv ct), osl⟩)
    (hcd : codeIn (hd.heap_39 w.params) cdv qual = true) (hroom : A.depth < recursionLimit)
    (hbind : BindsTo s (fnOf name qual params body scope dV kV doc pm an cdv ct) ⟨args, kw⟩ binds)
    (hkind : ∀ n, ∀ x ∈ binds, scope.names.lookup x.1 = some .local ∨ (scope.names.lookup x.1 = some .cell ∧ ((cellsFrom (n + 1) scope.names []).lookup x.1).isSome = true))
    (h : ∀ oL L' cells h₁ tk (E' : Value → Shared → Prop), NsObj oL m → Nn μ L → NnAll (upd μ L oL) cells → CellsAre (bindC (envOfC qual scope L' f cdv).kindOf binds fun _ => none) (cellsFrom (L' + 1) scope.names []) cells →
      St g L' (bindL (envOfC qual scope L' f cdv).kindOf binds fun _ => none) (cellMu (upd μ L oL) cells) h₁ →
      wpAny (model prog w) (A.deeper (envOfC qual scope L' f cdv)) (execs body (envOfC qual scope L' f cdv))
        (fun fl s' => ∃ m' μ' h' tk', s' = { s with heap := h', toks := tk' } ∧ St g L' m' μ' h' ∧ μ' L = some oL ∧
          (St g L m (del μ' L) h' → Q (match fl with | .ret v => v | _ => .none) s')) E' { s with heap := h₁, toks := tk })
    (hco : scope.isCoroutine = false := by rfl) (hgen : scope.isGenerator = false := by rfl) (hk : scope.kind = .function := by rfl) (hnd : ((cellsFrom 0 scope.names []).map (·.1)).Nodup := by decide) :
    wpAny (model prog w) A (call (.ref f) args kw) Q E s := by
  refine wpAny_call ?_
  have hget : s.heap.get? f = some ⟨oc, od, .func (fnOf name qual params body scope dV kV doc pm an cdv ct), osl⟩ := S.fr.keep _ _ (G.K _ _ ho)
  refine codeAny_call_function hroom hget rfl hco hgen rfl ((codeRec_of G.K hcd).keeps S.fr.keep) ?_
  refine hbind _ _ _ _ ?_
  obtain ⟨oL, eL, nL⟩ := ns_obj S.fr.ns
  have hμL := S.nn
  refine wpAny_newFunctionEnv_cells hk (hkind _) fun env he s' X => ?_
  obtain ⟨h₁, tk, rfl, keep⟩ := X.done
  subst he
  refine ⟨(G.nolimit.keeps S.fr.keep).keeps keep, ?_⟩
  show codeAny _ _ (.func body (envOfC qual scope s.heap.objs.size f cdv)) _ _
  have hns : h₁.Ns s.heap.objs.size (bindL (envOfC qual scope s.heap.objs.size f cdv).kindOf binds fun _ => none) := X.toInCall.ns
  have S₁ : St g s.heap.objs.size (bindL (envOfC qual scope s.heap.objs.size f cdv).kindOf binds fun _ => none) (upd μ L oL) h₁ := by
    refine ⟨⟨hns, fun b o e => keep b o (S.fr.keep b o e), Nat.le_trans S.fr.above (Nat.le_of_lt S.lt)⟩, fun a o e => ?_, S.lo⟩
    by_cases q : a = L
    · subst q
      rw [upd_self] at e
      cases e
      exact ⟨keep _ _ eL, Nat.ne_of_lt S.lt, Heap.get?_none_of_le S.fr.above, S.Llo⟩
    · rw [upd_ne q] at e
      have z := S.mu a o e
      exact ⟨keep _ _ z.1, Nat.ne_of_lt (Heap.lt_size z.1), z.2.2⟩
  have hnd' : ((cellsFrom (s.heap.objs.size + 1) scope.names []).map (·.1)).Nodup := cellsFrom_names scope.names 0 (s.heap.objs.size + 1) [] [] rfl ▸ hnd
  obtain ⟨cells, C1, C2, C3⟩ := cells_in (cm := bindC (envOfC qual scope s.heap.objs.size f cdv).kindOf binds fun _ => none) (cellsFrom (s.heap.objs.size + 1) scope.names []) _ S₁ (fun n c hm => by
    have hc := X.cell n c (lookup_of_mem_nodup hnd' hm)
    have hlt : s.heap.objs.size < c := X.above n c hm
    have hle : g.objs.size ≤ c := Nat.le_trans S.fr.above (Nat.le_trans (Nat.le_of_lt S.lt) (Nat.le_of_lt hlt))
    refine ⟨hc, hlt, ?_, Heap.get?_none_of_le hle, fun q => ?_⟩
    · show upd μ L oL c = none
      cases e : upd μ L oL c with
      | none => rfl
      | some o =>
        by_cases q : c = L
        · have := S.lt; rw [← q] at this; exact absurd this (Nat.not_lt.mpr (Nat.le_of_lt hlt))
        · rw [upd_ne q] at e
          exact absurd (Heap.lt_size (S.mu c o e).1) (Nat.not_lt.mpr (Nat.le_of_lt hlt))
    · have := S.lo; rw [← q] at this; exact absurd this (Nat.not_lt.mpr hle)) X.apart
  refine codeAny_func (wpAny_mono (h oL s.heap.objs.size cells h₁ _ _ nL hμL C2 C1 C3) (fun fl s' hq => ?_) fun _ _ x => x)
  obtain ⟨m', μ', h', tk', rfl, S', hL', r⟩ := hq
  exact r (S'.leave hL' nL S.fr.above fun a o e => del_some e)

theorem r_stCell {x : Str} {c : Addr} {o : Obj} {v₀ : Option Value} {v : Value} {Q : Unit → Shared → Prop} (S : St g L m μ s.heap) (hc : env.cells.lookup x = some c) (hm : μ c = some o) (hd : o.data = .cell v₀)
    (h : ∀ o' h', o'.data = .cell (some v) → St g L m (upd μ c o') h' → Q () { s with heap := h' })
    (hk : env.scope.kind = .function := by rfl) (hx : env.kindOf x = some .cell := by rfl) :
    wpAny (model prog w) A (storeName env x v) Q E s := by
  refine wpAny_storeName_cell hk hx hc ⟨o, S.get hm, hd⟩ fun h' hv hs => ?_
  obtain ⟨o', ho', hd'⟩ := hv
  exact h o' h' hd' (S.change hm hs ho')

/-- a comprehension as a value -/
theorem r_LC {elt iter target : Expr} {ifs : List Expr} {scope : Scope} {cl : List (Str × Addr)} {pos : Pos} {Q : Value → Shared → Prop}
    (h : wpAny (model prog w) A (eval iter env) (fun x s₁ => wpAny (model prog w) A (pyIter x) (fun it s₂ => wpAny (model prog w) A (newList []) (fun acc s₃ =>
      wpAny (model prog w) A (newFunctionEnv scope env.globals cl [] env.qual none .none (some env)) (fun cenv s₄ =>
        codeAny (model prog w) A (.compStart (.ListComp elt [⟨target, iter, ifs, 0⟩] scope pos) 0 it acc { cenv with scope := relabel scope env }) (compPost (model prog w) A E none Q acc cenv.locals) s₄) E s₃) E s₂) E s₁) E s)
    (hclos : closureFor scope env = pure cl := by rfl) (hkind : scope.kind = .function := by rfl) (hnames : ∀ y ∈ scope.names, y.2 = .local → scope.names.lookup y.1 = some .local := by decide)
    (hs : ∀ x, foldedSetIterable iter env x = pure x := by intro _; rfl) :
    wpAny (model prog w) A (eval (.ListComp elt [⟨target, iter, ifs, 0⟩] scope pos) env) Q E s := by
  rw [eval_ListComp]
  exact wpAny_comprehension_free (use := none) rfl hs hclos hkind hnames h
/-- a comprehension put under a name -/
theorem r_LCa {elt iter target : Expr} {ifs : List Expr} {scope : Scope} {cl : List (Str × Addr)} {pos spos py : Pos} {y : Str} {Q : Flow → Shared → Prop}
    (h : wpAny (model prog w) A (eval iter env) (fun x s₁ => wpAny (model prog w) A (pyIter x) (fun it s₂ => wpAny (model prog w) A (newList []) (fun acc s₃ =>
      wpAny (model prog w) A (newFunctionEnv scope env.globals cl [] env.qual none .none (some env)) (fun cenv s₄ =>
        codeAny (model prog w) A (.compStart (.ListComp elt [⟨target, iter, ifs, 0⟩] scope pos) 0 it acc { cenv with scope := relabel scope env }) (compPost (model prog w) A E (some (assign (.Name y py) env)) (fun _ => Q .next) acc cenv.locals) s₄) E s₃) E s₂) E s₁) E s)
    (hsw : swapsWith (.ListComp elt [⟨target, iter, ifs, 0⟩] scope pos) (some (.Name y py)) spos.line env = pure true := by rfl)
    (hclos : closureFor scope env = pure cl := by rfl) (hkind : scope.kind = .function := by rfl) (hnames : ∀ y ∈ scope.names, y.2 = .local → scope.names.lookup y.1 = some .local := by decide)
    (hs : ∀ x, foldedSetIterable iter env x = pure x := by intro _; rfl) :
    wpAny (model prog w) A (exec (.Assign [.Name y py] (.ListComp elt [⟨target, iter, ifs, 0⟩] scope pos) spos) env) Q E s := by
  rw [exec_Assign_Name_used _ _ _ _ hsw]
  refine wpAny_bind (wpAny_standAt (wpAny_bind ?_))
  show wpAny _ A (do let _ ← comprehension (.ListComp elt [⟨target, iter, ifs, 0⟩] scope pos) scope env _ (newList []) false (eval iter env) (some (assign (.Name y py) env))) _ _ s
  exact wpAny_bind (wpAny_mono (wpAny_comprehension_free (use := some (assign (.Name y py) env)) (Q := fun _ s' => Q .next s') rfl hs hclos hkind hnames h) (fun _ s' hq => wpAny_pure (wpAny_pure hq)) fun _ _ e => e)

theorem St.lose {C : Addr} {oC : Obj} {h h' : Heap} (S : St g L m (upd μ C oC) h) (hC : Nn μ C) (hs : Heap.SameBut C h h') : St g L m μ h' :=
  S.but hC fun b o hb e => hs.extBut b o (by simpa using hb) e
theorem post_val {D C : Addr} {oC : Obj} {mC : Str → Option Value} {h : Heap} {tk : Nat} {Q : Value → Shared → Prop} (S : St g L m (upd μ C oC) h) (hC : Nn μ C) (nC : NsObj oC mC)
    (k : ∀ h', St g L m μ h' → Q (.ref D) { s with heap := h', toks := tk }) : compPost (model prog w) A E none Q (.ref D) C (.ok .next) { s with heap := h, toks := tk } :=
  ⟨mC, nC.ns (S.get (upd_self ..)), fun h' hs => k h' (S.lose hC hs)⟩
theorem post_loc {D C : Addr} {oC : Obj} {mC : Str → Option Value} {h : Heap} {tk : Nat} {y : Str} {py : Pos} {Q : Value → Shared → Prop} (S : St g L m (upd μ C oC) h) (hC : Nn μ C) (nC : NsObj oC mC)
    (k : ∀ h' tk', St g L (fun z => if z = y then some (.ref D) else m z) μ h' → Q .none { s with heap := h', toks := tk' })
    (hL : env.locals = L := by rfl) (hk : env.scope.kind = .function := by rfl) (hl : env.kindOf y = some .local := by rfl) : compPost (model prog w) A E (some (assign (.Name y py) env)) Q (.ref D) C (.ok .next) { s with heap := h, toks := tk } := by
  show wpAny _ A (assign (.Name y py) env (.ref D)) _ _ _
  refine set_assign (s := { s with heap := h, toks := tk }) S (fun h' tk' S' => ?_) hL hk hl
  exact ⟨mC, nC.ns (S'.get (upd_self ..)), fun h'' hs => k h'' tk' (S'.lose hC hs)⟩

/-- turns over a small range, the name set -/
theorem r_blockRange {elt iter : Expr} {ifs : List Expr} {x : Str} {px : Pos} {scope : Scope} {cl : List (Str × Addr)} {pos : Pos} {I : Addr} {n : Nat} {RR : Value → Addr → Result → Shared → Prop}
    (hh : A.handled = none) (hsz : n ≤ 1000)
    (S : St g L m (upd μ I (rngI 0 n)) s.heap) (hI : Nn μ I)
    (Inv : Nat → List Value → Mu → Prop) (h0 : Inv 0 [] μ)
    (turn : ∀ i t ys μ' oI oL oD C D (m₂ : Str → Option Value) h tk (E' : Value → Shared → Prop), i < n → Inv i ys μ' → ys.length ≤ i → NsObj oL m → Nn μ' L → Nn (upd μ' L oL) I → Nn (upd (upd μ' L oL) I oI) D → lstO ys oD →
      St g C (fun y => if y = x then some (.int (i : Int) t) else m₂ y) (upd (upd (upd μ' L oL) I oI) D oD) h →
        wpAny (model prog w) A (forIn ifs true fun c r => if r = true then do let ok ← isTrue c (compEnvC scope cl C env) (eval c (compEnvC scope cl C env)); pure (ForInStep.yield ok) else pure (ForInStep.yield r)) (fun ok s₃ =>
          if ok = true then wpAny (model prog w) A (eval elt (compEnvC scope cl C env)) (fun y s₄ => TurnEnd s g L I D C oL oI oD (fun _ => True) (Inv (i + 1) (ys ++ [y])) s₄) E' s₃
          else TurnEnd s g L I D C oL oI oD (fun _ => True) (Inv (i + 1) ys) s₃) E' { s with heap := h, toks := tk })
    (fin : ∀ ys μ' C D oC oD mC h tk, Inv n ys μ' → lstO ys oD → NsObj oC mC → Nn μ' D → Nn (upd μ' D oD) C → St g L m (upd (upd μ' D oD) C oC) h → RR (.ref D) C (.ok .next) { s with heap := h, toks := tk })
    (hcell : ∀ y ∈ scope.names, y.2 ≠ .cell := by decide) (hkind : scope.kind = .function := by rfl) (hx : scope.names.lookup x = some .local := by rfl) :
    wpAny (model prog w) A (newList []) (fun acc s₃ => wpAny (model prog w) A (newFunctionEnv scope env.globals cl [] env.qual none .none (some env)) (fun cenv s₄ =>
      codeAny (model prog w) A (.compStart (.ListComp elt [⟨.Name x px, iter, ifs, 0⟩] scope pos) 0 (.ref I) acc { cenv with scope := relabel scope env }) (RR acc cenv.locals) s₄) E s₃) E s := by
  have eI := S.get (upd_self μ I (rngI 0 n))
  refine r_block (Src := fun _ => True) (LCg.range_walks hh 0 n) (by rw [PySem.sizeLine_eq]; omega) (fun i h st => ⟨_, st⟩) (fun i h h' oI μ' st e e' _ _ _ => ?_) hcell hkind ?_ (fun b hb => ?_) S hI trivial Inv h0
    (fun i v ys μ' oI oL oD C D m₂ h tk E' hi hP hinv hyl nL n1 n2 n3 hlo _ S' => ?_) fin
  · have st' : h.get? I = some _ := st
    show h'.get? I = some _
    rw [e', ← e]; exact st'
  · show s.heap.get? I = some _
    simpa [rngI] using eI
  · rw [List.mem_singleton.mp hb]; exact Heap.lt_size eI
  · obtain ⟨t, rfl⟩ := hP
    refine wpAny_assign_Name (wpAny_storeName_local (lookup_relabel_local hx) S'.fr.ns (fun h₃ hn₃ hs₃ => ?_) (by simp [compEnvC, relabel, hkind]))
    have S3 := S'.set hn₃ hs₃
    rw [Int.zero_add] at S3
    exact turn i t ys μ' oI oL oD C D m₂ h₃ _ E' hi hinv hyl nL n1 n2 n3 hlo S3
end
end

/-! P1 -/
section

/-! the plain law: the stack machine of dfs_edges tells what the recursion finds -/
abbrev Edge := Nat × Nat
noncomputable def walkL (R : Nat → List Nat) : Nat → Nat → List Nat → List Nat → List Edge → List Nat × List Edge
  | _, _, [], s, f => (s, f)
  | 0, p, c :: cs, s, f => if c ∈ s then walkL R 0 p cs s f else walkL R 0 p cs (s ++ [c]) (f ++ [(p, c)])
  | l + 1, p, c :: cs, s, f =>
    if c ∈ s then walkL R (l + 1) p cs s f
    else
      let r := if l + 1 > 1 then walkL R l c (R c) (s ++ [c]) (f ++ [(p, c)]) else (s ++ [c], f ++ [(p, c)])
      walkL R (l + 1) p cs r.1 r.2
termination_by l _ cs => (l, cs.length)
noncomputable def dueL (R : Nat → List Nat) (D : Nat) : List Nat → List Nat → List Edge → List Edge
  | [], _, f => f
  | a :: as, s, f => if a ∈ s then dueL R D as s f else
    let r := walkL R D a (R a) (s ++ [a]) f
    dueL R D as r.1 r.2
noncomputable def runD (R : Nat → List Nat) (D : Nat) : Nat → List Nat → List (Nat × List Nat) → List Nat → List Edge
  | 0, _, _, _ => []
  | _ + 1, _, [], [] => []
  | n + 1, V, [], a :: as => if a ∈ V then runD R D n V [] as else runD R D n (V ++ [a]) [(a, R a)] as
  | n + 1, V, (_, []) :: st, as => runD R D n V st as
  | n + 1, V, (p, c :: cs) :: st, as => if c ∈ V then runD R D n V ((p, cs) :: st) as else
    (p, c) :: (if st.length + 1 < D then runD R D n (V ++ [c]) ((c, R c) :: (p, cs) :: st) as else runD R D n (V ++ [c]) ((p, cs) :: st) as)
noncomputable def finD (R : Nat → List Nat) (D : Nat) (as : List Nat) : List (Nat × List Nat) → List Nat → List Edge → List Edge
  | [], V, f => dueL R D as V f
  | (p, cs) :: st, V, f => let r := walkL R (D - st.length) p cs V f; finD R D as st r.1 r.2
def unv (many : Nat) (V : List Nat) : Nat := ((List.range many).filter (fun i => decide (i ∉ V))).length
theorem unv_snoc {many c : Nat} {V : List Nat} (hc : c ∉ V) (hm : c < many) : unv many (V ++ [c]) + 1 ≤ unv many V := by
  unfold unv
  have e : (List.range many).filter (fun i => decide (i ∉ V ++ [c])) = ((List.range many).filter (fun i => decide (i ∉ V))).filter (fun i => decide (i ≠ c)) := by
    rw [List.filter_filter]
    congr 1; funext i
    by_cases h1 : i ∈ V <;> by_cases h2 : i = c <;> simp [h1, h2]
  rw [e]
  have hmem : c ∈ (List.range many).filter (fun i => decide (i ∉ V)) := List.mem_filter.mpr ⟨List.mem_range.mpr hm, by simpa using hc⟩
  have := (List.length_filter_lt_length_iff_exists (p := fun i => decide (i ≠ c)) (l := (List.range many).filter (fun i => decide (i ∉ V)))).mpr ⟨c, hmem, by simp⟩
  omega
def msr (many B : Nat) (V : List Nat) (st : List (Nat × List Nat)) (as : List Nat) : Nat :=
  unv many V * (B + 4) + ((st.map fun x => x.2.length + 1).sum + as.length)
def StOk (many : Nat) (st : List (Nat × List Nat)) : Prop := ∀ x ∈ st, ∀ c ∈ x.2, c < many

theorem walkL_cons (R : Nat → List Nat) (l p c : Nat) (cs s : List Nat) (f : List Edge) (h : c ∉ s) :
    walkL R l p (c :: cs) s f = (let r := if l > 1 then walkL R (l - 1) c (R c) (s ++ [c]) (f ++ [(p, c)]) else (s ++ [c], f ++ [(p, c)]); walkL R l p cs r.1 r.2) := by
  cases l with
  | zero => rw [walkL]; simp [h]
  | succ l => rw [walkL]; simp [h]
theorem walkL_seen (R : Nat → List Nat) (l p c : Nat) (cs s : List Nat) (f : List Edge) (h : c ∈ s) : walkL R l p (c :: cs) s f = walkL R l p cs s f := by
  cases l with
  | zero => rw [walkL]; simp [h]
  | succ l => rw [walkL]; simp [h]
theorem walkL_nil (R : Nat → List Nat) (l p : Nat) (s : List Nat) (f : List Edge) : walkL R l p [] s f = (s, f) := by
  rw [walkL]

theorem run_fin (R : Nat → List Nat) (D many B : Nat) (hR : ∀ c, c < many → (R c).length ≤ B ∧ ∀ x ∈ R c, x < many) : ∀ (n : Nat) (V : List Nat) (st : List (Nat × List Nat)) (as : List Nat) (f : List Edge),
    msr many B V st as ≤ n → StOk many st → (∀ a ∈ as, a < many) → f ++ runD R D n V st as = finD R D as st V f
  | 0, V, st, as, f, hm, _, _ => by
    unfold msr at hm
    cases st with
    | nil => cases as with
      | nil => simp [runD, finD, dueL]
      | cons a as => simp at hm
    | cons x st => simp at hm
  | n + 1, V, [], [], f, _, _, _ => by simp [runD, finD, dueL]
  | n + 1, V, [], a :: as, f, hm, hs, ha => by
    have ha' : ∀ x ∈ as, x < many := fun x hx => ha x (List.mem_cons_of_mem _ hx)
    have ham := ha a List.mem_cons_self
    unfold runD
    by_cases h : a ∈ V
    · rw [if_pos h, run_fin R D many B hR n V [] as f (by unfold msr at hm ⊢; simp at hm ⊢; omega) hs ha']
      simp [finD, dueL, h]
    · rw [if_neg h]
      obtain ⟨h1, h2⟩ := hR a ham
      have hu := unv_snoc h ham
      rw [run_fin R D many B hR n (V ++ [a]) [(a, R a)] as f ?_ (fun x hx => by rw [List.mem_singleton.mp hx]; exact h2) ha']
      · simp [finD, dueL, h]
      · unfold msr at hm ⊢
        simp at hm ⊢
        have : (unv many (V ++ [a]) + 1) * (B + 4) ≤ unv many V * (B + 4) := Nat.mul_le_mul_right _ hu
        rw [Nat.add_mul] at this
        omega
  | n + 1, V, (p, []) :: st, as, f, hm, hs, ha => by
    unfold runD
    rw [run_fin R D many B hR n V st as f (by unfold msr at hm ⊢; simp at hm ⊢; omega) (fun x hx => hs x (List.mem_cons_of_mem _ hx)) ha]
    simp [finD, walkL_nil]
  | n + 1, V, (p, c :: cs) :: st, as, f, hm, hs, ha => by
    have hcm : c < many := hs (p, c :: cs) List.mem_cons_self c List.mem_cons_self
    have hs' : StOk many ((p, cs) :: st) := fun x hx y hy => by
      rcases List.mem_cons.mp hx with rfl | hx
      · exact hs (p, c :: cs) List.mem_cons_self y (List.mem_cons_of_mem _ hy)
      · exact hs x (List.mem_cons_of_mem _ hx) y hy
    unfold runD
    by_cases h : c ∈ V
    · rw [if_pos h, run_fin R D many B hR n V ((p, cs) :: st) as f (by unfold msr at hm ⊢; simp at hm ⊢; omega) hs' ha]
      simp only [finD]
      rw [walkL_seen R _ p c cs V f h]
    · rw [if_neg h]
      obtain ⟨h1, h2⟩ := hR c hcm
      have hu := unv_snoc h hcm
      have hmul : (unv many (V ++ [c]) + 1) * (B + 4) ≤ unv many V * (B + 4) := Nat.mul_le_mul_right _ hu
      rw [Nat.add_mul] at hmul
      have e1 : ∀ X : List Edge, f ++ (p, c) :: X = (f ++ [(p, c)]) ++ X := fun X => by simp
      rw [e1]
      by_cases hd : st.length + 1 < D
      · rw [if_pos hd, run_fin R D many B hR n (V ++ [c]) ((c, R c) :: (p, cs) :: st) as (f ++ [(p, c)]) (by unfold msr at hm ⊢; simp at hm ⊢; omega)
          (fun x hx => by
            rcases List.mem_cons.mp hx with rfl | hx
            · exact h2
            · exact hs' x hx) ha]
        simp only [finD]
        rw [walkL_cons R _ p c cs V f h]
        have hl : D - st.length > 1 := by omega
        simp only [hl, if_true, List.length_cons]
        rw [show D - (st.length + 1) = D - st.length - 1 by omega]
      · rw [if_neg hd, run_fin R D many B hR n (V ++ [c]) ((p, cs) :: st) as (f ++ [(p, c)]) (by unfold msr at hm ⊢; simp at hm ⊢; omega) hs' ha]
        simp only [finD]
        rw [walkL_cons R _ p c cs V f h]
        have hl : ¬ D - st.length > 1 := by omega
        simp only [hl, if_false]
/-- what the machine tells of new nodes has no repeats -/
theorem run_nodup (R : Nat → List Nat) (D : Nat) : ∀ (n : Nat) (V : List Nat) (st : List (Nat × List Nat)) (as : List Nat),
    ((runD R D n V st as).map (·.2)).Nodup ∧ ∀ x ∈ (runD R D n V st as).map (·.2), x ∉ V
  | 0, _, _, _ => by simp [runD]
  | n + 1, V, [], [] => by simp [runD]
  | n + 1, V, [], a :: as => by
    unfold runD
    by_cases h : a ∈ V
    · rw [if_pos h]; exact run_nodup R D n V [] as
    · rw [if_neg h]
      obtain ⟨h1, h2⟩ := run_nodup R D n (V ++ [a]) [(a, R a)] as
      exact ⟨h1, fun x hx hv => h2 x hx (List.mem_append_left _ hv)⟩
  | n + 1, V, (p, []) :: st, as => by unfold runD; exact run_nodup R D n V st as
  | n + 1, V, (p, c :: cs) :: st, as => by
    unfold runD
    by_cases h : c ∈ V
    · rw [if_pos h]; exact run_nodup R D n V ((p, cs) :: st) as
    · rw [if_neg h]
      have key : ∀ X : List Edge, ((X.map (·.2)).Nodup ∧ ∀ x ∈ X.map (·.2), x ∉ V ++ [c]) → ((((p, c) :: X).map (·.2)).Nodup ∧ ∀ x ∈ ((p, c) :: X).map (·.2), x ∉ V) := fun X ⟨h1, h2⟩ => by
        refine ⟨?_, fun x hx => ?_⟩
        · rw [List.map_cons, List.nodup_cons]
          exact ⟨fun hc => h2 c hc (List.mem_append_right _ (List.mem_singleton.mpr rfl)), h1⟩
        · rw [List.map_cons] at hx
          rcases List.mem_cons.mp hx with rfl | hx
          · exact h
          · exact fun hv => h2 x hx (List.mem_append_left _ hv)
      split
      · exact key _ (run_nodup R D n (V ++ [c]) ((c, R c) :: (p, cs) :: st) as)
      · exact key _ (run_nodup R D n (V ++ [c]) ((p, cs) :: st) as)
theorem run_due (R : Nat → List Nat) (D many B : Nat) (hR : ∀ c, c < many → (R c).length ≤ B ∧ ∀ x ∈ R c, x < many) (as : List Nat) (ha : ∀ a ∈ as, a < many) (n : Nat) (hn : msr many B [] [] as ≤ n) :
    runD R D n [] [] as = dueL R D as [] [] := by
  have := run_fin R D many B hR n [] [] as [] hn (fun _ h => nomatch h) ha
  simpa [finD] using this
structure WOk (many : Nat) (s : List Nat) (f : List Edge) : Prop where
  nd : s.Nodup
  lt : ∀ x ∈ s, x < many
  le : f.length ≤ s.length
theorem WOk.len {many : Nat} {s : List Nat} {f : List Edge} (h : WOk many s f) : s.length ≤ many := by
  have := List.Nodup.length_le_of_subset h.nd (l₂ := List.range many) (fun x hx => List.mem_range.mpr (h.lt x hx))
  simpa using this
theorem WOk.snoc {many c : Nat} {s : List Nat} {f : List Edge} (h : WOk many s f) (hc : c ∉ s) (hm : c < many) (e : Edge) : WOk many (s ++ [c]) (f ++ [e]) :=
  ⟨List.nodup_append.mpr ⟨h.nd, by simp, fun a ha b hb => by rw [List.mem_singleton.mp hb]; exact fun q => hc (q ▸ ha)⟩,
   fun x hx => by
    rcases List.mem_append.mp hx with hx | hx
    · exact h.lt x hx
    · rw [List.mem_singleton.mp hx]; exact hm, by rw [List.length_append, List.length_append]; exact Nat.add_le_add h.le (Nat.le_refl 1)⟩
theorem WOk.snocS {many c : Nat} {s : List Nat} {f : List Edge} (h : WOk many s f) (hc : c ∉ s) (hm : c < many) : WOk many (s ++ [c]) f :=
  let z := h.snoc hc hm (0, 0)
  ⟨z.nd, z.lt, by rw [List.length_append]; exact Nat.le_add_right_of_le h.le⟩
theorem walkL_ok (R : Nat → List Nat) (many : Nat) (hR : ∀ c, c < many → ∀ x ∈ R c, x < many) : ∀ (l p : Nat) (cs s : List Nat) (f : List Edge), WOk many s f → (∀ x ∈ cs, x < many) → WOk many (walkL R l p cs s f).1 (walkL R l p cs s f).2 := by
  intro l
  induction l with
  | zero =>
    intro p cs
    induction cs with
    | nil => intro s f h _; rw [walkL_nil]; exact h
    | cons c cs ih =>
      intro s f h hc
      by_cases q : c ∈ s
      · rw [walkL_seen _ _ _ _ _ _ _ q]; exact ih s f h fun x hx => hc x (List.mem_cons_of_mem _ hx)
      · rw [walkL_cons _ _ _ _ _ _ _ q]
        exact ih _ _ (h.snoc q (hc c List.mem_cons_self) _) fun x hx => hc x (List.mem_cons_of_mem _ hx)
  | succ l ihl =>
    intro p cs
    induction cs with
    | nil => intro s f h _; rw [walkL_nil]; exact h
    | cons c cs ih =>
      intro s f h hc
      by_cases q : c ∈ s
      · rw [walkL_seen _ _ _ _ _ _ _ q]; exact ih s f h fun x hx => hc x (List.mem_cons_of_mem _ hx)
      · rw [walkL_cons _ _ _ _ _ _ _ q]
        have h1 := h.snoc q (hc c List.mem_cons_self) (p, c)
        have hc' : ∀ x ∈ cs, x < many := fun x hx => hc x (List.mem_cons_of_mem _ hx)
        by_cases z : l + 1 > 1
        · simp only [z, if_true]
          exact ih _ _ (ihl c (R c) _ _ h1 (hR c (hc c List.mem_cons_self))) hc'
        · simp only [z, if_false]
          exact ih _ _ h1 hc'
end

/-! M0h -/
section
open PySem PySem.W PyProof.Rows PySem.Calls
abbrev NatsAre (vs : List Value) (row : List Nat) : Prop := IntsAre vs (row.map Int.ofNat)
inductive PairsL (μ : Mu) : List Value → List Edge → Prop
  | nil : PairsL μ [] []
  | cons {t : Addr} {ot : Obj} {e : Edge} {a b : Tok} {vs : List Value} {es : List Edge} : μ t = some ot → tupO [.int (e.1 : Int) a, .int (e.2 : Int) b] ot → PairsL μ vs es → PairsL μ (.ref t :: vs) (e :: es)
theorem PairsL.mono {μ μ' : Mu} {vs : List Value} {es : List Edge} (k : MuLe μ μ') (h : PairsL μ vs es) : PairsL μ' vs es := by
  induction h with
  | nil => exact .nil
  | cons e h _ ih => exact .cons (k _ _ e) h ih
theorem PairsL.snoc {μ : Mu} {vs : List Value} {es : List Edge} {t : Addr} {ot : Obj} {e : Edge} {a b : Tok} (h : PairsL μ vs es) (ht : μ t = some ot) (ho : tupO [.int (e.1 : Int) a, .int (e.2 : Int) b] ot) : PairsL μ (vs ++ [.ref t]) (es ++ [e]) := by
  induction h with
  | nil => exact .cons ht ho .nil
  | cons e h _ ih => exact .cons e h ih
theorem PairsL.length {μ : Mu} {vs : List Value} {es : List Edge} (h : PairsL μ vs es) : vs.length = es.length := by
  induction h with
  | nil => rfl
  | cons _ _ _ ih => simp [ih]
theorem NatsAre.snoc {vs : List Value} {row : List Nat} (h : NatsAre vs row) (c : Nat) (t : Tok) : NatsAre (vs ++ [.int (c : Int) t]) (row ++ [c]) := by
  have : ∀ {vs : List Value} {ns : List Int}, IntsAre vs ns → IntsAre (vs ++ [.int (c : Int) t]) (ns ++ [(c : Int)]) := by
    intro vs ns h
    induction h with
    | nil => exact .cons _ _ .nil
    | cons n t' _ ih => exact .cons n t' ih
  have := this h
  show IntsAre _ ((row ++ [c]).map Int.ofNat)
  rw [List.map_append]; exact this
theorem NatsAre.len {vs : List Value} {row : List Nat} (h : NatsAre vs row) : vs.length = row.length := by simpa using IntsAre.length h
theorem NatsAre.at {vs : List Value} {row : List Nat} (h : NatsAre vs row) {i : Nat} {v : Value} (e : vs[i]? = some v) : ∃ c t, row[i]? = some c ∧ v = .int (c : Int) t := by
  induction row generalizing vs i with
  | nil => cases h; simp at e
  | cons c row ih =>
    cases h with
    | cons n t h' =>
      cases i with
      | zero => simp at e; exact ⟨c, t, by simp, by rw [← e]⟩
      | succ i => simp at e; obtain ⟨c', t', h1, h2⟩ := ih h' e; exact ⟨c', t', by simpa using h1, h2⟩
theorem any_nat {row : List Nat} {c : Nat} : (row.map Int.ofNat).any (· == (c : Int)) = decide (c ∈ row) := by
  induction row with
  | nil => simp
  | cons a row ih =>
    rw [List.map_cons, List.any_cons, ih]
    by_cases h : a = c
    · subst h; simp
    · have h' : (Int.ofNat a == (c : Int)) = false := by rw [beq_eq_false_iff_ne]; exact fun q => h (by have q' : (a : Int) = c := q; omega)
      rw [h', Bool.false_or]
      have : c ≠ a := fun q => h q.symm
      simp [this]
/-- the rows of a graph, as lists of lists -/
def RowsAt (μ : Mu) (ra : Addr) (R : List (List Nat)) : Prop :=
  ∃ (o : Obj) (vs : List Value), μ ra = some o ∧ lstO vs o ∧ vs.length = R.length ∧ ∀ (i : Nat) (row : List Nat), R[i]? = some row → ∃ (r : Addr) (orr : Obj) (ivs : List Value), vs[i]? = some (Value.ref r) ∧ μ r = some orr ∧ lstO ivs orr ∧ NatsAre ivs row
theorem RowsAt.mono {μ μ' : Mu} {ra : Addr} {R : List (List Nat)} (k : MuLe μ μ') (h : RowsAt μ ra R) : RowsAt μ' ra R := by
  obtain ⟨o, vs, e, hl, hn, hr⟩ := h
  exact ⟨o, vs, k _ _ e, hl, hn, fun i row hi => let ⟨r, orr, ivs, a, b, c⟩ := hr i row hi; ⟨r, orr, ivs, a, k _ _ b, c⟩⟩
abbrev rowF (R : List (List Nat)) : Nat → List Nat := fun c => R.getD c []
theorem MuLe.del2 {μ μ' : Mu} (k : MuLe μ μ') (a : Addr) : MuLe (del μ a) (del μ' a) := fun b o e => let z := del_some e; del_of z.1 (k b o z.2)
theorem del_upd {μ : Mu} {a : Addr} {o : Obj} : MuLe (del μ a) (del (upd μ a o) a) := fun b ob e => let z := del_some e; del_of z.1 (mu_ch z.2 z.1)
theorem MuLe.del2u {μ μ' : Mu} {a : Addr} {o : Obj} (k : MuLe (del μ a) (del μ' a)) : MuLe (del μ a) (del (upd μ' a o) a) := k.trans del_upd
theorem lst_not_tup {vs ws : List Value} {o : Obj} (h : lstO vs o) (h' : tupO ws o) : False := by
  obtain ⟨n, rfl⟩ := h
  obtain ⟨k, e⟩ := h'
  have := congrArg Obj.cls e
  simp at this
end

/-! M0i -/
section
open PySem PySem.W PyProof.Rows PySem.Calls
theorem MuLe.nn {μ μ' : Mu} (k : MuLe μ μ') {a : Addr} (h : Nn μ' a) : Nn μ a := by
  show μ a = none
  cases e : μ a with
  | none => rfl
  | some o => have := k _ _ e; unfold Nn at h; rw [h] at this; cases this
/-- the finished graph, read only: its nodes in order, its rows -/
structure GfA (w : World) (μ : Mu) (dir : Bool) (many : Nat) (ord : List Nat) (R : List (List Nat)) (x dx dg dn da dp : Addr) : Prop where
  inst : ∃ n, n ≤ 10 ∧ Inst μ x dx (clsOf dir) (mAOf dir dg dn da dp) n
  nd : ∃ kn on, μ dn = some on ∧ DO w kn on ∧ kn.map (·.1) = ord.map Int.ofNat
  adj : ∃ ka oa, μ da = some oa ∧ DO w ka oa ∧ ∀ (i : Nat) (row : List Nat), R[i]? = some row → ∃ (r : Addr) (kr : List (Int × Value)) (o : Obj), valueAt ka i = some (Value.ref r) ∧ μ r = some o ∧ DO w kr o ∧ kr.map (·.1) = row.map Int.ofNat
  len : R.length = many
  rows : ∀ row ∈ R, ∀ y ∈ row, y < many
  rlen : ∀ row ∈ R, row.length ≤ 6
  olt : ∀ i ∈ ord, i < many
  olen : ord.length ≤ 6
  m6 : many ≤ 6
theorem GfA.mono {w : World} {μ μ' : Mu} {dir : Bool} {many : Nat} {ord : List Nat} {R : List (List Nat)} {x dx dg dn da dp : Addr} (k : MuLe μ μ') (X : GfA w μ dir many ord R x dx dg dn da dp) : GfA w μ' dir many ord R x dx dg dn da dp :=
  ⟨let ⟨n, h, I⟩ := X.inst; ⟨n, h, I.mono k⟩, let ⟨kn, on, e, d, q⟩ := X.nd; ⟨kn, on, k _ _ e, d, q⟩,
   let ⟨ka, oa, e, d, q⟩ := X.adj; ⟨ka, oa, k _ _ e, d, fun i row hi => let ⟨r, kr, o, a, b, c⟩ := q i row hi; ⟨r, kr, o, a, k _ _ b, c⟩⟩, X.len, X.rows, X.rlen, X.olt, X.olen, X.m6⟩
theorem nats_of_keys {many : Nat} {kvs : List (Int × Value)} (h : ∀ kv ∈ kvs, 0 ≤ kv.1 ∧ kv.1 < many) : ∃ row : List Nat, kvs.map (·.1) = row.map Int.ofNat ∧ ∀ y ∈ row, y < many := by
  refine ⟨kvs.map fun kv => kv.1.toNat, ?_, fun y hy => ?_⟩
  · rw [List.map_map]
    apply List.map_congr_left
    intro kv hkv
    have := (h kv hkv).1
    show kv.1 = Int.ofNat kv.1.toNat
    exact (Int.toNat_of_nonneg this).symm
  · obtain ⟨kv, hkv, rfl⟩ := List.mem_map.mp hy
    have := h kv hkv
    omega
theorem GrA.gf {w : World} {μ : Mu} {col : Col} {dir : Bool} {many : Nat} {ord : List Nat} {x dx dg dn da dp : Addr} (X : GrA w μ col dir many ord ord ord x dx dg dn da dp) (hord : ∀ i < many, i ∈ ord) : ∃ R, GfA w μ dir many ord R x dx dg dn da dp := by
  obtain ⟨ka, ⟨hca, oa, ea, hda⟩, hrng, hN⟩ := X.adj
  have row1 : ∀ i < many, ∃ row : List Nat, (∀ y ∈ row, y < many) ∧ row.length ≤ 6 ∧ ∃ (r : Addr) (kr : List (Int × Value)) (o : Obj), valueAt ka (i : Int) = some (Value.ref r) ∧ μ r = some o ∧ DO w kr o ∧ kr.map (·.1) = row.map Int.ofNat := fun i hi => by
    obtain ⟨r, hv, kvs, ⟨hcr, o, er, hdr⟩, hR⟩ := hN i (hord i hi)
    obtain ⟨row, h1, h2⟩ := nats_of_keys (many := many) fun kv hm => (hR kv hm).1
    refine ⟨row, h2, ?_, r, kvs, o, hv, er, hdr, h1⟩
    have hl : row.length = kvs.length := by have := congrArg List.length h1; simpa using this.symm
    have := lenKeys hdr.nodup fun kv hm => (hR kv hm).1
    have := X.m6
    omega
  have rowsN : ∀ n ≤ many, ∃ R : List (List Nat), R.length = n ∧ (∀ row ∈ R, ∀ y ∈ row, y < many) ∧ (∀ row ∈ R, row.length ≤ 6) ∧ ∀ (i : Nat) (row : List Nat), R[i]? = some row → ∃ (r : Addr) (kr : List (Int × Value)) (o : Obj), valueAt ka (i : Int) = some (Value.ref r) ∧ μ r = some o ∧ DO w kr o ∧ kr.map (·.1) = row.map Int.ofNat := by
    intro n
    induction n with
    | zero => exact fun _ => ⟨[], rfl, by simp, by simp, fun i row h => by simp at h⟩
    | succ n ih =>
      intro hn
      obtain ⟨R, h1, h2, h3, h4⟩ := ih (by omega)
      obtain ⟨row, g1, g2, g3⟩ := row1 n (by omega)
      refine ⟨R ++ [row], by simp [h1], fun r hr => ?_, fun r hr => ?_, fun i r hr => ?_⟩
      · rcases List.mem_append.mp hr with hr | hr
        · exact h2 r hr
        · rw [List.mem_singleton.mp hr]; exact g1
      · rcases List.mem_append.mp hr with hr | hr
        · exact h3 r hr
        · rw [List.mem_singleton.mp hr]; exact g2
      · rw [List.getElem?_append] at hr
        split at hr
        · exact h4 i r hr
        · rename_i hge
          have hi : i = n := by
            cases q : i - R.length with
            | zero => omega
            | succ k => rw [q] at hr; simp at hr
          subst hi
          rw [h1, Nat.sub_self] at hr
          simp at hr
          rw [← hr]; exact g3
  obtain ⟨R, h1, h2, h3, h4⟩ := rowsN many (Nat.le_refl _)
  obtain ⟨kn, ⟨hcn, on, en, dn'⟩, hkm, _⟩ := X.nd
  have hol : ord.length ≤ 6 := by
    have hl : kn.length = ord.length := by have := congrArg List.length hkm; simpa using this
    have := X.ndLen hkm dn'
    have := X.m6
    omega
  exact ⟨R, X.inst, ⟨kn, on, en, dn', hkm⟩, ⟨ka, oa, ea, hda, h4⟩, h1, h2, h3, fun i hi => X.lt i (.inl hi), hol, X.m6⟩
section
variable {w : World} {A : Around} {E : Value → Shared → Prop} {s : Shared} {g : Heap} {L : Addr} {m : Str → Option Value} {μ : Mu}
theorem DO.kdk {kvs : List (Int × Value)} {o : Obj} (h : DO w kvs o) : ∃ ep, KdkAt (intKind PR w) o kvs ep := KdkAt.of h
/-- iter(d) -/
theorem r_iterDict {d : Addr} {o : Obj} {kvs : List (Int × Value)} {Q : Value → Shared → Prop} (S : St g L m μ s.heap) (hd : μ d = some o) (ho : DO w kvs o)
    (h : ∀ I h' oI ep, Nn μ I → KdkIter oI d 0 kvs.length ep → KdkAt (intKind PR w) o kvs ep → St g L m (upd μ I oI) h' → Q (.ref I) { s with heap := h' }) :
    wpAny (model PR w) A (call (.builtin "iter") [.ref d] []) Q E s := by
  obtain ⟨ep, ha⟩ := ho.kdk
  refine call_function_entry (by decide +kernel) (by decide +kernel) kdk_entry_iter (kdk_args_iter _) ?_
  unfold Builtin.«iter»
  refine wpAny_bind (m := someArgs "iter" 1 2 _) (wpAny_of_eq (a := [Value.ref d]) (by first | rfl | kernel_rfl!) ?_)
  show wpAny _ _ (pyIter (.ref d) >>= _) _ _ _
  refine wpAny_bind (wpAny_pyIter_dict (S.sys hd) (ha.dictAt (S.get hd)) ?_)
  exact wpAny_pure ⟨_, rfl, h _ _ _ ep S.none_size ⟨rfl, rfl⟩ ha (S.alloc _ rfl)⟩
/-- what an iterator has left -/
def ItS (w : World) (μ : Mu) (I q : Addr) (cs : List Nat) : Prop :=
  (∃ (i : Nat) (kvs : List (Int × Value)) (ep : Nat) (oI od : Obj), μ I = some oI ∧ KdkIter oI q i kvs.length ep ∧ μ q = some od ∧ KdkAt (intKind PR w) od kvs ep ∧ (kvs.map (·.1)).drop i = cs.map Int.ofNat ∧ q ≠ I) ∨
  (∃ (i : Nat) (oI ol : Obj) (vs : List Value), μ I = some oI ∧ oI.cls = .type "list_iterator" ∧ oI.data = .fields #[.ref q, .int (i : Int) 0] ∧ μ q = some ol ∧ lstO vs ol ∧ NatsAre (vs.drop i) cs ∧ q ≠ I)
def ItAt (w : World) (μ : Mu) (I : Addr) (cs : List Nat) : Prop := ∃ q, ItS w μ I q cs
theorem ItS.mono {μ' : Mu} {I q : Addr} {cs : List Nat} (k : ∀ b o, (b = I ∨ b = q) → μ b = some o → μ' b = some o) (h : ItS w μ I q cs) : ItS w μ' I q cs := by
  rcases h with ⟨i, kvs, ep, oI, od, eI, hit, ed, r⟩ | ⟨i, oI, ol, vs, eI, hcl, hdt, el, r⟩
  · exact .inl ⟨i, kvs, ep, oI, od, k _ _ (.inl rfl) eI, hit, k _ _ (.inr rfl) ed, r⟩
  · exact .inr ⟨i, oI, ol, vs, k _ _ (.inl rfl) eI, hcl, hdt, k _ _ (.inr rfl) el, r⟩
theorem ItS.it {I q : Addr} {cs : List Nat} (h : ItS w μ I q cs) : q ≠ I ∧ (∃ o, μ I = some o) ∧ ∃ o, μ q = some o := by
  rcases h with ⟨i, kvs, ep, oI, od, eI, hit, ed, _, _, n⟩ | ⟨i, oI, ol, vs, eI, hcl, hdt, el, _, _, n⟩
  · exact ⟨n, ⟨_, eI⟩, _, ed⟩
  · exact ⟨n, ⟨_, eI⟩, _, el⟩
def ItD (w : World) (μ : Mu) (I : Addr) (cs : List Nat) : Prop :=
  ∃ (q : Addr) (i : Nat) (kvs : List (Int × Value)) (ep : Nat) (oI od : Obj), μ I = some oI ∧ KdkIter oI q i kvs.length ep ∧ μ q = some od ∧ KdkAt (intKind PR w) od kvs ep ∧ (kvs.map (·.1)).drop i = cs.map Int.ofNat ∧ q ≠ I
theorem ItD.at {I : Addr} {cs : List Nat} (h : ItD w μ I cs) : ItAt w μ I cs := let ⟨q, i, kvs, ep, oI, od, r⟩ := h; ⟨q, .inl ⟨i, kvs, ep, oI, od, r⟩⟩
theorem ItD.mono {μ' : Mu} {I : Addr} {cs : List Nat} (k : MuLe μ μ') (h : ItD w μ I cs) : ItD w μ' I cs := let ⟨q, i, kvs, ep, oI, od, a, b, c, r⟩ := h; ⟨q, i, kvs, ep, oI, od, k _ _ a, b, k _ _ c, r⟩
theorem drop_cons {l : List Int} {i : Nat} {c : Nat} {cs : List Nat} (h : l.drop i = (c :: cs).map Int.ofNat) : l[i]? = some (c : Int) ∧ l.drop (i + 1) = cs.map Int.ofNat ∧ i < l.length := by
  have hlt : i < l.length := by
    rcases Nat.lt_or_ge i l.length with h' | h'
    · exact h'
    · rw [List.drop_eq_nil_of_le h'] at h; simp at h
  rw [List.drop_eq_getElem_cons hlt, List.map_cons] at h
  obtain ⟨h1, h2⟩ := List.cons.inj h
  exact ⟨by rw [List.getElem?_eq_getElem hlt, h1]; rfl, h2, hlt⟩
theorem St.lostI {h h' : Heap} {I : Addr} {oI : Obj} (S : St g L m μ h) (e : μ I = some oI) (k : ∀ b o, b ∉ [I] → h.get? b = some o → h'.get? b = some o) : St g L m (del μ I) h' := by
  have zI := S.mu I oI e
  refine ⟨⟨S.fr.ns.at' fun o q => k L o (by simpa using Ne.symm zI.2.1) q, fun b o q => k b o (fun hm => by rw [List.mem_singleton.mp hm, zI.2.2.1] at q; cases q) (S.fr.keep b o q), S.fr.above⟩, fun a o q => ?_, S.lo⟩
  obtain ⟨ne, q⟩ := del_some q
  have z := S.mu a o q
  exact ⟨k a o (by simpa using ne) z.1, z.2⟩
theorem r_next {I q : Addr} {cs : List Nat} {K : Option Value → Shared → Prop} (hh : A.handled = none) (S : St g L m μ s.heap) (It : ItS w μ I q cs)
    (hc : ∀ c cs' t oI' h' tk', cs = c :: cs' → St g L m (upd μ I oI') h' → ItS w (upd μ I oI') I q cs' → K (some (.int (c : Int) t)) { s with heap := h', toks := tk' })
    (hn : ∀ h' tk', cs = [] → St g L m (del μ I) h' → K none { s with heap := h', toks := tk' }) :
    wpAny (model PR w) A (pyNext (.ref I)) K E s := by
  rcases It with ⟨i, kvs, ep, oI, od, eI, hit, ed, ha, hdr, hne⟩ | ⟨i, oI, ol, vs, eI, hcl, hdt, el, hlo, hdr, hne⟩
  · have W := Walks.dictKeys (prog := PR) (w := w) (knd := intKind PR w) hh I q hne kvs ep
    have st : s.heap.IsKeyIter I q i kvs.length ep ∧ s.heap.DictAt (intKind PR w) q kvs ep := ⟨hit.at (S.get eI), ha.dictAt (S.get ed)⟩
    cases cs with
    | nil =>
      have hi : i = kvs.length ∨ kvs.length < i := by
        have := congrArg List.length hdr
        simp at this
        omega
      rcases hi with rfl | hi
      · exact W.done _ _ _ st fun h' tk' hk => hn h' tk' rfl (S.lostI eI hk)
      · exact wpAny_pyNext_dict_end hh st.1 st.2 (by simp; omega) fun h' he' => hn h' s.toks rfl (S.lostI eI fun b o hb e => he' b o (fun h => hb (by simp [h])) e)
    | cons c cs' =>
      obtain ⟨h1, h2, h3⟩ := drop_cons hdr
      have hlt : i < kvs.length := by simpa using h3
      refine W.item i _ _ _ hlt st fun v h' tk' hP hst' hk => ?_
      obtain ⟨k, x, hkx, hv⟩ := hP
      obtain ⟨t, rfl⟩ := Value.isInt_shape hv
      have hkc : k = (c : Int) := by
        rw [List.getElem?_map, hkx] at h1
        exact Option.some.inj h1
      subst hkc
      obtain ⟨oI', eI', hc1, hc2⟩ := hst'.1
      exact hc c cs' t oI' h' tk' rfl (S.re eI eI' hk) (.inl ⟨i + 1, kvs, ep, oI', od, upd_self .., ⟨hc1, hc2⟩, mu_ch ed hne, ha, h2, hne⟩)
  · have W := Walks.list (prog := PR) (w := w) hh I q hne vs.toArray
    have st : s.heap.IsListIter I q i ∧ s.heap.IsList q vs.toArray := ⟨⟨oI, S.get eI, hcl, hdt⟩, hlo.isList (S.get el)⟩
    cases cs with
    | nil =>
      have hle : vs.length ≤ i := by
        have := hdr.len
        simp at this
        omega
      exact wpAny_pyNext_list_end hh st.1 st.2 (by simpa using hle) fun h' he' => hn h' s.toks rfl (S.lostI eI fun b o hb e => he' b o (fun h => hb (by simp [h])) e)
    | cons c cs' =>
      have hlt : i < vs.length := by
        have := hdr.len
        simp at this
        omega
      refine W.item i _ _ _ (by simpa using hlt) st fun v h' tk' hP hst' hk => ?_
      have hv : vs[i]? = some v := by simpa using hP
      rw [List.drop_eq_getElem_cons hlt] at hdr
      obtain ⟨oI', eI', hc1, hc2⟩ := hst'.1
      have hdr' : IntsAre (vs[i] :: vs.drop (i + 1)) ((c : Int) :: cs'.map Int.ofNat) := hdr
      rw [List.getElem?_eq_getElem hlt] at hv
      have hv' : vs[i] = v := Option.some.inj hv
      rw [hv'] at hdr'
      cases hdr' with
      | cons n t hr => exact hc c cs' t oI' h' tk' rfl (S.re eI eI' hk) (.inr ⟨i + 1, oI', ol, vs, upd_self .., hc1, hc2, mu_ch el hne, hlo, hr, hne⟩)
end
end

/-! M0j -/
section
open PySem PySem.W PyProof.Rows PySem.Calls
section
variable {w : World} {g : Heap} {L : Addr} {m : Str → Option Value}
theorem ext_loop {A : Around} {R : Result → Shared → Prop} {I q Sx : Addr} {res : Value} (hh : A.handled = none) : ∀ (cs : List Nat) (μ : Mu) (s : Shared) (acc : List Value) (oS : Obj), St g L m μ s.heap → ItS w μ I q cs → μ Sx = some oS → lstO acc oS → acc.length + cs.length ≤ 1000 → Sx ≠ I → Sx ≠ q →
    (∀ h' tk' oS' ivs μ', St g L m μ' h' → (∀ b o, μ b = some o → b ≠ Sx → b ≠ I → μ' b = some o) → μ' Sx = some oS' → lstO (acc ++ ivs) oS' → NatsAre ivs cs → R (.ok (.ret res)) { s with heap := h', toks := tk' }) →
    codeAny (model PR w) A (.builtin "list.extend.loop" ⟨[.ref Sx, .ref I, res], []⟩) R s
  | [], μ, s, acc, oS, S, It, eS, hlo, hlen, n1, n2, hR => by
    refine codeAny_builtin PySem.F.entry_extend_loop ?_
    rw [Around.under_plainId PySem.F.plain_extend_loop _]
    show wpAny _ A.in1 (pyNext (.ref I) >>= _) _ _ s
    refine wpAny_bind (r_next (by exact hh) S It (fun c cs' t oI' h' tk' e => nomatch e) (fun h' tk' _ S' => ?_))
    exact wpAny_pure (hR h' tk' oS [] _ S' (fun b o e _ b2 => del_of b2 e) (del_of n1 eS) (by simpa using hlo) .nil)
  | c :: cs, μ, s, acc, oS, S, It, eS, hlo, hlen, n1, n2, hR => by
    refine codeAny_builtin PySem.F.entry_extend_loop ?_
    rw [Around.under_plainId PySem.F.plain_extend_loop _]
    show wpAny _ A.in1 (pyNext (.ref I) >>= _) _ _ s
    refine wpAny_bind (r_next (by exact hh) S It (fun c' cs' t oI' h' tk' e S' It' => ?_) (fun h' tk' e => nomatch e))
    obtain ⟨rfl, rfl⟩ := List.cons.inj e
    obtain ⟨nS, rfl⟩ := id hlo
    have eS' : upd μ I oI' Sx = some _ := mu_ch eS n1
    have hS := S'.get eS'
    show wpAny _ A.in1 (updateSeq Sx (·.push _) >>= _) _ _ _
    have hlen' : acc.length + (cs.length + 1) ≤ 1000 := by simpa using hlen
    have hS2 := Heap.get?_update_self (Obj.mapSeq (·.push (Value.int (c : Int) t))) hS rfl
    have S2 := S'.change eS' (Heap.SameBut.update ..) hS2
    have hl2 : lstO (acc ++ [Value.int (c : Int) t]) (Obj.mapSeq (·.push (Value.int (c : Int) t)) ({ cls := .type "list", data := .seq acc.toArray nS } : Obj)) := ⟨_, by
      show ({ cls := .type "list", data := .seq (acc.toArray.push _) _ } : Obj) = _
      rw [List.push_toArray]⟩
    refine wpAny_bind ?_
    refine wpAny_updateSeq hS rfl (wpAny_pure ⟨plainId_quiet PySem.F.plain_extend_loop _, ext_loop hh cs _ _ (acc ++ [.int (c : Int) t]) _ S2 (It'.mono fun b o hb e => mu_ch e (fun z => ?_)) (upd_self ..) hl2 (by rw [List.length_append, List.length_singleton]; omega) n1 n2 ?_⟩) ?_ ?_
    · rcases hb with rfl | rfl
      · exact n1 z.symm
      · exact n2 z.symm
    · intro h'' tk'' oS'' ivs μ'' S'' k e'' hl hn
      refine hR h'' tk'' oS'' (.int (c : Int) t :: ivs) μ'' S'' (fun b o eb b1 b2 => k b o (mu_ch (mu_ch eb b2) b1) b1 b2) e'' (by simpa using hl) (.cons _ t hn)
    · show acc.toArray.size ≤ _
      rw [List.size_toArray, PySem.sizeLine_eq]; omega
    · show (acc.toArray.push _).size ≤ _
      rw [Array.size_push, List.size_toArray, PySem.sizeLine_eq]; omega
theorem St.seq {μ : Mu} {h : Heap} {Sx : Addr} {o : Obj} {f : Array Value → Array Value} (S : St g L m μ h) (e : μ Sx = some o) (hf : (Obj.mapSeq f o).isFreed = false) : St g L m (upd μ Sx (Obj.mapSeq f o)) (h.update Sx (Obj.mapSeq f)) :=
  S.change e (Heap.SameBut.update ..) (Heap.get?_update_self (Obj.mapSeq f) (S.get e) hf)
theorem r_listOf (own : Prop) {A : Around} {E : Value → Shared → Prop} {s : Shared} {μ : Mu} {Q : Value → Shared → Prop} {a : Addr} {o : Obj} {cs : List Nat} (hh : A.handled = none) (S : St g L m μ s.heap) (ha : μ a = some o) (hc1 : (o.cls == .type "list") = false) (hc2 : (o.cls == .type "tuple") = false) (hlen : cs.length ≤ 100)
    (hiter : ∀ (s' : Shared) μ' (Q' : Value → Shared → Prop) (E' : Value → Shared → Prop), St g L m μ' s'.heap → MuLe μ μ' →
      (∀ h'' tk'' μ'' I q, St g L m μ'' h'' → MuLe μ' μ'' → ItS w μ'' I q cs → (∀ Z oZ, μ' Z = some oZ → Nn μ Z → Z ≠ I ∧ Z ≠ q) → (Nn μ I ∨ (I = a ∧ own)) → Q' (.ref I) { s' with heap := h'', toks := tk'' }) → wpAny (model PR w) A.in1.in1 (pyIter (.ref a)) Q' E' s')
    (hhint : ∀ (s' : Shared) μ' (Q' : Bool → Shared → Prop) (E' : Value → Shared → Prop), St g L m μ' s'.heap → MuLe μ μ' → (∀ b h'' tk'' μ'', St g L m μ'' h'' → MuLe μ' μ'' → Q' b { s' with heap := h'', toks := tk'' }) → wpAny (model PR w) A.in1.in1 (Builtin.List.listLengthHint (.ref a)) Q' E' s')
    (hQ : ∀ h' tk' μ' Sx oS ivs I, St g L m μ' h' → (∀ b o, μ b = some o → b ≠ I → μ' b = some o) → Nn μ Sx → μ' Sx = some oS → lstO ivs oS → NatsAre ivs cs → (Nn μ I ∨ (I = a ∧ own)) → Q (.ref Sx) { s with heap := h', toks := tk' }) :
    wpAny (model PR w) A (call (.type "list") [.ref a] []) Q E s := by
  refine callType_codes (Q₁ := fun obj s₁ => obj = .ref s.heap.objs.size ∧ s₁ = { s with heap := s.heap.push { cls := .type "list", data := .seq #[] } }) PySem.F.called_list (PySem.F.typeCall_list_1 _) PySem.F.entry_list_init
    (code_list_new _ ⟨rfl, rfl⟩) fun obj s₁ h₁ => ?_
  obtain ⟨rfl, rfl⟩ := h₁
  have S1 := S.alloc { cls := .type "list", data := .seq #[] } rfl
  have hSn : Nn μ s.heap.objs.size := S.none_size
  have hS : (s.heap.push { cls := .type "list", data := .seq #[] }).get? s.heap.objs.size = some { cls := .type "list", data := .seq #[] } := Heap.get?_push_size _ rfl
  generalize s.heap.objs.size = Sx at S1 hSn hS ⊢
  generalize s.heap.push { cls := .type "list", data := .seq #[] } = h1 at S1 hS ⊢
  have haS : a ≠ Sx := ne_of_mu ha hSn
  refine ⟨⟨_, hS, rfl⟩, PySem.F.args_list_init_2 _ _, ?_⟩
  show wpAny _ _ (do let old ← Builtin.List.listItems (.ref Sx); Builtin.List.listUpdate (.ref Sx) (fun _ => #[]); letGo old.toList.reverse; Builtin.List.listExtendWith (.ref Sx) (.ref a) .none) _ _ _
  refine wpAny_bind ?_
  unfold Builtin.List.listItems
  refine wpAny_bind (wpAny_seqItems hS rfl (wpAny_pure ?_))
  show wpAny _ _ (updateSeq Sx (fun _ => #[]) >>= fun _ => letGo (#[] : Array Value).toList.reverse >>= fun _ => Builtin.List.listExtendWith (.ref Sx) (.ref a) .none) _ _ _
  refine wpAny_bind (wpAny_updateSeq hS rfl ?_)
  have S2 := S1.seq (f := fun _ => #[]) (upd_self ..) rfl
  refine wpAny_bind (wpAny_letGo ?_)
  unfold Builtin.List.listExtendWith
  have k2 : MuLe μ (upd (upd μ Sx { cls := .type "list", data := .seq #[] }) Sx (Obj.mapSeq (fun _ => #[]) { cls := .type "list", data := .seq #[] })) := fun b o e => mu_ch (mu_up e hSn) (ne_of_mu e hSn)
  refine wpAny_bind (((Looks.ld (S2.get (k2 _ _ ha))).andThen .now : Looks (model PR w) _ (typeOf (.ref a)) o.cls).here ?_)
  have hsame : Builtin.List.listSameRef (.ref Sx) (.ref a) = false := by simp [Builtin.List.listSameRef, Ne.symm haS]
  simp only [hsame, hc1, hc2, Bool.or_false, Bool.false_eq_true, if_false]
  refine wpAny_bind (hiter _ _ _ _ S2 k2 fun h3 tk3 μ3 I q S3 k3 It hZ hIa => ?_)
  obtain ⟨nSI, nSq⟩ := hZ Sx _ (upd_self ..) hSn
  refine wpAny_bind (wpAny_holding (hhint _ _ _ _ S3 (k2.trans k3) fun b h4 tk4 μ4 S4 k4 => ?_))
  have eS4 := k4 _ _ (k3 _ _ (upd_self ..))
  have It4 : ItS w μ4 I q cs := It.mono fun b o _ e => k4 _ _ e
  have fin : ∀ h5 tk5 μ5 oS5, St g L m μ5 h5 → μ5 Sx = some oS5 → lstO [] oS5 → (∀ b o, μ4 b = some o → b ≠ Sx → μ5 b = some o) →
      codeAny (model PR w) A.in1 (.builtin "list.extend.loop" ⟨[.ref Sx, .ref I, .none], []⟩) (wants (fun r s₂ => r = .none ∧ Q (.ref Sx) s₂) E) { s with heap := h5, toks := tk5 } := fun h5 tk5 μ5 oS5 S5 e5 hl5 k5 => by
    refine ext_loop (by exact hh) cs μ5 _ [] oS5 S5 (It4.mono fun b o hb e => k5 b o e (fun z => ?_)) e5 hl5 (by simp; omega) nSI nSq ?_
    · rcases hb with rfl | rfl
      · exact nSI z.symm
      · exact nSq z.symm
    · intro h6 tk6 oS6 ivs μ6 S6 k6 e6 hl6 hn6
      refine ⟨rfl, hQ h6 tk6 μ6 Sx oS6 ivs I S6 (fun b ob eb bI => ?_) hSn e6 (by simpa using hl6) hn6 hIa⟩
      have bS := ne_of_mu eb hSn
      exact k6 b ob (k5 b ob (k4 _ _ (k3 _ _ (k2 _ _ eb))) bS) bS bI
  have q0 : lstO [] (Obj.mapSeq (fun _ => #[]) ({ cls := .type "list", data := .seq #[] } : Obj)) := ⟨_, rfl⟩
  refine wpAny_ite_split (fun _ => ?_) (fun _ => wpAny_pure ⟨plainId_quiet PySem.F.plain_extend_loop _, fin _ _ _ _ S4 eS4 q0 fun b o e _ => e⟩)
  refine wpAny_bind (wpAny_rule ?_)
  refine wpAny_bind ?_
  show wpAny _ _ (updateSeq Sx (·.push .none) >>= fun _ => updateSeq Sx (·.pop)) _ _ _
  refine wpAny_bind (wpAny_updateSeq (S4.get eS4) rfl ?_)
  have S5 := S4.seq (f := (·.push .none)) eS4 rfl
  refine wpAny_updateSeq (hz := by seq_fits) (S5.get (upd_self ..)) rfl ?_
  have S6 := S5.seq (f := (·.pop)) (upd_self ..) rfl
  exact wpAny_pure ⟨plainId_quiet PySem.F.plain_extend_loop _, fin _ _ _ _ S6 (upd_self ..) ⟨_, rfl⟩ fun b o e ne => mu_ch (mu_ch e ne) ne⟩
theorem keyiter_no_len : typeLookup (.type "dict_keyiterator") "__len__" = pure none := by rw [typeLookup_type, builtinLookup_eq_fast]; kernel_rfl
theorem hint_keyiter {A : Around} {E : Value → Shared → Prop} {s : Shared} {Q : Bool → Shared → Prop} {I d : Addr} {i n ep : Nat} (hit : s.heap.IsKeyIter I d i n ep) (h : ∀ b, Q b s) : wpAny (model PR w) A (Builtin.List.listLengthHint (.ref I)) Q E s := by
  unfold Builtin.List.listLengthHint
  refine wpAny_bind (wpAny_specialOf hit.typeIs keyiter_no_len ?_)
  show wpAny _ A (specialOf (Value.ref I) (Str.ofString "__length_hint__") >>= _) _ _ _
  refine wpAny_bind (wpAny_specialOf hit.typeIs PySem.F.slot_dict_keyiterator_length_hint.lookup ?_)
  generalize hid : ("dict_keyiterator.__length_hint__" : String) = id0
  wp_delta
  rw [show splitId id0 = some ("dict_keyiterator", "__length_hint__") from by subst hid; decide +kernel]
  subst hid
  refine wpAny_bind (wpAny_isInstance (T := "dict_keyiterator") (b := true) hit.typeIs (by rw [isSubtype_type]; kernel_rfl) ?_)
  refine wpAny_ite_split (fun hab => absurd hab (by decide)) (fun _ => ?_)
  refine wpAny_ite_split (fun _ => ?_) (fun hab => absurd (by decide +kernel) hab)
  refine wpAny_ite_split (fun hab => absurd hab (by decide +kernel)) (fun _ => ?_)
  exact wpAny_pure (h _)
theorem list_keyiter {A : Around} {E : Value → Shared → Prop} {s : Shared} {μ : Mu} {Q : Value → Shared → Prop} {I : Addr} {cs : List Nat} (hh : A.handled = none) (S : St g L m μ s.heap) (It : ItD w μ I cs) (hlen : cs.length ≤ 100)
    (hQ : ∀ h' tk' μ' Sx oS ivs, St g L m μ' h' → (∀ b o, μ b = some o → b ≠ I → μ' b = some o) → Nn μ Sx → μ' Sx = some oS → lstO ivs oS → NatsAre ivs cs → Q (.ref Sx) { s with heap := h', toks := tk' }) :
    wpAny (model PR w) A (call (.type "list") [.ref I] []) Q E s := by
  obtain ⟨q, i, kvs, ep, oI, od, eI, hit, ed, ha, hdr, hne⟩ := It
  refine r_listOf True hh S eI (by rw [hit.1]; decide) (by rw [hit.1]; decide) hlen (fun s' μ' Q' E' S' k c => ?_) (fun s' μ' Q' E' S' k c => ?_) (fun h' tk' μ' Sx oS ivs I' S' k n e hl hn hI => ?_)
  · refine wpAny_pyIter_keyiter (hit.at (S'.get (k _ _ eI))) ?_
    exact c _ _ μ' I q S' (MuLe.refl _) (.inl ⟨i, kvs, ep, oI, od, k _ _ eI, hit, k _ _ ed, ha, hdr, hne⟩) (fun Z oZ _ hZ => ⟨Ne.symm (ne_of_mu eI hZ), Ne.symm (ne_of_mu ed hZ)⟩) (.inr ⟨rfl, trivial⟩)
  · exact hint_keyiter (hit.at (S'.get (k _ _ eI))) fun b => c b _ _ μ' S' (MuLe.refl _)
  · refine hQ h' tk' μ' Sx oS ivs S' (fun b o eb bI => k b o eb ?_) n e hl hn
    rcases hI with hI | ⟨rfl, _⟩
    · exact ne_of_mu eb hI
    · exact bI
end
end

/-! M0k -/
section
open PySem PySem.W PyProof.Rows PySem.Calls
theorem nats_of_perm {ns : List Int} {row : List Nat} (h : ns.Perm (row.map Int.ofNat)) : ∃ row' : List Nat, ns = row'.map Int.ofNat ∧ row'.Perm row := by
  refine ⟨ns.map Int.toNat, ?_, ?_⟩
  · rw [List.map_map]
    have : ∀ x ∈ ns, (Int.ofNat ∘ Int.toNat) x = id x := fun x hx => by
      obtain ⟨k, _, rfl⟩ := List.mem_map.mp (h.mem_iff.mp hx)
      rfl
    rw [List.map_congr_left this, List.map_id]
  · have := h.map Int.toNat
    rw [List.map_map] at this
    have e : row.map (Int.toNat ∘ Int.ofNat) = row := by
      have : ∀ x ∈ row, (Int.toNat ∘ Int.ofNat) x = id x := fun x _ => rfl
      rw [List.map_congr_left this, List.map_id]
    rwa [e] at this
section
variable {w : World} {A : Around} {E : Value → Shared → Prop} {s : Shared} {g : Heap} {L : Addr} {m : Str → Option Value} {μ : Mu}
theorem r_sortRev {l : Addr} {o : Obj} {vs : List Value} {row : List Nat} {Q : Value → Shared → Prop} (S : St g L m μ s.heap) (hl : μ l = some o) (hlo : lstO vs o) (hn : NatsAre vs row) (h64 : vs.length < 64)
    (h : ∀ h' a o' vs' row', Nn μ a → St g L m (upd μ a o') h' → lstO vs' o' → NatsAre vs' row' → row'.Perm row → row'.Pairwise (· ≥ ·) → Q (.ref a) { s with heap := h' }) :
    wpAny (model PR w) A (call (.builtin "sorted") [.ref l] [(Str.ofString "reverse", .bool true)]) Q E s := by
  refine sorted_ints_rev (hlo.isList (S.get hl)) hn h64 fun out ns' a1 a2 a3 => ?_
  obtain ⟨e, he⟩ := sortedAll_at s.heap vs out
  obtain ⟨row', rfl, hp⟩ := nats_of_perm a2
  have hnn : Nn μ (s.heap.objs.size + 1) := by
    show μ _ = none
    cases q : μ (s.heap.objs.size + 1) with
    | none => rfl
    | some o' => exact absurd (Heap.lt_size (S.get q)) (Nat.not_lt.mpr (Nat.le_succ _))
  have hle : g.objs.size ≤ s.heap.objs.size + 1 := Nat.le_succ_of_le (Nat.le_trans S.fr.above (Nat.le_of_lt S.lt))
  refine h _ _ _ out.toList row' hnn ((S.keep fun _ _ => sortedAll_old).add he ?_ ⟨Heap.get?_none_of_le hle, ?_⟩) ⟨e, rfl⟩ a1 hp ?_
  · exact Nat.ne_of_gt (Nat.lt_succ_of_lt S.lt)
  · exact Nat.ne_of_gt (Nat.lt_of_lt_of_le S.lo hle)
  · have h3 : (row'.map Int.ofNat).Pairwise (· ≥ ·) := by simpa [Ordered] using a3
    rw [List.pairwise_map] at h3
    exact h3.imp fun {a b} hab => by have : (b : Int) ≤ (a : Int) := hab; show b ≤ a; omega
theorem r_CallKw {env : Env} {func : Expr} {args : List Expr} {kws : List Keyword} {pos : Pos} {Q : Value → Shared → Prop}
    (h : wpAny (model PR w) A (eval func env) (fun f s₁ => wpAny (model PR w) A (callWith pos f [] (backTo pos (starEach args env)) (backToKw pos (keywordEach kws env))) Q E s₁) E s)
    (he : eval (.Call func args kws pos) env = (do callWith pos (← eval func env) [] (backTo pos (starEach args env)) (backToKw pos (keywordEach kws env))) := by rfl) :
    wpAny (model PR w) A (eval (.Call func args kws pos) env) Q E s := by rw [he]; exact wpAny_bind h
theorem collect_keyiter {I : Addr} {cs : List Nat} {Q : List Value → Shared → Prop} (hh : A.handled = none) (S : St g L m μ s.heap) (It : ItD w μ I cs) (hlen : cs.length ≤ 100)
    (hQ : ∀ h' tk' μ' ivs, St g L m μ' h' → (∀ b o, μ b = some o → b ≠ I → μ' b = some o) → NatsAre ivs cs → Q ivs { s with heap := h', toks := tk' }) :
    wpAny (model PR w) A (collect (.ref I)) Q E s := by
  obtain ⟨q, i, kvs, ep, oI, od, eI, hit, ed, ha, hdr, hne⟩ := It
  unfold collect
  refine wpAny_bind (wpAny_runValue (codeAny_builtin PySem.F.entry_proto_collect ?_))
  rw [Around.under_plainId PySem.F.plain_proto_collect _]
  show wpAny _ A.in1 (newList [] >>= fun l => again (.builtin "list.__iadd__" ⟨[l, .ref I], []⟩)) _ _ s
  refine wpAny_bind (wpAny_newObj_type ?_)
  refine wpAny_pure ⟨plainId_quiet PySem.F.plain_list_iadd _, codeAny_builtin PySem.F.entry_list_iadd ?_⟩
  rw [Around.under_plainId PySem.F.plain_list_iadd _]
  have S1 := S.alloc { cls := .type "list", data := .seq ([] : List Value).toArray } rfl
  have hSn : Nn μ s.heap.objs.size := S.none_size
  show wpAny _ A.in1 (Builtin.List.listExtendWith (.ref s.heap.objs.size) (.ref I) (.ref s.heap.objs.size)) _ _ _
  generalize s.heap.objs.size = Sx at S1 hSn ⊢
  generalize hh1 : s.heap.push { cls := .type "list", data := .seq ([] : List Value).toArray } = h1 at S1 ⊢
  have hIS : I ≠ Sx := ne_of_mu eI hSn
  have hqS : q ≠ Sx := ne_of_mu ed hSn
  have eI1 := mu_up (ob := { cls := .type "list", data := .seq ([] : List Value).toArray }) eI hSn
  have ed1 := mu_up (ob := { cls := .type "list", data := .seq ([] : List Value).toArray }) ed hSn
  unfold Builtin.List.listExtendWith
  refine wpAny_bind (((Looks.ld (S1.get eI1)).andThen .now : Looks (model PR w) _ (typeOf (.ref I)) oI.cls).here ?_)
  have hsame : Builtin.List.listSameRef (.ref Sx) (.ref I) = false := by simp [Builtin.List.listSameRef, Ne.symm hIS]
  have hc1 : (oI.cls == .type "list") = false := by rw [hit.1]; decide
  have hc2 : (oI.cls == .type "tuple") = false := by rw [hit.1]; decide
  simp only [hsame, hc1, hc2, Bool.or_false, Bool.false_eq_true, if_false]
  refine wpAny_bind (wpAny_pyIter_keyiter (hit.at (S1.get eI1)) ?_)
  refine wpAny_bind (wpAny_holding (hint_keyiter (hit.at (S1.get eI1)) fun b => ?_))
  have It1 : ItS w (upd μ Sx { cls := .type "list", data := .seq ([] : List Value).toArray }) I q cs := .inl ⟨i, kvs, ep, oI, od, eI1, hit, ed1, ha, hdr, hne⟩
  have fin : ∀ h5 tk5 μ5 oS5 (R : Result → Shared → Prop), St g L m μ5 h5 → μ5 Sx = some oS5 → lstO [] oS5 → (∀ b o, upd μ Sx { cls := .type "list", data := .seq ([] : List Value).toArray } b = some o → b ≠ Sx → μ5 b = some o) →
      (∀ h' tk' oS' ivs μ', St g L m μ' h' → (∀ b o, μ b = some o → b ≠ I → μ' b = some o) → μ' Sx = some oS' → lstO ivs oS' → NatsAre ivs cs → R (.ok (.ret (.ref Sx))) { s with heap := h', toks := tk' }) →
      codeAny (model PR w) A (.builtin "list.extend.loop" ⟨[.ref Sx, .ref I, .ref Sx], []⟩) R { s with heap := h5, toks := tk5 } := fun h5 tk5 μ5 oS5 R S5 e5 hl5 k5 hR => by
    refine ext_loop hh cs μ5 _ [] oS5 S5 (It1.mono fun b o hb e => k5 b o e (fun z => ?_)) e5 hl5 (by simp; omega) (Ne.symm hIS) (Ne.symm hqS) ?_
    · rcases hb with rfl | rfl
      · exact hIS z
      · exact hqS z
    · intro h6 tk6 oS6 ivs μ6 S6 k6 e6 hl6 hn6
      exact hR h6 tk6 oS6 ivs μ6 S6 (fun b ob eb bI => k6 b ob (k5 b ob (mu_up eb hSn) (ne_of_mu eb hSn)) (ne_of_mu eb hSn) bI) e6 (by simpa using hl6) hn6
  refine wpAny_ite_split (fun _ => ?_) (fun _ => wpAny_pure ⟨plainId_quiet PySem.F.plain_extend_loop _, fin _ _ _ _ _ S1 (upd_self ..) ⟨_, rfl⟩ (fun b o e _ => e) fun h' tk' oS' ivs μ' S' k e hl hn => ?_⟩)
  · refine wpAny_bind (wpAny_rule ?_)
    refine wpAny_bind ?_
    show wpAny _ _ (updateSeq Sx (·.push .none) >>= fun _ => updateSeq Sx (·.pop)) _ _ _
    refine wpAny_bind (wpAny_updateSeq (S1.get (upd_self ..)) rfl ?_)
    have S5 := S1.seq (f := (·.push .none)) (upd_self ..) rfl
    refine wpAny_updateSeq (hz := by seq_fits) (S5.get (upd_self ..)) rfl ?_
    have S6 := S5.seq (f := (·.pop)) (upd_self ..) rfl
    refine wpAny_pure ⟨plainId_quiet PySem.F.plain_extend_loop _, fin _ _ _ _ _ S6 (upd_self ..) ⟨_, rfl⟩ (fun b o e ne => mu_ch (mu_ch e ne) ne) fun h' tk' oS' ivs μ' S' k e hl hn => ?_⟩
    obtain ⟨n, rfl⟩ := hl
    show wpAny _ A (load Sx >>= _) _ _ _
    refine wpAny_bind (wpAny_load (S'.get e) ?_)
    exact wpAny_pure (hQ h' tk' μ' ivs S' k hn)
  · obtain ⟨n, rfl⟩ := hl
    show wpAny _ A (load Sx >>= _) _ _ _
    refine wpAny_bind (wpAny_load (S'.get e) ?_)
    exact wpAny_pure (hQ h' tk' μ' ivs S' k hn)
theorem r_sortRevI {I : Addr} {cs : List Nat} {Q : Value → Shared → Prop} (hh : A.handled = none) (S : St g L m μ s.heap) (It : ItD w μ I cs) (hlen : cs.length ≤ 60)
    (h : ∀ h' tk' μ' a o' vs' row', St g L m μ' h' → (∀ b o, μ b = some o → b ≠ I → μ' b = some o ∧ b ≠ a) → μ' a = some o' → lstO vs' o' → NatsAre vs' row' → row'.Perm cs → row'.Pairwise (· ≥ ·) → Q (.ref a) { s with heap := h', toks := tk' }) :
    wpAny (model PR w) A (call (.builtin "sorted") [.ref I] [(Str.ofString "reverse", .bool true)]) Q E s := by
  have eIo : ∃ oI, μ I = some oI := by obtain ⟨q, i, kvs, ep, oI, od, eI, _⟩ := It; exact ⟨oI, eI⟩
  refine call_function_entry_kw kind_sorted plain_sorted entry_sorted (args_sorted_rev _ _) ?_
  unfold Builtin.«sorted»
  refine wpAny_bind (m := checkCount "sorted" 1 1 _) (wpAny_pure ?_)
  refine wpAny_bind (collect_keyiter (by exact hh) S It (by omega) fun h1 tk1 μ1 ivs S1 k1 hn1 => ?_)
  refine wpAny_bind (wpAny_newList ?_)
  have S2 := S1.alloc (seqObj "list" ivs.toArray 0) rfl
  have hSn : Nn μ1 h1.objs.size := S1.none_size
  have hoL : (h1.push (seqObj "list" ivs.toArray 0)).get? h1.objs.size = some (seqObj "list" ivs.toArray 0) := Heap.get?_push_size _ rfl
  have h64 : ivs.length < 64 := by rw [hn1.len]; omega
  refine wpAny_bind (wpAny_holding (wpAny_call_entry_kw slot_list_sort ⟨_, hoL, rfl⟩ entry_list_sort (list_sort_tree_rev hoL hn1 h64 fun out ns' a1 a2 a3 => ⟨_, rfl, ?_⟩) (args_list_sort_rev _ _)))
  obtain ⟨row', rfl, hp⟩ := nats_of_perm a2
  obtain ⟨e, he⟩ := sortedHeap_at (vs := ivs) (out := out) hoL
  have S3 := S2.re (upd_self ..) he fun b o hb eb => by
    rw [sortedHeap_old (by simpa using hb) (Heap.lt_size eb)]; exact eb
  have h3 : (row'.map Int.ofNat).Pairwise (· ≥ ·) := by simpa [Ordered] using a3
  rw [List.pairwise_map] at h3
  refine wpAny_pure ⟨_, rfl, h _ _ _ h1.objs.size _ out.toList row' S3 (fun b o eb bI => ?_) (upd_self ..) ⟨e, rfl⟩ a1 hp (h3.imp fun {a b} hab => by have : (b : Int) ≤ (a : Int) := hab; show b ≤ a; omega)⟩
  have z := k1 b o eb bI
  have ne := ne_of_mu z hSn
  exact ⟨mu_ch (mu_up z hSn) ne, ne⟩
end
end

/-! M0l -/
section
open PySem PySem.W PySem.W.X PyProof.Rows PySem.Calls
/-! one segment of a generator: the rules of GenRules for SegX -/
section
variable {M : Model} {A : Around} {c : Code} {fs : List Frame} {s : Shared} {P : End → Shared → Prop} {env : Env} {K : Flow → Sem Fin} {H : Value → Sem Fin} {gd : Bool → Bool} {lv : List Value → List Value}
theorem x_wrap {α : Type} {m : Sem α} {K : α → Sem Fin} {H : Value → Sem Fin} {gd lv} (h : wpAny M (A.over c fs) m (fun a s' => SegX M A c (K a) fs s' P) (fun x s' => SegX M A c (H x) fs s' P) s) :
    SegX M A c (m.wrap K H gd lv) fs s P := by
  rintro Γ p rfl hΓ
  obtain ⟨e, s', hr, hq⟩ := runs_wrap_of_wp (Φ := fun e s' => e.quiet = true ∧ P e s') K H gd lv m (h (Γ.over fs) p (hΓ.over fs)) (fun a p' s' h' => h' Γ p' rfl hΓ) (fun x p' s' h' => h' Γ p' rfl hΓ)
  exact ⟨e, s', hr, hq⟩
theorem x_bindw {α β : Type} {m : Sem α} {K : α → Sem β} {K' : β → Sem Fin} {H' : Value → Sem Fin} {gd lv}
    (h : wpAny M (A.over c fs) m (fun a s' => SegX M A c ((K a).wrap K' H' gd lv) fs s' P) (fun x s' => SegX M A c (H' x) fs s' P) s) : SegX M A c ((m >>= K).wrap K' H' gd lv) fs s P := by
  rw [Sem.bind_eq_wrap', Sem.wrap_wrap]; exact x_wrap h
theorem x_at {p' : Pos} {k : Unit → Sem Fin} (h : SegX M A c (k ()) fs s P) : SegX M A c (.at p' k) fs s P :=
  x_wrap (m := standAt p') (K := k) (H := .raise) (gd := id) (lv := id) (wpAny_standAt h)
theorem x_point {l : List Value} {k : Unit → Sem Fin} (h : SegX M A c (k ()) fs s P) : SegX M A c (.point l k) fs s P :=
  x_wrap (m := point) (K := k) (H := .raise) (gd := id) (lv := fun _ => l) (wpAny_point h)
theorem x_execs_nil (h : SegX M A c (K .next) fs s P) : SegX M A c ((execs [] env).wrap K H gd lv) fs s P := h
theorem x_execs_cons {st : Stmt} {rest : List Stmt}
    (h : SegX M A c ((exec st env).wrap (fun f => match f with | .next => (execs rest env).wrap K H gd lv | f => K f) H gd lv) fs s P) :
    SegX M A c ((execs (st :: rest) env).wrap K H gd lv) fs s P := by rw [execs_cons_wrap]; exact h
theorem x_call {c' : Code} {h g l} {k : Result → Sem Fin} (hc : ∀ p, SegX M A c' (M.den c') (.ret k h g l c p [] :: fs) s P) : SegX M A c (.call c' h g l k) fs s P := by
  rintro Γ p rfl hΓ
  obtain ⟨e, s', hr, hq⟩ := hc p (Γ.goto c') p rfl (hΓ.goto c')
  exact ⟨e, s', runs_call_seg hr, hq⟩
theorem x_leaf {k h g l c₁ p₁ kp} (r : Result) (hk : SegX M A c₁ (k r) fs s P) : SegX M A c (leafOf r) (.ret k h g l c₁ p₁ kp :: fs) s P := by
  rintro Γ p rfl hΓ
  obtain ⟨e, s', hr, hq⟩ := hk (Γ.goto c₁) p₁ rfl (hΓ.goto c₁)
  exact ⟨e, s', Runs.pop r hr, hq⟩
theorem x_again {c' : Code} (hq : c'.quiet = true) (hc : SegX M A c' (M.den c') fs s P) : SegX M A c (.pure (.again c')) fs s P := by
  rintro Γ p rfl hΓ
  obtain ⟨e, s', hr, hq'⟩ := hc (Γ.goto c') p rfl (hΓ.goto c')
  exact ⟨e, s', Runs.head (c₁ := c') (fun _ _ y => .again hq y) hr, hq'⟩
theorem x_end (r : Result) (h : P (.ret r) s) : SegX M A c (leafOf r) [] s P := by
  rintro Γ p rfl _
  exact ⟨.ret r, s, Runs.leaf r, rfl, h⟩
theorem x_yield {v g l} {k : Resume → Sem Fin} (hfs : splitAtGen fs = none) (hg : g = false) (hfg : fs.any Frame.guarded = false)
    (h : ∀ p, P (.susp v g l k c p fs) s) : SegX M A c (.yield v g l k) fs s P := by
  rintro Γ p rfl _
  exact ⟨_, s, Runs.yield' fs hfs, by simp [End.quiet, hg, hfg], h p⟩
end
section
variable {prog : Program} {w : World} {A : Around} {c : Code} {fs : List Frame} {s : Shared} {P : End → Shared → Prop} {env : Env} {K : Flow → Sem Fin} {H : Value → Sem Fin} {gd : Bool → Bool} {lv : List Value → List Value}
theorem x_func {body : List Stmt}
    (h : SegX (model prog w) A (.func body env) ((execs body env).wrap (fun f => .pure (.done (.ret (match f with | .ret v => v | _ => .none))))
      (fun e => («leaving» env e).wrap (fun _ => .raise e) .raise id id) id id) fs s P) :
    SegX (model prog w) A (.func body env) ((model prog w).den (.func body env)) fs s P := by
  show SegX _ A _ (.point [] fun _ => ((execs body env).onRaise («leaving» env)) >>= _) fs s P
  refine x_point ?_
  rw [Sem.onRaise_eq_wrap, Sem.bind_eq_wrap', Sem.wrap_wrap]
  rw [Sem.wrap_congr (execs body env) _ _ (K' := fun f => .pure (.done (.ret (match f with | .ret v => v | _ => .none))))
    (H' := fun e => («leaving» env e).wrap (fun _ => .raise e) .raise id id) (fun f => by cases f <;> rfl)
    (fun e => by rw [Sem.bind_eq_wrap, Sem.wrap_wrap]; rfl)]
  exact h
theorem x_While {test : Expr} {body orelse : List Stmt} {pos : Pos}
    (h : ∀ p, SegX (model prog w) A (.whileLoop test body orelse env) ((model prog w).den (.whileLoop test body orelse env))
      (.ret (fun r => ((match r with | .ok f => (.pure f : Sem Flow) | .error e => .raise e).onRaise fun (x : Value) => do
        if (← field x 1) == Value.none then unsupported "frame.own-activation:exception-without-traceback"
        setFlight x env.frame).wrap K H gd lv) none (gd false) (lv []) c p [] :: fs) s P) :
    SegX (model prog w) A c ((exec (.While test body orelse pos) env).wrap K H gd lv) fs s P :=
  x_at (x_call h)
theorem x_For {target iter : Expr} {body orelse : List Stmt} {pos : Pos}
    (h : wpAny (model prog w) (A.over c fs) (eval iter env) (fun x s₁ => wpAny (model prog w) (A.over c fs) (pyIter x) (fun it s₂ => ∀ p, SegX (model prog w) A (.forLoop target it body orelse env) ((model prog w).den (.forLoop target it body orelse env))
      (.ret (fun r => ((match r with | .ok f => (.pure f : Sem Flow) | .error e => .raise e).onRaise fun (x : Value) => do
        if (← field x 1) == Value.none then unsupported "frame.own-activation:exception-without-traceback"
        setFlight x env.frame).wrap K H gd lv) none (gd false) (lv []) c p [] :: fs) s₂ P) (fun x s' => SegX (model prog w) A c (H x) fs s' P) s₁) (fun x s' => SegX (model prog w) A c (H x) fs s' P) s)
    (hs : ∀ x, foldedSetIterable iter env x = pure x := by intro _; rfl) :
    SegX (model prog w) A c ((exec (.For target iter body orelse pos) env).wrap K H gd lv) fs s P := by
  rw [exec_For]
  refine x_bindw (wpAny_standAt ?_)
  refine x_bindw (wpAny_mono h (fun x s₁ h₁ => ?_) fun _ _ e => e)
  refine x_bindw (wpAny_of_eq (hs x) ?_)
  refine x_bindw (wpAny_standAt ?_)
  refine x_bindw (wpAny_holding (wpAny_mono h₁ (fun it s₂ h₂ => ?_) fun _ _ e => e))
  exact x_call h₂
theorem x_forLoop {target : Expr} {it : Value} {body orelse : List Stmt}
    (h : wpAny (model prog w) (A.over (.forLoop target it body orelse env) fs) (pyNext it) (fun r s₁ => match r with
      | none => SegX (model prog w) A (.block orelse env) ((model prog w).den (.block orelse env)) fs s₁ P
      | some v => wpAny (model prog w) (A.over (.forLoop target it body orelse env) fs) (assign target env v) (fun _ s₂ =>
          SegX (model prog w) A (.forLoop target it body orelse env) ((execs body env).wrap (fun f => match f with
            | .next | .cont => .pure (.again (.forLoop target it body orelse env))
            | .brk => .pure (.done .next)
            | .ret v => .pure (.done (.ret v))) (fun e => (do noteFrame e env; theTreesLotGoes e : Sem Unit).wrap (fun _ => .raise e) .raise id id) id id) fs s₂ P) (fun _ _ => False) s₁) (fun _ _ => False) s)
    (ht : ∀ v, letOwnedTupleGo target it v = pure () := by intro _; rfl) :
    SegX (model prog w) A (.forLoop target it body orelse env) ((model prog w).den (.forLoop target it body orelse env)) fs s P := by
  show SegX _ A _ ((forTurn target it body orelse env).onRaise (fun x => do noteFrame x env; theTreesLotGoes x)) fs s P
  unfold forTurn
  rw [Sem.onRaise_eq_wrap]
  refine x_bindw (wpAny_standAt ?_)
  refine x_bindw (wpAny_onRaise (wpAny_mono h (fun r s₁ h₁ => ?_) fun _ _ e => e.elim))
  cases r with
  | none => exact x_again (by first | rfl | exact Code.quiet_block _ _) h₁
  | some v =>
    refine x_bindw (wpAny_of_eq (ht v) ?_)
    refine x_bindw (wpAny_mono h₁ (fun _ s₂ h₂ => ?_) fun _ _ e => e.elim)
    rw [Sem.bind_eq_wrap', Sem.wrap_wrap]
    rw [Sem.wrap_congr (execs body env) _ _ (K' := fun f => match f with
            | .next | .cont => .pure (.again (.forLoop target it body orelse env))
            | .brk => .pure (.done .next)
            | .ret v => .pure (.done (.ret v))) (H' := (fun e => (do noteFrame e env; theTreesLotGoes e : Sem Unit).wrap (fun _ => .raise e) .raise id id))
        (fun f => by cases f <;> rfl)
        (fun e => by first | exact Sem.bind_eq_wrap _ _ | (show (do noteFrame e env; theTreesLotGoes e : Sem Unit).bind (fun _ => .raise e) = _; rw [Sem.bind_eq_wrap]))]
    exact h₂
theorem x_whileLoop {test : Expr} {body orelse : List Stmt}
    (h : wpAny (model prog w) (A.over (.whileLoop test body orelse env) fs) (isTrue test env (eval test env)) (fun b s' =>
        if b = true then
          SegX (model prog w) A (.whileLoop test body orelse env) ((execs body env).wrap (fun f => match f with
            | .next | .cont => .pure (.again (.whileLoop test body orelse env))
            | .brk => .pure (.done .next)
            | .ret v => .pure (.done (.ret v))) (fun e => (do noteFrame e env; theTreesLotGoes e : Sem Unit).wrap (fun _ => .raise e) .raise id id) id id) fs s' P
        else SegX (model prog w) A (.whileLoop test body orelse env) ((execs orelse env).wrap (fun f => .pure (.done f)) (fun e => (do noteFrame e env; theTreesLotGoes e : Sem Unit).wrap (fun _ => .raise e) .raise id id) id id) fs s' P)
      (fun _ _ => False) s) :
    SegX (model prog w) A (.whileLoop test body orelse env) ((model prog w).den (.whileLoop test body orelse env)) fs s P := by
  show SegX _ A _ ((whileTurn test body orelse env).onRaise (fun x => do noteFrame x env; theTreesLotGoes x)) fs s P
  unfold whileTurn
  rw [Sem.onRaise_eq_wrap, Sem.bind_eq_wrap', Sem.wrap_wrap]
  refine x_wrap (wpAny_mono h (fun b s' hb => ?_) fun x s' hx => hx.elim)
  cases b with
  | true =>
    rw [if_pos rfl] at hb
    show SegX _ A _ (Sem.wrap _ _ _ _ (if true = true then _ else _)) fs s' P
    rw [if_pos rfl, Sem.bind_eq_wrap', Sem.wrap_wrap]
    rw [Sem.wrap_congr (execs body env) _ _ (K' := fun f => match f with
          | .next | .cont => .pure (.again (.whileLoop test body orelse env))
          | .brk => .pure (.done .next)
          | .ret v => .pure (.done (.ret v))) (H' := (fun e => (do noteFrame e env; theTreesLotGoes e : Sem Unit).wrap (fun _ => .raise e) .raise id id))
      (fun f => by cases f <;> rfl)
      (fun e => by first | exact Sem.bind_eq_wrap _ _ | (show (do noteFrame e env; theTreesLotGoes e : Sem Unit).bind (fun _ => .raise e) = _; rw [Sem.bind_eq_wrap]))]
    exact hb
  | false =>
    rw [if_neg Bool.false_ne_true] at hb
    show SegX _ A _ (Sem.wrap _ _ _ _ (if false = true then _ else _)) fs s' P
    rw [if_neg Bool.false_ne_true, Sem.bind_eq_wrap', Sem.wrap_wrap]
    rw [Sem.wrap_congr (execs orelse env) _ _ (K' := fun f => (.pure (.done f) : Sem Fin)) (H' := (fun e => (do noteFrame e env; theTreesLotGoes e : Sem Unit).wrap (fun _ => .raise e) .raise id id))
      (fun f => by rfl)
      (fun e => by first | exact Sem.bind_eq_wrap _ _ | (show (do noteFrame e env; theTreesLotGoes e : Sem Unit).bind (fun _ => .raise e) = _; rw [Sem.bind_eq_wrap]))]
    exact hb
end
end

/-! M0m -/
section
open PySem PySem.W PySem.W.X PyProof.Rows PySem.Calls
/-- a generator at rest: what runs when it is woken -/
def RestAt (prog : Program) (w : World) (gs : GenState) (c₀ : Code) (t₀ : Sem Fin) (fs₀ : List Frame) : Prop :=
  (gs = .fresh c₀ ∧ t₀ = denote table c₀ ∧ fs₀ = []) ∨ (∃ k₀ l₀ p₀ cl, gs = .suspended k₀ l₀ c₀ p₀ fs₀ cl ∧ t₀ = k₀ (.send .none))
section
variable {prog : Program} {w : World} {A : Around} {E : Value → Shared → Prop} {s : Shared}
theorem r_pyNextGen {a : Addr} {g : Nat} {gs : GenState} {c₀ : Code} {t₀ : Sem Fin} {fs₀ : List Frame} {Q : Option Value → Shared → Prop} (hh : A.handled = none) (hl : s.heap.NoLimit) (hroom : A.depth < recursionLimit)
    (hg : s.heap.IsGen a g) (hgs : s.gens[g]? = some gs) (hr : RestAt prog w gs c₀ t₀ fs₀)
    (x : SegX (model prog w) A.in1 c₀ t₀ fs₀ (s.setGen g .running) (fun e s₁ => match e with
      | .ret r => r = .ok (.ret .none) ∧ ∀ h', (∀ b o, s₁.heap.get? b = some o → h'.get? b = some o) → Q none { s₁.setGen g .finished with heap := h' }
      | .susp v g' l k c p fs => Q (some v) (s₁.setGen g (End.susp v g' l k c p fs).genState))) :
    wpAny (model prog w) A (pyNext (.ref a)) Q E s := by
  unfold pyNext
  refine wpAny_bind (wpAny_attempt (wpAny_callSpecial?_slot (name := Str.ofString "__next__") hg.typeIs slot_gen_next
    (wpAny_call_entry slot_gen_next hg.typeIs entry_gen_next ?_ (args_gen_next _))))
  show wpAny _ _ (Builtin.Generator.genWake (.ref a) (.send .none)) _ _ s
  unfold Builtin.Generator.genWake
  refine wpAny_bind (wpAny_holding (wpAny_genNumber hg (wpAny_bind (wpAny_genState hgs ?_))))
  have hcase : (gs = .fresh c₀ ∧ (Resume.send Value.none) = .send .none ∧ t₀ = denote table c₀ ∧ fs₀ = []) ∨ (∃ k₀ l₀ p₀ cl, gs = .suspended k₀ l₀ c₀ p₀ fs₀ cl ∧ t₀ = k₀ (.send .none)) := by
    rcases hr with ⟨h1, h2, h3⟩ | h
    · exact .inl ⟨h1, rfl, h2, h3⟩
    · exact .inr h
  rcases hr with ⟨rfl, _, _⟩ | ⟨k₀, l₀, p₀, cl, rfl, _⟩
  all_goals
    refine wpAny_bind (wpAny_roomToWake hl hroom ?_)
    show wpAny _ _ (.resume g (.send .none) [] _) _ _ s
    refine wake_any _ _ _ hgs hcase (fun Γ => Γ.In A.in1) (fun _ h => h) (x.mono fun e s₁ he Γ p hΓ => ?_)
    cases e with
    | ret r =>
      obtain ⟨rfl, hp⟩ := he
      refine (?_ : wpAny _ _ (newExc (.type "StopIteration") [] >>= _) _ _ _) Γ p hΓ
      refine wpAny_bind ?_
      simp only [newExc, newTuple]
      refine wpAny_bind (wpAny_newObj_type ?_ (by size_fits))
      refine wpAny_bind (m := firstArgMember _ _) (wpAny_of_eq (a := Value.none) (by first | rfl | (simp only [firstArgMember]; rfl)) ?_)
      refine wpAny_newObj_type ?_ (by size_fits)
      simp only [raiseNew]
      refine wpAny_bind (wpAny_bind (wpAny_handled ?_))
      rw [show A.in1.handled = none from hh]
      refine wpAny_throw ?_
      refine wpAny_bind (wpAny_isInstance (T := "StopIteration") (b := true) ⟨_, Heap.get?_push_size _ rfl, rfl⟩ isSubtype_stop ?_)
      exact wpAny_pure (hp _ fun b o hb => Heap.get?_push_of_some _ (Heap.get?_push_of_some _ hb))
    | susp v g' l k c p' fs => exact (wpAny_pure ⟨v, rfl, wpAny_pure he⟩ : wpAny _ _ _ _ _ _) Γ p hΓ
end
end

/-! M0n -/
section
open PySem PySem.W PySem.W.X PyProof.Rows PySem.Calls
abbrev Kt := Flow → Sem Fin
abbrev Ht := Value → Sem Fin
def seqK (rest : List Stmt) (env : Env) (K : Kt) (H : Ht) : Kt := fun f => match f with | .next => (execs rest env).wrap K H id id | f => K f
def retF (c : Code) (env : Env) (K : Kt) (H : Ht) (p : Pos) : Frame :=
  .ret (fun r => ((match r with | .ok f => (.pure f : Sem Flow) | .error e => .raise e).onRaise fun (x : Value) => do
        if (← field x 1) == Value.none then unsupported "frame.own-activation:exception-without-traceback"
        setFlight x env.frame).wrap K H id id) none false [] c p []
def raiseH (env : Env) : Ht := fun e => (do noteFrame e env; theTreesLotGoes e : Sem Unit).wrap (fun _ => .raise e) .raise id id
def forK (target : Expr) (it : Value) (body orelse : List Stmt) (env : Env) : Kt := fun f => match f with
  | .next | .cont => .pure (.again (.forLoop target it body orelse env))
  | .brk => .pure (.done .next)
  | .ret v => .pure (.done (.ret v))
def whK (test : Expr) (body orelse : List Stmt) (env : Env) : Kt := fun f => match f with
  | .next | .cont => .pure (.again (.whileLoop test body orelse env))
  | .brk => .pure (.done .next)
  | .ret v => .pure (.done (.ret v))
def doneK : Kt := fun f => .pure (.done f)
def funK : Kt := fun f => .pure (.done (.ret (match f with | .ret v => v | _ => .none)))
def funH (env : Env) : Ht := fun e => («leaving» env e).wrap (fun _ => .raise e) .raise id id
section
variable {prog : Program} {w : World} {A : Around} {c : Code} {fs : List Frame} {s : Shared} {P : End → Shared → Prop} {env : Env} {K : Kt} {H : Ht}
theorem g_nil (h : SegX (model prog w) A c (K .next) fs s P) : SegX (model prog w) A c ((execs [] env).wrap K H id id) fs s P := h
theorem g_cons {st : Stmt} {rest : List Stmt} (h : SegX (model prog w) A c ((exec st env).wrap (seqK rest env K H) H id id) fs s P) :
    SegX (model prog w) A c ((execs (st :: rest) env).wrap K H id id) fs s P := x_execs_cons (by
  rw [Sem.wrap_congr (exec st env) _ _ (K' := seqK rest env K H) (H' := H) (fun f => by cases f <;> rfl) (fun _ => by rfl)]; exact h)
/-- a statement without loops that goes on -/
theorem g_stmt {st : Stmt} (h : wpAny (model prog w) (A.over c fs) (exec st env) (fun f s' => SegX (model prog w) A c (K f) fs s' P) (fun _ _ => False) s) :
    SegX (model prog w) A c ((exec st env).wrap K H id id) fs s P :=
  x_wrap (wpAny_mono h (fun _ _ x => x) fun _ _ x => x.elim)
theorem g_seq {rest : List Stmt} (h : SegX (model prog w) A c ((execs rest env).wrap K H id id) fs s P) : SegX (model prog w) A c (seqK rest env K H .next) fs s P := h
theorem g_If {test : Expr} {body orelse : List Stmt} {pos : Pos}
    (h : wpAny (model prog w) (A.over c fs) (isTrue test env (eval test env)) (fun b s' => if b = true then SegX (model prog w) A c ((execs body env).wrap K H id id) fs s' P else SegX (model prog w) A c ((execs orelse env).wrap K H id id) fs s' P) (fun _ _ => False) s) :
    SegX (model prog w) A c ((exec (.If test body orelse pos) env).wrap K H id id) fs s P := by
  rw [exec_If]
  refine x_bindw (wpAny_standAt ?_)
  refine x_bindw (wpAny_mono h (fun b s' hb => ?_) fun _ _ x => x.elim)
  cases b with
  | true => rw [if_pos rfl] at hb; rw [if_pos rfl]; exact hb
  | false => rw [if_neg Bool.false_ne_true] at hb; rw [if_neg Bool.false_ne_true]; exact hb
theorem g_func {body : List Stmt} (h : SegX (model prog w) A (.func body env) ((execs body env).wrap funK (funH env) id id) fs s P) :
    SegX (model prog w) A (.func body env) ((model prog w).den (.func body env)) fs s P := x_func h
theorem g_While {test : Expr} {body orelse : List Stmt} {pos : Pos}
    (h : ∀ p, SegX (model prog w) A (.whileLoop test body orelse env) ((model prog w).den (.whileLoop test body orelse env)) (retF c env K H p :: fs) s P) :
    SegX (model prog w) A c ((exec (.While test body orelse pos) env).wrap K H id id) fs s P := x_While h
theorem g_For {target iter : Expr} {body orelse : List Stmt} {pos : Pos}
    (h : wpAny (model prog w) (A.over c fs) (eval iter env) (fun x s₁ => wpAny (model prog w) (A.over c fs) (pyIter x) (fun it s₂ => ∀ p, SegX (model prog w) A (.forLoop target it body orelse env) ((model prog w).den (.forLoop target it body orelse env))
      (retF c env K H p :: fs) s₂ P) (fun _ _ => False) s₁) (fun _ _ => False) s)
    (hs : ∀ x, foldedSetIterable iter env x = pure x := by intro _; rfl) :
    SegX (model prog w) A c ((exec (.For target iter body orelse pos) env).wrap K H id id) fs s P :=
  x_For (wpAny_mono h (fun x s₁ h₁ => wpAny_mono h₁ (fun it s₂ h₂ => h₂) fun _ _ x => x.elim) fun _ _ x => x.elim) hs
theorem g_ret {c' : Code} {f : Flow} {p : Pos} (h : SegX (model prog w) A c (K f) fs s P) : SegX (model prog w) A c' (.pure (.done f)) (retF c env K H p :: fs) s P :=
  x_leaf (.ok f) h
theorem g_block {stmts : List Stmt} (h : SegX (model prog w) A (.block stmts env) ((execs stmts env).wrap doneK (raiseH env) id id) fs s P) :
    SegX (model prog w) A (.block stmts env) ((model prog w).den (.block stmts env)) fs s P := by
  show SegX _ A _ ((execs stmts env).onRaise (fun x => do noteFrame x env; theTreesLotGoes x) >>= fun f => pure (Fin.done f)) fs s P
  rw [Sem.onRaise_eq_wrap, Sem.bind_eq_wrap', Sem.wrap_wrap]
  rw [Sem.wrap_congr (execs stmts env) _ _ (K' := doneK) (H' := raiseH env)
    (fun f => by rfl)
    (fun e => by first | exact Sem.bind_eq_wrap _ _ | (show (((do noteFrame e env; theTreesLotGoes e : Sem Unit).bind (fun _ => .raise e)).wrap _ _ _ _) = _; rw [Sem.bind_eq_wrap, Sem.wrap_wrap]; rfl))]
  exact h
theorem g_forLoop {target : Expr} {it : Value} {body orelse : List Stmt}
    (h : wpAny (model prog w) (A.over (.forLoop target it body orelse env) fs) (pyNext it) (fun r s₁ => match r with
      | none => SegX (model prog w) A (.block orelse env) ((execs orelse env).wrap doneK (raiseH env) id id) fs s₁ P
      | some v => wpAny (model prog w) (A.over (.forLoop target it body orelse env) fs) (assign target env v) (fun _ s₂ =>
          SegX (model prog w) A (.forLoop target it body orelse env) ((execs body env).wrap (forK target it body orelse env) (raiseH env) id id) fs s₂ P) (fun _ _ => False) s₁) (fun _ _ => False) s)
    (ht : ∀ v, letOwnedTupleGo target it v = pure () := by intro _; rfl) :
    SegX (model prog w) A (.forLoop target it body orelse env) ((model prog w).den (.forLoop target it body orelse env)) fs s P :=
  x_forLoop (wpAny_mono h (fun r s₁ h₁ => by
    cases r with
    | none => exact g_block h₁
    | some v =>
      refine wpAny_mono h₁ (fun _ s₂ h₂ => ?_) fun _ _ e => e
      rw [Sem.wrap_congr (execs body env) _ _ (K' := forK target it body orelse env) (H' := raiseH env) (fun f => by cases f <;> rfl) (fun _ => by rfl)]; exact h₂) fun _ _ e => e) ht
theorem g_whileLoop {test : Expr} {body orelse : List Stmt}
    (h : wpAny (model prog w) (A.over (.whileLoop test body orelse env) fs) (isTrue test env (eval test env)) (fun b s' =>
        if b = true then SegX (model prog w) A (.whileLoop test body orelse env) ((execs body env).wrap (whK test body orelse env) (raiseH env) id id) fs s' P
        else SegX (model prog w) A (.whileLoop test body orelse env) ((execs orelse env).wrap doneK (raiseH env) id id) fs s' P)
      (fun _ _ => False) s) :
    SegX (model prog w) A (.whileLoop test body orelse env) ((model prog w).den (.whileLoop test body orelse env)) fs s P :=
  x_whileLoop (wpAny_mono h (fun b s' h' => by
    cases b with
    | true =>
      rw [if_pos rfl] at h' ⊢
      rw [Sem.wrap_congr (execs body env) _ _ (K' := whK test body orelse env) (H' := raiseH env) (fun f => by cases f <;> rfl) (fun _ => by rfl)]; exact h'
    | false => rw [if_neg Bool.false_ne_true] at h' ⊢; exact h') fun _ _ e => e)
/-- yield e as a statement -/
theorem g_Yield {e : Expr} {ypos pos : Pos} (hfs : splitAtGen fs = none) (hfg : fs.any Frame.guarded = false)
    (h : wpAny (model prog w) (A.over c fs) (eval e env) (fun v s' => ∀ (k : Resume → Sem Fin) l p, (∀ A s'' P', SegX (model prog w) A c (K .next) fs s'' P' → SegX (model prog w) A c (k (.send .none)) fs s'' P') → P (.susp v false l k c p fs) s')
      (fun _ _ => False) s) (hco : env.scope.isCoroutine = false := by rfl) (hi : interactive env = false := by rfl) :
    SegX (model prog w) A c ((exec (.Expr (.Yield (some e) ypos) pos) env).wrap K H id id) fs s P := by
  rw [exec_Expr env _ pos hi rfl]
  show SegX _ A c (.at pos fun _ => ((eval e env >>= fun v => (standAt ypos >>= fun _ => yieldOut env v)) >>= fun x =>
    dropValue (.Yield (some e) ypos) pos x).wrap K H id id) fs s P
  have hy : ∀ v, yieldOut env v = yieldValue v := fun v => by simp only [yieldOut, hco, Bool.false_eq_true, if_false]
  simp only [hy]
  refine x_at ?_
  rw [Sem.bind_eq_wrap', Sem.bind_eq_wrap', Sem.wrap_wrap, Sem.wrap_wrap]
  refine x_wrap (wpAny_mono h (fun v s' h' => ?_) fun _ _ x => x.elim)
  refine x_at (x_yield hfs rfl hfg fun p => ?_)
  exact h' _ _ p fun A s'' P' hx => hx
end
end

/-! M0o -/
section
open PySem PySem.W PySem.W.X PyProof.Rows PySem.Calls
section
variable {w : World} {prog : Program} {A : Around} {E : Value → Shared → Prop} {s : Shared} {g : Heap} {L : Addr} {m : Str → Option Value} {μ : Mu} {env : Env} {mg mb : Str → Option Value}
/-- two frames change places: the one at hand goes aside, one of the ledger is taken up -/
theorem St.swap {h : Heap} {Lg : Addr} {oG : Obj} {mG : Str → Option Value} (S : St g L m μ h) (e : μ Lg = some oG) (n : NsObj oG mG) (ab : g.objs.size ≤ Lg) :
    ∃ oL, NsObj oL m ∧ L ≠ Lg ∧ St g Lg mG (upd (del μ Lg) L oL) h := by
  obtain ⟨oL, eL, nL⟩ := ns_obj S.fr.ns
  have z := S.mu Lg oG e
  refine ⟨oL, nL, Ne.symm z.2.1, ⟨n.ns z.1, S.fr.keep, ab⟩, fun a o q => ?_, S.lo⟩
  by_cases k : a = L
  · subst k
    rw [upd_self] at q; cases q
    exact ⟨eL, Ne.symm z.2.1, Heap.get?_none_of_le S.fr.above, S.Llo⟩
  · rw [upd_ne k] at q
    obtain ⟨k2, q⟩ := del_some q
    have y := S.mu a o q
    exact ⟨y.1, k2, y.2.2⟩

/-! sets of small ints -/
def SetO (w : World) (V : List Nat) (o : Obj) : Prop := o.SetObjOf (intKind PR w) (fun k => decide (k ∈ V.map Int.ofNat)) V.length
theorem SetO.cls {V : List Nat} {o : Obj} (h : SetO w V o) : o.cls = .type "set" := h.1.1
theorem nat_mem {V : List Nat} {c : Nat} : decide ((c : Int) ∈ V.map Int.ofNat) = decide (c ∈ V) := by
  by_cases h : c ∈ V
  · have : (c : Int) ∈ V.map Int.ofNat := List.mem_map.mpr ⟨c, h, rfl⟩
    rw [decide_eq_true this, decide_eq_true h]
  · have : (c : Int) ∉ V.map Int.ofNat := fun q => by
      obtain ⟨d, hd, e⟩ := List.mem_map.mp q
      have e' : d = c := by have : (d : Int) = c := e; omega
      exact h (e' ▸ hd)
    rw [decide_eq_false this, decide_eq_false h]
theorem SetO.add {V : List Nat} {c : Nat} {o : Obj} (hc : c ∉ V) (h : o.SetObjOf (intKind PR w) (fun k' => decide (k' ∈ V.map Int.ofNat) || decide (k' = (c : Int))) (V.length + 1)) : SetO w (V ++ [c]) o := by
  have e : (fun k' : Int => decide (k' ∈ V.map Int.ofNat) || decide (k' = (c : Int))) = fun k => decide (k ∈ (V ++ [c]).map Int.ofNat) := by
    funext k
    rw [List.map_append]
    by_cases h1 : k ∈ V.map Int.ofNat <;> by_cases h2 : k = (c : Int)
    · simp [h1, h2]
    · simp [h1, h2]
    · subst h2
      have : (c : Int) ∈ V.map Int.ofNat ++ [c].map Int.ofNat := List.mem_append_right _ (by simp)
      simp only [h1, this]; simp
    · have : k ∉ V.map Int.ofNat ++ [c].map Int.ofNat := fun q => by
        rcases List.mem_append.mp q with q | q
        · exact h1 q
        · exact h2 (by simpa using q)
      simp only [h1, h2, this]; simp
  rw [e] at h
  unfold SetO
  rw [List.length_append, List.length_singleton]; exact h
theorem r_newSet {Q : Value → Shared → Prop} (S : St g L m μ s.heap) (h : ∀ a o h', Nn μ a → SetO w [] o → St g L m (upd μ a o) h' → Q (.ref a) { s with heap := h' }) :
    wpAny (model PR w) A (call (.type "set") [] []) Q E s :=
  call_set_0 fun led => h _ _ _ S.none_size (by simpa [SetO] using setObjOf_fresh (knd := intKind PR w) led) (S.alloc _ rfl)
theorem r_setIn {a : Addr} {o : Obj} {V : List Nat} {c : Nat} {t : Tok} {Q : Value → Shared → Prop} (S : St g L m μ s.heap) (e : μ a = some o) (ho : SetO w V o) (hV : V.length ≤ 100) (h : Q (.bool (decide (c ∈ V))) { s with toks := s.toks + 1 }) :
    wpAny (model PR w) A (compareOp .In (.int (c : Int) t) (.ref a)) Q E s := by
  refine wpAny_inSet_of (knd := intKind PR w) (k := (c : Int)) (intKind_is PR w _ t) rfl (Obj.SetObjOf.setOf ho (S.get e) (by unfold scanBound; omega)) ?_
  rw [nat_mem]; exact h
theorem r_setNotIn {a : Addr} {o : Obj} {V : List Nat} {c : Nat} {t : Tok} {Q : Value → Shared → Prop} (S : St g L m μ s.heap) (e : μ a = some o) (ho : SetO w V o) (hV : V.length ≤ 100) (h : Q (.bool (!decide (c ∈ V))) { s with toks := s.toks + 1 }) :
    wpAny (model PR w) A (compareOp .NotIn (.int (c : Int) t) (.ref a)) Q E s := by
  refine wpAny_notInSet_of (knd := intKind PR w) (k := (c : Int)) (intKind_is PR w _ t) rfl (Obj.SetObjOf.setOf ho (S.get e) (by unfold scanBound; omega)) ?_
  rw [nat_mem]; exact h
theorem r_setMethod {pl : Sem Bool} {a : Addr} {o : Obj} {V : List Nat} {Q : Value × List Value → Shared → Prop} (S : St g L m μ s.heap) (e : μ a = some o) (ho : SetO w V o) (hV : V.length ≤ 100) (h : Q (.builtin "set.add", [.ref a]) s) :
    wpAny (model PR w) A (getMethod (.ref a) "add" pl) Q E s :=
  getMethod_set_add (knd := intKind PR w) (Obj.SetObjOf.setOf ho (S.get e) (by unfold scanBound; omega)) h
theorem r_setAdd {a : Addr} {o : Obj} {V : List Nat} {c : Nat} {t : Tok} {Q : Value → Shared → Prop} (S : St g L m μ s.heap) (e : μ a = some o) (ho : SetO w V o) (hV : V.length ≤ 100) (hc : c ∉ V)
    (h : ∀ o' h' tk', SetO w (V ++ [c]) o' → St g L m (upd μ a o') h' → Q .none { s with heap := h', toks := tk' }) :
    wpAny (model PR w) A (call (.builtin "set.add") [.ref a, .int (c : Int) t]) Q E s := by
  refine call_set_add (knd := intKind PR w) (k := (c : Int)) (intKind_is PR w _ t) rfl (Obj.SetObjOf.setOf ho (S.get e) (by unfold scanBound; omega)) (by unfold scanBound; omega) fun h' hs hS => ?_
  obtain ⟨o', e', ho'⟩ := Heap.SetOf.objOf hS
  refine h o' h' _ (SetO.add hc ?_) (S.change e hs e')
  have hn : decide ((c : Int) ∈ V.map Int.ofNat) = false := by rw [nat_mem]; exact decide_eq_false hc
  rw [if_neg (by rw [hn]; exact Bool.false_ne_true)] at ho'
  exact ho'

/-! lists -/
theorem r_pop {l : Addr} {o : Obj} {vs : List Value} {y : Value} {Q : Value → Shared → Prop} (S : St g L m μ s.heap) (e : μ l = some o) (ho : lstO (vs ++ [y]) o) (hsz : vs.length ≤ 1000)
    (h : ∀ o' h', lstO vs o' → St g L m (upd μ l o') h' → Q y { s with heap := h' }) : wpAny (model PR w) A (call (.builtin "list.pop") [.ref l]) Q E s := by
  obtain ⟨n, rfl⟩ := ho
  have hl := S.get e
  have hs0 : (vs ++ [y]).toArray.size = vs.length + 1 := by simp
  have hs1 : (vs ++ [y]).toArray.size ≤ sizeLine := by rw [hs0, PySem.sizeLine_eq]; omega
  refine call_meets PySem.F.slot_list_pop ⟨_, hl, rfl⟩ PySem.F.entry_list_pop (PySem.F.args_list_pop_1 _) (PySem.MeetsSeq.list_pop_last l _ n y (by simp) hs1) ⟨hl, ?_⟩
  refine h _ _ ?_ (S.seq (f := fun xs => xs.eraseIdxIfInBounds ((vs ++ [y]).toArray.size - 1)) e rfl)
  have this : (vs ++ [y]).toArray.eraseIdxIfInBounds ((vs ++ [y]).toArray.size - 1) = vs.toArray := by
    rw [hs0]
    apply Array.ext'
    simp only [Array.eraseIdxIfInBounds]
    simp [List.eraseIdx_append_of_length_le (Nat.le_refl vs.length)]
  have key : ∀ k, lstO vs ({ cls := .type "list", data := .seq ((vs ++ [y]).toArray.eraseIdxIfInBounds ((vs ++ [y]).toArray.size - 1)) k } : Obj) := fun k => ⟨k, by rw [this]⟩
  exact key _
theorem r_last {l : Addr} {o : Obj} {vs : List Value} {y : Value} {t : Tok} {value slice : Expr} {Q : Value → Shared → Prop} (S : St g L m μ s.heap) (e : μ l = some o) (ho : lstO (vs ++ [y]) o) (h : Q y s)
    (hs : subscripted slice false (.ref l) (.int (-1) t) = operate [.ref l, .int (-1) t] (getItem (.ref l) (.int (-1) t)) := by with_unfolding_all rfl) :
    wpAny (model PR w) A (subscriptTail value slice (.ref l) (.int (-1) t)) Q E s := by
  have hl := ho.isList (S.get e)
  exact tail_any hl.typeIs slot_list_getitem.lookup (wpAny_getItem_list_neg hl (by decide) (by simp; omega) (by decide) (by
    have : (-1 + (((vs ++ [y]).toArray.size : Nat) : Int)).toNat = vs.length := by simp; omega
    rw [this]; simp) h) hs
theorem r_truthyList {l : Addr} {o : Obj} {vs : List Value} {Q : Bool → Shared → Prop} (S : St g L m μ s.heap) (e : μ l = some o) (ho : lstO vs o) (hsz : vs.length ≤ 1000) (h : ∀ tk', Q (!vs.isEmpty) { s with toks := tk' }) :
    wpAny (model PR w) A (truthy (.ref l)) Q E s := by
  refine wpAny_truthy_list (ho.isList (S.get e)) (by simp; omega) ?_
  simpa using h (s.toks + 1 + 1)

/-! bound methods -/
theorem r_bound {x dx C f : Addr} {mA : Str → Option Value} {name : Str} {nA : Nat} {expr : Bool} {Q : Value → Shared → Prop} (G : Gd w mg mb g) (S : St g L m μ s.heap) (I : Inst μ x dx C mA nA) (hv : mA name = none)
    (hg : plainGet (hd.heap_39 w.params) C name = true) (hh : hasDictIn (hd.heap_39 w.params) C = true) (ha : findIn (hd.heap_39 w.params) (.ref C) name = some (some (.ref f))) (hf : isFn (hd.heap_39 w.params) (.ref f) = true)
    (hgf : specialIn (hd.heap_39 w.params) (.ref f) "__get__" = some (some (.builtin "function.__get__"))) (ht : takesIn (hd.heap_39 w.params) (.ref f) = some false) (hc : copiedNames.contains name = false)
    (h : ∀ q h' tk', Nn μ q → St g L m (upd μ q (methodObj (.ref f) (.ref x))) h' → Q (.ref q) { s with heap := h', toks := tk' }) : wpAny (model prog w) A (getAttr (.ref x) name expr) Q E s := by
  obtain ⟨od, IA, n⟩ := I.instAt S
  have X := G.keeps S
  exact get_bind X IA (plainGet_of hg).1 (findObj_fn hh ha hgf ht hc (by rw [lookIn_ns n, hv])) (plainGet_of hg).2
    (wpAny_call (fn_get (s := { s with toks := s.toks + 1 }) X (beq_iff_eq.mp hf) (handed_on rfl (h s.heap.objs.size _ _ S.none_size (S.alloc _ rfl)))))
theorem r_callBound {q f : Addr} {v : Value} {args : List Value} {Q : Value → Shared → Prop} (S : St g L m μ s.heap) (e : μ q = some (methodObj (.ref f) v)) (h : codeAny (model prog w) A (.call (.ref f) ⟨v :: args, []⟩) (WantV Q E) s) :
    wpAny (model prog w) A (call (.ref q) args []) Q E s :=
  wpAny_call (ks_codeAny_call_bound (S.get e) h)
end
end

/-! P2 -/
section

/-- what the machine still tells -/
inductive Tells (R : Nat → List Nat) (D : Nat) : List Nat → List (Nat × List Nat) → List Nat → List Edge → Prop
  | fin {V} : Tells R D V [] [] []
  | seenS {V a as es} : a ∈ V → Tells R D V [] as es → Tells R D V [] (a :: as) es
  | newS {V a as es} : a ∉ V → Tells R D (V ++ [a]) [(a, R a)] as es → Tells R D V [] (a :: as) es
  | pop {V p st as es} : Tells R D V st as es → Tells R D V ((p, []) :: st) as es
  | seenC {V p c cs st as es} : c ∈ V → Tells R D V ((p, cs) :: st) as es → Tells R D V ((p, c :: cs) :: st) as es
  | deep {V p c cs st as es} : c ∉ V → st.length + 1 < D → Tells R D (V ++ [c]) ((c, R c) :: (p, cs) :: st) as es → Tells R D V ((p, c :: cs) :: st) as ((p, c) :: es)
  | flat {V p c cs st as es} : c ∉ V → ¬ st.length + 1 < D → Tells R D (V ++ [c]) ((p, cs) :: st) as es → Tells R D V ((p, c :: cs) :: st) as ((p, c) :: es)
theorem tells_run (R : Nat → List Nat) (D many B : Nat) (hR : ∀ c, c < many → (R c).length ≤ B ∧ ∀ x ∈ R c, x < many) : ∀ (n : Nat) (V : List Nat) (st : List (Nat × List Nat)) (as : List Nat),
    msr many B V st as ≤ n → StOk many st → (∀ a ∈ as, a < many) → Tells R D V st as (runD R D n V st as)
  | 0, V, st, as, hm, _, _ => by
    unfold msr at hm
    cases st with
    | nil => cases as with
      | nil => exact .fin
      | cons a as => simp at hm
    | cons x st => simp at hm
  | n + 1, V, [], [], _, _, _ => by unfold runD; exact .fin
  | n + 1, V, [], a :: as, hm, hs, ha => by
    have ha' : ∀ x ∈ as, x < many := fun x hx => ha x (List.mem_cons_of_mem _ hx)
    have ham := ha a List.mem_cons_self
    unfold runD
    by_cases h : a ∈ V
    · rw [if_pos h]; exact .seenS h (tells_run R D many B hR n V [] as (by unfold msr at hm ⊢; simp at hm ⊢; omega) hs ha')
    · rw [if_neg h]
      obtain ⟨h1, h2⟩ := hR a ham
      have hu := unv_snoc h ham
      refine .newS h (tells_run R D many B hR n (V ++ [a]) [(a, R a)] as ?_ (fun x hx => by rw [List.mem_singleton.mp hx]; exact h2) ha')
      unfold msr at hm ⊢
      simp at hm ⊢
      have : (unv many (V ++ [a]) + 1) * (B + 4) ≤ unv many V * (B + 4) := Nat.mul_le_mul_right _ hu
      rw [Nat.add_mul] at this
      omega
  | n + 1, V, (p, []) :: st, as, hm, hs, ha => by
    unfold runD
    exact .pop (tells_run R D many B hR n V st as (by unfold msr at hm ⊢; simp at hm ⊢; omega) (fun x hx => hs x (List.mem_cons_of_mem _ hx)) ha)
  | n + 1, V, (p, c :: cs) :: st, as, hm, hs, ha => by
    have hcm : c < many := hs (p, c :: cs) List.mem_cons_self c List.mem_cons_self
    have hs' : StOk many ((p, cs) :: st) := fun x hx y hy => by
      rcases List.mem_cons.mp hx with rfl | hx
      · exact hs (p, c :: cs) List.mem_cons_self y (List.mem_cons_of_mem _ hy)
      · exact hs x (List.mem_cons_of_mem _ hx) y hy
    unfold runD
    by_cases h : c ∈ V
    · rw [if_pos h]; exact .seenC h (tells_run R D many B hR n V ((p, cs) :: st) as (by unfold msr at hm ⊢; simp at hm ⊢; omega) hs' ha)
    · rw [if_neg h]
      obtain ⟨h1, h2⟩ := hR c hcm
      have hu := unv_snoc h hcm
      have hmul : (unv many (V ++ [c]) + 1) * (B + 4) ≤ unv many V * (B + 4) := Nat.mul_le_mul_right _ hu
      rw [Nat.add_mul] at hmul
      by_cases hd : st.length + 1 < D
      · rw [if_pos hd]
        refine .deep h hd (tells_run R D many B hR n (V ++ [c]) ((c, R c) :: (p, cs) :: st) as (by unfold msr at hm ⊢; simp at hm ⊢; omega)
          (fun x hx => by
            rcases List.mem_cons.mp hx with rfl | hx
            · exact h2
            · exact hs' x hx) ha)
      · rw [if_neg hd]
        exact .flat h hd (tells_run R D many B hR n (V ++ [c]) ((p, cs) :: st) as (by unfold msr at hm ⊢; simp at hm ⊢; omega) hs' ha)
theorem tells_due (R : Nat → List Nat) (D many B : Nat) (hR : ∀ c, c < many → (R c).length ≤ B ∧ ∀ x ∈ R c, x < many) (as : List Nat) (ha : ∀ a ∈ as, a < many) :
    Tells R D [] [] as (dueL R D as [] []) := by
  rw [← run_due R D many B hR as ha _ (Nat.le_refl _)]
  exact tells_run R D many B hR _ [] [] as (Nat.le_refl _) (fun _ h => nomatch h) ha
theorem due_nodup (R : Nat → List Nat) (D many B : Nat) (hR : ∀ c, c < many → (R c).length ≤ B ∧ ∀ x ∈ R c, x < many) (as : List Nat) (ha : ∀ a ∈ as, a < many) :
    ((dueL R D as [] []).map (·.2)).Nodup := by
  rw [← run_due R D many B hR as ha _ (Nat.le_refl _)]
  exact (run_nodup R D _ [] [] as).1
theorem tells_lt {R : Nat → List Nat} {D many : Nat} (hR : ∀ c, c < many → ∀ x ∈ R c, x < many) {V st as es} (h : Tells R D V st as es) : StOk many st → (∀ a ∈ as, a < many) → ∀ e ∈ es, e.2 < many := by
  induction h with
  | fin => intro _ _ e he; cases he
  | seenS _ _ ih => intro hs ha; exact ih hs fun x hx => ha x (List.mem_cons_of_mem _ hx)
  | newS _ _ ih => intro hs ha; exact ih (fun x hx => by rw [List.mem_singleton.mp hx]; exact hR _ (ha _ List.mem_cons_self)) fun x hx => ha x (List.mem_cons_of_mem _ hx)
  | pop _ ih => intro hs ha; exact ih (fun x hx => hs x (List.mem_cons_of_mem _ hx)) ha
  | @seenC V p c cs st as es _ _ ih =>
    intro hs ha
    exact ih (fun x hx y hy => by
      rcases List.mem_cons.mp hx with rfl | hx
      · exact hs (p, c :: cs) List.mem_cons_self y (List.mem_cons_of_mem _ hy)
      · exact hs x (List.mem_cons_of_mem _ hx) y hy) ha
  | @deep V p c cs st as es _ _ _ ih =>
    intro hs ha e he
    have hcm : c < many := hs (p, c :: cs) List.mem_cons_self c List.mem_cons_self
    rcases List.mem_cons.mp he with rfl | he
    · exact hcm
    · exact ih (fun x hx y hy => by
        rcases List.mem_cons.mp hx with rfl | hx
        · exact hR c hcm y hy
        · rcases List.mem_cons.mp hx with rfl | hx
          · exact hs (p, c :: cs) List.mem_cons_self y (List.mem_cons_of_mem _ hy)
          · exact hs x (List.mem_cons_of_mem _ hx) y hy) ha e he
  | @flat V p c cs st as es _ _ _ ih =>
    intro hs ha e he
    have hcm : c < many := hs (p, c :: cs) List.mem_cons_self c List.mem_cons_self
    rcases List.mem_cons.mp he with rfl | he
    · exact hcm
    · exact ih (fun x hx y hy => by
        rcases List.mem_cons.mp hx with rfl | hx
        · exact hs (p, c :: cs) List.mem_cons_self y (List.mem_cons_of_mem _ hy)
        · exact hs x (List.mem_cons_of_mem _ hx) y hy) ha e he
end

/-! M0p -/
section
open PySem PySem.W PySem.W.X PyProof.Rows PySem.Calls
/-! the pieces of the generator's text, by their places -/
def nthS (l : List Stmt) (i : Nat) : Stmt := l.getD i (.Pass ⟨0, 0, 0, 0⟩)
def bodyS : Stmt → List Stmt
  | .FunctionDef (body := b) .. => b
  | .For (body := b) .. => b
  | .While (body := b) .. => b
  | .If (body := b) .. => b
  | _ => []
def elseS : Stmt → List Stmt
  | .For (orelse := b) .. => b
  | .While (orelse := b) .. => b
  | .If (orelse := b) .. => b
  | _ => []
def tgtS : Stmt → Expr
  | .For (target := b) .. => b
  | .While (test := b) .. => b
  | .If (test := b) .. => b
  | .Assign (value := b) .. => b
  | .Expr (value := b) .. => b
  | _ => .Constant .none 0 ⟨0, 0, 0, 0⟩
def elseE : Expr → Expr
  | .IfExp _ _ e _ => e
  | e => e
def posE : Expr → Pos
  | .Lambda (pos := p) .. => p
  | _ => ⟨0, 0, 0, 0⟩
def scopeS : Stmt → Scope
  | .FunctionDef (scope := s) .. => s
  | _ => { kind := .function, names := [], isGenerator := false, isCoroutine := false }
def dfsS : Stmt := nthS PR.main.body 2
def sFor1 : Stmt := nthS (bodyS dfsS) 4
def sWh : Stmt := nthS (bodyS sFor1) 4
def sFor2 : Stmt := nthS (bodyS sWh) 1
def sIf2 : Stmt := nthS (bodyS sFor2) 0
def lamE : Expr := elseE (tgtS (nthS (bodyS dfsS) 2))
def lamPos : Pos := posE lamE
def lamQual : Str := "dfs_edges" ++ ".<locals>." ++ "<lambda>"
/-- the table of the code object of the generator function -/
def TabR (x : Option Obj) (P : Addr → Obj → Prop) : Prop := ∃ ps, x = some (tabObj ps) ∧ TriplesOk ps.toList ∧ (codeAmong lamPos ps.toList = none ∨
  ∃ c' oc vs t, codeAmong lamPos ps.toList = some (.ref c') ∧ P c' oc ∧ oc.data = .fields vs ∧ vs[1]? = some (.str lamQual t))
theorem TabR.imp {x : Option Obj} {P P' : Addr → Obj → Prop} (k : ∀ c o, P c o → P' c o) (h : TabR x P) : TabR x P' := by
  obtain ⟨ps, e, t, h⟩ := h
  refine ⟨ps, e, t, ?_⟩
  rcases h with h | ⟨c', oc, vs, t, a, b, d⟩
  · exact .inl h
  · exact .inr ⟨c', oc, vs, t, a, k _ _ b, d⟩
def TabOk (μ : Mu) : Prop := TabR (μ 25) fun c o => c ≠ 25 ∧ μ c = some o
theorem TabR.at {μ : Mu} {x : Option Obj} {P : Addr → Obj → Prop} (h : TabR x P) (k : ∀ o, x = some o → μ 25 = some o) : TabR (μ 25) P := by
  obtain ⟨ps, rfl, t, h⟩ := h
  exact ⟨ps, k _ rfl, t, h⟩
theorem TabOk.mono {μ μ' : Mu} (k : MuLe μ μ') (h : TabOk μ) : TabOk μ' := (TabR.imp (fun c o ⟨a, b⟩ => ⟨a, k _ _ b⟩) h).at fun o e => k _ _ e
/-- the same, of two ledgers -/
def TabOk2 (μf μr : Mu) : Prop := TabR (μf 25) fun c o => c ≠ 25 ∧ (μf c = some o ∨ μr c = some o)
theorem TabOk2.ok {μ μf μr : Mu} (h : TabOk2 μf μr) (k : MuLe μf μ) (k' : MuLe μr μ) : TabOk μ := (TabR.imp (fun c o ⟨a, b⟩ => ⟨a, b.elim (k _ _) (k' _ _)⟩) h).at fun o e => k _ _ e
section
variable {w : World} {prog : Program} {A : Around} {E : Value → Shared → Prop} {s : Shared} {g : Heap} {L : Addr} {m : Str → Option Value} {μ : Mu} {env : Env} {mg mb : Str → Option Value}
theorem r_lambda {name : Str} {params : Arguments} {body : Expr} {scope : Scope} {clos : List (Str × Addr)} {c : Addr} {firstLine : Nat} {pos : Pos} {qual : Str} {Q : Value → Shared → Prop} (G : Gd w mg mb g) (C : CodeHd g c 25) (S : St g L m μ s.heap) {Old : Addr → Prop} (T : TabR (μ 25) fun c o => c ≠ 25 ∧ μ c = some o ∧ Old c)
    (hcl : closureFor scope env = pure clos) (hge0 : env.globals = mainGlobals) (hcode : env.code = .ref c) (hpos : pos = lamPos) (hq : qual = lamQual)
    (h : ∀ f c' oc vs t ctv h' tk' μ', St g L m μ' h' → (∀ b o, μ b = some o → b ≠ 25 → μ' b = some o) → Nn μ f → μ' f = some (kla_obj name qual params body scope clos ((mg "__name__").getD .none) c' ctv) → c' ≠ 25 → μ' c' = some oc → (Old c' ∨ Nn μ c') → oc.data = .fields vs → vs[1]? = some (.str qual t) → TabR (μ' 25) (fun c o => c ≠ 25 ∧ μ' c = some o ∧ (Old c ∨ Nn μ c)) →
      Q (.ref f) { s with heap := h', toks := tk' }) :
    wpAny (model prog w) A (makeFunction name qual params (.expr body) scope env [] [] [] pos firstLine) Q E s := by
  obtain ⟨p0, loose, mean, Tp⟩ := G.T
  obtain ⟨ps, eP, ht, hc⟩ := T
  have zP := S.mu 25 _ eP
  have hgs := Tp.g.keeps S.fr.keep
  obtain ⟨bm, ob, b1, b2, b3, b4, b5, b6⟩ := Tp.bmain
  have hgP : mainGlobals ≠ 25 := fun q => by
    obtain ⟨o, es, ep, e, hd, _⟩ := hgs
    rw [q, zP.1] at e; cases e; cases hd
  have hbP : bm ≠ 25 := fun q => by
    have e := S.fr.keep _ _ b3
    rw [q, zP.1] at e; cases e; cases b4
  have hbG : bm ≠ mainGlobals := fun q => by
    obtain ⟨o, es, ep, e, hd, _⟩ := Tp.g
    rw [q, e] at b3; cases b3; rw [hd] at b6; cases b6
  have hB : s.heap.BuiltinsAt mg 25 := ⟨bm, ob, b1, b2, hbG, hbP, S.fr.keep _ _ b3, b4, b5, b6⟩
  rcases hc with hc | ⟨c', oc, vs, t, hhit, ⟨hc25, ec, hold⟩, hd, hv⟩
  · refine kla_makeFunction (mg := mg) hcl hge0 hgs hcode (C.keeps S.fr.keep) zP.1 ht (hpos ▸ hc) hgP hB fun c' ctv h' tk hx hge hlt hrec htb => ?_
    obtain ⟨c₂, oc, vs, t, e2, hoc, hd, hv⟩ := hrec
    cases e2
    have S1 := S.re eP htb fun b o hb e => hx b o (by simpa using hb) e
    have n1 : Nn μ c' := by
      show μ c' = none
      cases e : μ c' with
      | none => rfl
      | some o => exact absurd (Heap.lt_size (S.get e)) (Nat.not_lt.mpr hge)
    have hP : c' ≠ 25 := fun q => by rw [q] at n1; unfold Nn at n1; rw [eP] at n1; cases n1
    have hle : g.objs.size ≤ c' := Nat.le_trans (Nat.le_trans S.fr.above (Nat.le_of_lt S.lt)) hge
    have S2 := S1.add hoc (Nat.ne_of_gt (Nat.lt_of_lt_of_le S.lt hge)) ⟨Heap.get?_none_of_le hle, Nat.ne_of_gt (Nat.lt_of_lt_of_le S.lo hle)⟩
    have n2 : Nn (upd μ 25 (tabObj (ps ++ #[rawInt pos.line, rawInt pos.col, .ref c']))) c' := nn_upd hP n1
    have S3 := S2.alloc (kla_obj name qual params body scope clos ((mg "__name__").getD .none) c' ctv) rfl
    have n3 := S2.none_size
    have hf25 : h'.objs.size ≠ 25 := fun q => by
      have := S2.none_size
      rw [q, upd_ne (Ne.symm hP), upd_self] at this; cases this
    have hfc : h'.objs.size ≠ c' := fun q => by
      have := S2.none_size
      rw [q, upd_self] at this; cases this
    have nf : Nn μ h'.objs.size := nn_low hf25 (nn_low hfc n3)
    refine h _ c' oc vs t ctv _ tk _ S3 (fun b o e hb => mu_up (mu_up (mu_ch e hb) n2) n3) nf (upd_self ..) hP (mu_up (upd_self ..) n3) (.inr n1) hd hv ?_
    refine ⟨_, mu_up (mu_ch (upd_self ..) (Ne.symm hP)) n3, ?_, .inr ⟨c', oc, vs, t, ?_, ⟨hP, mu_up (upd_self ..) n3, .inr n1⟩, hd, hq ▸ hv⟩⟩
    · simpa using TriplesOk_snoc pos.line pos.col (.ref c') ps.toList ht
    · subst hpos
      simpa using codeAmong_snoc (c := .ref c') ps.toList ht hc
  · refine kla_makeFunctionHit (mg := mg) hcl hge0 hgs hcode (C.keeps S.fr.keep) zP.1 ht (hpos ▸ hhit) hB fun ctv h' tk hk hsz => ?_
    have S1 := S.keep hk
    have S2 := S1.alloc (kla_obj name qual params body scope clos ((mg "__name__").getD .none) c' ctv) rfl
    have n3 := S1.none_size
    exact h _ c' oc vs t ctv _ tk _ S2 (fun b o e _ => mu_up e n3) n3 (upd_self ..) hc25 (mu_up ec n3) (.inl hold) hd (hq ▸ hv) ⟨ps, mu_up eP n3, ht, .inr ⟨c', oc, vs, t, hhit, ⟨hc25, mu_up ec n3, .inl hold⟩, hd, hv⟩⟩
end
end

/-! M0q -/
section
open PySem PySem.W PySem.W.X PyProof.Rows PySem.Calls
/-- what a segment leaves behind -/
def GPost (g : Heap) (s : Shared) (L : Addr) (mL : Str → Option Value) (μ μg : Mu) (due : List Edge) (next : GenState → Mu → Prop) : End → Shared → Prop := fun e s₁ =>
  match due with
  | [] => e = .ret (.ok (.ret .none)) ∧ ∃ h' tk' μ', s₁ = { s with heap := h', toks := tk' } ∧ St g L mL μ' h' ∧ (∀ b o, μ b = some o → Nn μg b → μ' b = some o) ∧ TabOk μ'
  | d :: _ => ∃ v g' l k c p fs, e = .susp v g' l k c p fs ∧ ∃ h' tk' μ' μg' t ot ta tb, s₁ = { s with heap := h', toks := tk' } ∧ v = .ref t ∧ St g L mL μ' h' ∧ (∀ b o, μ b = some o → Nn μg b → μ' b = some o) ∧
      (Nn μg t → Nn μ t) ∧ μ' t = some ot ∧ tupO [.int (d.1 : Int) ta, .int (d.2 : Int) tb] ot ∧ Nn μg' t ∧ MuLe μg' μ' ∧ (∀ b, Nn μg b → (∃ o, μ b = some o) → Nn μg' b) ∧ next e.genState μg'
def GBody (w : World) (g : Heap) (μr : Mu) (due : List Edge) (next : GenState → Mu → Prop) (gs : GenState) (μg : Mu) : Prop :=
  (∀ b o, μr b = some o → Nn μg b) ∧ ∃ c₀ t₀ fs₀, RestAt PR w gs c₀ t₀ fs₀ ∧ ∀ (A : Around) (s : Shared) L mL μ, A.handled = none → A.depth + 40 < recursionLimit → St g L mL μ s.heap → MuLe μr μ → MuLe μg μ →
    SegX (model PR w) A c₀ t₀ fs₀ s (GPost g s L mL μ μg due next)
/-- a generator that still tells these pairs; μg: what it owns; μr: what it reads -/
noncomputable def GGo (w : World) (g : Heap) (μr : Mu) : List Edge → GenState → Mu → Prop
  | [] => GBody w g μr [] fun _ _ => True
  | e :: r => GBody w g μr (e :: r) (GGo w g μr r)
def nextG (w : World) (g : Heap) (μr : Mu) : List Edge → GenState → Mu → Prop
  | [] => fun _ _ => True
  | _ :: r => GGo w g μr r
theorem GGo_eq (w : World) (g : Heap) (μr : Mu) (due : List Edge) : GGo w g μr due = GBody w g μr due (nextG w g μr due) := by cases due <;> rfl

/-- a segment under way: the consumer's side -/
structure Cx (g : Heap) (μr μf : Mu) (L : Addr) (mL : Str → Option Value) (μ₀ μg₀ μp : Mu) (Lg : Addr) : Prop where
  hL : ∃ oL, μp L = some oL ∧ NsObj oL mL
  ab : g.objs.size ≤ L
  n0 : Nn μ₀ L
  keep : ∀ b o, μ₀ b = some o → Nn μg₀ b → μp b = some o
  hf : MuLe μf μp
  fg : ∀ b, Nn μg₀ b → (∃ o, μ₀ b = some o) → Nn μf b
  r0 : MuLe μr μ₀
  hr : MuLe μr μp
  rf : ∀ b o, μr b = some o → Nn μf b
  fL : Nn μf L
  gL : ∃ o, μg₀ Lg = some o
  abG : g.objs.size ≤ Lg
  tab : TabOk2 μf μr
def ownMu (μp μ μf : Mu) (Lg t : Addr) (oG : Obj) : Mu := fun b => if b = Lg then some oG else if b = t then none else match μp b with | none => μ b | some _ => μf b
def wakeMu (μf μg μ₀ : Mu) (L : Addr) (oL : Obj) : Mu := fun b => if b = L then some oL else match μg b with | none => μ₀ b | some _ => μf b
section
variable {w : World} {g : Heap} {μr μf μ₀ μg₀ μp μ : Mu} {L Lg : Addr} {mL m : Str → Option Value}
theorem nn_of_le {μ μ' : Mu} {a : Addr} (k : MuLe μ μ') (h : Nn μ' a) : Nn μ a := k.nn h
theorem nn_or (μ : Mu) (a : Addr) : Nn μ a ∨ ∃ o, μ a = some o := by
  cases e : μ a with
  | none => exact .inl e
  | some o => exact .inr ⟨o, rfl⟩
theorem nn_not {a : Addr} {o : Obj} (h : Nn μ a) (e : μ a = some o) : False := by unfold Nn at h; rw [h] at e; cases e
theorem Cx.home {s : Shared} (C : Cx g μr μf L mL μ₀ μg₀ μp Lg) (S : St g Lg m μ s.heap) (hp : MuLe μp μ) :
    ∃ oG, NsObj oG m ∧ Lg ≠ L ∧ St g L mL (upd (del μ L) Lg oG) s.heap ∧ (∀ b o, μ₀ b = some o → Nn μg₀ b → upd (del μ L) Lg oG b = some o) ∧ MuLe μf (upd (del μ L) Lg oG) ∧ MuLe μr (upd (del μ L) Lg oG) := by
  obtain ⟨oL, eL, nL⟩ := C.hL
  obtain ⟨oG, nG, hne, S'⟩ := S.swap (hp _ _ eL) nL C.ab
  refine ⟨oG, nG, hne, S', fun b o e n => ?_, fun b o e => ?_, fun b o e => ?_⟩
  · have h1 : b ≠ Lg := fun q => by obtain ⟨o', e'⟩ := C.gL; rw [q] at n; exact nn_not n e'
    have h2 : b ≠ L := fun q => by rw [q] at e; exact nn_not C.n0 e
    exact mu_ch (del_of h2 (hp _ _ (C.keep _ _ e n))) h1
  · have h1 : b ≠ Lg := fun q => by rw [q] at e; exact nn_not S.nn (hp _ _ (C.hf _ _ e))
    have h2 : b ≠ L := fun q => by rw [q] at e; exact nn_not C.fL e
    exact mu_ch (del_of h2 (hp _ _ (C.hf _ _ e))) h1
  · have h1 : b ≠ Lg := fun q => by rw [q] at e; exact nn_not S.nn (hp _ _ (C.hr _ _ e))
    have h2 : b ≠ L := fun q => by rw [q] at e; exact nn_not C.n0 (C.r0 _ _ e)
    exact mu_ch (del_of h2 (hp _ _ (C.hr _ _ e))) h1
/-- the end of the generator -/
theorem Cx.ended {s₀ s : Shared} (C : Cx g μr μf L mL μ₀ μg₀ μp Lg) (S : St g Lg m μ s.heap) (hp : MuLe μp μ) (hs : ∃ h tk, s = { s₀ with heap := h, toks := tk }) {next} :
    GPost g s₀ L mL μ₀ μg₀ [] next (.ret (.ok (.ret .none))) s := by
  obtain ⟨oG, nG, hne, S', k1, k2, k3⟩ := C.home S hp
  obtain ⟨h, tk, rfl⟩ := hs
  exact ⟨rfl, h, tk, _, rfl, S', k1, C.tab.ok k2 k3⟩
/-- what goes over from a segment to the next -/
def Over (μ μp μ₁ μp₁ : Mu) (t : Addr) : Prop := ∀ b o, μ b = some o → Nn μp b → b ≠ t → μ₁ b = some o ∧ Nn μp₁ b
/-- a pair is told -/
theorem Cx.told {s₀ s : Shared} {t : Addr} {ot : Obj} {d : Edge} {ta tb : Tok} {rest : List Edge} {gb : Bool} {l : List Value} {k : Resume → Sem Fin} {c : Code} {p : Pos} {fs : List Frame} {next : GenState → Mu → Prop}
    (C : Cx g μr μf L mL μ₀ μg₀ μp Lg) (S : St g Lg m μ s.heap) (hp : MuLe μp μ) (hs : ∃ h tk, s = { s₀ with heap := h, toks := tk }) (et : μ t = some ot) (ht : tupO [.int (d.1 : Int) ta, .int (d.2 : Int) tb] ot) (nt : Nn μp t)
    (hnext : ∀ μg, (∀ b o, μr b = some o → Nn μg b) → (∀ (s' : Shared) L' mL' μ', St g L' mL' μ' s'.heap → MuLe μr μ' → MuLe μg μ' → ∃ μp' μ₁, Cx g μr μf L' mL' μ' μg μp' Lg ∧ St g Lg m μ₁ s'.heap ∧ MuLe μp' μ₁ ∧ Over μ μp μ₁ μp' t) → next (End.susp (.ref t) gb l k c p fs).genState μg) :
    GPost g s₀ L mL μ₀ μg₀ (d :: rest) next (.susp (.ref t) gb l k c p fs) s := by
  obtain ⟨oG, nG, hne, S', k1, k2, _⟩ := C.home S hp
  obtain ⟨h, tk, rfl⟩ := hs
  obtain ⟨oL, eL, nL⟩ := C.hL
  have htL : t ≠ L := fun q => by rw [q] at nt; exact nn_not nt eL
  have htG : t ≠ Lg := fun q => by rw [q] at et; exact nn_not S.nn et
  have gf : MuLe μf (ownMu μp μ μf Lg t oG) := fun b o e => by
    have h1 : b ≠ Lg := fun q => by rw [q] at e; exact nn_not S.nn (hp _ _ (C.hf _ _ e))
    have h2 : b ≠ t := fun q => by rw [q] at e; exact nn_not nt (C.hf _ _ e)
    unfold ownMu
    rw [if_neg h1, if_neg h2, C.hf _ _ e]; exact e
  have gr : ∀ b o, μr b = some o → Nn (ownMu μp μ μf Lg t oG) b := fun b o e => by
    have h1 : b ≠ Lg := fun q => by rw [q] at e; exact nn_not S.nn (hp _ _ (C.hr _ _ e))
    show ownMu μp μ μf Lg t oG b = none
    unfold ownMu
    rw [if_neg h1, C.hr _ _ e]
    split
    · rfl
    · exact C.rf _ _ e
  have gG : ownMu μp μ μf Lg t oG Lg = some oG := if_pos rfl
  refine ⟨_, _, _, _, _, _, _, rfl, h, tk, _, ownMu μp μ μf Lg t oG, t, ot, ta, tb, rfl, rfl, S', k1, fun n => (nn_or μ₀ t).elim id (fun ⟨o, e⟩ => (nn_not nt (C.keep _ _ e n)).elim), mu_ch (del_of htL et) htG, ht, ?_, fun b o e => ?_, fun b n ⟨o, e⟩ => ?_, hnext _ gr ?_⟩
  · show ownMu μp μ μf Lg t oG t = none
    unfold ownMu
    rw [if_neg htG, if_pos rfl]
  · unfold ownMu at e
    by_cases h1 : b = Lg
    · rw [if_pos h1] at e; cases e; rw [h1]; exact upd_self ..
    · rw [if_neg h1] at e
      by_cases h2 : b = t
      · rw [if_pos h2] at e; cases e
      · rw [if_neg h2] at e
        cases q : μp b with
        | none =>
          rw [q] at e
          have h3 : b ≠ L := fun z => by rw [z, eL] at q; cases q
          exact mu_ch (del_of h3 e) h1
        | some o' => rw [q] at e; exact k2 _ _ e
  · show ownMu μp μ μf Lg t oG b = none
    have h1 : b ≠ Lg := fun q => by obtain ⟨o', e'⟩ := C.gL; rw [q] at n; exact nn_not n e'
    unfold ownMu
    rw [if_neg h1, C.keep _ _ e n]
    split
    · rfl
    · exact C.fg _ n ⟨o, e⟩
  · intro s' L' mL' μ' St' hr' hg'
    obtain ⟨oL', nL', hne', S1⟩ := St'.swap (hg' _ _ gG) nG C.abG
    have hfL' : Nn μf L' := (gf.trans hg').nn St'.nn
    refine ⟨wakeMu μf (ownMu μp μ μf Lg t oG) μ' L' oL', _, ⟨⟨oL', if_pos rfl, nL'⟩, St'.fr.above, St'.nn, fun b o e n => ?_, fun b o e => ?_, fun b n _ => gf.nn n, hr', fun b o e => ?_, C.rf, hfL', ⟨oG, gG⟩, C.abG, C.tab⟩, S1, fun b o e => ?_, fun b o e n hbt => ?_⟩
    · unfold wakeMu
      have h1 : b ≠ L' := fun q => by rw [q] at e; exact nn_not St'.nn e
      have n' : ownMu μp μ μf Lg t oG b = none := n
      rw [if_neg h1, n']; exact e
    · unfold wakeMu
      have h1 : b ≠ L' := fun q => by rw [q] at e; exact nn_not hfL' e
      rw [if_neg h1, gf _ _ e]; exact e
    · unfold wakeMu
      have h1 : b ≠ L' := fun q => by rw [q] at e; exact nn_not St'.nn (hr' _ _ e)
      have n' : ownMu μp μ μf Lg t oG b = none := gr _ _ e
      rw [if_neg h1, n']; exact hr' _ _ e
    · unfold wakeMu at e
      by_cases h1 : b = L'
      · rw [if_pos h1] at e; rw [h1]; cases e; exact upd_self ..
      · rw [if_neg h1] at e
        cases q : ownMu μp μ μf Lg t oG b with
        | none =>
          rw [q] at e
          have h2 : b ≠ Lg := fun z => by rw [z, gG] at q; cases q
          exact mu_ch (del_of h2 e) h1
        | some o' =>
          rw [q] at e
          have h2 : b ≠ Lg := fun z => by rw [z] at e; exact nn_not S.nn (hp _ _ (C.hf _ _ e))
          exact mu_ch (del_of h2 (hg' _ _ (gf _ _ e))) h1
    · have h1 : b ≠ Lg := fun q => by rw [q] at e; exact nn_not S.nn e
      have n' : μp b = none := n
      have e1 : ownMu μp μ μf Lg t oG b = some o := by
        unfold ownMu
        rw [if_neg h1, if_neg hbt, n']; exact e
      have e2 := hg' _ _ e1
      have h2 : b ≠ L' := fun q => by rw [q] at e2; exact nn_not St'.nn e2
      refine ⟨mu_ch (del_of h1 e2) h2, ?_⟩
      show wakeMu μf (ownMu μp μ μf Lg t oG) μ' L' oL' b = none
      unfold wakeMu
      rw [if_neg h2, e1]
      exact nn_of_le C.hf n
end
end

/-! M0r -/
section
open PySem PySem.W PySem.W.X PyProof.Rows PySem.Calls
section
variable {w : World} {g : Heap} {μr μf μp μp' μ μ' : Mu} {I q : Addr} {cs : List Nat}
theorem ItS.cI (h : ItS w μ I q cs) : ∃ oI, μ I = some oI ∧ (oI.cls = .type "dict_keyiterator" ∨ oI.cls = .type "list_iterator") := by
  rcases h with ⟨i, kvs, ep, oI, od, eI, hit, r⟩ | ⟨i, oI, ol, vs, eI, hcl, r⟩
  · exact ⟨oI, eI, .inl hit.1⟩
  · exact ⟨oI, eI, .inr hcl⟩
theorem ItS.cQ (h : ItS w μ I q cs) : ∃ oq, μ q = some oq ∧ (oq.cls = .type "dict" ∨ oq.cls = .type "list") := by
  rcases h with ⟨i, kvs, ep, oI, od, eI, hit, ed, ha, r⟩ | ⟨i, oI, ol, vs, eI, hcl, hd, el, hl, r⟩
  · obtain ⟨es, hx, _⟩ := ha
    exact ⟨od, ed, .inl hx.1⟩
  · obtain ⟨n, rfl⟩ := hl
    exact ⟨_, el, .inr rfl⟩
theorem ne_cls {a b : Addr} {oa ob : Obj} (ea : μ a = some oa) (eb : μ b = some ob) (h : oa.cls ≠ ob.cls) : a ≠ b := fun q => by
  rw [q, eb] at ea; cases ea; exact h rfl
theorem ItS.neI {b : Addr} {ob : Obj} (h : ItS w μ I q cs) (eb : μ b = some ob) (h1 : ob.cls ≠ .type "dict_keyiterator") (h2 : ob.cls ≠ .type "list_iterator") : I ≠ b := by
  obtain ⟨oI, eI, c⟩ := h.cI
  exact ne_cls eI eb fun z => c.elim (fun c => h1 (by rw [← z, c])) (fun c => h2 (by rw [← z, c]))
theorem ItS.neQ {b : Addr} {ob : Obj} (h : ItS w μ I q cs) (eb : μ b = some ob) (h1 : ob.cls ≠ .type "dict") (h2 : ob.cls ≠ .type "list") : q ≠ b := by
  obtain ⟨oI, eI, c⟩ := h.cQ
  exact ne_cls eI eb fun z => c.elim (fun c => h1 (by rw [← z, c])) (fun c => h2 (by rw [← z, c]))
/-- an iterator of the generator's own -/
structure ItOk (w : World) (μr μp μ : Mu) (I q : Addr) (cs : List Nat) : Prop where
  it : ItS w μ I q cs
  nI : Nn μp I
  nq : Nn μp q ∨ ∃ o, μr q = some o
def Ov (μ μp μ' μp' : Mu) : Prop := ∀ b o, μ b = some o → Nn μp b → μ' b = some o ∧ Nn μp' b
theorem Ov.mono (k : MuLe μ μ') : Ov μ μp μ' μp := fun b o e n => ⟨k _ _ e, n⟩
theorem ItOk.re (h : ItOk w μr μp μ I q cs) (T : ∀ b o, (b = I ∨ b = q) → μ b = some o → Nn μp b → μ' b = some o ∧ Nn μp' b) (hr : MuLe μr μ) (hr' : MuLe μr μ') : ItOk w μr μp' μ' I q cs := by
  obtain ⟨it, nI, nq⟩ := h
  obtain ⟨oI, eI, _⟩ := it.cI
  obtain ⟨oq, eq, _⟩ := it.cQ
  refine ⟨it.mono fun b o hb e => ?_, (T I oI (.inl rfl) eI nI).2, ?_⟩
  · rcases hb with rfl | rfl
    · exact (T _ _ (.inl rfl) e nI).1
    · rcases nq with nq | ⟨o', e'⟩
      · exact (T _ _ (.inr rfl) e nq).1
      · have := hr _ _ e'
        rw [e] at this; cases this
        exact hr' _ _ e'
  · rcases nq with nq | h
    · exact .inl (T q oq (.inr rfl) eq nq).2
    · exact .inr h
structure Ent where
  t : Addr
  I : Addr
  q : Addr
  p : Nat
  cs : List Nat
structure EntOk (w : World) (μr μp μ : Mu) (e : Ent) : Prop where
  tup : ∃ ot tk, μ e.t = some ot ∧ tupO [.int (e.p : Int) tk, .ref e.I] ot
  nt : Nn μp e.t
  it : ItOk w μr μp μ e.I e.q e.cs
theorem EntOk.re {e : Ent} (h : EntOk w μr μp μ e) (T : ∀ b o, (b = e.t ∨ b = e.I ∨ b = e.q) → μ b = some o → Nn μp b → μ' b = some o ∧ Nn μp' b) (hr : MuLe μr μ) (hr' : MuLe μr μ') : EntOk w μr μp' μ' e := by
  obtain ⟨⟨ot, tk, et, ho⟩, nt, it⟩ := h
  have z := T _ _ (.inl rfl) et nt
  exact ⟨⟨ot, tk, z.1, ho⟩, z.2, it.re (fun b o hb => T b o (.inr hb)) hr hr'⟩
/-- the ledger at the head of the outer loop -/
structure FB (w : World) (many : Nat) (μr μp μ : Mu) (va : Addr) (V : List Nat) (IS qS : Addr) (as : List Nat) : Prop where
  vis : ∃ vo, μ va = some vo ∧ SetO w V vo
  nva : Nn μp va
  it : ItOk w μr μp μ IS qS as
  vnd : V.Nodup
  vlt : ∀ x ∈ V, x < many
  alt : ∀ a ∈ as, a < many
theorem FB.vlen {many : Nat} {va IS qS : Addr} {V as : List Nat} (F : FB w many μr μp μ va V IS qS as) (h6 : many ≤ 6) : V.length ≤ 100 := by
  have := List.Nodup.length_le_of_subset F.vnd (l₂ := List.range many) (fun x hx => List.mem_range.mpr (F.vlt x hx))
  simp at this; omega
structure FW (w : World) (many : Nat) (μr μp μ : Mu) (va : Addr) (V : List Nat) (IS qS : Addr) (as : List Nat) (sa : Addr) (E : List Ent) : Prop where
  b : FB w many μr μp μ va V IS qS as
  stk : ∃ so, μ sa = some so ∧ lstO (E.map fun e => Value.ref e.t).reverse so
  nsa : Nn μp sa
  ents : ∀ e ∈ E, EntOk w μr μp μ e
  nd : (IS :: E.map (·.I)).Nodup
  nqS : qS ≠ sa
  nq : ∀ e ∈ E, e.q ≠ sa
  hgt : E.length ≤ 20
  lt : ∀ e ∈ E, e.p < many ∧ ∀ c ∈ e.cs, c < many
section
variable {many : Nat} {va IS qS sa : Addr} {V as : List Nat} {E : List Ent}
theorem FB.ov (F : FB w many μr μp μ va V IS qS as) (T : Ov μ μp μ' μp') (hr : MuLe μr μ) (hr' : MuLe μr μ') : FB w many μr μp' μ' va V IS qS as := by
  obtain ⟨⟨vo, ev, hv⟩, nva, it, r1, r2, r3⟩ := F
  have z := T _ _ ev nva
  exact ⟨⟨vo, z.1, hv⟩, z.2, it.re (fun b o _ => T b o) hr hr', r1, r2, r3⟩
theorem FW.ov (F : FW w many μr μp μ va V IS qS as sa E) (T : Ov μ μp μ' μp') (hr : MuLe μr μ) (hr' : MuLe μr μ') : FW w many μr μp' μ' va V IS qS as sa E := by
  obtain ⟨b, ⟨so, es, hs⟩, nsa, ents, r1, r2, r3, r4, r5⟩ := F
  have z := T _ _ es nsa
  exact ⟨b.ov T hr hr', ⟨so, z.1, hs⟩, z.2, fun e he => (ents e he).re (fun b o _ => T b o) hr hr', r1, r2, r3, r4, r5⟩
theorem le_upd {a : Addr} {o : Obj} (k : MuLe μp μ) (n : Nn μp a) : MuLe μp (upd μ a o) := fun b ob e => mu_ch (k _ _ e) (ne_of_mu e n)
theorem le_del {a : Addr} (k : MuLe μp μ) (n : Nn μp a) : MuLe μp (del μ a) := fun b ob e => del_of (ne_of_mu e n) (k _ _ e)
theorem nn_le {a : Addr} (k : MuLe μr μp) (n : Nn μp a) : Nn μr a := k.nn n
theorem FB.addV (F : FB w many μr μp μ va V IS qS as) (hp : MuLe μp μ) (hr : MuLe μr μp) {c : Nat} (hc : c ∉ V) (hm : c < many) {vo' : Obj} (h : SetO w (V ++ [c]) vo') : FB w many μr μp (upd μ va vo') va (V ++ [c]) IS qS as := by
  obtain ⟨⟨vo, ev, hv⟩, nva, it, vnd, vlt, alt⟩ := F
  have c1 := hv.cls
  have nI := it.it.neI ev (by rw [c1]; decide) (by rw [c1]; decide)
  have nq := it.it.neQ ev (by rw [c1]; decide) (by rw [c1]; decide)
  refine ⟨⟨vo', upd_self .., h⟩, nva, it.re (fun b o hb e n => ⟨mu_ch e (by rcases hb with rfl | rfl <;> assumption), n⟩) (hr.trans hp) (hr.trans (le_upd hp nva)), ?_, fun x hx => ?_, alt⟩
  · exact List.nodup_append.mpr ⟨vnd, by simp, fun a ha b hb => by rw [List.mem_singleton.mp hb]; exact fun q => hc (q ▸ ha)⟩
  · rcases List.mem_append.mp hx with hx | hx
    · exact vlt x hx
    · rw [List.mem_singleton.mp hx]; exact hm
theorem FW.addV (F : FW w many μr μp μ va V IS qS as sa E) (hp : MuLe μp μ) (hr : MuLe μr μp) {c : Nat} (hc : c ∉ V) (hm : c < many) {vo' : Obj} (h : SetO w (V ++ [c]) vo') : FW w many μr μp (upd μ va vo') va (V ++ [c]) IS qS as sa E := by
  obtain ⟨b, ⟨so, es, hs⟩, nsa, ents, r1, r2, r3, r4, r5⟩ := F
  obtain ⟨vo, ev, hv⟩ := b.vis
  have c1 := hv.cls
  have nsv : sa ≠ va := by obtain ⟨n, rfl⟩ := hs; exact ne_cls es ev (by rw [c1]; show Value.type "list" ≠ _; decide)
  refine ⟨b.addV hp hr hc hm h, ⟨so, mu_ch es nsv, hs⟩, nsa, fun e he => (ents e he).re (fun b' o hb eb n => ⟨mu_ch eb ?_, n⟩) (hr.trans hp) (hr.trans (le_upd hp b.nva)), r1, r2, r3, r4, r5⟩
  have X := ents e he
  rcases hb with rfl | rfl | rfl
  · obtain ⟨ot, tk, et, n, rfl⟩ := X.tup
    exact ne_cls et ev (by rw [c1]; show Value.type "tuple" ≠ _; decide)
  · exact X.it.it.neI ev (by rw [c1]; decide) (by rw [c1]; decide)
  · exact X.it.it.neQ ev (by rw [c1]; decide) (by rw [c1]; decide)
/-- the outer iterator goes on -/
theorem FB.step (F : FB w many μr μp μ va V IS qS as) {as' : List Nat} {oI' : Obj} (h : ItS w (upd μ IS oI') IS qS as') (ha : ∀ a ∈ as', a < many) : FB w many μr μp (upd μ IS oI') va V IS qS as' := by
  obtain ⟨⟨vo, ev, hv⟩, nva, it, vnd, vlt, alt⟩ := F
  have c1 := hv.cls
  exact ⟨⟨vo, mu_ch ev (Ne.symm (it.it.neI ev (by rw [c1]; decide) (by rw [c1]; decide))), hv⟩, nva, ⟨h, it.nI, it.nq⟩, vnd, vlt, ha⟩
/-- the iterator on top goes on, or is at its end -/
theorem FW.top {e : Ent} (F : FW w many μr μp μ va V IS qS as sa (e :: E)) (hp : MuLe μp μ) (hr : MuLe μr μp) (μ1 : Mu) (h1 : ∀ b o, μ b = some o → b ≠ e.I → μ1 b = some o) :
    FB w many μr μp μ1 va V IS qS as ∧ (∃ so, μ1 sa = some so ∧ lstO ((e :: E).map fun e => Value.ref e.t).reverse so) ∧ (∀ e' ∈ E, EntOk w μr μp μ1 e') ∧ (∃ ot tk, μ1 e.t = some ot ∧ tupO [.int (e.p : Int) tk, .ref e.I] ot) ∧ MuLe μp μ1 ∧ e.q ≠ e.I := by
  obtain ⟨⟨⟨vo, ev, hv⟩, nva, it, v1, v2, v3⟩, ⟨so, es, hs⟩, nsa, ents, nd, _, _, _, _⟩ := F
  have X := ents e List.mem_cons_self
  have c1 := hv.cls
  have k : ∀ b ob, μ b = some ob → ob.cls ≠ .type "dict_keyiterator" → ob.cls ≠ .type "list_iterator" → μ1 b = some ob := fun b ob eb a1 a2 => h1 _ _ eb (Ne.symm (X.it.it.neI eb a1 a2))
  have hp1 : MuLe μp μ1 := fun b o eb => h1 _ _ (hp _ _ eb) (fun q => nn_not X.it.nI (q ▸ eb))
  have tIt : ∀ I q cs, ItOk w μr μp μ I q cs → I ≠ e.I → ItOk w μr μp μ1 I q cs := fun I q cs hI ne => hI.re (fun b o hb eb n => by
    rcases hb with rfl | rfl
    · exact ⟨h1 _ _ eb ne, n⟩
    · obtain ⟨oq, eq, c⟩ := hI.it.cQ
      rw [eb] at eq; cases eq
      exact ⟨k _ _ eb (by rcases c with c | c <;> rw [c] <;> decide) (by rcases c with c | c <;> rw [c] <;> decide), n⟩) (hr.trans hp) (hr.trans hp1)
  rw [List.map_cons, List.nodup_cons, List.nodup_cons] at nd
  have nSI : IS ≠ e.I := fun q => nd.1 (by rw [q]; exact List.mem_cons_self)
  refine ⟨⟨⟨vo, k _ _ ev (by rw [c1]; decide) (by rw [c1]; decide), hv⟩, nva, tIt _ _ _ it nSI, v1, v2, v3⟩, ⟨so, ?_, hs⟩, fun e' he' => ?_, ?_, hp1, ?_⟩
  · obtain ⟨n, rfl⟩ := hs
    exact k _ _ es (by show Value.type "list" ≠ _; decide) (by show Value.type "list" ≠ _; decide)
  · have X' := ents e' (List.mem_cons_of_mem _ he')
    obtain ⟨ot, tk, et, n, rfl⟩ := X'.tup
    exact ⟨⟨_, tk, k _ _ et (by show Value.type "tuple" ≠ _; decide) (by show Value.type "tuple" ≠ _; decide), n, rfl⟩, X'.nt, tIt _ _ _ X'.it fun q => nd.2.1 (by rw [← q]; exact List.mem_map.mpr ⟨e', he', rfl⟩)⟩
  · obtain ⟨ot, tk, et, n, rfl⟩ := X.tup
    exact ⟨_, tk, k _ _ et (by show Value.type "tuple" ≠ _; decide) (by show Value.type "tuple" ≠ _; decide), n, rfl⟩
  · exact X.it.it.it.1
theorem FW.step {e : Ent} (F : FW w many μr μp μ va V IS qS as sa (e :: E)) (hp : MuLe μp μ) (hr : MuLe μr μp) {cs' : List Nat} {oI' : Obj} (h : ItS w (upd μ e.I oI') e.I e.q cs') (hc : ∀ c ∈ cs', c < many) :
    FW w many μr μp (upd μ e.I oI') va V IS qS as sa ({ e with cs := cs' } :: E) := by
  obtain ⟨a1, a2, a3, a4, a5, a6⟩ := F.top hp hr (upd μ e.I oI') fun b o eb ne => mu_ch eb ne
  have X := F.ents e List.mem_cons_self
  refine ⟨a1, a2, F.nsa, fun e' he' => ?_, F.nd, F.nqS, fun e' he' => ?_, F.hgt, fun e' he' => ?_⟩
  · rcases List.mem_cons.mp he' with rfl | he'
    · exact ⟨a4, X.nt, h, X.it.nI, X.it.nq⟩
    · exact a3 e' he'
  · rcases List.mem_cons.mp he' with rfl | he'
    · exact F.nq e List.mem_cons_self
    · exact F.nq e' (List.mem_cons_of_mem _ he')
  · rcases List.mem_cons.mp he' with rfl | he'
    · exact ⟨(F.lt e List.mem_cons_self).1, hc⟩
    · exact F.lt e' (List.mem_cons_of_mem _ he')
theorem FB.neS (F : FB w many μr μp μ va V IS qS as) {so : Obj} {vs : List Value} (es : μ sa = some so) (hs : lstO vs so) (nq : qS ≠ sa) (hp : MuLe μp μ) (hr : MuLe μr μp) (nsa : Nn μp sa) {so' : Obj} : FB w many μr μp (upd μ sa so') va V IS qS as := by
  obtain ⟨⟨vo, ev, hv⟩, nva, it, v1, v2, v3⟩ := F
  have c1 := hv.cls
  obtain ⟨n, rfl⟩ := hs
  refine ⟨⟨vo, mu_ch ev (ne_cls ev es (by rw [c1]; show _ ≠ Value.type "list"; decide)), hv⟩, nva, it.re (fun b o hb eb nn => ⟨mu_ch eb ?_, nn⟩) (hr.trans hp) (hr.trans (le_upd hp nsa)), v1, v2, v3⟩
  rcases hb with rfl | rfl
  · exact it.it.neI es (by show Value.type "list" ≠ _; decide) (by show Value.type "list" ≠ _; decide)
  · exact nq
theorem EntOk.neS {e : Ent} (X : EntOk w μr μp μ e) {so : Obj} {vs : List Value} (es : μ sa = some so) (hs : lstO vs so) (nq : e.q ≠ sa) (hp : MuLe μp μ) (hr : MuLe μr μp) (nsa : Nn μp sa) {so' : Obj} : EntOk w μr μp (upd μ sa so') e := by
  obtain ⟨n, rfl⟩ := hs
  refine X.re (fun b o hb eb nn => ⟨mu_ch eb ?_, nn⟩) (hr.trans hp) (hr.trans (le_upd hp nsa))
  rcases hb with rfl | rfl | rfl
  · obtain ⟨ot, tk, et, n, rfl⟩ := X.tup
    exact ne_cls et es (by show Value.type "tuple" ≠ Value.type "list"; decide)
  · exact X.it.it.neI es (by show Value.type "list" ≠ _; decide) (by show Value.type "list" ≠ _; decide)
  · exact nq
/-- the top is taken off, its iterator at its end -/
theorem FW.pop {e : Ent} (F : FW w many μr μp μ va V IS qS as sa (e :: E)) (hp : MuLe μp μ) (hr : MuLe μr μp) {so' : Obj} (h : lstO (E.map fun e => Value.ref e.t).reverse so') :
    FW w many μr μp (upd (del μ e.I) sa so') va V IS qS as sa E := by
  obtain ⟨a1, ⟨so, es, hs⟩, a3, a4, a5, a6⟩ := F.top hp hr (del μ e.I) fun b o eb ne => del_of ne eb
  refine ⟨a1.neS es hs F.nqS a5 hr F.nsa, ⟨so', upd_self .., h⟩, F.nsa, fun e' he' => (a3 e' he').neS es hs (F.nq e' (List.mem_cons_of_mem _ he')) a5 hr F.nsa, ?_, F.nqS, fun e' he' => F.nq e' (List.mem_cons_of_mem _ he'), ?_, fun e' he' => F.lt e' (List.mem_cons_of_mem _ he')⟩
  · have nd := F.nd
    rw [List.map_cons, List.nodup_cons, List.nodup_cons] at nd
    rw [List.nodup_cons]
    exact ⟨fun q => nd.1 (List.mem_cons_of_mem _ q), nd.2.2⟩
  · have := F.hgt; simp at this; omega
/-- a new top -/
theorem FW.push {e : Ent} (F : FW w many μr μp μ va V IS qS as sa E) (hp : MuLe μp μ) (hr : MuLe μr μp) (k : MuLe μ μ') (nt : Nn μ e.t) (nI : Nn μ e.I) (nq : Nn μ e.q ∨ ∃ o, μr e.q = some o) (hit : ItS w μ' e.I e.q e.cs) (htup : ∃ ot tk, μ' e.t = some ot ∧ tupO [.int (e.p : Int) tk, .ref e.I] ot)
    (hg : E.length < 20) (hlt : e.p < many ∧ ∀ c ∈ e.cs, c < many) {so' : Obj} (h : lstO ((e :: E).map fun e => Value.ref e.t).reverse so') : FW w many μr μp (upd μ' sa so') va V IS qS as sa (e :: E) := by
  have F' := F.ov (Ov.mono k) (hr.trans hp) (hr.trans (hp.trans k))
  obtain ⟨so, es, hs⟩ := F'.stk
  have hp' := hp.trans k
  have X : EntOk w μr μp μ' e := ⟨htup, hp.nn nt, hit, hp.nn nI, nq.imp (fun n => hp.nn n) id⟩
  have nqs : e.q ≠ sa := fun q => by
    rcases nq with n | ⟨o, eo⟩
    · obtain ⟨so0, es0, _⟩ := F.stk
      rw [q] at n; exact nn_not n es0
    · rw [q] at eo; exact nn_not F.nsa (hr _ _ eo)
  refine ⟨F'.b.neS es hs F.nqS hp' hr F.nsa, ⟨so', upd_self .., h⟩, F.nsa, fun e' he' => ?_, ?_, F.nqS, fun e' he' => ?_, by simp; omega, fun e' he' => ?_⟩
  · rcases List.mem_cons.mp he' with rfl | he'
    · exact X.neS es hs nqs hp' hr F.nsa
    · exact (F'.ents e' he').neS es hs (F.nq e' he') hp' hr F.nsa
  · have nd := F.nd
    rw [List.nodup_cons] at nd
    rw [List.map_cons, List.nodup_cons, List.nodup_cons]
    refine ⟨fun q => ?_, fun q => ?_, nd.2⟩
    · rcases List.mem_cons.mp q with q | q
      · obtain ⟨oI, eI, _⟩ := F.b.it.it.cI
        rw [q] at eI; exact nn_not nI eI
      · exact nd.1 q
    · obtain ⟨e', he', z⟩ := List.mem_map.mp q
      obtain ⟨oI, eI, _⟩ := (F.ents e' he').it.it.cI
      rw [z] at eI; exact nn_not nI eI
  · rcases List.mem_cons.mp he' with rfl | he'
    · exact nqs
    · exact F.nq e' he'
  · rcases List.mem_cons.mp he' with rfl | he'
    · exact hlt
    · exact F.lt e' he'
/-- the first entry -/
theorem FB.first {e : Ent} (F : FB w many μr μp μ va V IS qS as) (hp : MuLe μp μ) (hr : MuLe μr μp) (k : MuLe μ μ') (nt : Nn μ e.t) (nI : Nn μ e.I) (nq : Nn μ e.q ∨ ∃ o, μr e.q = some o) (hit : ItS w μ' e.I e.q e.cs) (htup : ∃ ot tk, μ' e.t = some ot ∧ tupO [.int (e.p : Int) tk, .ref e.I] ot)
    (hlt : e.p < many ∧ ∀ c ∈ e.cs, c < many) (es : ∃ so, μ' sa = some so ∧ lstO [Value.ref e.t] so) (nsa : Nn μ sa) (nqs : e.q ≠ sa) : FW w many μr μp μ' va V IS qS as sa [e] := by
  have F' := F.ov (Ov.mono k) (hr.trans hp) (hr.trans (hp.trans k))
  have X : EntOk w μr μp μ' e := ⟨htup, hp.nn nt, hit, hp.nn nI, nq.imp (fun n => hp.nn n) id⟩
  refine ⟨F', by simpa using es, hp.nn nsa, fun e' he' => ?_, ?_, fun q => ?_, fun e' he' => ?_, by simp, fun e' he' => ?_⟩
  · rw [List.mem_singleton.mp he']; exact X
  · simp only [List.map_cons, List.map_nil, List.nodup_cons, List.mem_singleton, List.not_mem_nil, not_false_eq_true, List.nodup_nil, and_true]
    intro q
    obtain ⟨oI, eI, _⟩ := F.it.it.cI
    rw [q] at eI; exact nn_not nI eI
  · obtain ⟨oq, eq, _⟩ := F.it.it.cQ
    rw [q] at eq; exact nn_not nsa eq
  · rw [List.mem_singleton.mp he']; exact nqs
  · rw [List.mem_singleton.mp he']; exact hlt
end
end
end

/-! M0s -/
section
open PySem PySem.W PySem.W.X PyProof.Rows PySem.Calls
def dEnv (Lg : Addr) : Env := envOfC "dfs_edges" (scopeS dfsS) Lg 30 (.ref 29)
def fr1 (env : Env) (p : Pos) : Frame := retF (.func (bodyS dfsS) env) env (seqK [] env funK (funH env)) (funH env) p
def cF1 (env : Env) (IS : Addr) : Code := .forLoop (tgtS sFor1) (.ref IS) (bodyS sFor1) (elseS sFor1) env
def fr2 (env : Env) (IS : Addr) (p : Pos) : Frame := retF (cF1 env IS) env (seqK [] env (forK (tgtS sFor1) (.ref IS) (bodyS sFor1) (elseS sFor1) env) (raiseH env)) (raiseH env) p
def cW (env : Env) : Code := .whileLoop (tgtS sWh) (bodyS sWh) (elseS sWh) env
def fr3 (env : Env) (p : Pos) : Frame := retF (cW env) env (seqK [] env (whK (tgtS sWh) (bodyS sWh) (elseS sWh) env) (raiseH env)) (raiseH env) p
def cF2 (env : Env) (I : Addr) : Code := .forLoop (tgtS sFor2) (.ref I) (bodyS sFor2) (elseS sFor2) env
structure MB (m : Str → Option Value) (va : Addr) (gv : Value) (D : Nat) : Prop where
  vis : m "visited" = some (.ref va)
  gc : m "get_children" = some gv
  dl : ∃ t, m "depth_limit" = some (.int (D : Int) t)
structure MW (m : Str → Option Value) (va : Addr) (gv : Value) (D : Nat) (sa : Addr) (n : Nat) : Prop where
  b : MB m va gv D
  st : m "stack" = some (.ref sa)
  dn : ∃ t, m "depth_now" = some (.int (n : Int) t)
/-- what get_children is: its children come as an iterator -/
structure Ch (w : World) (g : Heap) (μr μf : Mu) (many : Nat) (gv : Value) (Rf : Nat → List Nat) : Prop where
  keep : ∀ h : Heap, ((∀ a o, μf a = some o → h.get? a = some o) ∧ (hd.heap_39 w.params).In h) → ∃ k, (k = Keeper.frame ∨ k = Keeper.machine ∨ k = Keeper.boundFrame) ∧ Looks (model PR w) h (keeperOf gv) k
  run : ∀ {A : Around} {E : Value → Shared → Prop} {s : Shared} {L : Addr} {m : Str → Option Value} {μ : Mu} (c : Nat) (t : Tok) (Q : Value → Shared → Prop), A.handled = none → A.depth + 20 < recursionLimit → St g L m μ s.heap → MuLe μr μ → MuLe μf μ → c < many →
    (∀ h' tk' μ' I q, St g L m μ' h' → MuLe μ μ' → Nn μ I → ItS w μ' I q (Rf c) → (Nn μ q ∨ ∃ o, μr q = some o) → Q (.ref I) { s with heap := h', toks := tk' }) → wpAny (model PR w) A (call gv [.int (c : Int) t] []) Q E s
section
variable {w : World} {prog : Program} {A : Around} {E : Value → Shared → Prop} {s : Shared} {g : Heap} {L : Addr} {m : Str → Option Value} {μ : Mu} {env : Env} {mg mb : Str → Option Value}
theorem r_callWithP {M : Model} {pos : Pos} {f : Value} {first : List Value} {Q : Value → Shared → Prop} {P : Heap → Prop} {e : Expr} {rest : List Expr} (hk : ∀ h, P h → ∃ k, (k = Keeper.frame ∨ k = Keeper.machine ∨ k = Keeper.boundFrame) ∧ Looks M h (keeperOf f) k)
    (h : wpAny M A (spliced (backTo pos (starEach (e :: rest) env))) (fun vs s₁ => P s₁.heap ∧ wpAny M A (call f (first ++ vs)) Q E s₁) E s)
    (he : starEach (e :: rest) env = (false, eval e env) :: starEach rest env := by rfl) (hplain : (backTo pos (starEach rest env)).any (·.1) = false := by rfl) :
    wpAny M A (callWith pos f first (backTo pos (starEach (e :: rest) env)) []) Q E s := by
  rw [he] at h ⊢
  exact callWith_of (by show ((false || (backTo pos (starEach rest env)).any (·.1)) || false) = false; rw [hplain]; rfl) hk (evalArgs_plain h)
/-- get_children(x) -/
theorem r_getCh {μr μf : Mu} {many : Nat} {gv : Value} {Rf : Nat → List Nat} {x : Str} {p1 p2 : Pos} {c : Nat} {t : Tok} {Q : Value → Shared → Prop} (X : Ch w g μr μf many gv Rf) (G : Gd w mg mb g) (S : St g L m μ s.heap) (hh : A.handled = none) (hd' : A.depth + 20 < recursionLimit)
    (hr : MuLe μr μ) (hf : MuLe μf μ) (hc : c < many) (e2 : m x = some (.int (c : Int) t))
    (h : ∀ h' tk' μ' I q, St g L m μ' h' → MuLe μ μ' → Nn μ I → ItS w μ' I q (Rf c) → (Nn μ q ∨ ∃ o, μr q = some o) → Q (.ref I) { s with heap := h', toks := tk' })
    (hL : env.locals = L := by rfl) (hk : env.scope.kind = .function := by rfl) (hl2 : env.kindOf x = some .local := by rfl) (hd2 : (x == ("__debug__" : Str)) = false := by decide) :
    wpAny (model PR w) A (callWith p1 gv [] (backTo p1 (starEach [.Name x p2] env)) []) Q E s := by
  refine r_callWithP X.keep ?_
  refine spliced_more ?_
  refine r_ld S e2 ?_ hL hk hl2 hd2
  refine spliced_none ?_
  refine ⟨⟨fun a o e => S.get (hf _ _ e), G.keeps S⟩, ?_⟩
  exact X.run c t Q hh hd' S hr hf hc h
end
end

/-! M0t -/
section
open PySem PySem.W PySem.W.X PyProof.Rows PySem.Calls
def GenO (n : Nat) (o : Obj) : Prop := o.cls = .type "generator" ∧ (∃ nm qn, o.data = .fields #[.int n 0, nm, qn]) ∧ o.slots = #[]
theorem GenO.isGen {h : Heap} {a : Addr} {n : Nat} {o : Obj} (x : GenO n o) (e : h.get? a = some o) : h.IsGen a n := let ⟨c, ⟨nm, qn, d⟩, s⟩ := x; ⟨o, nm, qn, e, c, d, s⟩
section
variable {w : World} {prog : Program} {A : Around} {E : Value → Shared → Prop} {s : Shared} {g : Heap} {L : Addr} {m : Str → Option Value} {μ : Mu} {env : Env} {mg mb : Str → Option Value}
/-- a generator function is called -/
theorem r_callGen {f : Addr} {name qual : Str} {params : Arguments} {body : List Stmt} {scope : Scope} {dV kV doc pm cdv ct oc : Value} {an od : Option Addr} {osl : Array (Option Value)} {args : List Value} {kw : List (Str × Value)} {binds : List (Str × Value)} {Q : Value → Shared → Prop}
    (G : Gd w mg mb g) (S : St g L m μ s.heap)
    (ho : (hd.heap_39 w.params).lookup f = some ⟨oc, od, .func (fnOf name qual params body scope dV kV doc pm an cdv ct), osl⟩)
    (hcd : codeIn (hd.heap_39 w.params) cdv qual = true) (hroom : A.depth < recursionLimit)
    (hbind : BindsTo s (fnOf name qual params body scope dV kV doc pm an cdv ct) ⟨args, kw⟩ binds)
    (hkind : ∀ n, ∀ x ∈ binds, scope.names.lookup x.1 = some .local ∨ (scope.names.lookup x.1 = some .cell ∧ ((cellsFrom (n + 1) scope.names []).lookup x.1).isSome = true))
    (h : ∀ oG Lg cells h' tk' ga og, NsObj oG (bindL (envOfC qual scope Lg f cdv).kindOf binds fun _ => none) → Nn μ Lg → g.objs.size ≤ Lg → NnAll (upd μ Lg oG) cells → CellsAre (bindC (envOfC qual scope Lg f cdv).kindOf binds fun _ => none) (cellsFrom (Lg + 1) scope.names []) cells →
      Nn (cellMu (upd μ Lg oG) cells) ga → GenO s.gens.size og → St g L m (upd (cellMu (upd μ Lg oG) cells) ga og) h' →
      Q (.ref ga) { s with heap := h', toks := tk', gens := s.gens.push (.fresh (.func body (envOfC qual scope Lg f cdv))) })
    (hco : scope.isCoroutine = false := by rfl) (hgen : scope.isGenerator = true := by rfl) (hk : scope.kind = .function := by rfl) (hnd : ((cellsFrom 0 scope.names []).map (·.1)).Nodup := by decide) :
    wpAny (model prog w) A (call (.ref f) args kw) Q E s := by
  refine wpAny_call ?_
  have hget : s.heap.get? f = some ⟨oc, od, .func (fnOf name qual params body scope dV kV doc pm an cdv ct), osl⟩ := S.fr.keep _ _ (G.K _ _ ho)
  refine codeAny_call_generator hroom hget rfl hco hgen rfl ((codeRec_of G.K hcd).keeps S.fr.keep) ?_
  refine hbind _ _ _ _ ?_
  refine wpAny_newFunctionEnv_cells hk (hkind _) fun env he s' X => ?_
  obtain ⟨h₁, tk, rfl, keep⟩ := X.done
  subst he
  refine ⟨(G.nolimit.keeps S.fr.keep).keeps keep, ?_⟩
  have hns : h₁.Ns s.heap.objs.size (bindL (envOfC qual scope s.heap.objs.size f cdv).kindOf binds fun _ => none) := X.toInCall.ns
  obtain ⟨oG, eG, nG⟩ := ns_obj hns
  have hle : g.objs.size ≤ s.heap.objs.size := Nat.le_trans S.fr.above (Nat.le_of_lt S.lt)
  have S₁ : St g L m (upd μ s.heap.objs.size oG) h₁ := (S.keep keep).add eG (Nat.ne_of_gt S.lt) ⟨Heap.get?_none_of_le hle, S.sizelo⟩
  have hnd' : ((cellsFrom (s.heap.objs.size + 1) scope.names []).map (·.1)).Nodup := cellsFrom_names scope.names 0 (s.heap.objs.size + 1) [] [] rfl ▸ hnd
  obtain ⟨cells, C1, C2, C3⟩ := cells_in (cm := bindC (envOfC qual scope s.heap.objs.size f cdv).kindOf binds fun _ => none) (cellsFrom (s.heap.objs.size + 1) scope.names []) _ S₁ (fun n c hm => by
    have hc := X.cell n c (lookup_of_mem_nodup hnd' hm)
    have hlt : s.heap.objs.size < c := X.above n c hm
    have hle' : g.objs.size ≤ c := Nat.le_trans hle (Nat.le_of_lt hlt)
    refine ⟨hc, Nat.lt_trans S.lt hlt, ?_, Heap.get?_none_of_le hle', fun q => ?_⟩
    · refine nn_upd (Nat.ne_of_gt hlt) ?_
      show μ c = none
      cases e : μ c with
      | none => rfl
      | some o => exact absurd (Heap.lt_size (S.get e)) (Nat.not_lt.mpr (Nat.le_of_lt hlt))
    · have := S.lo; rw [← q] at this; exact absurd this (Nat.not_lt.mpr hle')) X.apart
  exact h oG _ cells _ _ _ _ nG S.none_size hle C2 C1 C3.none_size ⟨rfl, ⟨_, _, rfl⟩, rfl⟩ (C3.alloc _ rfl)
end
end

/-! M0u -/
section
open PySem PySem.W PySem.W.X PyProof.Rows PySem.Calls
/-- from the greatest to the least -/
def downL (row : List Nat) : List Nat := row.mergeSort (fun a b => decide (a ≥ b))
theorem downL_perm (row : List Nat) : (downL row).Perm row := List.mergeSort_perm ..
theorem downL_eq {row row' : List Nat} (hp : row'.Perm row) (hs : row'.Pairwise (· ≥ ·)) : row' = downL row := by
  refine List.Perm.eq_of_pairwise (le := (· ≥ ·)) (fun a b _ _ h1 h2 => by omega) hs ?_ (hp.trans (downL_perm row).symm)
  have := List.pairwise_mergeSort (le := fun a b => decide (a ≥ b)) (fun a b c h1 h2 => by have := of_decide_eq_true h1; have := of_decide_eq_true h2; exact decide_eq_true (by omega)) (fun a b => by
    rcases Nat.le_total a b with h | h
    · simp [h]
    · simp [h]) row
  exact this.imp fun h => of_decide_eq_true h
section
variable {w : World} {prog : Program} {A : Around} {E : Value → Shared → Prop} {s : Shared} {g : Heap} {L : Addr} {m : Str → Option Value} {μ : Mu} {env : Env} {mg mb : Str → Option Value}
/-- a lambda is called -/
theorem r_callLam {f c' : Addr} {name qual : Str} {params : Arguments} {body : Expr} {scope : Scope} {cl : List (Str × Addr)} {pm ctv : Value} {oc : Obj} {vs : Array Value} {t : Tok} {args : List Value} {binds : List (Str × Value)} {Q : Value → Shared → Prop}
    (G : Gd w mg mb g) (S : St g L m μ s.heap) (ef : μ f = some (kla_obj name qual params body scope cl pm c' ctv)) (ec : μ c' = some oc) (hd : oc.data = .fields vs) (hv : vs[1]? = some (.str qual t)) (hroom : A.depth < recursionLimit)
    (hbind : bindArgs (kla_fn name qual params body scope cl pm (.ref c') ctv) ⟨args, []⟩ = pure binds) (hloc : ∀ y ∈ binds, scope.names.lookup y.1 = some .local)
    (h : ∀ oL L' h₁ tk (E' : Value → Shared → Prop), NsObj oL m → Nn μ L → St g L' (fun x => binds.reverse.lookup x) (upd μ L oL) h₁ →
      wpAny (model prog w) (A.deeper (envX qual scope L' f (.ref c') cl)) (eval body (envX qual scope L' f (.ref c') cl))
        (fun v s' => ∃ m' μ' h' tk', s' = { s with heap := h', toks := tk' } ∧ St g L' m' μ' h' ∧ μ' L = some oL ∧ (St g L m (del μ' L) h' → Q v s')) E' { s with heap := h₁, toks := tk })
    (hco : scope.isCoroutine = false := by rfl) (hgen : scope.isGenerator = false := by rfl) (hk : scope.kind = .function := by rfl)
    (hcell : ∀ x ∈ scope.names, x.2 ≠ .cell := by decide) : codeAny (model prog w) A (.call (.ref f) ⟨args, []⟩) (WantV Q E) s := by
  refine kla_callFunE hroom (S.get ef) rfl hco hgen rfl ⟨c', oc, vs, t, rfl, S.get ec, hd, hv⟩ ?_
  rw [hbind]
  obtain ⟨oL, eL, nL⟩ := ns_obj S.fr.ns
  have hμL := S.nn
  refine wpAny_pure (wpAny_newFunctionEnv hcell hloc (fun h₁ hns hsb => ⟨(G.nolimit.keeps S.fr.keep).fresh _ hsb, ?_⟩) hk)
  show codeAny _ _ (.expr body (envX qual scope s.heap.objs.size f (.ref c') cl)) _ _
  have keep : ∀ b o, s.heap.get? b = some o → h₁.get? b = some o := fun b o e => hsb.extBut b o (Nat.ne_of_lt (Heap.lt_size e)) (Heap.get?_push_of_some _ e)
  have S₁ : St g s.heap.objs.size (fun x => binds.reverse.lookup x) (upd μ L oL) h₁ := by
    refine ⟨⟨hns, fun b o e => keep b o (S.fr.keep b o e), Nat.le_trans S.fr.above (Nat.le_of_lt S.lt)⟩, fun a o e => ?_, S.lo⟩
    by_cases q : a = L
    · subst q
      rw [upd_self] at e
      cases e
      exact ⟨keep _ _ eL, Nat.ne_of_lt S.lt, Heap.get?_none_of_le S.fr.above, S.Llo⟩
    · rw [upd_ne q] at e
      have z := S.mu a o e
      exact ⟨keep _ _ z.1, Nat.ne_of_lt (Heap.lt_size z.1), z.2.2⟩
  refine kla_codeExpr (wpAny_mono (h oL s.heap.objs.size h₁ _ _ nL hμL S₁) (fun v s' hq => ?_) fun _ _ x => x)
  obtain ⟨m', μ', h', tk', rfl, S', hL', r⟩ := hq
  exact r (S'.leave hL' nL S.fr.above fun a o e => del_some e)
/-- iter(l) -/
theorem r_iterList {l : Addr} {o : Obj} {vs : List Value} {Q : Value → Shared → Prop} (S : St g L m μ s.heap) (hl : μ l = some o) (ho : lstO vs o)
    (h : ∀ I h' oI, Nn μ I → oI.cls = .type "list_iterator" → oI.data = .fields #[.ref l, .int 0 0] → St g L m (upd μ I oI) h' → Q (.ref I) { s with heap := h' }) :
    wpAny (model PR w) A (call (.builtin "iter") [.ref l] []) Q E s := by
  refine call_function_entry (by decide +kernel) (by decide +kernel) kdk_entry_iter (kdk_args_iter _) ?_
  unfold Builtin.«iter»
  refine wpAny_bind (m := someArgs "iter" 1 2 _) (wpAny_of_eq (a := [Value.ref l]) (by first | rfl | kernel_rfl!) ?_)
  show wpAny _ _ (pyIter (.ref l) >>= _) _ _ _
  refine wpAny_bind (wpAny_pyIter_list (ho.isList (S.get hl)) ?_)
  exact wpAny_pure ⟨_, rfl, h _ _ _ S.none_size rfl rfl (S.alloc _ rfl)⟩
end
end

/-! M0v -/
section
open PySem PySem.W PySem.W.X PyProof.Rows PySem.Calls
def offMu (lx : Option Addr) (μ3 : Mu) : Mu := fun b => if some b = lx then none else μ3 b
def firstMu (lx : Option Addr) (L : Addr) (μ μg μ3 : Mu) : Mu := fun b => if b = L then none else if some b = lx then none else match μ b, μg b with
  | some _, none => none
  | _, _ => μ3 b
section
variable {g : Heap} {μr μ μg μ2 μ3 : Mu} {L Lg : Addr} {mL m : Str → Option Value} {lx : Option Addr} {h h3 : Heap}
theorem firstMu_of {b : Addr} {o : Obj} (e : μ3 b = some o) (h1 : b ≠ L) (h2 : some b ≠ lx) (h3 : Nn μ b ∨ ∃ o, μg b = some o) : firstMu lx L μ μg μ3 b = some o := by
  unfold firstMu
  rw [if_neg h1, if_neg h2]
  rcases h3 with h3 | ⟨o', h3⟩
  · have h3' : μ b = none := h3
    rw [h3']; exact e
  · rw [h3]
    cases μ b <;> exact e
theorem firstMu_le : MuLe (firstMu lx L μ μg μ3) μ3 := fun b o e => by
  unfold firstMu at e
  split at e; · cases e
  split at e; · cases e
  split at e
  · cases e
  · exact e
theorem off_le : MuLe (offMu lx μ3) μ3 := fun b o e => by
  unfold offMu at e
  split at e
  · cases e
  · exact e
theorem Cx.start {oL : Obj} (hr : MuLe μr μ) (dis : ∀ b o, μr b = some o → Nn μg b) (S : St g L mL μ h) (hg : MuLe μg μ) (S3 : St g Lg m μ3 h3) (nL : NsObj oL mL) (eL : μ3 L = some oL) (kp : ∀ b o, μ b = some o → b ≠ Lg → b ≠ 25 → μ3 b = some o)
    (eg : ∃ o, μg Lg = some o) (e25 : ∃ o, μg 25 = some o) (ab : g.objs.size ≤ Lg) (hl : ∀ l, lx = some l → Nn μ l ∧ l ≠ L)
    (T : TabR (μ3 25) fun c o => c ≠ 25 ∧ μ3 c = some o ∧ ((∃ o, μr c = some o) ∨ (Nn μ c ∧ c ≠ L ∧ some c ≠ lx))) :
    Cx g μr (firstMu lx L μ μg μ3) L mL μ μg (offMu lx μ3) Lg ∧ MuLe μr (offMu lx μ3) := by
  have n0 := S.nn
  have hk : ∀ b o, μ b = some o → Nn μg b → offMu lx μ3 b = some o := fun b o e n => by
    have h1 : b ≠ Lg := fun q => by obtain ⟨o', e'⟩ := eg; rw [q] at n; exact nn_not n e'
    have h2 : b ≠ 25 := fun q => by obtain ⟨o', e'⟩ := e25; rw [q] at n; exact nn_not n e'
    have h3 : some b ≠ lx := fun q => nn_not (hl b q.symm).1 e
    unfold offMu
    rw [if_neg h3]; exact kp _ _ e h1 h2
  have hrp : MuLe μr (offMu lx μ3) := fun b o e => hk _ _ (hr _ _ e) (dis _ _ e)
  have hL : some L ≠ lx := fun q => (hl L q.symm).2 rfl
  refine ⟨⟨⟨oL, by unfold offMu; rw [if_neg hL]; exact eL, nL⟩, S.fr.above, n0, hk, fun b o e => ?_, fun b n ⟨o, e⟩ => ?_, hr, hrp, fun b o e => ?_, if_pos rfl, eg, ab, ?_⟩, hrp⟩
  · unfold firstMu at e
    unfold offMu
    split at e; · cases e
    split at e; · cases e
    rename_i h1 h2
    rw [if_neg h2]
    split at e
    · cases e
    · exact e
  · show firstMu lx L μ μg μ3 b = none
    have n' : μg b = none := n
    unfold firstMu
    rw [e, n']
    split; · rfl
    split; · rfl
    rfl
  · show firstMu lx L μ μg μ3 b = none
    have n' : μg b = none := dis _ _ e
    unfold firstMu
    rw [hr _ _ e, n']
    split; · rfl
    split; · rfl
    rfl
  · obtain ⟨o25, e25⟩ := e25
    have h1 : (25 : Addr) ≠ L := fun q => by rw [q] at e25; exact nn_not n0 (hg _ _ e25)
    have h2 : some (25 : Addr) ≠ lx := fun q => nn_not (hl 25 q.symm).1 (hg _ _ e25)
    refine (TabR.imp (fun c o ⟨a, b, k⟩ => ⟨a, ?_⟩) T).at fun o e => firstMu_of e h1 h2 (.inr ⟨_, e25⟩)
    rcases k with ⟨o', k⟩ | ⟨k1, k2, k3⟩
    · have := off_le _ _ (hrp _ _ k)
      rw [b] at this; cases this
      exact .inr k
    · exact .inl (firstMu_of b k2 k3 (.inl k1))
end
end

/-! M0w -/
section
open PySem PySem.W PySem.W.X PyProof.Rows PySem.Calls
theorem bare_set {a : Array GenState} {n : Nat} {x : GenState} (h : AllBare a) (hx : x.bare = true) : AllBare (a.setIfInBounds n x) := fun y hy => by
  rcases Array.mem_or_eq_of_mem_setIfInBounds hy with hy | rfl
  · exact h y hy
  · exact hx
theorem segx_quiet {M : Model} {A : Around} {c : Code} {t : Sem Fin} {fs : List Frame} {s : Shared} {P : End → Shared → Prop} (x : SegX M A c t fs s P) : SegX M A c t fs s fun e s' => P e s' ∧ e.quiet = true := fun Γ p hc hΓ => by
  obtain ⟨e, s', hr, hq, hp⟩ := x Γ p hc hΓ
  exact ⟨e, s', hr, hq, hp, hq⟩
structure GenAt (w : World) (g : Heap) (μr : Mu) (due : List Edge) (n : Nat) (gens : Array GenState) (ga : Addr) (μg μ : Mu) : Prop where
  ob : ∃ og, μ ga = some og ∧ GenO n og
  nga : Nn μg ga
  st : ∃ gs, gens[n]? = some gs ∧ GGo w g μr due gs μg
  own : MuLe μg μ
  rd : MuLe μr μ
theorem GenAt.mono {w : World} {g : Heap} {μr : Mu} {due : List Edge} {n : Nat} {gens : Array GenState} {ga : Addr} {μg μ μ' : Mu} (X : GenAt w g μr due n gens ga μg μ) (k : ∀ b o, μ b = some o → (b = ga ∨ (∃ o, μg b = some o) ∨ ∃ o, μr b = some o) → μ' b = some o) : GenAt w g μr due n gens ga μg μ' :=
  ⟨let ⟨og, e, h⟩ := X.ob; ⟨og, k _ _ e (.inl rfl), h⟩, X.nga, X.st, fun b o e => k _ _ (X.own _ _ e) (.inr (.inl ⟨o, e⟩)), fun b o e => k _ _ (X.rd _ _ e) (.inr (.inr ⟨o, e⟩))⟩
section
variable {w : World} {A : Around} {E : Value → Shared → Prop} {s : Shared} {g : Heap} {L : Addr} {m : Str → Option Value} {μ : Mu} {mg mb : Str → Option Value} {μr μg : Mu} {due : List Edge} {n : Nat} {ga : Addr}
/-- what one step of a generator leaves -/
def StepG (w : World) (g : Heap) (L : Addr) (m : Str → Option Value) (μr μg μ : Mu) (n : Nat) (ga : Addr) (due : List Edge) (K : Option Value → Shared → Prop) (s : Shared) : Prop := match due with
  | [] => ∀ h' tk' gens' μ', St g L m μ' h' → (∀ b o, μ b = some o → Nn μg b → μ' b = some o) → TabOk μ' → (AllBare s.gens → AllBare gens') → K none { s with heap := h', toks := tk', gens := gens' }
  | d :: rest => ∀ h' tk' gens' μ' μg' t ot ta tb, St g L m μ' h' → (∀ b o, μ b = some o → Nn μg b → μ' b = some o) → (Nn μg t → Nn μ t) → μ' t = some ot → tupO [.int (d.1 : Int) ta, .int (d.2 : Int) tb] ot → Nn μg' t → t ≠ ga → GenAt w g μr rest n gens' ga μg' μ' →
      (∀ b, Nn μg b → (∃ o, μ b = some o) → Nn μg' b) → (AllBare s.gens → AllBare gens') → K (some (.ref t)) { s with heap := h', toks := tk', gens := gens' }
theorem r_nextGen {K : Option Value → Shared → Prop} (G : Gd w mg mb g) (hh : A.handled = none) (hroom : A.depth + 60 < recursionLimit) (S : St g L m μ s.heap) (X : GenAt w g μr due n s.gens ga μg μ) (h : StepG w g L m μr μg μ n ga due K s) :
    wpAny (model PR w) A (pyNext (.ref ga)) K E s := by
  obtain ⟨⟨og, eo, ho⟩, nga, ⟨gs, hgs, X5⟩, own, rd⟩ := X
  rw [GGo_eq] at X5
  obtain ⟨dis, c₀, t₀, fs₀, hrest, seg⟩ := X5
  refine r_pyNextGen hh (G.nolimit.keeps S.fr.keep) (by omega) (ho.isGen (S.get eo)) hgs hrest ?_
  refine (segx_quiet (seg A.in1 (s.setGen n .running) L m μ (by exact hh) (by simp only [Around.in1]; omega) S rd own)).mono fun e s₁ hhe => ?_
  obtain ⟨he, hquiet⟩ := hhe
  have hbare : ∀ x : GenState, x.bare = true → AllBare s.gens → AllBare ((s.setGen n .running).setGen n x).gens := fun x hx hb => bare_set (bare_set hb rfl) hx
  have hself : ∀ x, ((s.setGen n .running).setGen n x).gens[n]? = some x := fun x => setGen_self (setGen_self hgs)
  cases due with
  | nil =>
    obtain ⟨rfl, h', tk', μ', rfl, S', k, T⟩ := he
    refine ⟨rfl, fun h2 hk => ?_⟩
    exact h h2 tk' _ μ' (S'.keep hk) k T (hbare _ rfl)
  | cons d rest =>
    obtain ⟨v, g', l, k, c, p, fs, rfl, h', tk', μ', μg', t, ot, ta, tb, rfl, rfl, S', kp, nt, et, ht, ngt, hle, hown, hn⟩ := he
    have ega := kp _ _ eo nga
    have hne : t ≠ ga := fun q => by
      rw [q, ega] at et; cases et
      obtain ⟨n', rfl⟩ := ht
      have := ho.1
      simp at this
    exact h h' tk' _ μ' μg' t ot ta tb S' kp nt et ht ngt hne ⟨⟨og, ega, ho⟩, hown _ nga ⟨_, eo⟩, ⟨_, hself _, hn⟩, hle, fun b o e => kp _ _ (rd _ _ e) (dis _ _ e)⟩ hown (hbare _ (End.bare_of_quiet hquiet))
/-- list.extend(gen), turn by turn -/
theorem ext_loopG {R : Result → Shared → Prop} {Sx : Addr} {res : Value} (G : Gd w mg mb g) (hh : A.handled = none) (hroom : A.depth + 65 < recursionLimit) : ∀ (due : List Edge) (μ μg : Mu) (s : Shared) (acc : List Value) (es : List Edge) (oS : Obj), St g L m μ s.heap → GenAt w g μr due n s.gens ga μg μ → μ Sx = some oS → Nn μg Sx → Nn μr Sx → lstO acc oS →
    (∃ ν, (∀ b o, ν b = some o → μ b = some o ∧ Nn μg b ∧ b ≠ Sx) ∧ PairsL ν acc es) → acc.length + due.length ≤ 1000 →
    (∀ h' tk' gens' oS' ivs μ', St g L m μ' h' → (∀ b o, μ b = some o → Nn μg b → b ≠ Sx → μ' b = some o) → μ' Sx = some oS' → lstO ivs oS' → PairsL μ' ivs (es ++ due) → TabOk μ' → (AllBare s.gens → AllBare gens') → R (.ok (.ret res)) { s with heap := h', toks := tk', gens := gens' }) →
    codeAny (model PR w) A (.builtin "list.extend.loop" ⟨[.ref Sx, .ref ga, res], []⟩) R s
  | [], μ, μg, s, acc, es, oS, S, X, eS, nS, nrS, hlo, ⟨ν, hν, hP⟩, hlen, hR => by
    refine codeAny_builtin PySem.F.entry_extend_loop ?_
    rw [Around.under_plainId PySem.F.plain_extend_loop _]
    show wpAny _ A.in1 (pyNext (.ref ga) >>= _) _ _ s
    refine wpAny_bind (r_nextGen G (by exact hh) (by simp only [Around.in1]; omega) S X fun h' tk' gens' μ' S' k T hb => ?_)
    refine wpAny_pure (hR h' tk' gens' oS acc μ' S' (fun b o e b1 b2 => k b o e b1) (k _ _ eS nS) hlo ?_ T hb)
    rw [List.append_nil]
    exact hP.mono fun b o e => let z := hν b o e; k b o z.1 z.2.1
  | d :: due, μ, μg, s, acc, es, oS, S, X, eS, nS, nrS, hlo, ⟨ν, hν, hP⟩, hlen, hR => by
    refine codeAny_builtin PySem.F.entry_extend_loop ?_
    rw [Around.under_plainId PySem.F.plain_extend_loop _]
    show wpAny _ A.in1 (pyNext (.ref ga) >>= _) _ _ s
    refine wpAny_bind (r_nextGen G (by exact hh) (by simp only [Around.in1]; omega) S X ?_)
    intro h' tk' gens' μ' μg' t ot ta tb S' k nt et ht ngt htga X' hown hb
    obtain ⟨nS0, rfl⟩ := id hlo
    have eS' := k _ _ eS nS
    have hS := S'.get eS'
    have htS : t ≠ Sx := fun q => by
      rw [q, eS'] at et; cases et
      exact lst_not_tup hlo ht
    have nS' := hown _ nS ⟨_, eS⟩
    show wpAny _ A.in1 (updateSeq Sx (·.push _) >>= _) _ _ _
    have hlen' : acc.length + (due.length + 1) ≤ 1000 := by simpa using hlen
    have S2 := S'.seq (f := (·.push (Value.ref t))) eS' rfl
    have hl2 : lstO (acc ++ [Value.ref t]) (Obj.mapSeq (·.push (Value.ref t)) ({ cls := .type "list", data := .seq acc.toArray nS0 } : Obj)) := ⟨_, by
      show ({ cls := .type "list", data := .seq (acc.toArray.push _) _ } : Obj) = _
      rw [List.push_toArray]⟩
    have hSga : Sx ≠ ga := fun q => by
      obtain ⟨og, eo, ho⟩ := X'.ob
      rw [← q, eS'] at eo; cases eo
      have := ho.1
      simp at this
    have hν' : ∀ b o, ν b = some o → μ' b = some o ∧ Nn μg' b ∧ b ≠ Sx := fun b o e => let z := hν b o e; ⟨k b o z.1 z.2.1, hown b z.2.1 ⟨o, z.1⟩, z.2.2⟩
    have ntν : ∀ o, ν t = some o → o = ot := fun o e => by have := (hν' t o e).1; rw [et] at this; exact (Option.some.inj this).symm
    refine wpAny_bind ?_
    refine wpAny_updateSeq hS rfl (wpAny_pure ⟨plainId_quiet PySem.F.plain_extend_loop _, ext_loopG G hh hroom due _ μg' _ (acc ++ [.ref t]) (es ++ [d]) _ S2 (X'.mono fun b o e hb => mu_ch e (fun q => ?_)) (upd_self ..) nS' nrS hl2 ⟨upd ν t ot, fun b o e => ?_, ?_⟩ (by rw [List.length_append, List.length_singleton]; omega) ?_⟩) ?_ ?_
    · rcases hb with rfl | ⟨o', hb⟩ | ⟨o', hb⟩
      · exact hSga q.symm
      · rw [q] at hb; exact nn_not nS' hb
      · rw [q] at hb; exact nn_not nrS hb
    · by_cases q : b = t
      · subst q; rw [upd_self] at e; cases e
        exact ⟨mu_ch et htS, ngt, htS⟩
      · rw [upd_ne q] at e
        have z := hν' b o e
        exact ⟨mu_ch z.1 z.2.2, z.2⟩
    · refine (hP.mono fun b o e => ?_).snoc (e := d) (upd_self ..) ht
      by_cases q : b = t
      · subst q; rw [ntν _ e]; exact upd_self ..
      · exact mu_ch e q
    · intro h'' tk'' gens'' oS'' ivs μ'' S'' k2 e'' hl hP2 T hb2
      refine hR h'' tk'' gens'' oS'' ivs μ'' S'' (fun b o eb b1 b2 => k2 b o (mu_ch (k b o eb b1) b2) (hown b b1 ⟨o, eb⟩) b2) e'' hl ?_ T (fun z => hb2 (hb z))
      rw [List.append_assoc] at hP2; exact hP2
    · show acc.toArray.size ≤ _
      rw [List.size_toArray, PySem.sizeLine_eq]; omega
    · show (acc.toArray.push _).size ≤ _
      rw [Array.size_push, List.size_toArray, PySem.sizeLine_eq]; omega
theorem hint_gen {I : Addr} {Q : Bool → Shared → Prop} (hT : s.TypeIs (.ref I) "generator") (h : ∀ b, Q b s) : wpAny (model PR w) A (Builtin.List.listLengthHint (.ref I)) Q E s := by
  unfold Builtin.List.listLengthHint
  refine wpAny_bind (wpAny_specialOf hT PySem.F.gen_no_len ?_)
  show wpAny _ A (specialOf (Value.ref I) (Str.ofString "__length_hint__") >>= _) _ _ _
  refine wpAny_bind (wpAny_specialOf hT PySem.F.gen_no_hint ?_)
  exact wpAny_pure (h _)
theorem GenAt.up {gens : Array GenState} {a : Addr} {o : Obj} (X : GenAt w g μr due n gens ga μg μ) (h : Nn μ a) : GenAt w g μr due n gens ga μg (upd μ a o) := X.mono fun b o e _ => mu_up e h
theorem GenAt.ch {gens : Array GenState} {a : Addr} {o : Obj} (X : GenAt w g μr due n gens ga μg μ) (h1 : a ≠ ga) (h2 : Nn μg a) (h3 : Nn μr a) : GenAt w g μr due n gens ga μg (upd μ a o) := X.mono fun b ob e hb => mu_ch e fun q => by
  rcases hb with rfl | ⟨o', hb⟩ | ⟨o', hb⟩
  · exact h1 q.symm
  · rw [q] at hb; exact nn_not h2 hb
  · rw [q] at hb; exact nn_not h3 hb
/-- list(gen) -/
theorem listGen {Q : Value → Shared → Prop} (G : Gd w mg mb g) (hh : A.handled = none) (hroom : A.depth + 80 < recursionLimit) (S : St g L m μ s.heap) (X : GenAt w g μr due n s.gens ga μg μ) (hlen : due.length ≤ 100)
    (h : ∀ h' tk' gens' μ' Sx oS vs, St g L m μ' h' → (∀ b o, μ b = some o → Nn μg b → μ' b = some o) → Nn μ Sx → μ' Sx = some oS → lstO vs oS → PairsL μ' vs due → TabOk μ' → (AllBare s.gens → AllBare gens') → Q (.ref Sx) { s with heap := h', toks := tk', gens := gens' }) :
    wpAny (model PR w) A (call (.type "list") [.ref ga] []) Q E s := by
  refine callType_codes (Q₁ := fun obj s₁ => obj = .ref s.heap.objs.size ∧ s₁ = { s with heap := s.heap.push { cls := .type "list", data := .seq #[] } }) PySem.F.called_list (PySem.F.typeCall_list_1 _) PySem.F.entry_list_init
    (code_list_new _ ⟨rfl, rfl⟩) fun obj s₁ h₁ => ?_
  obtain ⟨rfl, rfl⟩ := h₁
  have S1 := S.alloc { cls := .type "list", data := .seq #[] } rfl
  have hSn : Nn μ s.heap.objs.size := S.none_size
  have hS : (s.heap.push { cls := .type "list", data := .seq #[] }).get? s.heap.objs.size = some { cls := .type "list", data := .seq #[] } := Heap.get?_push_size _ rfl
  generalize s.heap.objs.size = Sx at S1 hSn hS ⊢
  generalize s.heap.push { cls := .type "list", data := .seq #[] } = h1 at S1 hS ⊢
  obtain ⟨og, eo, ho⟩ := X.ob
  have haS : ga ≠ Sx := ne_of_mu eo hSn
  have gS : Nn μg Sx := X.own.nn hSn
  have rS : Nn μr Sx := X.rd.nn hSn
  have X1 := X.up (o := { cls := .type "list", data := .seq #[] }) hSn
  refine ⟨⟨_, hS, rfl⟩, PySem.F.args_list_init_2 _ _, ?_⟩
  show wpAny _ _ (do let old ← Builtin.List.listItems (.ref Sx); Builtin.List.listUpdate (.ref Sx) (fun _ => #[]); letGo old.toList.reverse; Builtin.List.listExtendWith (.ref Sx) (.ref ga) .none) _ _ _
  refine wpAny_bind ?_
  unfold Builtin.List.listItems
  refine wpAny_bind (wpAny_seqItems hS rfl (wpAny_pure ?_))
  show wpAny _ _ (updateSeq Sx (fun _ => #[]) >>= fun _ => letGo (#[] : Array Value).toList.reverse >>= fun _ => Builtin.List.listExtendWith (.ref Sx) (.ref ga) .none) _ _ _
  refine wpAny_bind (wpAny_updateSeq hS rfl ?_)
  have S2 := S1.seq (f := fun _ => #[]) (upd_self ..) rfl
  refine wpAny_bind (wpAny_letGo ?_)
  have X2 := X1.ch (o := Obj.mapSeq (fun _ => #[]) { cls := .type "list", data := .seq #[] }) (Ne.symm haS) gS rS
  unfold Builtin.List.listExtendWith
  have eo2 : upd (upd μ Sx { cls := .type "list", data := .seq #[] }) Sx (Obj.mapSeq (fun _ => #[]) { cls := .type "list", data := .seq #[] }) ga = some og := mu_ch (mu_up eo hSn) haS
  refine wpAny_bind (((Looks.ld (S2.get eo2)).andThen .now : Looks (model PR w) _ (typeOf (.ref ga)) og.cls).here ?_)
  have hsame : Builtin.List.listSameRef (.ref Sx) (.ref ga) = false := by simp [Builtin.List.listSameRef, Ne.symm haS]
  have hc1 : (og.cls == .type "list") = false := by rw [ho.1]; decide
  have hc2 : (og.cls == .type "tuple") = false := by rw [ho.1]; decide
  simp only [hsame, hc1, hc2, Bool.or_false, Bool.false_eq_true, if_false]
  refine wpAny_bind (wpAny_pyIter_gen (ho.isGen (S2.get eo2)) ?_)
  refine wpAny_bind (wpAny_holding (hint_gen (ho.isGen (S2.get eo2)).typeIs fun b => ?_))
  have fin : ∀ h5 tk5 μ5 oS5, St g L m μ5 h5 → GenAt w g μr due n s.gens ga μg μ5 → μ5 Sx = some oS5 → lstO [] oS5 → (∀ b o, μ b = some o → b ≠ Sx → μ5 b = some o) →
      codeAny (model PR w) A.in1 (.builtin "list.extend.loop" ⟨[.ref Sx, .ref ga, .none], []⟩) (wants (fun r s₂ => r = .none ∧ Q (.ref Sx) s₂) E) { s with heap := h5, toks := tk5 } := fun h5 tk5 μ5 oS5 S5 X5 e5 hl5 k5 => by
    refine ext_loopG G (by exact hh) (by show A.depth + 65 < recursionLimit; omega) due μ5 μg { s with heap := h5, toks := tk5 } [] [] oS5 S5 X5 e5 gS rS hl5 ⟨fun _ => none, (fun _ _ e => nomatch e), .nil⟩ (by simp; omega) ?_
    intro h6 tk6 gens6 oS6 ivs μ6 S6 k6 e6 hl6 hP6 T hb6
    exact ⟨rfl, h h6 tk6 gens6 μ6 Sx oS6 ivs S6 (fun b o eb nb => k6 b o (k5 b o eb (ne_of_mu eb hSn)) nb (ne_of_mu eb hSn)) hSn e6 hl6 hP6 T hb6⟩
  refine wpAny_ite_split (fun _ => ?_) (fun _ => wpAny_pure ⟨plainId_quiet PySem.F.plain_extend_loop _, fin _ _ _ _ S2 X2 (upd_self ..) ⟨_, rfl⟩ fun b o e ne => mu_ch (mu_up e hSn) ne⟩)
  refine wpAny_bind (wpAny_rule ?_)
  refine wpAny_bind ?_
  show wpAny _ _ (updateSeq Sx (·.push .none) >>= fun _ => updateSeq Sx (·.pop)) _ _ _
  refine wpAny_bind (wpAny_updateSeq (S2.get (upd_self ..)) rfl ?_)
  have S5 := S2.seq (f := (·.push .none)) (upd_self ..) rfl
  refine wpAny_updateSeq (hz := by seq_fits) (S5.get (upd_self ..)) rfl ?_
  have S6 := S5.seq (f := (·.pop)) (upd_self ..) rfl
  exact wpAny_pure ⟨plainId_quiet PySem.F.plain_extend_loop _, fin _ _ _ _ S6 ((X2.ch (Ne.symm haS) gS rS).ch (Ne.symm haS) gS rS) (upd_self ..) ⟨_, rfl⟩ fun b o e ne => mu_ch (mu_ch (mu_ch (mu_up e hSn) ne) ne) ne⟩
end
end

/-! M0x -/
section
open PySem PySem.W PySem.W.X PyProof.Rows PySem.Calls PySem.SeqAt
section
variable {w : World} {A : Around} {E : Value → Shared → Prop} {s : Shared} {g : Heap} {L : Addr} {m : Str → Option Value} {μ : Mu} {env : Env} {mg mb : Str → Option Value}
/-! != of two lists of pairs -/
abbrev pairD (e : Edge) : PyData := .tuple [.int (e.1 : Int), .int (e.2 : Int)]
theorem PairsL.reads {h : Heap} (k : ∀ a o, μ a = some o → h.get? a = some o) {vs : List Value} {es : List Edge} (P : PairsL μ vs es) : ReadsAll h vs (es.map pairD) [] := by
  induction P with
  | nil => exact .nil
  | @cons t ot e a b vs es et ho _ ih =>
    obtain ⟨n, rfl⟩ := ho
    have r1 : Reads h (.ref t) (pairD e) [] := Reads.tuple (k _ _ et) rfl rfl (by
      have := ReadsAll.cons (Reads.int (h := h) (e.1 : Int) a) (ReadsAll.cons (Reads.int (h := h) (e.2 : Int) b) ReadsAll.nil)
      simpa using this)
    have := ReadsAll.cons r1 ih
    simpa using this
theorem shaped_pairs : ∀ es : List Edge, SeqAt.shaped (.list (es.map pairD)) = true := fun es => by
  have h1 : PyData.canLayAll0 (es.map pairD) = true := by
    induction es with
    | nil => simp [PyData.canLayAll0]
    | cons e es ih => simp [PyData.canLayAll0, PyData.canLay0, ih]
  have h2 : PyData.depthAll (es.map pairD) ≤ 3 := by
    clear h1
    induction es with
    | nil => simp [PyData.depthAll]
    | cons e es ih =>
      simp only [List.map_cons, PyData.depthAll, PyData.depth]
      omega
  show (PyData.canLay0 (.list (es.map pairD)) && decide (PyData.depth (.list (es.map pairD)) ≤ 64)) = true
  rw [Bool.and_eq_true]
  exact ⟨by simp only [PyData.canLay0]; exact h1, decide_eq_true (by simp only [PyData.depth]; omega)⟩
theorem noMix_pairs : ∀ es : List Edge, noMixAll (es.map pairD) (es.map pairD) = true
  | [] => by simp [noMixAll]
  | e :: es => by simp [noMixAll, noMix, noMix_pairs es]
theorem r_nePairs {a b : Addr} {oa ob : Obj} {vs us : List Value} {es : List Edge} {Q : Value → Shared → Prop} (S : St g L m μ s.heap) (ea : μ a = some oa) (ha : lstO vs oa) (pa : PairsL μ vs es) (eb : μ b = some ob) (hb : lstO us ob) (pb : PairsL μ us es) (hu : A.units + 64 < cLine)
    (h : Q (.bool false) s) : wpAny (model PR w) A (compareOp .NotEq (.ref a) (.ref b)) Q E s := by
  obtain ⟨n, rfl⟩ := ha
  obtain ⟨k, rfl⟩ := hb
  refine ne_dataH_same (da := .list (es.map pairD)) (db := .list (es.map pairD)) (Reads.list (S.get ea) rfl rfl (by simpa using pa.reads fun _ _ e => S.get e)) (Reads.list (S.get eb) rfl rfl (by simpa using pb.reads fun _ _ e => S.get e)) (shaped_pairs es) (shaped_pairs es) hu (by simp only [noMix]; exact noMix_pairs es) ?_
  rw [PySem.Spec.same_self]; exact h
/-! len(set(l)), l without repeats -/
theorem firstMet_len (val : Nat → Int) : ∀ n, (∀ i j, i < n → j < n → val i = val j → i = j) → (firstMet val n).length = n
  | 0, _ => by rw [firstMet_zero]; rfl
  | n + 1, h => by
    have ih := firstMet_len val n fun i j hi hj e => h i j (by omega) (by omega) e
    rw [firstMet_succ]
    unfold step_dedup
    have hno : (firstMet val n).any (· == val n) = false := by
      rw [firstMet_any, List.any_eq_false]
      intro x hx
      obtain ⟨i, hi, rfl⟩ := List.mem_map.mp hx
      have hi' := List.mem_range.mp hi
      intro q
      have := h i n (by omega) (by omega) (by simpa using q)
      omega
    rw [hno]
    simp [ih]
theorem r_setOf {l : Addr} {o : Obj} {vs : List Value} {cs : List Nat} {Q : Value → Shared → Prop} (hh : A.handled = none) (S : St g L m μ s.heap) (el : μ l = some o) (hl : lstO vs o) (hn : NatsAre vs cs) (hnd : cs.Nodup) (hlen : cs.length ≤ 100)
    (h : ∀ h' tk' a oa, St g L m (upd μ a oa) h' → Nn μ a → (∃ Sf, oa.SetObjOf (intKind PR w) Sf cs.length) → Q (.ref a) { s with heap := h', toks := tk' }) :
    wpAny (model PR w) A (call (.type "set") [.ref l] []) Q E s := by
  have hlv := hn.len
  refine call_set_list (ns := cs.map Int.ofNat) hh (hl.isList (S.get el)) (by simpa using hn) (by simp; unfold scanBound; omega) fun h' tk hS hk => ?_
  obtain ⟨oa, ea, ho⟩ := Heap.SetOf.objOf hS
  have hfl : (firstMet (fun i => (cs.map Int.ofNat).getD i 0) vs.toArray.size).length = cs.length := by
    rw [firstMet_len _ _ fun i j hi hj e => ?_]
    · simp [hlv]
    · have hi' : i < cs.length := by simpa [hlv] using hi
      have hj' : j < cs.length := by simpa [hlv] using hj
      rw [List.getD_eq_getElem?_getD, List.getD_eq_getElem?_getD, List.getElem?_eq_getElem (by simpa using hi'), List.getElem?_eq_getElem (by simpa using hj')] at e
      have e' : cs[i] = cs[j] := by
        have : ((cs.map Int.ofNat)[i]'(by simpa using hi')) = ((cs.map Int.ofNat)[j]'(by simpa using hj')) := e
        rw [List.getElem_map, List.getElem_map] at this
        exact Int.ofNat.inj this
      exact (List.getElem_inj hnd).mp e'
  rw [hfl] at ho
  have S1 : St g L m μ h' := S.keep fun b o e => hk b o (Heap.lt_size e) e
  have nn := S.none_size
  have hle : g.objs.size ≤ s.heap.objs.size := Nat.le_trans S.fr.above (Nat.le_of_lt S.lt)
  exact h h' tk _ oa (S1.add ea (Nat.ne_of_gt S.lt) ⟨Heap.get?_none_of_le hle, S.sizelo⟩) nn ⟨_, ho⟩
theorem r_lenSet {a : Addr} {oa : Obj} {n : Nat} {Sf : Int → Bool} {Q : Value → Shared → Prop} (S : St g L m μ s.heap) (ea : μ a = some oa) (ho : oa.SetObjOf (intKind PR w) Sf n) (hn : n ≤ 100) (h : ∀ t tk', Q (.int (n : Int) t) { s with toks := tk' }) :
    wpAny (model PR w) A (call (.builtin "len") [.ref a] []) Q E s := by
  obtain ⟨hex, es, ep, t, hd, hel, hmem, hsz, hf⟩ := ho
  refine call_len_set (S.get ea) hex hd hf (by omega) ?_
  rw [hsz]; exact h _ _
end
end

/-! M0y -/
section
open PySem PySem.W PySem.W.X PyProof.Rows PySem.Calls
section
variable {w : World} {A : Around} {E : Value → Shared → Prop} {s : Shared} {g : Heap} {L : Addr} {m : Str → Option Value} {μ : Mu} {env : Env} {mg mb : Str → Option Value}
def LoopEndG (s : Shared) (g : Heap) (L I : Addr) (oI : Obj) (Src : Mu → Prop) (Inv : (Str → Option Value) → Mu → Prop) (R : Result → Shared → Prop) (f : Flow) (s₃ : Shared) : Prop :=
  match f with
  | .next | .cont => ∃ m' μ' h' tk' gn', s₃ = { s with heap := h', toks := tk', gens := gn' } ∧ AllBare gn' ∧ St g L m' μ' h' ∧ μ' I = some oI ∧ Src (del μ' I) ∧ Inv m' (del μ' I)
  | .brk => R (.ok .next) s₃
  | .ret v => R (.ok (.ret v)) s₃
def heldNames : List String := ["enumerate", "zip", "dict_itemiterator", "dict_reverseitemiterator", "odict_iterator", "itertools.zip_longest", "itertools.pairwise"]
theorem r_letGo {M : Model} {target : Expr} {v : Value} {I : Addr} {o : Obj} {T : String} {Q : Unit → Shared → Prop} (e : s.heap.get? I = some o) (hc : o.cls = .type T) (hT : heldNames.contains T = false) (h : Q () s) :
    wpAny M A (letOwnedTupleGo target (.ref I) v) Q E s := by
  have go : ∀ a : Addr, wpAny M A (load I >>= fun o => match o.cls, o.data with
    | .type n, .fields vs => if heldNames.contains n && vs[0]? == some (rawInt a) then (do rule "for.unpacks-the-owned-tuple"; updateField I 0 .none) else pure ()
    | _, _ => pure ()) Q E s := fun a => by
    refine wpAny_bind (wpAny_load e ?_)
    rw [hc]
    cases o.data with
    | fields vs =>
      show wpAny M A (if (heldNames.contains T && vs[0]? == some (rawInt a)) = true then _ else _) Q E s
      rw [if_neg (by rw [hT, Bool.false_and]; exact Bool.false_ne_true)]
      exact wpAny_pure h
    | _ => exact wpAny_pure h
  unfold letOwnedTupleGo
  cases target with
  | Tuple _ _ _ =>
    cases v with
    | ref a => exact go a
    | _ => exact wpAny_pure h
  | List _ _ =>
    cases v with
    | ref a => exact go a
    | _ => exact wpAny_pure h
  | _ => exact wpAny_pure h
theorem r_forG {CI : Obj → Prop} {R : Result → Shared → Prop} {target : Expr} {body orelse : List Stmt} {I : Addr} {fp : List Addr} {n : Nat} {P : Nat → Value → Prop} {Stt : Nat → Heap → Prop} {Src : Mu → Prop} {oI₀ : Obj}
    (W : Walks PR w A I fp [I] n P Stt) (hIo : ∀ i h, Stt i h → ∃ o, h.get? I = some o)
    (hSt : ∀ i h h' oI μ', Stt i h → h.get? I = some oI → h'.get? I = some oI → (∀ b o, g.get? b = some o → h'.get? b = some o) → (∀ a o, μ' a = some o → h'.get? a = some o) → Src μ' → Stt i h')
    (hCI : ∀ i h o, Stt i h → h.get? I = some o → CI o) (Inv : Nat → (Str → Option Value) → Mu → Prop)
    (turn : ∀ i v m' μ' oI h tk gn (E' : Value → Shared → Prop), i < n → P i v → CI oI → AllBare gn → Inv i m' μ' → Nn μ' I → Src μ' → St g L m' (upd μ' I oI) h →
      wpAny (model PR w) A (assign target env v) (fun _ s₂ => wpAny (model PR w) A (execs body env) (LoopEndG s g L I oI Src (Inv (i + 1)) R) E' s₂) E' { s with heap := h, toks := tk, gens := gn })
    (fin : ∀ m' μ' h tk gn (E' : Value → Shared → Prop), AllBare gn → Inv n m' μ' → Nn μ' I → St g L m' μ' h → wpAny (model PR w) A (execs orelse env) (fun f s₃ => R (.ok f) s₃) E' { s with heap := h, toks := tk, gens := gn })
    (hb : AllBare s.gens) (S : St g L m (upd μ I oI₀) s.heap) (hI : Nn μ I) (hs : Stt 0 s.heap) (hsrc : Src μ) (h0 : Inv 0 m μ)
    (ht : ∀ i h o, Stt i h → h.get? I = some o → ∃ T, o.cls = .type T ∧ heldNames.contains T = false) :
    codeAny (model PR w) A (.forLoop target (.ref I) body orelse env) R s := by
  refine codeAny_forLoop_any (fun k s' => ∃ h' tk' gn' i m' μ' oI, s' = { s with heap := h', toks := tk', gens := gn' } ∧ AllBare gn' ∧ i ≤ n ∧ k = n + 1 - i ∧ Stt i h' ∧ St g L m' (upd μ' I oI) h' ∧ μ' I = none ∧ Src μ' ∧ Inv i m' μ') ?_ (n + 1)
    ⟨s.heap, s.toks, s.gens, 0, m, μ, oI₀, rfl, hb, Nat.zero_le _, rfl, hs, S, hI, hsrc, h0⟩
  rintro k s' ⟨h', tk', gn', i, m', μ', oI, rfl, hbg, hi, rfl, hst, S', hI', hsrc', hinv⟩
  have zI := S'.mu I oI (upd_self ..)
  by_cases hlt : i < n
  · refine W.item i _ _ _ hlt hst fun v h₂ tk₂ hP hst₂ hk₂ => ?_
    have S₂ : St g L m' μ' h₂ := S'.but hI' hk₂
    obtain ⟨oI₂, eI₂⟩ := hIo _ _ hst₂
    obtain ⟨T, hT1, hT2⟩ := ht _ _ _ hst₂ eI₂
    refine r_letGo (s := { s with heap := h₂, toks := tk₂, gens := gn' }) eI₂ hT1 hT2 ?_
    refine wpAny_mono (turn i v m' μ' oI₂ h₂ tk₂ gn' _ hlt hP (hCI _ _ _ hst₂ eI₂) hbg hinv hI' hsrc' (S₂.add eI₂ zI.2.1 zI.2.2)) (fun _ s₂ h₂' => wpAny_mono h₂' (fun f s₃ hf => ?_) fun _ _ e => e) fun _ _ e => e
    have go : (∃ m'' μ'' h'' tk'' gn'', s₃ = { s with heap := h'', toks := tk'', gens := gn'' } ∧ AllBare gn'' ∧ St g L m'' μ'' h'' ∧ μ'' I = some oI₂ ∧ Src (del μ'' I) ∧ Inv (i + 1) m'' (del μ'' I)) →
        ∃ k', k' < n + 1 - i ∧ ∃ h' tk' gn' i m' μ' oI, s₃ = { s with heap := h', toks := tk', gens := gn' } ∧ AllBare gn' ∧ i ≤ n ∧ k' = n + 1 - i ∧ Stt i h' ∧ St g L m' (upd μ' I oI) h' ∧ μ' I = none ∧ Src μ' ∧ Inv i m' μ' := by
      rintro ⟨m'', μ'', h'', tk'', gn'', rfl, hb'', S'', eI'', hsrc'', hinv''⟩
      refine ⟨n + 1 - (i + 1), by omega, h'', tk'', gn'', i + 1, m'', del μ'' I, oI₂, rfl, hb'', hlt, rfl, ?_, ?_, if_pos rfl, hsrc'', hinv''⟩
      · exact hSt _ _ _ _ _ hst₂ eI₂ (S''.get eI'') S''.fr.keep (fun a o e => S''.get (del_some e).2) hsrc''
      · refine S''.weaken fun a o e => ?_
        by_cases z : a = I
        · subst z
          rw [upd_self] at e
          cases e
          exact eI''
        · rw [upd_ne z] at e
          exact (del_some e).2
    cases f with
    | next => exact go hf
    | cont => exact go hf
    | brk => exact hf
    | ret v => exact hf
  · obtain rfl : i = n := Nat.le_antisymm hi (Nat.not_lt.mp hlt)
    exact W.done _ _ _ hst fun h₂ tk₂ hk₂ => fin m' μ' h₂ tk₂ gn' _ hbg hinv hI' (S'.but hI' hk₂)
theorem tupO.isTuple {h : Heap} {a : Addr} {vs : List Value} {o : Obj} (x : tupO vs o) (e : h.get? a = some o) : h.IsTuple a vs.toArray := by
  obtain ⟨n, rfl⟩ := x
  exact ⟨_, e, rfl, n, rfl⟩
theorem r_iter_tuple {l : Addr} {o : Obj} {vs : List Value} {Q : Value → Shared → Prop} (S : St g L m μ s.heap) (hl : μ l = some o) (ho : tupO vs o)
    (h : ∀ I oI h', Nn μ I → h'.IsTupleIter I l 0 → St g L m (upd μ I oI) h' → Q (.ref I) { s with heap := h' }) :
    wpAny (model PR w) A (pyIter (.ref l)) Q E s :=
  wpAny_pyIter_tuple (ho.isTuple (S.get hl)) (h _ _ _ S.none_size ⟨_, Heap.get?_push_size _ rfl, rfl, rfl⟩ (S.alloc _ rfl))
theorem r_for_tupleG {R : Result → Shared → Prop} {target : Expr} {body orelse : List Stmt} {I l : Addr} {vs : List Value} {oI₀ ol : Obj} (hh : A.handled = none)
    (Inv : Nat → (Str → Option Value) → Mu → Prop)
    (hb : AllBare s.gens) (S : St g L m (upd μ I oI₀) s.heap) (hI : Nn μ I) (hit : s.heap.IsTupleIter I l 0) (hl : μ l = some ol) (ho : tupO vs ol) (h0 : Inv 0 m μ)
    (turn : ∀ i v m' μ' oI h tk gn (E' : Value → Shared → Prop), vs[i]? = some v → (∃ k : Nat, oI.data = .fields #[.ref l, .int (k : Int) 0]) → AllBare gn → Inv i m' μ' → Nn μ' I → μ' l = some ol → St g L m' (upd μ' I oI) h →
      wpAny (model PR w) A (assign target env v) (fun _ s₂ => wpAny (model PR w) A (execs body env) (LoopEndG s g L I oI (fun μ' => μ' l = some ol) (Inv (i + 1)) R) E' s₂) E' { s with heap := h, toks := tk, gens := gn })
    (fin : ∀ m' μ' h tk gn (E' : Value → Shared → Prop), AllBare gn → Inv vs.length m' μ' → St g L m' μ' h → wpAny (model PR w) A (execs orelse env) (fun f s₃ => R (.ok f) s₃) E' { s with heap := h, toks := tk, gens := gn }) :
    codeAny (model PR w) A (.forLoop target (.ref I) body orelse env) R s := by
  have hne : l ≠ I := ne_of_mu hl hI
  refine r_forG (CI := fun o => ∃ k : Nat, o.data = .fields #[.ref l, .int (k : Int) 0]) (Src := fun μ' => μ' l = some ol) (Walks.tuple hh I l hne vs.toArray) (fun i h st => let ⟨o, e, _⟩ := st.1; ⟨o, e⟩) (fun i h h' oI μ' st e e' _ k q => ?_) (fun i h o st e => by obtain ⟨o', q, _, r⟩ := st.1; rw [e] at q; cases q; exact ⟨i, r⟩) Inv (fun i v m' μ' oI h tk gn E' hi hP hci hbg hinv hI' hsrc S' => turn i v m' μ' oI h tk gn E' (by simpa using hP) hci hbg hinv hI' hsrc S')
    (fun m' μ' h tk gn E' hbg hinv _ S' => fin m' μ' h tk gn E' hbg (by simpa using hinv) S') hb S hI ⟨hit, ho.isTuple (S.get (by rw [upd_ne hne]; exact hl))⟩ hl h0 (fun i h o st e => by obtain ⟨o', q, r, _⟩ := st.1; rw [e] at q; cases q; exact ⟨_, r, by decide⟩)
  refine ⟨?_, ho.isTuple (k _ _ q)⟩
  obtain ⟨o', q', r⟩ := st.1
  rw [e] at q'
  cases q'
  exact ⟨oI, e', r⟩
/-- a comprehension over a list, the name set -/
theorem r_blockList {elt iter : Expr} {ifs : List Expr} {x : Str} {px : Pos} {scope : Scope} {cl : List (Str × Addr)} {pos : Pos} {I l : Addr} {vs : List Value} {oI₀ ol : Obj} {RR : Value → Addr → Result → Shared → Prop}
    (hh : A.handled = none) (hsz : vs.length ≤ 1000)
    (S : St g L m (upd μ I oI₀) s.heap) (hI : Nn μ I) (hit : s.heap.IsListIter I l 0) (hl : μ l = some ol) (ho : lstO vs ol)
    (Inv : Nat → List Value → Mu → Prop) (h0 : Inv 0 [] μ)
    (turn : ∀ i v ys μ' oI oL oD C D (m₂ : Str → Option Value) h tk (E' : Value → Shared → Prop), vs[i]? = some v → Inv i ys μ' → ys.length ≤ i → NsObj oL m → Nn μ' L → Nn (upd μ' L oL) I → Nn (upd (upd μ' L oL) I oI) D → lstO ys oD → μ' l = some ol →
      St g C (fun y => if y = x then some v else m₂ y) (upd (upd (upd μ' L oL) I oI) D oD) h →
        wpAny (model PR w) A (forIn ifs true fun c r => if r = true then do let ok ← isTrue c (compEnvC scope cl C env) (eval c (compEnvC scope cl C env)); pure (ForInStep.yield ok) else pure (ForInStep.yield r)) (fun ok s₃ =>
          if ok = true then wpAny (model PR w) A (eval elt (compEnvC scope cl C env)) (fun y s₄ => TurnEnd s g L I D C oL oI oD (fun μ' => μ' l = some ol) (Inv (i + 1) (ys ++ [y])) s₄) E' s₃
          else TurnEnd s g L I D C oL oI oD (fun μ' => μ' l = some ol) (Inv (i + 1) ys) s₃) E' { s with heap := h, toks := tk })
    (fin : ∀ ys μ' C D oC oD mC h tk, Inv vs.length ys μ' → lstO ys oD → NsObj oC mC → Nn μ' D → Nn (upd μ' D oD) C → St g L m (upd (upd μ' D oD) C oC) h → RR (.ref D) C (.ok .next) { s with heap := h, toks := tk })
    (hcell : ∀ y ∈ scope.names, y.2 ≠ .cell := by decide) (hkind : scope.kind = .function := by rfl) (hx : scope.names.lookup x = some .local := by rfl) :
    wpAny (model PR w) A (newList []) (fun acc s₃ => wpAny (model PR w) A (newFunctionEnv scope env.globals cl [] env.qual none .none (some env)) (fun cenv s₄ =>
      codeAny (model PR w) A (.compStart (.ListComp elt [⟨.Name x px, iter, ifs, 0⟩] scope pos) 0 (.ref I) acc { cenv with scope := relabel scope env }) (RR acc cenv.locals) s₄) E s₃) E s := by
  have hne : l ≠ I := ne_of_mu hl hI
  have eI := S.get (upd_self μ I oI₀)
  have el := S.get (mu_ch (d := I) (od := oI₀) hl hne)
  refine r_block (Src := fun μ' => μ' l = some ol) (Walks.list hh I l hne vs.toArray) (by rw [PySem.sizeLine_eq]; simp; omega) (fun i h st => let ⟨o, e, _⟩ := st.1; ⟨o, e⟩) (fun i h h' oI μ' st e e' _ k q => ?_) hcell hkind ⟨hit, ho.isList el⟩ (fun b hb => ?_) S hI hl Inv h0
    (fun i v ys μ' oI oL oD C D m₂ h tk E' hi hP hinv hyl nL n1 n2 n3 hlo hsrc S' => ?_) (fun ys μ' C D oC oD mC h tk hinv a b c d e => fin ys μ' C D oC oD mC h tk (by simpa using hinv) a b c d e)
  · refine ⟨?_, ho.isList (k _ _ q)⟩
    obtain ⟨o', q', r⟩ := st.1
    rw [e] at q'
    cases q'
    exact ⟨oI, e', r⟩
  · rcases List.mem_cons.mp hb with rfl | hb
    · exact Heap.lt_size eI
    · rw [List.mem_singleton.mp hb]; exact Heap.lt_size el
  · refine wpAny_assign_Name (wpAny_storeName_local (lookup_relabel_local hx) S'.fr.ns (fun h₃ hn₃ hs₃ => ?_) (by simp [compEnvC, relabel, hkind]))
    exact turn i v ys μ' oI oL oD C D m₂ h₃ _ E' (by simpa using hP) hinv hyl nL n1 n2 n3 hlo hsrc (S'.set hn₃ hs₃)
end
end

/-! M0z -/
section
open PySem PySem.W PySem.W.X PyProof.Rows PySem.Calls
section
variable {w : World} {A : Around} {E : Value → Shared → Prop} {s : Shared} {g : Heap} {L : Addr} {m : Str → Option Value} {μ : Mu} {env : Env} {mg mb : Str → Option Value} {μr μg : Mu} {due : List Edge} {n : Nat} {ga : Addr}
theorem nn_del {μ : Mu} {a b : Addr} (h : Nn μ b) : Nn (del μ a) b := by
  show del μ a b = none
  unfold del
  split
  · rfl
  · exact h
/-- [other for one, other in gen] -/
theorem r_blockGen {elt target iter : Expr} {scope : Scope} {cl : List (Str × Addr)} {pos : Pos} {RR : Value → Addr → Result → Shared → Prop} (G : Gd w mg mb g) (hh : A.handled = none) (hroom : A.depth + 70 < recursionLimit) (hlen : due.length ≤ 100)
    (hb : AllBare s.gens) (S : St g L m μ s.heap) (X : GenAt w g μr due n s.gens ga μg μ)
    (turn : ∀ (d : Edge) t ot ta tb C m₂ μ' h tk gn (Qx : Value → Shared → Prop) (E' : Value → Shared → Prop), St g C m₂ μ' h → μ' t = some ot → tupO [.int (d.1 : Int) ta, .int (d.2 : Int) tb] ot →
      (∀ h' tk' m₃, St g C m₃ μ' h' → Qx (.int (d.2 : Int) tb) { s with heap := h', toks := tk', gens := gn }) →
      wpAny (model PR w) A (assign target (compEnvC scope cl C env) (.ref t)) (fun _ s₂ => wpAny (model PR w) A (eval elt (compEnvC scope cl C env)) Qx E' s₂) E' { s with heap := h, toks := tk, gens := gn })
    (fin : ∀ ys μ' C D oC oD mC h tk gn, lstO ys oD → NatsAre ys (due.map (·.2)) → NsObj oC mC → Nn μ' D → Nn (upd μ' D oD) C → (∀ b o, μ b = some o → Nn μg b → μ' b = some o) → St g L m (upd (upd μ' D oD) C oC) h → AllBare gn → (∃ ps, μ' 25 = some (tabObj ps)) → RR (.ref D) C (.ok .next) { s with heap := h, toks := tk, gens := gn })
    (hcell : ∀ y ∈ scope.names, y.2 ≠ .cell := by decide) (hkind : scope.kind = .function := by rfl) :
    wpAny (model PR w) A (newList []) (fun acc s₃ => wpAny (model PR w) A (newFunctionEnv scope env.globals cl [] env.qual none .none (some env)) (fun cenv s₄ =>
      codeAny (model PR w) A (.compStart (.ListComp elt [⟨target, iter, [], 0⟩] scope pos) 0 (.ref ga) acc { cenv with scope := relabel scope env }) (RR acc cenv.locals) s₄) E s₃) E s := by
  refine wpAny_newObj_type (wpAny_newFunctionEnv hcell (by intro y hy; simp at hy) (fun h₁ hns₁ hsb₁ => ?_) hkind)
  dsimp only at hns₁ hsb₁ ⊢
  have hD0 := S.none_size
  have S1 := S.alloc { cls := .type "list", dict := none, data := .seq ([] : List Value).toArray } rfl
  have X1 := X.up (o := { cls := .type "list", dict := none, data := .seq ([] : List Value).toArray }) hD0
  generalize hH2 : s.heap.push { cls := .type "list", dict := none, data := .seq ([] : List Value).toArray } = H2 at hns₁ hsb₁ S1 ⊢
  generalize hD : s.heap.objs.size = D at S1 hD0 X1 ⊢
  have old : ∀ b o, H2.get? b = some o → h₁.get? b = some o := fun b o e => hsb₁.extBut b o (Nat.ne_of_lt (Heap.lt_size e)) (Heap.get?_push_of_some _ e)
  obtain ⟨oL, eL, nL⟩ := ns_obj S1.fr.ns
  have hnL := S1.nn
  have hLD : L ≠ D := fun q => by rw [q] at hnL; exact nn_not hnL (upd_self ..)
  have hmL : Nn μ L := S.nn
  have gL : g.get? L = none := Heap.get?_none_of_le S.fr.above
  obtain ⟨C, hC⟩ : ∃ C, C = H2.objs.size := ⟨_, rfl⟩
  rw [← hC] at hns₁ hsb₁ ⊢
  -- the frame of the turns
  have SC : St g C (fun x => ([] : List (Str × Value)).reverse.lookup x) (upd (upd μ D { cls := .type "list", dict := none, data := .seq ([] : List Value).toArray }) L oL) h₁ := by
    refine ⟨⟨hns₁, fun b o e => old b o (S1.fr.keep b o e), by rw [hC]; exact Nat.le_trans S1.fr.above (Nat.le_of_lt S1.lt)⟩, fun a o e => ?_, S.lo⟩
    by_cases q : a = L
    · subst q
      rw [upd_self] at e
      cases e
      exact ⟨old _ _ eL, by rw [hC]; exact Nat.ne_of_lt S1.lt, gL, S.Llo⟩
    · rw [upd_ne q] at e
      have z := S1.mu a o e
      exact ⟨old _ _ z.1, by rw [hC]; exact Nat.ne_of_lt (Heap.lt_size z.1), z.2.2⟩
  have XC := X1.up (o := oL) hnL
  have gD : Nn μg D := X.own.nn hD0
  have rD : Nn μr D := X.rd.nn hD0
  have gLn : Nn μg L := X.own.nn hmL
  obtain ⟨og, eo, ho⟩ := X.ob
  have hgaD : D ≠ ga := Ne.symm (ne_of_mu eo hD0)
  have loop : ∀ s₃ : Shared, s₃ = { s with heap := h₁, toks := s.toks + ([] : List (Str × Value)).length } →
      codeAny (model PR w) A (.compLoop (.ListComp elt [⟨target, iter, [], 0⟩] scope pos) 0 (.ref ga) (.ref D) (compEnvC scope cl C env)) (RR (.ref D) C) s₃ := by
    rintro s₃ rfl
    refine kcp_loop
      (fun k s' => ∃ h' tk gn rest ys m' μ' μg' oD, s' = { s with heap := h', toks := tk, gens := gn } ∧ AllBare gn ∧ k = rest.length + 1 ∧ (∃ done, done ++ rest = due ∧ NatsAre ys (done.map (·.2))) ∧ St g C m' μ' h' ∧ μ' L = some oL ∧ μ' D = some oD ∧ lstO ys oD ∧
        GenAt w g μr rest n gn ga μg' μ' ∧ Nn μg' L ∧ Nn μg' D ∧ (∀ b o, μ b = some o → Nn μg b → μ' b = some o ∧ Nn μg' b)) ?_ (due.length + 1)
      ⟨h₁, _, s.gens, due, [], _, _, μg, _, rfl, hb, rfl, ⟨[], rfl, .nil⟩, SC, upd_self .., mu_ch (upd_self ..) (Ne.symm hLD), ⟨_, rfl⟩, XC, gLn, gD, fun b o e nb => ⟨mu_up (mu_up e hD0) hnL, nb⟩⟩
    rintro k s' ⟨h', tk, gn, rest, ys, m', μ', μg', oD, rfl, hbg, rfl, ⟨done, hdone, hnat⟩, S', eL', eD', hlo, X', gL', gD', kp⟩
    have hyl : ys.length ≤ 100 := by
      have := hnat.len
      have h2 := congrArg List.length hdone
      simp at this h2
      omega
    cases rest with
    | nil =>
      refine r_nextGen (s := { s with heap := h', toks := tk, gens := gn }) G hh (by omega) S' X' ?_
      intro h2 tk2 gn2 μ2 S2 k2 T2 hb2
      have eL2 := k2 _ _ eL' gL'
      have eD2 := k2 _ _ eD' gD'
      obtain ⟨oC, nC, hne, S3⟩ := S2.swap eL2 nL S.fr.above
      rw [List.append_nil] at hdone
      refine fin ys (del (del μ2 D) L) C D oC oD m' h2 tk2 gn2 hlo (by rw [← hdone]; exact hnat) nC ?_ ?_ (fun b o e nb => ?_) ?_ (hb2 hbg) (by
        obtain ⟨ps, e25, _⟩ := T2
        obtain ⟨es, ep, hdL, _⟩ := nL
        obtain ⟨nlo, hlo'⟩ := hlo
        refine ⟨ps, del_of (fun q => ?_) (del_of (fun q => ?_) e25)⟩
        · rw [← q, e25] at eL2; cases eL2; cases hdL
        · rw [← q, e25] at eD2; cases eD2; cases hlo')
      · show del (del μ2 D) L D = none
        unfold del
        rw [if_neg (Ne.symm hLD), if_pos rfl]
      · have hCD : C ≠ D := fun q => by have := S2.nn; rw [q] at this; exact nn_not this eD2
        refine nn_upd hCD ?_
        exact nn_del (nn_del S2.nn)
      · obtain ⟨z1, z2⟩ := kp b o e nb
        exact del_of (fun q => by rw [q] at e; exact nn_not hmL e) (del_of (ne_of_mu e hD0) (k2 _ _ z1 z2))
      · refine S3.congr fun a => ?_
        by_cases q : a = C
        · subst q; rw [upd_self, upd_self]
        · rw [upd_ne q, upd_ne q]
          by_cases q2 : a = D
          · subst q2
            rw [upd_self]
            exact (del_of (Ne.symm hLD) eD2).symm
          · rw [upd_ne q2]
            show del (del μ2 D) L a = del μ2 L a
            unfold del
            rw [if_neg q2]
    | cons d rest =>
      refine r_nextGen (s := { s with heap := h', toks := tk, gens := gn }) G hh (by omega) S' X' ?_
      intro h2 tk2 gn2 μ2 μg2 t ot ta tb S2 k2 nt et hot ngt htga X2 hown hb2
      have eL2 := k2 _ _ eL' gL'
      have eD2 := k2 _ _ eD' gD'
      have gL2 := hown _ gL' ⟨_, eL'⟩
      have gD2 := hown _ gD' ⟨_, eD'⟩
      obtain ⟨og2, eo2, ho2⟩ := X2.ob
      refine r_letGo (s := { s with heap := h2, toks := tk2, gens := gn2 }) (S2.get eo2) ho2.1 (by decide) ?_
      refine wpAny_mono (turn d t ot ta tb C _ μ2 h2 tk2 gn2 (fun y s5 => wpAny (model PR w) A (call (.builtin "list.append") [.ref D, y]) (fun _ s₅ => ∃ mm, mm < (d :: rest).length + 1 ∧ ∃ h' tk gn rest ys m' μ' μg' oD, s₅ = { s with heap := h', toks := tk, gens := gn } ∧ AllBare gn ∧ mm = rest.length + 1 ∧ (∃ done, done ++ rest = due ∧ NatsAre ys (done.map (·.2))) ∧ St g C m' μ' h' ∧ μ' L = some oL ∧ μ' D = some oD ∧ lstO ys oD ∧
          GenAt w g μr rest n gn ga μg' μ' ∧ Nn μg' L ∧ Nn μg' D ∧ (∀ b o, μ b = some o → Nn μg b → μ' b = some o ∧ Nn μg' b)) (notedBy (model PR w) A (compEnvC scope cl C env) fun e s' => RR (.ref D) C (.error e) s') s5) _ S2 et hot ?_) (fun _ s4 h4 => h4) fun _ _ e => e
      · intro h3 tk3 m3 S3
        obtain ⟨nD, rfl⟩ := id hlo
        have hsz : ys.toArray.size ≤ sizeLine := by rw [List.size_toArray, PySem.sizeLine_eq]; omega
        refine append_at (hsz := hsz) (S3.get eD2) fun h5 hs5 hD5 => ?_
        have S5 := S3.change eD2 hs5 hD5
        refine ⟨rest.length + 1, by simp, h5, _, gn2, rest, ys ++ [.int (d.2 : Int) tb], m3, _, μg2, _, rfl, hb2 hbg, rfl, ⟨done ++ [d], by rw [List.append_assoc]; exact hdone, ?_⟩, S5, mu_ch eL2 hLD, upd_self .., ⟨nD + 1, by rw [List.push_toArray]⟩, X2.ch hgaD gD2 rD, gL2, gD2, fun b o e nb => ?_⟩
        · rw [List.map_append]; exact hnat.snoc d.2 tb
        · obtain ⟨z1, z2⟩ := kp b o e nb
          exact ⟨mu_ch (k2 _ _ z1 z2) (ne_of_mu e hD0), hown _ z2 ⟨_, z1⟩⟩
  exact codeAny_compStart_list (loop _ rfl) (wpAny_pyIter_gen (ho.isGen (SC.get (mu_up (mu_up eo hD0) hnL))) (loop _ rfl))
end
end

/-! N1 -/
section
open PySem PySem.W PySem.W.X PyProof.Rows PySem.Calls
def endM (M : Model) (r : Result) : Model := ⟨fun _ => match r with | .ok f => .pure (.done f) | .error e => .raise e, M.prog, M.w⟩
theorem end_in (M : Model) (r : Result) (s : Shared) (cd : Code) {R : Result → Shared → Prop} (h : R r s) : codeAny (endM M r) callerA cd R s := by
  refine codeAny_of_tree ?_
  cases r with
  | ok f => exact wpAny_pure h
  | error e => exact wpAny_throw h
theorem end_out (M : Model) (r : Result) (s : Shared) {R : Result → Shared → Prop} (h : codeAny (endM M r) callerA (.builtin "claim.caller" {}) R s) : R r s := by
  have z := (wpCode_iff_wp _ _ _ _ _).mp (h ⟨.builtin "claim.caller" {}, none, none, [], none⟩ default rfl ⟨rfl, Nat.zero_le _, fun l hl => by cases hl; rfl, fun g hg => by cases hg; rfl, by show unitsOf [] ≤ 4; decide +kernel⟩)
  cases r with
  | ok f => exact z
  | error e => exact z
/-- the end of a law that made generators: as kn_post, but for what it says of gens -/
theorem kn_postG {M : Model} {A : Around} {cd : Code} {s s₁ : Shared} {cw : ClaimW} {cl : Str → Option Addr} {mean : ExcName → Option Value} {args : List WData} {tabs : List (Addr × Addr)} (hT : TabsAt tabs s₁.heap) (hr : ∀ a x, cw.raises a x = false)
    (h : codeAny M A cd (fun r s' => (GoodW cw cl mean args { s₁ with heap := ghostOf s₁.heap tabs } r { s' with gens := #[] } ∧ AllBare s'.gens) ∧ GrownAll tabs s'.heap) s) : codeAny M A cd (GoodWG cw cl mean args s₁) s :=
  codeAny_mono h fun r s' ⟨⟨hg, hb⟩, hgr⟩ => by
    have z := end_out M r { s' with gens := #[] } (kn_post hT hr (end_in M r { s' with gens := #[] } _ ⟨hg, hgr⟩))
    exact ⟨z.1, z.2.1, z.2.2.1, hb⟩
end

section
open PySem PySem.W PyProof.Rows PySem.Calls

local macro_rules | `(tactic| walk_at "mu") => `(tactic| first
  | with_reducible assumption
  | exact Kp.at (by with_reducible assumption) (by walk_at "mu")
  | ((with_reducible show upd _ _ _ _ = some _); first
      | with_reducible exact upd_self _ _ _
      | exact mu_up' (by with_reducible assumption) (by walk_at "mu")
      | ((fail_if_success refine' mu_up' (by with_reducible assumption) ?_); exact mu_ch' (by walk_at "ne") (by walk_at "mu"))
      | fail "mu")
  | fail "mu")
local macro_rules | `(tactic| walk_at "ne") => `(tactic| first
  | with_reducible assumption
  | exact Ne.symm (by with_reducible assumption)
  | exact ne_of_mu' (by with_reducible assumption) (by walk_at "mu")
  | exact Ne.symm (ne_of_mu' (by with_reducible assumption) (by walk_at "mu"))
  | fail "ne")
local macro_rules | `(tactic| tb_start) => `(tactic| first
  | ((with_reducible show wpAny _ _ (execs [] _) _ _ _); refine wpAny_execs_nil ?_)
  | ((with_reducible show wpAny _ _ (execs (_ :: _) _) _ _ _); refine wpAny_execs_cons ?_)
  | ((with_reducible show wpAny _ _ (exec (Stmt.Return (some _) _) _) _ _ _); refine wpAny_Return_some ?_)
  | ((with_reducible show wpAny _ _ (exec (Stmt.If _ _ _ _) _) _ _ _); refine wpAny_If ?_)
  | ((with_reducible show wpAny _ _ (exec (Stmt.Assign [Expr.Name _ _] _ _) _) _ _ _); refine wpAny_Assign_Name ?_)
  | ((with_reducible show wpAny _ _ (exec (Stmt.Assign [Expr.Tuple _ _ _] _ _) _) _ _ _); refine Assign_Tuple ?_)
  | ((with_reducible show wpAny _ _ (exec (Stmt.Assign [Expr.Subscript _ _ _] _ _) _) _ _ _); refine wpAny_Assign_Subscript ?_)
  | ((with_reducible show wpAny _ _ (exec (Stmt.Assign [Expr.Attribute _ _ _] _ _) _) _ _ _); (refine' plainObj_wpAny_Assign_Attribute ?_ ?ka; (case ka => with_unfolding_all rfl)))
  | ((with_reducible show wpAny _ _ (exec (Stmt.AugAssign (Expr.Name _ _) _ _ _) _) _ _ _); refine wpAny_AugAssign_Name ?_)
  | ((with_reducible show wpAny _ _ (exec (Stmt.For _ _ _ _ _) _) _ _ _); refine wpAny_For ?_)
  | ((with_reducible show wpAny _ _ (exec (Stmt.Expr _ _) _) _ _ _); refine wpAny_Expr_any ?_)
  | ((with_reducible show wpAny _ _ (exec (Stmt.Try _ (_ :: _) _ [] _) _) _ _ _); refine wpAny_Try_except ?_)
  | ((with_reducible show wpAny _ _ (exec (Stmt.Break _) _) _ _ _); refine wpAny_Break ?_)
  | ((with_reducible show wpAny _ _ (exec (Stmt.Continue _) _) _ _ _); refine wpAny_Continue ?_)
  | ((with_reducible show wpAny _ _ (eval (Expr.IfExp _ _ _ _) _) _ _ _); refine IfExp_ ?_)
  | ((with_reducible show wpAny _ _ (PySem.isTrue (Expr.Compare _ [_] [_] _) _ _) _ _ _); refine wpAny_isTrue_Compare1 ?_)
  | ((with_reducible show wpAny _ _ (PySem.isTrue (Expr.Name _ _) _ _) _ _ _); refine wpAny_isTrue_value ?_)
  | ((with_reducible show wpAny _ _ (PySem.isTrue (Expr.Call _ _ _ _) _ _) _ _ _); refine wpAny_isTrue_value ?_)
  | ((with_reducible show wpAny _ _ (PySem.isTrue (Expr.BoolOp _ _ _) _ _) _ _ _); refine wpAny_isTrue_BoolOp ?_)
  | ((with_reducible show wpAny _ _ (allTrue BoolOp.And (_ :: _) _) _ _ _); refine wpAny_allTrue_And_cons ?_)
  | ((with_reducible show wpAny _ _ (allTrue BoolOp.Or (_ :: _) _) _ _ _); refine wpAny_allTrue_Or_cons ?_)
  | ((with_reducible show wpAny _ _ (allTrue BoolOp.And [] _) _ _ _); refine wpAny_allTrue_And_nil ?_)
  | ((with_reducible show wpAny _ _ (allTrue BoolOp.Or [] _) _ _ _); refine wpAny_allTrue_Or_nil ?_)
  | ((with_reducible show wpAny _ _ (eval (Expr.Compare _ [_] [_] _) _) _ _ _); refine wpAny_Compare1 ?_)
  | ((with_reducible show wpAny _ _ (eval (Expr.BinOp _ _ _ _) _) _ _ _); refine wpAny_BinOp ?_)
  | ((with_reducible show wpAny _ _ (eval (Expr.Constant (Const.int _) _ _) _) _ _ _); refine wpAny_Constant_int ?_)
  | ((with_reducible show wpAny _ _ (eval (Expr.Constant Const.none _ _) _) _ _ _); refine wpAny_Constant_none ?_)
  | ((with_reducible show wpAny _ _ (eval (Expr.Constant (Const.bool _) _ _) _) _ _ _); refine wpAny_Constant_bool ?_)
  | ((with_reducible show wpAny _ _ (eval (Expr.Call (Expr.Attribute _ _ _) _ [] _) _) _ _ _); refine MethodCall_ ?_)
  | ((with_reducible show wpAny _ _ (eval (Expr.Call _ _ [] _) _) _ _ _); refine Call_ ?_)
  | ((with_reducible show wpAny _ _ (eval (Expr.Subscript _ _ _) _) _ _ _); refine Subscript_ ?_)
  | ((with_reducible show wpAny _ _ (eval (Expr.Tuple _ _ _) _) _ _ _); refine Tuple_ ?_)
  | ((with_reducible show wpAny _ _ (eval (Expr.List _ _) _) _ _ _); refine List_ ?_)
  | ((with_reducible show wpAny _ _ (spliced (backTo _ (starEach (_ :: _) _))) _ _ _); refine spliced_more ?_)
  | ((with_reducible show wpAny _ _ (spliced (backTo _ (starEach [] _))) _ _ _); refine spliced_none ?_)
  | ((with_reducible show wpAny _ _ (PySem.truthy (Value.bool _)) _ _ _); refine wpAny_truthy_bool ?_)
  | ((with_reducible show wpAny _ _ (callWith _ (Value.builtin _) [] (backTo _ (starEach (_ :: _) _)) []) _ _ _); refine PyProof.Rows.callWith_builtin1 ?_)
  | ((with_reducible show wpAny _ _ (callWith _ (Value.builtin _) [_] (backTo _ (starEach [] _)) []) _ _ _); refine callWith_method0 ?_)
  | ((with_reducible show wpAny _ _ (callWith _ (Value.builtin _) [_] (backTo _ (starEach (_ :: _) _)) []) _ _ _); refine callWith_method1 ?_)
  | ((with_reducible show wpAny _ _ (callWith _ (Value.type _) [] (backTo _ (starEach [] _)) []) _ _ _); refine PyProof.Rows.callWith_type0 ?_)
  | ((with_reducible show wpAny _ _ (callWith _ (Value.type _) [] (backTo _ (starEach (_ :: _) _)) []) _ _ _); refine Pv.callWith_type1 ?_)
  | ((with_reducible show wpAny _ _ (callWith _ (Value.ref _) _ (backTo _ (starEach [] _)) []) _ _ _); (refine' callWith_K0 ?k1 ?k2 ?_; (case k1 => exact (Gd.K (by assumption)).keeps (St.fr (by assumption)).keep); (case k2 => k_is)))
  | ((with_reducible show wpAny _ _ (callWith _ (Value.ref _) _ (backTo _ (starEach (_ :: _) _)) []) _ _ _); (refine' callWith_K ?k1 ?k2 ?_; (case k1 => exact Gd.K (by assumption)); (case k2 => k_is)))
  | ((with_reducible show wpAny _ _ (eval (Expr.Name _ _) _) _ _ _); first
      | refine r_ld (by assumption) (by first | rfl | assumption) ?_
      | (refine' r_cell (by assumption) ?kc1 ?kc2 ?kc3 ?_; (case kc1 => exact rfl); (case kc2 => walk_at "mu"); (case kc3 => assumption))
      | (refine' r_gk (by assumption) (by assumption) ?k3 ?_ ?k4 ?k5 ?k6 ?k7; (case k4 => exact rfl); (case k5 => exact rfl); (case k6 => exact rfl); (case k7 => decide); (case k3 => k_is))
      | (refine' r_gb (by assumption) (by assumption) ?k3 ?k8 ?k9 ?_ ?k4 ?k5 ?k6 ?k7 ?k10; (case k4 => exact rfl); (case k5 => exact rfl); (case k6 => exact rfl); (case k7 => exact rfl); (case k10 => decide); (case k3 => k_is); (case k8 => boot_by_name); (case k9 => decide)))
  | ((with_reducible show wpAny _ _ (compareOp CmpOp.Lt (Value.int _ _) (Value.int _ _)) _ _ _); refine lt_int ?_)
  | ((with_reducible show wpAny _ _ (compareOp CmpOp.Gt (Value.int _ _) (Value.int _ _)) _ _ _); refine gt_int ?_)
  | ((with_reducible show wpAny _ _ (compareOp CmpOp.Eq (Value.int _ _) (Value.int _ _)) _ _ _); refine eq_int ?_)
  | ((with_reducible show wpAny _ _ (compareOp CmpOp.NotEq (Value.int _ _) (Value.int _ _)) _ _ _); refine ne_int ?_)
  | ((with_reducible show wpAny _ _ (compareOp CmpOp.Is _ Value.none) _ _ _); refine is_none ?_)
  | ((with_reducible show wpAny _ _ (compareOp CmpOp.IsNot _ Value.none) _ _ _); refine isNot_none ?_)
  | ((with_reducible show wpAny _ _ (eval (Expr.Attribute _ _ _) _) _ _ _); refine Attribute_any_ ?_)
  | ((with_reducible show wpAny _ _ (binaryOp Operator.Add (Value.int _ _) (Value.int _ _)) _ _ _); refine add_int ?_)
  | ((with_reducible show wpAny _ _ (newList _) _ _ _); refine r_newList (by assumption) (by size_fits) ?_; intro _ _ _ _ _ _)
  | ((with_reducible show wpAny _ _ (newTuple _) _ _ _); refine r_newTuple (by assumption) (by size_fits) ?_; intro _ _ _ _ _ _)
  | ((with_reducible show wpAny _ _ (storeName _ _ _) _ _ _); refine r_st (by assumption) ?_; intro _ _)
  | ((with_reducible show (Frag.In _ _ ∧ _)); refine ⟨(Gd.K (by assumption)).keeps (St.fr (by assumption)).keep, ?_⟩; try dsimp only [List.nil_append, List.cons_append])
  | ((with_reducible show (if true = true then _ else _)); refine ite_tt ?_)
  | ((with_reducible show (if false = true then _ else _)); refine ite_ff ?_)
  | ((with_reducible show (if (BEq.beq _ Value.none) = true then _ else _)); first | refine ite_of_true (by rfl) ?_ | refine ite_of_false (by rfl) ?_)
  | ((with_reducible show (if (!(BEq.beq _ Value.none)) = true then _ else _)); first | refine ite_of_true (by rfl) ?_ | refine ite_of_false (by rfl) ?_)
  | ((with_reducible show wpAny _ _ (assign (Expr.Name _ _) _ _) _ _ _); refine wpAny_assign_Name ?_)
  | ((with_reducible show wpAny _ _ (bindName _ _ _) _ _ _); refine wpAny_bindName ?_)
  | ((with_reducible show wpAny _ _ (assignInOrder (_ :: _) (_ :: _)) _ _ _); refine assignInOrder_cons ?_)
  | ((with_reducible show wpAny _ _ (assignInOrder _ []) _ _ _); refine assignInOrder_nil ?_)
  | dsimp only
  )
local macro_rules | `(tactic| walk_at "M:methVal") => `(tactic| (refine' r_methVal (by assumption) (by assumption) (by assumption) ?a ?b ?c ?d ?g ?_; (case a => first | rfl | assumption); (case b => k_is); (case c => k_is); (case d => k_is); (case g => decide)))
local macro_rules | `(tactic| walk_at "M:methFn") => `(tactic| (refine' r_methFn (by assumption) (by assumption) (by assumption) ?a ?b ?c ?d ?_; (case a => first | rfl | assumption); (case b => k_is); (case c => k_is); (case d => k_is)))
local macro_rules | `(tactic| walk_at "M:getOwn") => `(tactic| (refine' r_getOwn (by assumption) (by assumption) (by assumption) ?a ?b ?c ?d ?e ?f ?_; (case a => first | rfl | assumption); (case b => k_is); (case c => k_is); (case d => k_is); (case e => k_is); (case f => rfl)))
local macro_rules | `(tactic| walk_at "M:setAttr") => `(tactic| (refine' r_setAttr (by assumption) (by assumption) (by assumption) ?a ?b ?c ?d ?e ?_; (case a => k_is); (case b => k_is); (case c => k_is); (case d => k_is); (case e => omega)))

/-! F1 -/
section
theorem law_cell {w : World} {A : Around} {E : Value → Shared → Prop} {s : Shared} {g : Heap} {L : Addr} {m : Str → Option Value} {μ : Mu} {mg mb : Str → Option Value} {Q : Value → Shared → Prop}
    {l : Addr} {vs : List Value} {ns : List Int} {k : Nat} {t0 : Tok}
    (G : Gd w mg mb g) (S : St g L m μ s.heap) (hl : g.IsList l vs.toArray) (hI : IntsAre vs ns) (hlen : ns.length ≤ 63) (hk : k ≤ 63) (hroom : A.depth < recursionLimit)
    (h : ∀ h' tk' μ' t n, St g L m μ' h' → MuLe μ μ' → 0 ≤ n → Q (.int n t) { s with heap := h', toks := tk' }) :
    wpAny (model PySem.Challenge.rw_bj0030_01.prog w) A (call (.ref 806) [.ref l, .int k t0] []) Q E s := by
  have hlv := IntsAre.length hI
  refine' r_call (binds := [("script", .ref l), ("at", .int k t0)]) G S ?ho ?hcd hroom ?hb ?hloc ?_ ?h1 ?h2 ?h3 ?h4
  case ho => k_is
  case hcd => k_is
  case hb => exact BindsTo.of_eq rfl
  case hloc => exact locs rfl
  case h1 => exact rfl
  case h2 => exact rfl
  case h3 => exact rfl
  case h4 => decide
  intro oL L' h₁ tk E' hn hL S1
  repeat tb_start
  refine call_len_list (s := { s with heap := h₁, toks := tk }) (stays_list S1.fr.keep hl) (by rw [List.size_toArray]; omega) ?_
  repeat tb_start
  refine split_dec (fun hlt => ?_) (fun hge => ?_)
  · repeat tb_start
    refine item_list_ints (stays_list S1.fr.keep hl) hI (by omega) (by simp at hlt; omega) (by omega) (fun t => ?_)
    repeat tb_start
    refine call_int_int ?_
    repeat tb_start
    refine call_abs_int (fun u tk' => ?_)
    (try dsimp only)
    refine ⟨_, _, _, _, rfl, S1, upd_self .., fun S2 => h _ _ _ _ _ S2 (MuLe.delN hL (MuLe.refl _)) ?_⟩
    split <;> omega
  · repeat tb_start
    refine mul_int ?_ (IntMulOk.of_left (intBits_le_64 (by decide) (by decide)))
    repeat tb_start
    (try dsimp only)
    refine ⟨_, _, _, _, rfl, S1, upd_self .., fun S2 => h _ _ _ _ _ S2 (MuLe.delN hL (MuLe.refl _)) ?_⟩
    omega
end

/-! F2 -/
section
def IntsV (vs : List Value) : Prop := ∀ v ∈ vs, ∃ i t, v = .int i t
theorem law_bits {w : World} {A : Around} {E : Value → Shared → Prop} {s : Shared} {g : Heap} {L : Addr} {m : Str → Option Value} {μ : Mu} {mg mb : Str → Option Value} {Q : Value → Shared → Prop}
    {x : Int} {n : Nat} {t0 t1 : Tok}
    (G : Gd w mg mb g) (S : St g L m μ s.heap) (hh : A.handled = none) (hn : n ≤ 63) (hroom : A.depth < recursionLimit)
    (h : ∀ h' tk' μ' a o vs, St g L m μ' h' → MuLe μ μ' → Nn μ a → μ' a = some o → lstO vs o → vs.length = n → IntsV vs → Q (.ref a) { s with heap := h', toks := tk' }) :
    wpAny (model PySem.Challenge.rw_bj0030_01.prog w) A (call (.ref 813) [.int x t0, .int n t1] []) Q E s := by
  refine' r_call (binds := [("number", .int x t0), ("many", .int n t1)]) G S ?ho ?hcd hroom ?hb ?hloc ?_ ?h1 ?h2 ?h3 ?h4
  case ho => k_is
  case hcd => k_is
  case hb => exact BindsTo.of_eq rfl
  case hloc => exact locs rfl
  case h1 => exact rfl
  case h2 => exact rfl
  case h3 => exact rfl
  case h4 => decide
  intro oL L' h₁ tk E' hN hL S1
  repeat tb_start
  rename_i a o h2 ha ho S2 h3 S3
  (try dsimp only)
  refine r_range1 (n := n) S3 ?_
  intro r orr h4 tk4 hr hor S4
  (try dsimp only)
  refine r_iter_range S4 (upd_self ..) hor (by omega) ?_
  intro I h5 hI S5
  (try dsimp only)
  refine r_for_range (by exact hh) (fun i m' μ' => m' "found" = some (.ref a) ∧ (∃ y t, m' "number" = some (.int y t)) ∧ MuLe (upd μ L oL) μ' ∧ ∃ o vs, μ' a = some o ∧ lstO vs o ∧ vs.length = i ∧ IntsV vs) S5 hI ?_ ?_ ?_
  · refine ⟨rfl, ⟨x, t0, rfl⟩, (MuLe.updN ha).trans (MuLe.updN hr), o, [], ?_, ho, rfl, fun _ hv => nomatch hv⟩
    rw [upd_ne (ne_of_mu (upd_self ..) hr)]
    exact upd_self ..
  · rintro i t m' μ' oI h tk6 E6 hi ⟨hf, ⟨y, ty, hy⟩, hle, o', vs, ho', hl', hlen, hv⟩ hI' S6
    repeat tb_start
    refine r_listMethod S6 (by walk_at "mu") hl' PySem.F.slot_list_append PySem.F.type_list_append ?_
    repeat tb_start
    refine mod_int' (by decide) ?_
    repeat tb_start
    refine r_append S6 (by walk_at "mu") hl' (by rw [hlen]; size_fits) ?_
    intro o2 h7 ho2 S7
    repeat tb_start
    refine floordiv_int (by decide) ?_ (Or.inl (PyProof.noPylong_small (by decide)))
    repeat tb_start
    rename_i h8 S8
    refine ⟨_, _, _, _, rfl, S8, mu_ch (upd_self _ _ _) (Ne.symm (ne_of_mu ho' hI')), trivial, hf, ⟨_, _, rfl⟩, fun b ob eb => ?_, o2, _, del_of (ne_of_mu ho' hI') (upd_self _ _ _), ho2, by rw [List.length_append, hlen]; rfl, fun v hvm => ?_⟩
    · exact del_of (ne_of_mu (hle b ob eb) hI') (mu_ch (mu_up (hle b ob eb) hI') (ne_of_mu eb ha))
    · rcases List.mem_append.mp hvm with hvm | hvm
      · exact hv v hvm
      · rw [List.mem_singleton.mp hvm]; exact ⟨_, _, rfl⟩
  · rintro m' μ' h9 tk6 E6 ⟨hf, ⟨y, ty, hy⟩, hle, o', vs, ho', hl', hlen, hv⟩ S6
    repeat tb_start
    refine ⟨_, _, _, _, rfl, S6, hle _ _ (upd_self ..), fun S7 => h _ _ _ _ _ _ S7 (MuLe.delN hL hle) (nn_low (Ne.symm (ne_of_mu (upd_self _ _ _) ha)) ha) ?_ hl' hlen hv⟩
    exact del_of (Ne.symm (ne_of_mu (upd_self _ _ _) ha)) ho'
end

/-! F3 -/
section
section
variable {w : World} {A : Around} {E : Value → Shared → Prop} {s : Shared} {g : Heap} {L : Addr} {m : Str → Option Value} {μ : Mu} {mg mb : Str → Option Value} {Q : Value → Shared → Prop}
theorem new_graph (G : Gd w mg mb g) (S : St g L m μ s.heap) (hroom : A.depth + 5 < recursionLimit)
    {many : Nat} (hm6 : many ≤ 6)
    (h : ∀ h' tk' μ' col' x dx dg dn da dp, St g L m μ' h' → Kp μ (fun _ => 0) μ' col' → GrA w μ' col' false many [] [] [] x dx dg dn da dp → Q (.ref x) { s with heap := h', toks := tk' }) :
    wpAny (model PR w) A (call (.ref 620) [] []) Q E s := by
  refine' r_new G S ?c1 ?c2 ?c3 ?_
  case c1 => k_is
  case c2 => k_is
  case c3 => k_is
  intro x dx h1 hdx hx S1
  refine' r_callKw (binds := [("self", .ref x), ("incoming_graph_data", .none)]) (attr := "attr") G S1 ?ho ?hcd ?hroom ?hb ?hloc ?_ ?h1 ?h2 ?h3 ?h4
  case ho => k_is
  case hcd => k_is
  case hb =>
    intro Q E' hq
    show wpAny _ _ (seqItems? (.ref 425) >>= _) _ _ _
    refine' wpAny_bind (r_seqK G S1 ?q ?_)
    case q => k_is
    exact hq
  case hroom =>
    simp only [depth_under_make]
    omega
  case hloc => exact locs rfl
  case h1 => exact rfl
  case h2 => exact rfl
  case h3 => exact rfl
  case h4 => decide
  intro d oL L' h₁ tk E' hd0 hN hL S2
  have I2 : Inst (upd (upd (upd (upd μ dx dict0) x (instObj 620 dx)) d dict0) L oL) x dx 620 (fun _ => none) 0 :=
    ⟨by walk_at "mu", dict0, by walk_at "mu", NsO.empty⟩
  repeat tb_start
  walk_at "M:methVal"
  repeat tb_start
  refine r_dict0 S2 ?_
  intro d1 h3 e1 S3
  have I3 := I2.mono (MuLe.updN e1 (o := dict0))
  repeat tb_start
  walk_at "M:setAttr"
  intro od4 h4 tk4 n4 S4
  have hxd : x ≠ dx := Ne.symm (ne_of_mu (upd_self μ dx dict0) hx)
  have I4 := I3.set hxd n4
  repeat tb_start
  walk_at "M:methVal"
  repeat tb_start
  refine r_dict0 S4 ?_
  intro d2 h5 e2 S5
  have I5 := I4.mono (MuLe.updN e2 (o := dict0))
  repeat tb_start
  walk_at "M:setAttr"
  intro od6 h6 tk6 n6 S6
  have I6 := I5.set hxd n6
  repeat tb_start
  walk_at "M:methVal"
  repeat tb_start
  refine r_dict0 S6 ?_
  intro d3 h7 e3 S7
  have I7 := I6.mono (MuLe.updN e3 (o := dict0))
  repeat tb_start
  walk_at "M:setAttr"
  intro od8 h8 tk8 n8 S8
  have I8 := I7.set hxd n8
  repeat tb_start
  walk_at "M:getOwn"
  repeat tb_start
  refine r_dictMethod S8 (d := d1) (o := dict0) (by walk_at "mu") DO.nil PySem.F.slot_dict_update PySem.F.type_dict_update ?_
  repeat tb_start
  refine r_dictUpdate (d := d1) (o₁ := d) (o := dict0) (oo := dict0) S8 (by walk_at "mu") DO.nil (by walk_at "mu") DO.nil (Ne.symm (ne_of_mu (by walk_at "mu") e1)) (by decide) ?_
  intro od9 h9 hd9 S9
  repeat tb_start
  have IX := (I8.chgN (b := d1) (o := od9) (by walk_at "ne") (by walk_at "ne")).delN (b := L) (by walk_at "ne") (by walk_at "ne")
  refine ⟨_, _, _, _, rfl, S9, by walk_at "mu", fun S10 => ⟨rfl, h _ _ _ _ x dx d1 d2 d3 d3 S10 (Kp.startG (fun b o e => ⟨del_of (by walk_at "ne") (by walk_at "mu"), by walk_at "ne", by walk_at "ne", by walk_at "ne", by walk_at "ne", by walk_at "ne"⟩) (fun _ e => by cases e)) (GrA.startG (by decide) hm6 IX (del_of (by walk_at "ne") (by walk_at "mu")) DO.nil (del_of (by walk_at "ne") (by walk_at "mu")) DO.nil (by walk_at "ne") (by walk_at "ne") (by walk_at "ne") (by walk_at "ne") (by walk_at "ne") (by walk_at "ne"))⟩⟩
end
end

/-! F4 -/
section
section
variable {w : World} {A : Around} {E : Value → Shared → Prop} {s : Shared} {g : Heap} {L : Addr} {m : Str → Option Value} {μ : Mu} {mg mb : Str → Option Value} {Q : Value → Shared → Prop}
theorem new_digraph (G : Gd w mg mb g) (S : St g L m μ s.heap) (hroom : A.depth + 5 < recursionLimit)
    {many : Nat} (hm6 : many ≤ 6)
    (h : ∀ h' tk' μ' col' x dx dg dn da dp, St g L m μ' h' → Kp μ (fun _ => 0) μ' col' → GrA w μ' col' true many [] [] [] x dx dg dn da dp → Q (.ref x) { s with heap := h', toks := tk' }) :
    wpAny (model PR w) A (call (.ref 789) [] []) Q E s := by
  refine' r_new G S ?c1 ?c2 ?c3 ?_
  case c1 => k_is
  case c2 => k_is
  case c3 => k_is
  intro x dx h1 hdx hx S1
  refine' r_callKw (binds := [("self", .ref x), ("incoming_graph_data", .none)]) (attr := "attr") G S1 ?ho ?hcd ?hroom ?hb ?hloc ?_ ?h1 ?h2 ?h3 ?h4
  case ho => k_is
  case hcd => k_is
  case hb =>
    intro Q E' hq
    show wpAny _ _ (seqItems? (.ref 636) >>= _) _ _ _
    refine' wpAny_bind (r_seqK G S1 ?q ?_)
    case q => k_is
    exact hq
  case hroom =>
    simp only [depth_under_make]
    omega
  case hloc => exact locs rfl
  case h1 => exact rfl
  case h2 => exact rfl
  case h3 => exact rfl
  case h4 => decide
  intro d oL L' h₁ tk E' hd0 hN hL S2
  have I2 : Inst (upd (upd (upd (upd μ dx dict0) x (instObj 789 dx)) d dict0) L oL) x dx 789 (fun _ => none) 0 :=
    ⟨by walk_at "mu", dict0, by walk_at "mu", NsO.empty⟩
  repeat tb_start
  walk_at "M:methVal"
  repeat tb_start
  refine r_dict0 S2 ?_
  intro d1 h3 e1 S3
  have I3 := I2.mono (MuLe.updN e1 (o := dict0))
  repeat tb_start
  walk_at "M:setAttr"
  intro od4 h4 tk4 n4 S4
  have hxd : x ≠ dx := Ne.symm (ne_of_mu (upd_self μ dx dict0) hx)
  have I4 := I3.set hxd n4
  repeat tb_start
  walk_at "M:methVal"
  repeat tb_start
  refine r_dict0 S4 ?_
  intro d2 h5 e2 S5
  have I5 := I4.mono (MuLe.updN e2 (o := dict0))
  repeat tb_start
  walk_at "M:setAttr"
  intro od6 h6 tk6 n6 S6
  have I6 := I5.set hxd n6
  repeat tb_start
  walk_at "M:methVal"
  repeat tb_start
  refine r_dict0 S6 ?_
  intro d3 h7 e3 S7
  have I7 := I6.mono (MuLe.updN e3 (o := dict0))
  repeat tb_start
  walk_at "M:setAttr"
  intro od8 h8 tk8 n8 S8
  have I8 := I7.set hxd n8
  repeat tb_start
  walk_at "M:methVal"
  repeat tb_start
  refine r_dict0 S8 ?_
  intro d4 h9 e4 S9
  have I9 := I8.mono (MuLe.updN e4 (o := dict0))
  repeat tb_start
  walk_at "M:setAttr"
  intro od10 h10 tk10 n10 S10
  have I10 := I9.set hxd n10
  repeat tb_start
  walk_at "M:getOwn"
  repeat tb_start
  walk_at "M:setAttr"
  intro od11 h11 tk11 n11 S11
  have I11 := I10.set hxd n11
  repeat tb_start
  walk_at "M:getOwn"
  repeat tb_start
  refine r_dictMethod S11 (d := d1) (o := dict0) (by walk_at "mu") DO.nil PySem.F.slot_dict_update PySem.F.type_dict_update ?_
  repeat tb_start
  refine r_dictUpdate (d := d1) (o₁ := d) (o := dict0) (oo := dict0) S11 (by walk_at "mu") DO.nil (by walk_at "mu") DO.nil (Ne.symm (ne_of_mu (by walk_at "mu") e1)) (by decide) ?_
  intro od12 h12 hd12 S12
  repeat tb_start
  have IX := (I11.chgN (b := d1) (o := od12) (by walk_at "ne") (by walk_at "ne")).delN (b := L) (by walk_at "ne") (by walk_at "ne")
  refine ⟨_, _, _, _, rfl, S12, by walk_at "mu", fun S13 => ⟨rfl, h _ _ _ _ x dx d1 d2 d3 d4 S13 (Kp.startG (fun b o e => ⟨del_of (by walk_at "ne") (by walk_at "mu"), by walk_at "ne", by walk_at "ne", by walk_at "ne", by walk_at "ne", by walk_at "ne"⟩) (fun _ e => (Option.some.inj e).symm)) (GrA.startD (by decide) hm6 IX (del_of (by walk_at "ne") (by walk_at "mu")) DO.nil (del_of (by walk_at "ne") (by walk_at "mu")) DO.nil (del_of (by walk_at "ne") (by walk_at "mu")) DO.nil (by walk_at "ne") (by walk_at "ne") (by walk_at "ne") (by walk_at "ne") (by walk_at "ne") (by walk_at "ne") (by walk_at "ne") (by walk_at "ne") (by walk_at "ne") (by walk_at "ne"))⟩⟩
end
end

/-! F5 -/
section
section
variable {w : World} {A : Around} {E : Value → Shared → Prop} {s : Shared} {g : Heap} {L : Addr} {m : Str → Option Value} {μ : Mu} {mg mb : Str → Option Value} {Q : Value → Shared → Prop}
theorem addNodesG {col : Col} {many : Nat} {x dx dg dn da dp l : Addr} {ol : Obj} {pts : List (Nat × Tok)} (G : Gd w mg mb g) (S : St g L m μ s.heap) (hh : A.handled = none) (X : GrA w μ col false many [] [] [] x dx dg dn da dp)
    (hl : μ l = some ol) (hcl : col l = 0) (hol : lstO (pts.map ptV) ol) (hp : ∀ p ∈ pts, p.1 < many) (hlen : pts.length ≤ 63) (hroom : A.depth + 5 < recursionLimit)
    (h : ∀ h' tk' μ' col' ord, St g L m μ' h' → Kp μ col μ' col' → GrA w μ' col' false many ord ord ord x dx dg dn da dp → (∀ p ∈ pts, p.1 ∈ ord) → Q .none { s with heap := h', toks := tk' }) :
    wpAny (model PR w) A (call (.ref 484) [.ref x, .ref l] []) Q E s := by
  refine wpAny_call ?_
  refine' r_callKw (binds := [("self", .ref x), ("nodes_for_adding", .ref l)]) (attr := "attr") G S ?ho ?hcd ?hroom ?hb ?hloc ?_ ?h1 ?h2 ?h3 ?h4
  case ho => k_is
  case hcd => k_is
  case hb =>
    intro Q E' hq
    exact hq
  case hroom => omega
  case hloc => exact locs rfl
  case h1 => exact rfl
  case h2 => exact rfl
  case h3 => exact rfl
  case h4 => decide
  intro d oL L' h₁ tk E' hd0 hN hL S2
  have X2 : GrA w (upd (upd μ d dict0) L oL) col false many [] [] [] x dx dg dn da dp := X.mono ((MuLe.updN hd0).trans (MuLe.updN hL))
  repeat tb_start
  refine r_iter_list S2 (by walk_at "mu") hol ?_
  intro I oI h2 hI hit S3
  (try dsimp only)
  refine r_for_list (by exact hh) (fun i m' μ' => m' "self" = some (.ref x) ∧ m' "attr" = some (.ref d) ∧ ∃ col' ord', GrA w μ' col' false many ord' ord' [] x dx dg dn da dp ∧ Kp (upd (upd μ d dict0) L oL) col μ' col' ∧ ∀ j < i, ∀ p, pts[j]? = some p → p.1 ∈ ord') S3 hI hit (by walk_at "mu") hol ?_ ?_ ?_
  · exact ⟨rfl, rfl, col, [], X2, Kp.refl, fun j hj => by omega⟩
  · rintro i v m' μ' oI' h tk6 E6 hi ⟨hm1, hm2, col', ord', X3, K3, hin⟩ hI' hl' S4
    rw [List.getElem?_map, Option.map_eq_some_iff] at hi
    obtain ⟨p, hpi, rfl⟩ := hi
    unfold ptV at S4
    have X4 := X3.mono (MuLe.updN hI' (o := oI'))
    obtain ⟨nI, hnI, I4⟩ := X4.inst
    obtain ⟨kn, ⟨hc1, on, en, dnn⟩, hkm, hkv⟩ := X4.nd
    repeat tb_start
    walk_at "M:getOwn"
    repeat tb_start
    refine r_notIn S4 en dnn (fun tk7 => ?_)
    repeat tb_start
    refine bsplit (fun hnew => ?_) (fun hold => ?_)
    · have hnone : valueAt kn p.1 = none := by simpa using hnew
      repeat tb_start
      walk_at "M:methVal"
      repeat tb_start
      refine r_dict0 (by assumption) ?_
      intro r h8 hr S8
      repeat tb_start
      have hpm : p.1 < many := hp p (List.mem_of_getElem? hpi)
      have X8 := X4.fresh (o := dict0) (c := 10 + p.1) hr
      have K8 : Kp (upd μ' I oI') col' _ _ := Kp.fresh (o := dict0) (c := 10 + p.1) hr
      obtain ⟨nI8, hnI8, I8⟩ := X8.inst
      obtain ⟨ka, KA⟩ := X8.adj
      obtain ⟨oa, ea, hda, hla⟩ := KA.len
      have hm6 := X.m6
      walk_at "M:getOwn"
      repeat tb_start
      refine r_dictStore S8 ea hda (by rw [PySem.sizeLine_eq]; omega) ?_
      intro oa' h9 tk9 hda' S9
      have X9 := X8.adjNew KA hpm ⟨by simp [recol], dict0, upd_self .., DO.nil⟩ hda'
      have K9 := K8.trans (Kp.chg (b := da) (o := oa') (by rw [KA.1.c]; decide))
      obtain ⟨nI9, hnI9, I9⟩ := X9.inst
      repeat tb_start
      walk_at "M:methVal"
      repeat tb_start
      refine r_dict0 (by assumption) ?_
      intro nd h10 hnd S10
      have X10 := X9.fresh (o := dict0) (c := 4) hnd
      have K10 := K9.trans (Kp.fresh (o := dict0) (c := 4) hnd)
      obtain ⟨nI10, hnI10, I10⟩ := X10.inst
      obtain ⟨kn2, KN, hkm2, hkv2⟩ := X10.nd
      obtain ⟨hc2, on2, en2, dnn2⟩ := id KN
      repeat tb_start
      walk_at "M:getOwn"
      repeat tb_start
      refine r_dictStore S10 en2 dnn2 (by have := X10.ndLen hkm2 dnn2; rw [PySem.sizeLine_eq]; omega) ?_
      intro on3 h11 tk11 dnn3 S11
      have hnone2 : valueAt kn2 p.1 = none := by
        cases hq : valueAt kn2 p.1 with
        | none => rfl
        | some v =>
          have h1 : (valueAt kn2 p.1).isSome = true := by rw [hq]; rfl
          rw [valueAt_isSome_iff, hkm2, ← hkm, ← valueAt_isSome_iff, hnone] at h1
          cases h1
      have Xz := X10.ndNew KN hkm2 hkv2 hpm ⟨by simp [recol], dict0, upd_self .., DO.nil⟩ hnone2 dnn3
      have Kz := K10.trans (Kp.chg (b := dn) (o := on3) (by rw [hc2]; decide))
      have hmz : p.1 ∈ ord' ++ [p.1] := List.mem_append_right _ (List.mem_singleton.mpr rfl)
      have hincl : ∀ j ∈ ord', j ∈ ord' ++ [p.1] := fun j hj => List.mem_append_left _ hj
      repeat tb_start
      obtain ⟨nIz, hnIz, Iz⟩ := Xz.inst
      obtain ⟨kz, oz, dd, ez, dz, hvz, hcd, od, ed, ddd⟩ := Xz.nd.at hmz
      walk_at "M:getOwn"
      repeat tb_start
      refine r_dictItem (by assumption) ez dz hvz (fun tkz => ?_)
      repeat tb_start
      refine r_dictMethod (by assumption) ed ddd PySem.F.slot_dict_update PySem.F.type_dict_update ?_
      repeat tb_start
      have Kz0 := K3.delI hI' Kz
      have hdz := Kz0 d dict0 (mu_up (upd_self ..) hL) (X.c0 hd0)
      have hIz := Kz I oI' (upd_self ..) (X3.c0 hI')
      have hdd : dd ≠ d := fun q => by rw [q, hdz.2] at hcd; cases hcd
      have hdI : dd ≠ I := fun q => by rw [q, hIz.2] at hcd; cases hcd
      refine r_dictUpdate (by assumption) ed ddd (del_some hdz.1).2 DO.nil hdd (by decide) ?_
      intro od' hz hdod Sz
      repeat tb_start
      have Xe := Xz.data ed ddd hdod hcd
      have Ke := Kz.trans (Kp.chg (b := dd) (o := od') (by rw [hcd]; decide))
      refine ⟨_, _, _, _, rfl, Sz, mu_ch hIz.1 (Ne.symm hdI), ?_, hm1, hm2, _, _, Xe.del hIz.2, K3.delI hI' Ke, fun j hj p' hp' => ?_⟩
      · exact (K3.delI hI' Ke l ol (mu_up (mu_up hl hd0) hL) hcl).1
      · rcases Nat.lt_succ_iff_lt_or_eq.mp hj with hj | rfl
        · exact hincl _ (hin j hj p' hp')
        · rw [hpi] at hp'; cases hp'; exact hmz
    · have hsome : (valueAt kn p.1).isSome = true := by simpa using hold
      have Xz := X4
      have Kz : Kp (upd μ' I oI') col' _ _ := Kp.refl
      have hmz : p.1 ∈ ord' := by
        rw [valueAt_isSome_iff, hkm] at hsome
        obtain ⟨i, hi, e⟩ := List.mem_map.mp hsome
        have : i = p.1 := by have e' : (i : Int) = p.1 := e; omega
        rw [← this]; exact hi
      have hincl : ∀ j ∈ ord', j ∈ ord' := fun j hj => hj
      repeat tb_start
      obtain ⟨nIz, hnIz, Iz⟩ := Xz.inst
      obtain ⟨kz, oz, dd, ez, dz, hvz, hcd, od, ed, ddd⟩ := Xz.nd.at hmz
      walk_at "M:getOwn"
      repeat tb_start
      refine r_dictItem (by assumption) ez dz hvz (fun tkz => ?_)
      repeat tb_start
      refine r_dictMethod (by assumption) ed ddd PySem.F.slot_dict_update PySem.F.type_dict_update ?_
      repeat tb_start
      have Kz0 := K3.delI hI' Kz
      have hdz := Kz0 d dict0 (mu_up (upd_self ..) hL) (X.c0 hd0)
      have hIz := Kz I oI' (upd_self ..) (X3.c0 hI')
      have hdd : dd ≠ d := fun q => by rw [q, hdz.2] at hcd; cases hcd
      have hdI : dd ≠ I := fun q => by rw [q, hIz.2] at hcd; cases hcd
      refine r_dictUpdate (by assumption) ed ddd (del_some hdz.1).2 DO.nil hdd (by decide) ?_
      intro od' hz hdod Sz
      repeat tb_start
      have Xe := Xz.data ed ddd hdod hcd
      have Ke := Kz.trans (Kp.chg (b := dd) (o := od') (by rw [hcd]; decide))
      refine ⟨_, _, _, _, rfl, Sz, mu_ch hIz.1 (Ne.symm hdI), ?_, hm1, hm2, _, _, Xe.del hIz.2, K3.delI hI' Ke, fun j hj p' hp' => ?_⟩
      · exact (K3.delI hI' Ke l ol (mu_up (mu_up hl hd0) hL) hcl).1
      · rcases Nat.lt_succ_iff_lt_or_eq.mp hj with hj | rfl
        · exact hincl _ (hin j hj p' hp')
        · rw [hpi] at hp'; cases hp'; exact hmz
  · rintro m' μ' h9 tk6 E6 ⟨hm1, hm2, col', ord', X3, K3, hin⟩ S6
    repeat tb_start
    refine ⟨_, _, _, _, rfl, S6, (K3 L oL (upd_self ..) (X.mono (MuLe.updN hd0 (o := dict0)) |>.c0 hL)).1, fun S7 => h _ _ _ _ ord' S7 ?_ (GrA.del ⟨X3.inst, X3.cx, X3.cdx, X3.nd, X3.adj, (fun e => nomatch e), X3.cz, (fun i hi => X3.lt i (by rcases hi with h | h | h; exact .inl h; exact .inl h; exact .inl h)), X3.m6⟩ (K3 L oL (upd_self ..) (X.mono (MuLe.updN hd0 (o := dict0)) |>.c0 hL)).2) fun p hpm => ?_⟩
    · exact (Kp.mono (MuLe.updN hd0)).trans (Kp.leave hL K3)
    · obtain ⟨j, hj⟩ := List.getElem?_of_mem hpm
      have hjl : j < pts.length := by
        rw [List.getElem?_eq_some_iff] at hj; exact hj.1
      exact hin j (by simpa using hjl) p hj
end
end

/-! F6 -/
section
section
variable {w : World} {A : Around} {E : Value → Shared → Prop} {s : Shared} {g : Heap} {L : Addr} {m : Str → Option Value} {μ : Mu} {mg mb : Str → Option Value} {Q : Value → Shared → Prop}
theorem addNodesD {col : Col} {many : Nat} {x dx dg dn da dp l : Addr} {ol : Obj} {pts : List (Nat × Tok)} (G : Gd w mg mb g) (S : St g L m μ s.heap) (hh : A.handled = none) (X : GrA w μ col true many [] [] [] x dx dg dn da dp)
    (hl : μ l = some ol) (hcl : col l = 0) (hol : lstO (pts.map ptV) ol) (hp : ∀ p ∈ pts, p.1 < many) (hlen : pts.length ≤ 63) (hroom : A.depth + 5 < recursionLimit)
    (h : ∀ h' tk' μ' col' ord, St g L m μ' h' → Kp μ col μ' col' → GrA w μ' col' true many ord ord ord x dx dg dn da dp → (∀ p ∈ pts, p.1 ∈ ord) → Q .none { s with heap := h', toks := tk' }) :
    wpAny (model PR w) A (call (.ref 687) [.ref x, .ref l] []) Q E s := by
  refine wpAny_call ?_
  refine' r_callKw (binds := [("self", .ref x), ("nodes_for_adding", .ref l)]) (attr := "attr") G S ?ho ?hcd ?hroom ?hb ?hloc ?_ ?h1 ?h2 ?h3 ?h4
  case ho => k_is
  case hcd => k_is
  case hb =>
    intro Q E' hq
    exact hq
  case hroom => omega
  case hloc => exact locs rfl
  case h1 => exact rfl
  case h2 => exact rfl
  case h3 => exact rfl
  case h4 => decide
  intro d oL L' h₁ tk E' hd0 hN hL S2
  have X2 : GrA w (upd (upd μ d dict0) L oL) col true many [] [] [] x dx dg dn da dp := X.mono ((MuLe.updN hd0).trans (MuLe.updN hL))
  repeat tb_start
  refine r_iter_list S2 (by walk_at "mu") hol ?_
  intro I oI h2 hI hit S3
  (try dsimp only)
  refine r_for_list (by exact hh) (fun i m' μ' => m' "self" = some (.ref x) ∧ m' "attr" = some (.ref d) ∧ ∃ col' ord', GrA w μ' col' true many ord' ord' ord' x dx dg dn da dp ∧ Kp (upd (upd μ d dict0) L oL) col μ' col' ∧ ∀ j < i, ∀ p, pts[j]? = some p → p.1 ∈ ord') S3 hI hit (by walk_at "mu") hol ?_ ?_ ?_
  · exact ⟨rfl, rfl, col, [], X2, Kp.refl, fun j hj => by omega⟩
  · rintro i v m' μ' oI' h tk6 E6 hi ⟨hm1, hm2, col', ord', X3, K3, hin⟩ hI' hl' S4
    rw [List.getElem?_map, Option.map_eq_some_iff] at hi
    obtain ⟨p, hpi, rfl⟩ := hi
    unfold ptV at S4
    have X4 := X3.mono (MuLe.updN hI' (o := oI'))
    obtain ⟨nI, hnI, I4⟩ := X4.inst
    obtain ⟨kn, ⟨hc1, on, en, dnn⟩, hkm, hkv⟩ := X4.nd
    repeat tb_start
    walk_at "M:getOwn"
    repeat tb_start
    refine r_notIn S4 en dnn (fun tk7 => ?_)
    repeat tb_start
    refine bsplit (fun hnew => ?_) (fun hold => ?_)
    · have hnone : valueAt kn p.1 = none := by simpa using hnew
      repeat tb_start
      walk_at "M:methVal"
      repeat tb_start
      refine r_dict0 (by assumption) ?_
      intro r h8 hr S8
      repeat tb_start
      have hpm : p.1 < many := hp p (List.mem_of_getElem? hpi)
      have X8 := X4.fresh (o := dict0) (c := 10 + p.1) hr
      have K8 : Kp (upd μ' I oI') col' _ _ := Kp.fresh (o := dict0) (c := 10 + p.1) hr
      obtain ⟨nI8, hnI8, I8⟩ := X8.inst
      obtain ⟨ka, KA⟩ := X8.adj
      obtain ⟨oa, ea, hda, hla⟩ := KA.len
      have hm6 := X.m6
      walk_at "M:getOwn"
      repeat tb_start
      refine r_dictStore S8 ea hda (by rw [PySem.sizeLine_eq]; omega) ?_
      intro oa' h9 tk9 hda' S9
      have X9 := X8.adjNew KA hpm ⟨by simp [recol], dict0, upd_self .., DO.nil⟩ hda'
      have K9 := K8.trans (Kp.chg (b := da) (o := oa') (by rw [KA.1.c]; decide))
      obtain ⟨nI9, hnI9, I9⟩ := X9.inst
      repeat tb_start
      walk_at "M:methVal"
      repeat tb_start
      refine r_dict0 (by assumption) ?_
      intro rp h9a hrp S9a
      have X9a := X9.fresh (o := dict0) (c := 20 + p.1) hrp
      have K9a := K9.trans (Kp.fresh (o := dict0) (c := 20 + p.1) hrp)
      obtain ⟨nI9a, hnI9a, I9a⟩ := X9a.inst
      obtain ⟨kp, KP⟩ := X9a.pred rfl
      obtain ⟨op, ep, hdp, hlp⟩ := KP.len
      repeat tb_start
      walk_at "M:getOwn"
      repeat tb_start
      refine r_dictStore S9a ep hdp (by rw [PySem.sizeLine_eq]; omega) ?_
      intro op' h9b tk9b hdp' S9b
      have X9b := X9a.predNew KP hpm ⟨by simp [recol], dict0, upd_self .., DO.nil⟩ hdp'
      have K9b := K9a.trans (Kp.chg (b := dp) (o := op') (by rw [KP.1.c]; decide))
      obtain ⟨nI9b, hnI9b, I9b⟩ := X9b.inst
      repeat tb_start
      walk_at "M:methVal"
      repeat tb_start
      refine r_dict0 (by assumption) ?_
      intro nd h10 hnd S10
      have X10 := X9b.fresh (o := dict0) (c := 4) hnd
      have K10 := K9b.trans (Kp.fresh (o := dict0) (c := 4) hnd)
      obtain ⟨nI10, hnI10, I10⟩ := X10.inst
      obtain ⟨kn2, KN, hkm2, hkv2⟩ := X10.nd
      obtain ⟨hc2, on2, en2, dnn2⟩ := id KN
      repeat tb_start
      walk_at "M:getOwn"
      repeat tb_start
      refine r_dictStore S10 en2 dnn2 (by have := X10.ndLen hkm2 dnn2; rw [PySem.sizeLine_eq]; omega) ?_
      intro on3 h11 tk11 dnn3 S11
      have hnone2 : valueAt kn2 p.1 = none := by
        cases hq : valueAt kn2 p.1 with
        | none => rfl
        | some v =>
          have h1 : (valueAt kn2 p.1).isSome = true := by rw [hq]; rfl
          rw [valueAt_isSome_iff, hkm2, ← hkm, ← valueAt_isSome_iff, hnone] at h1
          cases h1
      have Xz := X10.ndNew KN hkm2 hkv2 hpm ⟨by simp [recol], dict0, upd_self .., DO.nil⟩ hnone2 dnn3
      have Kz := K10.trans (Kp.chg (b := dn) (o := on3) (by rw [hc2]; decide))
      have hmz : p.1 ∈ ord' ++ [p.1] := List.mem_append_right _ (List.mem_singleton.mpr rfl)
      have hincl : ∀ j ∈ ord', j ∈ ord' ++ [p.1] := fun j hj => List.mem_append_left _ hj
      repeat tb_start
      obtain ⟨nIz, hnIz, Iz⟩ := Xz.inst
      obtain ⟨kz, oz, dd, ez, dz, hvz, hcd, od, ed, ddd⟩ := Xz.nd.at hmz
      walk_at "M:getOwn"
      repeat tb_start
      refine r_dictItem (by assumption) ez dz hvz (fun tkz => ?_)
      repeat tb_start
      refine r_dictMethod (by assumption) ed ddd PySem.F.slot_dict_update PySem.F.type_dict_update ?_
      repeat tb_start
      have Kz0 := K3.delI hI' Kz
      have hdz := Kz0 d dict0 (mu_up (upd_self ..) hL) (X.c0 hd0)
      have hIz := Kz I oI' (upd_self ..) (X3.c0 hI')
      have hdd : dd ≠ d := fun q => by rw [q, hdz.2] at hcd; cases hcd
      have hdI : dd ≠ I := fun q => by rw [q, hIz.2] at hcd; cases hcd
      refine r_dictUpdate (by assumption) ed ddd (del_some hdz.1).2 DO.nil hdd (by decide) ?_
      intro od' hz hdod Sz
      repeat tb_start
      have Xe := Xz.data ed ddd hdod hcd
      have Ke := Kz.trans (Kp.chg (b := dd) (o := od') (by rw [hcd]; decide))
      refine ⟨_, _, _, _, rfl, Sz, mu_ch hIz.1 (Ne.symm hdI), ?_, hm1, hm2, _, _, Xe.del hIz.2, K3.delI hI' Ke, fun j hj p' hp' => ?_⟩
      · exact (K3.delI hI' Ke l ol (mu_up (mu_up hl hd0) hL) hcl).1
      · rcases Nat.lt_succ_iff_lt_or_eq.mp hj with hj | rfl
        · exact hincl _ (hin j hj p' hp')
        · rw [hpi] at hp'; cases hp'; exact hmz
    · have hsome : (valueAt kn p.1).isSome = true := by simpa using hold
      have Xz := X4
      have Kz : Kp (upd μ' I oI') col' _ _ := Kp.refl
      have hmz : p.1 ∈ ord' := by
        rw [valueAt_isSome_iff, hkm] at hsome
        obtain ⟨i, hi, e⟩ := List.mem_map.mp hsome
        have : i = p.1 := by have e' : (i : Int) = p.1 := e; omega
        rw [← this]; exact hi
      have hincl : ∀ j ∈ ord', j ∈ ord' := fun j hj => hj
      repeat tb_start
      obtain ⟨nIz, hnIz, Iz⟩ := Xz.inst
      obtain ⟨kz, oz, dd, ez, dz, hvz, hcd, od, ed, ddd⟩ := Xz.nd.at hmz
      walk_at "M:getOwn"
      repeat tb_start
      refine r_dictItem (by assumption) ez dz hvz (fun tkz => ?_)
      repeat tb_start
      refine r_dictMethod (by assumption) ed ddd PySem.F.slot_dict_update PySem.F.type_dict_update ?_
      repeat tb_start
      have Kz0 := K3.delI hI' Kz
      have hdz := Kz0 d dict0 (mu_up (upd_self ..) hL) (X.c0 hd0)
      have hIz := Kz I oI' (upd_self ..) (X3.c0 hI')
      have hdd : dd ≠ d := fun q => by rw [q, hdz.2] at hcd; cases hcd
      have hdI : dd ≠ I := fun q => by rw [q, hIz.2] at hcd; cases hcd
      refine r_dictUpdate (by assumption) ed ddd (del_some hdz.1).2 DO.nil hdd (by decide) ?_
      intro od' hz hdod Sz
      repeat tb_start
      have Xe := Xz.data ed ddd hdod hcd
      have Ke := Kz.trans (Kp.chg (b := dd) (o := od') (by rw [hcd]; decide))
      refine ⟨_, _, _, _, rfl, Sz, mu_ch hIz.1 (Ne.symm hdI), ?_, hm1, hm2, _, _, Xe.del hIz.2, K3.delI hI' Ke, fun j hj p' hp' => ?_⟩
      · exact (K3.delI hI' Ke l ol (mu_up (mu_up hl hd0) hL) hcl).1
      · rcases Nat.lt_succ_iff_lt_or_eq.mp hj with hj | rfl
        · exact hincl _ (hin j hj p' hp')
        · rw [hpi] at hp'; cases hp'; exact hmz
  · rintro m' μ' h9 tk6 E6 ⟨hm1, hm2, col', ord', X3, K3, hin⟩ S6
    repeat tb_start
    refine ⟨_, _, _, _, rfl, S6, (K3 L oL (upd_self ..) (X.mono (MuLe.updN hd0 (o := dict0)) |>.c0 hL)).1, fun S7 => h _ _ _ _ ord' S7 ?_ (GrA.del X3 (K3 L oL (upd_self ..) (X.mono (MuLe.updN hd0 (o := dict0)) |>.c0 hL)).2) fun p hpm => ?_⟩
    · exact (Kp.mono (MuLe.updN hd0)).trans (Kp.leave hL K3)
    · obtain ⟨j, hj⟩ := List.getElem?_of_mem hpm
      have hjl : j < pts.length := by
        rw [List.getElem?_eq_some_iff] at hj; exact hj.1
      exact hin j (by simpa using hjl) p hj
end
end

/-! F7 -/
section
section
variable {w : World} {A : Around} {E : Value → Shared → Prop} {s : Shared} {g : Heap} {L : Addr} {m : Str → Option Value} {μ : Mu} {mg mb : Str → Option Value} {Q : Value → Shared → Prop}
theorem addEdgeG {col : Col} {many : Nat} {x dx dg dn da dp : Addr} {ord : List Nat} {u v : Nat} {tu tv : Tok} (G : Gd w mg mb g) (S : St g L m μ s.heap) (X : GrA w μ col false many ord ord ord x dx dg dn da dp)
    (hu : u ∈ ord) (hv : v ∈ ord) (hh : A.handled = none) (hroom : A.depth + 5 < recursionLimit)
    (h : ∀ h' tk' μ' col', St g L m μ' h' → Kp μ col μ' col' → GrA w μ' col' false many ord ord ord x dx dg dn da dp → Q .none { s with heap := h', toks := tk' }) :
    wpAny (model PR w) A (call (.ref 522) [.ref x, .int (u : Int) tu, .int (v : Int) tv] []) Q E s := by
  refine wpAny_call ?_
  refine' r_callKw (binds := [("self", .ref x), ("u_of_edge", .int (u : Int) tu), ("v_of_edge", .int (v : Int) tv)]) (attr := "attr") G S ?ho ?hcd ?hroom ?hb ?hloc ?_ ?h1 ?h2 ?h3 ?h4
  case ho => k_is
  case hcd => k_is
  case hb =>
    intro Q E' hq
    exact hq
  case hroom => omega
  case hloc => exact locs rfl
  case h1 => exact rfl
  case h2 => exact rfl
  case h3 => exact rfl
  case h4 => decide
  intro d oL L' h₁ tk E' hd0 hN hL S2
  have X2 : GrA w (upd (upd μ d dict0) L oL) col false many ord ord ord x dx dg dn da dp := X.mono ((MuLe.updN hd0).trans (MuLe.updN hL))
  obtain ⟨nI2, hnI2, I2⟩ := X2.inst
  obtain ⟨ku, ou, du, eu, ddu, hvu, _, _⟩ := X2.nd.at hu
  obtain ⟨kv, ov, dv, ev, ddv, hvv, _, _⟩ := X2.nd.at hv
  repeat tb_start
  refine Assign_Tuple_swapped ?_
  repeat tb_start
  rename_i t ot h3 ht hot S3
  refine r_unpackItems S3 (upd_self ..) hot (by assumption) rfl (fun h4 S4 => ?_)
  refine assignInOrder_cons (x := .int (v : Int) tv) (xs := [.int (u : Int) tu]) ?_
  repeat tb_start
  refine assignInOrder_cons (x := .int (u : Int) tu) (xs := []) ?_
  repeat tb_start
  have X4 := X2.mono (MuLe.updN ht (o := ot))
  have K4 : Kp (upd (upd μ d dict0) L oL) col _ col := Kp.mono (MuLe.updN ht (o := ot))
  obtain ⟨nI4, hnI4, I4⟩ := X4.inst
  walk_at "M:getOwn"
  repeat tb_start
  refine r_notIn (by assumption) (mu_up eu ht) ddu (fun tk7 => ?_)
  rw [show (!(valueAt ku (u : Int)).isSome) = false by rw [hvu]; rfl]
  repeat tb_start
  walk_at "M:getOwn"
  repeat tb_start
  refine r_notIn (by assumption) (mu_up ev ht) ddv (fun tk8 => ?_)
  rw [show (!(valueAt kv (v : Int)).isSome) = false by rw [hvv]; rfl]
  repeat tb_start
  have hltA : ∀ i ∈ ord, i < many := fun i hi => X.lt i (.inr (.inl hi))
  obtain ⟨oa, ka, r, orr, kr, ea, hda, hvr, er, hdr, hlr, hcr, hR, hset⟩ := X4.rowStore (.inl ⟨rfl, rfl⟩) X4.adj hltA hu
  walk_at "M:getOwn"
  repeat tb_start
  refine r_dictItem (by assumption) ea hda hvr (fun tkz => ?_)
  repeat tb_start
  refine r_dictMethod (by assumption) er hdr PySem.F.slot_dict_get PySem.F.type_dict_get ?_
  repeat tb_start
  walk_at "M:methVal"
  repeat tb_start
  refine r_dict0 (by assumption) ?_
  intro d2 h9 hd2 S9
  have X9 := X4.fresh (o := dict0) (c := 4) hd2
  have K9 := K4.trans (Kp.fresh (o := dict0) (c := 4) hd2)
  repeat tb_start
  refine r_dictGet S9 (mu_up er hd2) hdr ?_
  repeat tb_start
  have hval : ∃ dd od, (valueAt kr (v : Int)).getD (.ref d2) = .ref dd ∧ recol col d2 4 dd = 4 ∧ (upd (upd (upd (upd μ d dict0) L oL) t ot) d2 dict0) dd = some od ∧ DO w [] od := by
    cases q : valueAt kr (v : Int) with
    | none => exact ⟨d2, dict0, rfl, by simp [recol], upd_self .., DO.nil⟩
    | some vv =>
      obtain ⟨_, dd, e, hk, od, eod, hod⟩ := hR _ (valueAt_mem q)
      have ne : dd ≠ d2 := ne_of_mu eod hd2
      exact ⟨dd, od, e, by unfold recol; rw [if_neg ne]; exact hk, mu_up eod hd2, hod⟩
  obtain ⟨dd, od, hdd, hcd, eod, hod⟩ := hval
  rw [hdd]
  repeat tb_start
  refine r_dictMethod (by assumption) eod hod PySem.F.slot_dict_update PySem.F.type_dict_update ?_
  repeat tb_start
  have hd9 := K9 d dict0 (mu_up (upd_self ..) hL) (X.c0 hd0)
  have hne : dd ≠ d := fun q => by rw [q, hd9.2] at hcd; cases hcd
  refine r_dictUpdate (by assumption) eod hod hd9.1 DO.nil hne (by decide) ?_
  intro od' h10 hod' S10
  have X10 := X9.data eod hod hod' hcd
  have K10 := K9.trans (Kp.chg (b := dd) (o := od') (by rw [hcd]; decide))
  have hKd : Kd w (upd (upd (upd (upd (upd μ d dict0) L oL) t ot) d2 dict0) dd od') (recol col d2 4) 4 [] dd := ⟨hcd, od', upd_self .., hod'⟩
  obtain ⟨nI10, hnI10, I10⟩ := X10.inst
  obtain ⟨oa1, ka1, r1, or1, kr1, ea1, hda1, hvr1, er1, hdr1, hlr1, hcr1, hR1, hset1⟩ := X10.rowStore (.inl ⟨rfl, rfl⟩) X10.adj hltA hu
  repeat tb_start
  walk_at "M:getOwn"
  repeat tb_start
  refine r_dictItem (by assumption) ea1 hda1 hvr1 (fun tkz => ?_)
  repeat tb_start
  refine r_dictStore S10 er1 hdr1 (by rw [PySem.sizeLine_eq]; omega) ?_
  intro or1' h11 tk11 hdr1' S11
  rw [hdd] at hdr1'
  have X11 := hset1 v dd or1' (X.lt v (.inl hv)) hKd hdr1'
  have K11 := K10.trans (Kp.chg (b := r1) (o := or1') (by rw [hcr1]; omega))
  have hKd11 : Kd w (upd (upd (upd (upd (upd (upd μ d dict0) L oL) t ot) d2 dict0) dd od') r1 or1') (recol col d2 4) 4 [] dd := hKd.tr (q := 10 + u) (by have := Tr.chg (w := w) (μ := (upd (upd (upd (upd (upd μ d dict0) L oL) t ot) d2 dict0) dd od')) (col := recol col d2 4) (b := r1) (o := or1'); rw [hcr1] at this; exact this) (by decide) (by omega)
  obtain ⟨nI11, hnI11, I11⟩ := X11.inst
  obtain ⟨oa2, ka2, r2, or2, kr2, ea2, hda2, hvr2, er2, hdr2, hlr2, hcr2, hR2, hset2⟩ := X11.rowStore (.inl ⟨rfl, rfl⟩) X11.adj hltA hv
  repeat tb_start
  walk_at "M:getOwn"
  repeat tb_start
  refine r_dictItem (by assumption) ea2 hda2 hvr2 (fun tkz => ?_)
  repeat tb_start
  refine r_dictStore S11 er2 hdr2 (by rw [PySem.sizeLine_eq]; omega) ?_
  intro or2' h12 tk12 hdr2' S12
  rw [hdd] at hdr2'
  have X12 := hset2 u dd or2' (X.lt u (.inl hu)) hKd11 hdr2'
  have K12 := K11.trans (Kp.chg (b := r2) (o := or2') (by rw [hcr2]; omega))
  repeat tb_start
  have hL0 := K12 L oL (upd_self ..) (X.mono (MuLe.updN hd0 (o := dict0)) |>.c0 hL)
  refine ⟨_, _, _, _, rfl, S12, hL0.1, fun S13 => h _ _ _ _ S13 ((Kp.mono (MuLe.updN hd0)).trans (Kp.leave hL K12)) (X12.del hL0.2)⟩
end
end

/-! F8 -/
section
section
variable {w : World} {A : Around} {E : Value → Shared → Prop} {s : Shared} {g : Heap} {L : Addr} {m : Str → Option Value} {μ : Mu} {mg mb : Str → Option Value} {Q : Value → Shared → Prop}
theorem addEdgeD {col : Col} {many : Nat} {x dx dg dn da dp : Addr} {ord : List Nat} {u v : Nat} {tu tv : Tok} (G : Gd w mg mb g) (S : St g L m μ s.heap) (X : GrA w μ col true many ord ord ord x dx dg dn da dp)
    (hu : u ∈ ord) (hv : v ∈ ord) (hh : A.handled = none) (hroom : A.depth + 5 < recursionLimit)
    (h : ∀ h' tk' μ' col', St g L m μ' h' → Kp μ col μ' col' → GrA w μ' col' true many ord ord ord x dx dg dn da dp → Q .none { s with heap := h', toks := tk' }) :
    wpAny (model PR w) A (call (.ref 701) [.ref x, .int (u : Int) tu, .int (v : Int) tv] []) Q E s := by
  refine wpAny_call ?_
  refine' r_callKw (binds := [("self", .ref x), ("u_of_edge", .int (u : Int) tu), ("v_of_edge", .int (v : Int) tv)]) (attr := "attr") G S ?ho ?hcd ?hroom ?hb ?hloc ?_ ?h1 ?h2 ?h3 ?h4
  case ho => k_is
  case hcd => k_is
  case hb =>
    intro Q E' hq
    exact hq
  case hroom => omega
  case hloc => exact locs rfl
  case h1 => exact rfl
  case h2 => exact rfl
  case h3 => exact rfl
  case h4 => decide
  intro d oL L' h₁ tk E' hd0 hN hL S2
  have X2 : GrA w (upd (upd μ d dict0) L oL) col true many ord ord ord x dx dg dn da dp := X.mono ((MuLe.updN hd0).trans (MuLe.updN hL))
  obtain ⟨nI2, hnI2, I2⟩ := X2.inst
  obtain ⟨ou, ku, ru, oru, kru, eu, ddu, hvu, _⟩ := X2.rowStore (.inl ⟨rfl, rfl⟩) X2.adj (fun i hi => X.lt i (.inr (.inl hi))) hu
  obtain ⟨ov, kv, rv, orv, krv, ev, ddv, hvv, _⟩ := X2.rowStore (.inl ⟨rfl, rfl⟩) X2.adj (fun i hi => X.lt i (.inr (.inl hi))) hv
  repeat tb_start
  refine Assign_Tuple_swapped ?_
  repeat tb_start
  rename_i t ot h3 ht hot S3
  refine r_unpackItems S3 (upd_self ..) hot (by assumption) rfl (fun h4 S4 => ?_)
  refine assignInOrder_cons (x := .int (v : Int) tv) (xs := [.int (u : Int) tu]) ?_
  repeat tb_start
  refine assignInOrder_cons (x := .int (u : Int) tu) (xs := []) ?_
  repeat tb_start
  have X4 := X2.mono (MuLe.updN ht (o := ot))
  have K4 : Kp (upd (upd μ d dict0) L oL) col _ col := Kp.mono (MuLe.updN ht (o := ot))
  obtain ⟨nI4, hnI4, I4⟩ := X4.inst
  walk_at "M:getOwn"
  repeat tb_start
  refine r_notIn (by assumption) (mu_up eu ht) ddu (fun tk7 => ?_)
  rw [show (!(valueAt ku (u : Int)).isSome) = false by rw [hvu]; rfl]
  repeat tb_start
  walk_at "M:getOwn"
  repeat tb_start
  refine r_notIn (by assumption) (mu_up ev ht) ddv (fun tk8 => ?_)
  rw [show (!(valueAt kv (v : Int)).isSome) = false by rw [hvv]; rfl]
  repeat tb_start
  have hltA : ∀ i ∈ ord, i < many := fun i hi => X.lt i (.inr (.inl hi))
  obtain ⟨oa, ka, r, orr, kr, ea, hda, hvr, er, hdr, hlr, hcr, hR, hset⟩ := X4.rowStore (.inl ⟨rfl, rfl⟩) X4.adj hltA hu
  walk_at "M:getOwn"
  repeat tb_start
  refine r_dictItem (by assumption) ea hda hvr (fun tkz => ?_)
  repeat tb_start
  refine r_dictMethod (by assumption) er hdr PySem.F.slot_dict_get PySem.F.type_dict_get ?_
  repeat tb_start
  walk_at "M:methVal"
  repeat tb_start
  refine r_dict0 (by assumption) ?_
  intro d2 h9 hd2 S9
  have X9 := X4.fresh (o := dict0) (c := 4) hd2
  have K9 := K4.trans (Kp.fresh (o := dict0) (c := 4) hd2)
  repeat tb_start
  refine r_dictGet S9 (mu_up er hd2) hdr ?_
  repeat tb_start
  have hval : ∃ dd od, (valueAt kr (v : Int)).getD (.ref d2) = .ref dd ∧ recol col d2 4 dd = 4 ∧ (upd (upd (upd (upd μ d dict0) L oL) t ot) d2 dict0) dd = some od ∧ DO w [] od := by
    cases q : valueAt kr (v : Int) with
    | none => exact ⟨d2, dict0, rfl, by simp [recol], upd_self .., DO.nil⟩
    | some vv =>
      obtain ⟨_, dd, e, hk, od, eod, hod⟩ := hR _ (valueAt_mem q)
      have ne : dd ≠ d2 := ne_of_mu eod hd2
      exact ⟨dd, od, e, by unfold recol; rw [if_neg ne]; exact hk, mu_up eod hd2, hod⟩
  obtain ⟨dd, od, hdd, hcd, eod, hod⟩ := hval
  rw [hdd]
  repeat tb_start
  refine r_dictMethod (by assumption) eod hod PySem.F.slot_dict_update PySem.F.type_dict_update ?_
  repeat tb_start
  have hd9 := K9 d dict0 (mu_up (upd_self ..) hL) (X.c0 hd0)
  have hne : dd ≠ d := fun q => by rw [q, hd9.2] at hcd; cases hcd
  refine r_dictUpdate (by assumption) eod hod hd9.1 DO.nil hne (by decide) ?_
  intro od' h10 hod' S10
  have X10 := X9.data eod hod hod' hcd
  have K10 := K9.trans (Kp.chg (b := dd) (o := od') (by rw [hcd]; decide))
  have hKd : Kd w (upd (upd (upd (upd (upd μ d dict0) L oL) t ot) d2 dict0) dd od') (recol col d2 4) 4 [] dd := ⟨hcd, od', upd_self .., hod'⟩
  obtain ⟨nI10, hnI10, I10⟩ := X10.inst
  obtain ⟨oa1, ka1, r1, or1, kr1, ea1, hda1, hvr1, er1, hdr1, hlr1, hcr1, hR1, hset1⟩ := X10.rowStore (.inl ⟨rfl, rfl⟩) X10.adj hltA hu
  repeat tb_start
  walk_at "M:getOwn"
  repeat tb_start
  refine r_dictItem (by assumption) ea1 hda1 hvr1 (fun tkz => ?_)
  repeat tb_start
  refine r_dictStore S10 er1 hdr1 (by rw [PySem.sizeLine_eq]; omega) ?_
  intro or1' h11 tk11 hdr1' S11
  rw [hdd] at hdr1'
  have X11 := hset1 v dd or1' (X.lt v (.inl hv)) hKd hdr1'
  have K11 := K10.trans (Kp.chg (b := r1) (o := or1') (by rw [hcr1]; omega))
  have hKd11 : Kd w (upd (upd (upd (upd (upd (upd μ d dict0) L oL) t ot) d2 dict0) dd od') r1 or1') (recol col d2 4) 4 [] dd := hKd.tr (q := 10 + u) (by have := Tr.chg (w := w) (μ := (upd (upd (upd (upd (upd μ d dict0) L oL) t ot) d2 dict0) dd od')) (col := recol col d2 4) (b := r1) (o := or1'); rw [hcr1] at this; exact this) (by decide) (by omega)
  obtain ⟨nI11, hnI11, I11⟩ := X11.inst
  obtain ⟨oa2, ka2, r2, or2, kr2, ea2, hda2, hvr2, er2, hdr2, hlr2, hcr2, hR2, hset2⟩ := X11.rowStore (.inr ⟨rfl, rfl⟩) (X11.pred rfl) hltA hv
  repeat tb_start
  walk_at "M:getOwn"
  repeat tb_start
  refine r_dictItem (by assumption) ea2 hda2 hvr2 (fun tkz => ?_)
  repeat tb_start
  refine r_dictStore S11 er2 hdr2 (by rw [PySem.sizeLine_eq]; omega) ?_
  intro or2' h12 tk12 hdr2' S12
  rw [hdd] at hdr2'
  have X12 := hset2 u dd or2' (X.lt u (.inl hu)) hKd11 hdr2'
  have K12 := K11.trans (Kp.chg (b := r2) (o := or2') (by rw [hcr2]; omega))
  repeat tb_start
  have hL0 := K12 L oL (upd_self ..) (X.mono (MuLe.updN hd0 (o := dict0)) |>.c0 hL)
  refine ⟨_, _, _, _, rfl, S12, hL0.1, fun S13 => h _ _ _ _ S13 ((Kp.mono (MuLe.updN hd0)).trans (Kp.leave hL K12)) (X12.del hL0.2)⟩
end
end

/-! F10 -/
section
section
variable {w : World} {A : Around} {E : Value → Shared → Prop} {s : Shared} {g : Heap} {L : Addr} {m : Str → Option Value} {μ : Mu} {mg mb : Str → Option Value} {Q : Value → Shared → Prop}
theorem hasEdge {col : Col} {dir : Bool} {many : Nat} {x dx dg dn da dp : Addr} {ord : List Nat} {u v : Nat} {tu tv : Tok} (G : Gd w mg mb g) (S : St g L m μ s.heap) (X : GrA w μ col dir many ord ord ord x dx dg dn da dp)
    (hu : u ∈ ord) (hh : A.handled = none) (hroom : A.depth + 5 < recursionLimit)
    (h : ∀ h' tk' b, St g L m μ h' → Q (.bool b) { s with heap := h', toks := tk' }) :
    wpAny (model PR w) A (call (.ref 536) [.ref x, .int (u : Int) tu, .int (v : Int) tv] []) Q E s := by
  refine' r_call (binds := [("self", .ref x), ("u", .int (u : Int) tu), ("v", .int (v : Int) tv)]) G S ?ho ?hcd ?hroom ?hb ?hloc ?_ ?h1 ?h2 ?h3 ?h4
  case ho => k_is
  case hcd => k_is
  case hb => exact BindsTo.of_eq rfl
  case hroom => omega
  case hloc => exact locs rfl
  case h1 => exact rfl
  case h2 => exact rfl
  case h3 => exact rfl
  case h4 => decide
  intro oL L' h₁ tk E' hN hL S2
  have X2 := X.mono (MuLe.updN hL (o := oL))
  obtain ⟨nI2, hnI2, I2⟩ := X2.inst
  obtain ⟨oa, ka, r, orr, kr, ea, hda, hvr, er, hdr, hlr, hcr, hR, hset⟩ := X2.rowStore (.inl ⟨rfl, rfl⟩) X2.adj (fun i hi => X.lt i (.inr (.inl hi))) hu
  cases dir
  all_goals
    repeat tb_start
    walk_at "M:getOwn"
    repeat tb_start
    refine r_dictItem (by assumption) ea hda hvr (fun tkz => ?_)
    repeat tb_start
    refine r_in (by assumption) er hdr (fun tkz => ?_)
    repeat tb_start
    exact ⟨_, _, _, _, rfl, S2, upd_self .., fun S3 => h _ _ _ (S3.weaken (MuLe.delN hL (MuLe.refl _)))⟩
end
theorem cells_four {cm : Str → Option Value} {a b c d : Str} {ca cb cc cd : Addr} {cells : List (Addr × Obj)} (x : CellsAre cm [(a, ca), (b, cb), (c, cc), (d, cd)] cells) :
    ∃ oa ob oc od, cells = [(ca, oa), (cb, ob), (cc, oc), (cd, od)] ∧ oa.data = .cell (cm a) ∧ ob.data = .cell (cm b) ∧ oc.data = .cell (cm c) ∧ od.data = .cell (cm d) := by
  cases x with | cons h r => cases r with | cons h' r' => obtain ⟨o, o', rfl, h2, h3⟩ := r'.two; exact ⟨_, _, o, o', rfl, h, h', h2, h3⟩
theorem ints_of {vs : List Value} (h : IntsV vs) : ∃ ns, IntsAre vs ns := by
  induction vs with
  | nil => exact ⟨[], .nil⟩
  | cons v t ih =>
    obtain ⟨i, tk, rfl⟩ := h v (.head _)
    obtain ⟨ns, e⟩ := ih fun x hx => h x (.tail _ hx)
    exact ⟨_, .cons i tk e⟩
end

/-! F11 -/
section
section
variable {w : World} {A : Around} {E : Value → Shared → Prop} {s : Shared} {g : Heap} {L : Addr} {m : Str → Option Value} {μ : Mu} {mg mb : Str → Option Value} {Q : Value → Shared → Prop}
theorem lawDrawnD {l : Addr} {vs : List Value} {ns : List Int} (G : Gd w mg mb g) (S : St g L m μ s.heap) (hh : A.handled = none) (hl : g.IsList l vs.toArray) (hI : IntsAre vs ns) (hlen : ns.length ≤ 63) (hroom : A.depth + 20 < recursionLimit)
    (hpost : ∀ h' tk' μ' col' many ord x dx dg dn da dp nr onr t ot nvs, St g L m μ' h' → MuLe μ μ' → GrA w μ' col' true many ord ord ord x dx dg dn da dp → (∀ i < many, i ∈ ord) → 0 < many → μ' nr = some onr → lstO nvs onr → nvs.length = many → μ' t = some ot → tupO [.ref x, .ref nr] ot → Q (.ref t) { s with heap := h', toks := tk' }) :
    wpAny (model PR w) A (call (.ref 818) [.ref l, (.bool true)] []) Q E s := by
  refine' r_callC (binds := [("script", .ref l), ("is_directed", (.bool true))]) G S ?ho ?hcd ?hroom ?hb ?hloc ?_ ?h1 ?h2 ?h3 ?h4
  case ho => k_is
  case hcd => k_is
  case hb => exact BindsTo.of_eq rfl
  case hroom => omega
  case hloc => intro n; intro x hx; simp at hx; rcases hx with rfl | rfl <;> exact .inl rfl
  case h1 => exact rfl
  case h2 => exact rfl
  case h3 => exact rfl
  case h4 => decide
  intro oL L' cells h₁ tk E' hN hL hnn hC S1
  have hC' : CellsAre _ [(Str.ofString "one", L' + 1 + 1 + 1 + 1), (Str.ofString "first", L' + 1 + 1 + 1), (Str.ofString "graph", L' + 1 + 1), (Str.ofString "many", L' + 1)] cells := hC
  clear hC
  obtain ⟨o4, o3, o2, o1, rfl, hd4, hd3, hd2, hd1⟩ := cells_four hC'
  clear hC'
  simp only [cellMu, NnAll] at hnn S1
  obtain ⟨n4, n3, n2, n1, _⟩ := hnn
  replace hd4 : o4.data = .cell none := hd4
  replace hd3 : o3.data = .cell none := hd3
  replace hd2 : o2.data = .cell none := hd2
  replace hd1 : o1.data = .cell none := hd1
  obtain ⟨mL, hm1, hm2, S1⟩ : ∃ mL : Str → Option Value, mL "script" = some (.ref l) ∧ mL "is_directed" = some (.bool true) ∧ St g L' mL _ h₁ := ⟨_, rfl, rfl, S1⟩
  have P1 := Kp.refl (μ := upd (upd (upd (upd (upd μ L oL) (L' + 1 + 1 + 1 + 1) o4) (L' + 1 + 1 + 1) o3) (L' + 1 + 1) o2) (L' + 1) o1) (col := fun _ => 0)
  repeat tb_start
  refine law_cell (k := 1) G S1 hl hI hlen (by decide) (by simp only [depth_deeper]; omega) ?_
  intro h2 tk2 μ2 t2 n2v S2 le2 hn2
  repeat tb_start
  refine mod_int' (by decide) ?_
  repeat tb_start
  obtain ⟨many, hM, hM0, hM6⟩ : ∃ M : Nat, (1 + n2v.fmod 6 : Int) = (M : Int) ∧ 0 < M ∧ M ≤ 6 := by
    have q : n2v.fmod 6 = n2v % 6 := Int.fmod_eq_emod_of_nonneg _ (by decide)
    rw [q]
    exact ⟨(1 + n2v % 6).toNat, by omega, by omega, by omega⟩
  refine new_digraph G S2 (by simp only [depth_deeper]; omega) hM6 ?_
  intro h3 tk3 μ3 col3 x dx dg dn da dp S3 K3 X3
  have P3 := (P1.trans (Kp.mono le2)).trans K3
  clear K3 P1
  repeat tb_start
  rename_i t4 ot4 h4 ht4 hot4 S4
  refine r_unpack S4 (upd_self ..) hot4 (by exact hh) rfl rfl (fun h5 S5 => ?_)
  refine assignInOrder_cons ?_
  repeat tb_start
  rw [hM]
  have P4 := P3.trans (Kp.mono (col := col3) (MuLe.updN ht4 (o := ot4)))
  have X4 := X3.mono (MuLe.updN ht4 (o := ot4))
  refine r_stCell S5 rfl (by walk_at "mu") hd1 ?_
  intro o1' h6 hd1' S6
  have P5 := P4.st (c := L' + 1) (o' := o1') (by walk_at "mu")
  have X5 := X4.chg (o := o1') (P4.c0 (c := L' + 1) (by walk_at "mu"))
  clear P3 P4
  refine assignInOrder_cons ?_
  repeat tb_start
  refine r_stCell S6 rfl (by walk_at "mu") hd2 ?_
  intro o2' h7 hd2' S7
  have P6 := P5.st (c := L' + 1 + 1) (o' := o2') (by walk_at "mu")
  have X6 := X5.chg (o := o2') (P5.c0 (c := L' + 1 + 1) (by walk_at "mu"))
  clear P5
  repeat tb_start
  refine law_cell (k := 2) G S7 hl hI hlen (by decide) (by simp only [depth_deeper]; omega) ?_
  intro h8 tk8 μ8 t8 n8v S8 le8 hn8
  have P8 := P6.trans (Kp.mono (col := col3) le8)
  have X8 := X6.mono le8
  clear P6 X6
  repeat tb_start
  refine mod_int' (by omega) ?_
  repeat tb_start
  rename_i nr onr h9 hnr honr S9 tt ot h10 htt hott S10
  refine r_unpack S10 (upd_self ..) hott (by exact hh) rfl rfl (fun h11 S11 => ?_)
  refine assignInOrder_cons ?_
  repeat tb_start
  obtain ⟨first, hF, hFm⟩ : ∃ f : Nat, n8v.fmod (many : Int) = (f : Int) ∧ f < many := by
    have q : n8v.fmod (many : Int) = n8v % (many : Int) := Int.fmod_eq_emod_of_nonneg _ (by omega)
    have q1 := Int.emod_nonneg n8v (b := (many : Int)) (by omega)
    have q2 := Int.emod_lt_of_pos n8v (b := (many : Int)) (by omega)
    rw [q]
    exact ⟨(n8v % (many : Int)).toNat, by omega, by omega⟩
  rw [hF]
  have hnrν := P8.nn hnr
  have P9 := P8.pin (o := onr) hnr (X8.c0 hnr)
  have P11 := P9.trans (Kp.mono (col := col3) (MuLe.updN htt (o := ot)))
  have X11 := X8.mono ((MuLe.updN hnr (o := onr)).trans (MuLe.updN htt (o := ot)))
  refine r_stCell S11 rfl (by walk_at "mu") hd3 ?_
  intro o3' h12 hd3' S12
  have P12 := P11.st (c := L' + 1 + 1 + 1) (o' := o3') (by walk_at "mu")
  have X12 := X11.chg (o := o3') (P11.c0 (c := L' + 1 + 1 + 1) (by walk_at "mu"))
  clear P11 X11
  refine assignInOrder_cons ?_
  repeat tb_start
  obtain ⟨nI12, hnI12, I12⟩ := X12.inst
  walk_at "M:methFn"
  repeat tb_start
  refine' r_LC ?cmp ?clo
  case clo => exact rfl
  repeat tb_start
  refine r_range1 (n := many) (by assumption) ?_
  intro rg org h13 tk13 hrg horg S13
  (try dsimp only)
  refine r_iter_range S13 (upd_self ..) horg (by omega) ?_
  intro I1 h14 hI1 S14
  (try dsimp only)
  have P13 := P12.trans (Kp.mono (col := col3) (MuLe.updN hrg (o := org)))
  have X13 := X12.mono (MuLe.updN hrg (o := org))
  refine r_blockRange (by exact hh) (by omega) S14 hI1 (fun i ys μ' => MuLe _ μ' ∧ ∃ pts : List (Nat × Tok), ys = pts.map ptV ∧ pts.length = i ∧ ∀ j p, pts[j]? = some p → p.1 = (first + j) % many) ⟨MuLe.refl _, [], rfl, rfl, fun j p hj => by simp at hj⟩ ?_ ?_
  · rintro i t ys μ' oI oLL oD C D m₂ h tk E'' hi ⟨hle, pts, rfl, hpl, hpt⟩ hyl nL m1 m2 m3 hlo S
    have PX := P13.trans (Kp.mono (col := col3) hle)
    clear P12 P13
    refine wpAny_tests_nil ?_
    repeat tb_start
    refine mod_int' (by omega) ?_
    refine ⟨_, _, _, _, rfl, S, by walk_at "mu", by walk_at "mu", by walk_at "mu", trivial, hle.trans (MuLe.delN m1 (MuLe.delN m2 (MuLe.delN m3 (MuLe.refl _)))), pts ++ [((first + i) % many, tk + 1)], ?_, by rw [List.length_append, hpl]; rfl, fun j p hj => ?_⟩
    · have q : ((first : Int) + (i : Int)).fmod (many : Int) = (((first + i) % many : Nat) : Int) := by
        rw [Int.fmod_eq_emod_of_nonneg _ (by omega)]
        norm_cast
      rw [List.map_append, q]
      rfl
    · rw [List.getElem?_append] at hj
      split at hj
      · exact hpt j p hj
      · rename_i hge
        rw [hpl] at hge hj
        have : j - i = 0 := by
          cases q : j - i with
          | zero => rfl
          | succ n => rw [q] at hj; simp at hj
        rw [this] at hj
        have e : j = i := by omega
        simp at hj
        rw [← hj, e]
  · intro ys μ' C D oC oD mC h tk ⟨hle, pts, hys, hpl, hpt⟩ hlo nC hD hC S
    refine post_val S hC nC (fun h' S' => ?_)
    repeat tb_start
    have P14 := (P13.trans (Kp.mono (col := col3) hle)).trans (Kp.mono (col := col3) (MuLe.updN hD (o := oD)))
    have X14 := X13.mono (hle.trans (MuLe.updN hD (o := oD)))
    rw [hys] at hlo
    refine addNodesD G S' (by exact hh) X14 (upd_self ..) ((X13.mono hle).c0 hD) hlo (fun p hp => ?_) (by omega) (by simp only [depth_deeper]; omega) ?_
    · obtain ⟨j, hj⟩ := List.getElem?_of_mem hp
      rw [hpt j p hj]; exact Nat.mod_lt _ hM0
    intro h15 tk15 μ15 col15 ord S15 K15 X15 hin
    have P15 := P14.trans K15
    have hord : ∀ i < many, i ∈ ord := by
      intro i hi
      have hj : (i + many - first) % many < pts.length := by rw [hpl]; exact Nat.mod_lt _ hM0
      have := hin pts[(i + many - first) % many] (List.getElem_mem hj)
      rw [hpt _ _ (List.getElem?_eq_getElem hj)] at this
      have e : (first + (i + many - first) % many) % many = i := by
        rw [Nat.add_mod, Nat.mod_mod, ← Nat.add_mod, show first + (i + many - first) = i + many by omega, Nat.add_mod_right, Nat.mod_eq_of_lt hi]
      rw [e] at this
      exact this
    have PB : Kp (upd (upd (upd (upd (upd μ L oL) (L' + 1 + 1 + 1) o3') (L' + 1 + 1) o2') (L' + 1) o1') nr onr) (fun _ => 0) μ15 col15 :=
      Kp.cons (P15.at (by walk_at "mu")) (P15.c0 (by walk_at "mu")) (Kp.cons (P15.at (by walk_at "mu")) (P15.c0 (by walk_at "mu")) (Kp.cons (P15.at (by walk_at "mu")) (P15.c0 (by walk_at "mu")) (Kp.cons (P15.at (by walk_at "mu")) (P15.c0 (by walk_at "mu")) (Kp.cons (P15.at (by walk_at "mu")) (P15.c0 (by walk_at "mu")) (fun b o e _ => P15 b o (by walk_at "mu") rfl)))))
    have e4 : μ15 (L' + 1 + 1 + 1 + 1) = some o4 := P15.at (by walk_at "mu")
    have k4 : col15 (L' + 1 + 1 + 1 + 1) = 0 := P15.c0 (c := L' + 1 + 1 + 1 + 1) (o := o4) (by walk_at "mu")
    have n41 : L' + 1 + 1 + 1 + 1 ≠ L' + 1 := by walk_at "ne"
    have n42 : L' + 1 + 1 + 1 + 1 ≠ L' + 1 + 1 := by walk_at "ne"
    have n43 : L' + 1 + 1 + 1 + 1 ≠ L' + 1 + 1 + 1 := by walk_at "ne"
    have n4r : L' + 1 + 1 + 1 + 1 ≠ nr := by walk_at "ne"
    have n4L : L' + 1 + 1 + 1 + 1 ≠ L := by walk_at "ne"
    have nB4 : Nn (upd (upd (upd (upd (upd μ L oL) (L' + 1 + 1 + 1) o3') (L' + 1 + 1) o2') (L' + 1) o1') nr onr) (L' + 1 + 1 + 1 + 1) :=
      nn_upd n4r (nn_upd n41 (nn_upd n42 (nn_upd n43 n4)))
    have n12 : L' + 1 ≠ L' + 1 + 1 := by walk_at "ne"
    have n13 : L' + 1 ≠ L' + 1 + 1 + 1 := by walk_at "ne"
    have n23 : L' + 1 + 1 ≠ L' + 1 + 1 + 1 := by walk_at "ne"
    have n1r : L' + 1 ≠ nr := by walk_at "ne"
    have n2r : L' + 1 + 1 ≠ nr := by walk_at "ne"
    have n3r : L' + 1 + 1 + 1 ≠ nr := by walk_at "ne"
    have n1L : L ≠ L' + 1 := by walk_at "ne"
    have n2L : L ≠ L' + 1 + 1 := by walk_at "ne"
    have n3L : L ≠ L' + 1 + 1 + 1 := by walk_at "ne"
    have nrL : L ≠ nr := by walk_at "ne"
    have hbase : ∀ b o, μ b = some o → b ≠ L' + 1 ∧ b ≠ L' + 1 + 1 ∧ b ≠ L' + 1 + 1 + 1 ∧ b ≠ nr ∧ b ≠ L := fun b o e => ⟨by walk_at "ne", by walk_at "ne", by walk_at "ne", by walk_at "ne", by walk_at "ne"⟩
    clear P14 P15 P9 P8 X14 X13 X8 X12
    obtain ⟨mN, hq1, hq2, S15⟩ : ∃ mN : Str → Option Value, mN "script" = some (.ref l) ∧ mN "near" = some (.ref nr) ∧ St g L' mN μ15 h15 := ⟨fun y => if y = Str.ofString "near" then some (Value.ref nr) else mL y, hm1, rfl, S15⟩
    repeat tb_start
    refine r_range1 (n := many) S15 ?_
    intro rg2 org2 h16 tk16 hrg2 horg2 S16
    (try dsimp only)
    refine r_iter_range S16 (upd_self ..) horg2 (by omega) ?_
    intro I2 h17 hI2 S17
    (try dsimp only)
    refine r_for_rangeT (by exact hh) (fun i m' μ' => m' "script" = some (.ref l) ∧ m' "near" = some (.ref nr) ∧ ∃ col' o4', GrA w μ' col' true many ord ord ord x dx dg dn da dp ∧ Kp (upd (upd (upd (upd (upd μ L oL) (L' + 1 + 1 + 1) o3') (L' + 1 + 1) o2') (L' + 1) o1') nr onr) (fun _ => 0) μ' col' ∧ μ' (L' + 1 + 1 + 1 + 1) = some o4' ∧ col' (L' + 1 + 1 + 1 + 1) = 0 ∧ ∃ v0, o4'.data = .cell v0) S17 hI2 ?_ ?_ ?_
    · exact ⟨hq1, hq2, col15, o4, X15.mono (MuLe.updN hrg2), PB.trans (Kp.mono (MuLe.updN hrg2)), mu_up e4 hrg2, k4, none, hd4⟩
    · rintro one t m' μ' oI h tk E'' hi ⟨hq1', hq2', col', o4', X, P, e4', k4', v0, hv0⟩ hI' S
      have XI := X.mono (MuLe.updN hI' (o := oI))
      have PI := P.trans (Kp.mono (col := col') (MuLe.updN hI' (o := oI)))
      repeat tb_start
      refine r_stCell S rfl (mu_up e4' hI') hv0 ?_
      intro o4'' h18 hd4'' S18
      have X18 := XI.chg (o := o4'') k4'
      have P18 := PI.skip (o := o4'') nB4
      clear XI PI
      repeat tb_start
      refine law_cell (k := 3 + one) G S18 hl hI hlen (by omega) (by simp only [depth_deeper]; omega) ?_
      intro h19 tk19 μ19 t19 nv S19 le19 hnv
      have X19 := X18.mono le19
      have P19 := P18.trans (Kp.mono (col := col') le19)
      have e419 : μ19 (L' + 1 + 1 + 1 + 1) = some o4'' := le19 _ _ (upd_self ..)
      have eI19 : μ19 I2 = some oI := le19 _ _ (mu_ch (upd_self ..) (Ne.symm (ne_of_mu e4' hI')))
      clear X18 P18
      repeat tb_start
      refine law_bits (n := many + 1) G S19 (by exact hh) (by omega) (by simp only [depth_deeper]; omega) ?_
      intro h20 tk20 μ20 bl obl bvs S20 le20 nbl hbl hbo hbn hbi
      have X20 := X19.mono le20
      have P20 := P19.trans (Kp.mono (col := col') le20)
      have e420 := le20 _ _ e419
      have eI20 := le20 _ _ eI19
      have cbl := X19.c0 nbl
      have cI := X.c0 hI'
      have nIν := P.nn hI'
      have nI4 : I2 ≠ L' + 1 + 1 + 1 + 1 := Ne.symm (ne_of_mu e4' hI')
      have nIν' := nn_upd (o := o4'') nI4 nIν
      have PC : Kp (upd (upd (upd (upd (upd (upd (upd (upd μ L oL) (L' + 1 + 1 + 1) o3') (L' + 1 + 1) o2') (L' + 1) o1') nr onr) (L' + 1 + 1 + 1 + 1) o4'') I2 oI) bl obl) (fun _ => 0) μ20 col' :=
        Kp.cons hbl cbl (Kp.cons eI20 cI (Kp.cons e420 k4' P20))
      have nblν := (Kp.cons eI19 cI (Kp.cons e419 k4' P19)).nn nbl
      clear X19 P19 P20
      repeat tb_start
      rename_i h21 S21
      refine r_range1 (n := many) S21 ?_
      intro rg3 org3 h22 tk22 hrg3 horg3 S22
      (try dsimp only)
      refine r_iter_range S22 (upd_self ..) horg3 (by omega) ?_
      intro I3 h23 hI3 S23
      (try dsimp only)
      refine r_for_range (by exact hh) (fun j m'' μ'' => m'' "script" = some (.ref l) ∧ m'' "near" = some (.ref nr) ∧ m'' "bits" = some (.ref bl) ∧ ∃ col'', GrA w μ'' col'' true many ord ord ord x dx dg dn da dp ∧ Kp (upd (upd (upd (upd (upd (upd (upd (upd μ L oL) (L' + 1 + 1 + 1) o3') (L' + 1 + 1) o2') (L' + 1) o1') nr onr) (L' + 1 + 1 + 1 + 1) o4'') I2 oI) bl obl) (fun _ => 0) μ'' col'') S23 hI3 ?_ ?_ ?_
      · exact ⟨hq1', hq2', rfl, col', X20.mono (MuLe.updN hrg3), PC.trans (Kp.mono (MuLe.updN hrg3))⟩
      · rintro other t3 m'' μ'' oI3 hh3 tk23 E3 hj ⟨hq1'', hq2'', hq3'', col'', XX, PP⟩ hI3' SS
        have XXI := XX.mono (MuLe.updN hI3' (o := oI3))
        have PPI := PP.trans (Kp.mono (col := col'') (MuLe.updN hI3' (o := oI3)))
        have nI3ν := PP.nn hI3'
        clear PC P
        obtain ⟨bns, hbns⟩ := ints_of hbi
        have hbl := hbns.length
        refine wpAny_execs_cons (wpAny_If ?_)
        refine wpAny_mono (Q := fun (_ : Bool) s' => ∃ tk', s' = { s with heap := hh3, toks := tk' }) ?_ (fun bb s' hs' => ?_) (fun _ _ e => e)
        · repeat tb_start
          refine item_list_ints (hbo.isList (SS.get (by walk_at "mu"))) hbns (by omega) (by omega) (by omega) (fun t5 => ?_)
          repeat tb_start
          refine bsplit (fun hc1 => ?_) (fun hc1 => ?_)
          · repeat tb_start
            refine bsplit (fun hc2 => ?_) (fun hc2 => ?_)
            · repeat tb_start
              exact ⟨_, rfl⟩
            · repeat tb_start
              refine item_list_ints (hbo.isList (SS.get (by walk_at "mu"))) hbns (by omega) (by omega) (by omega) (fun t6 => ?_)
              repeat tb_start
              refine bsplit (fun hc3 => ?_) (fun hc3 => ?_)
              · repeat tb_start
                exact ⟨_, rfl⟩
              · repeat tb_start
                exact ⟨_, rfl⟩
          · repeat tb_start
            exact ⟨_, rfl⟩
        obtain ⟨tk24, rfl⟩ := hs'
        have cI3 := XX.c0 hI3'
        refine bsplit (fun hc1 => ?_) (fun hc1 => ?_)
        · obtain ⟨nIX, hnIX, IX⟩ := XXI.inst
          repeat tb_start
          walk_at "M:methFn"
          repeat tb_start
          refine addEdgeD G SS XXI (hord one hi) (hord other hj) (by exact hh) (by simp only [depth_deeper]; omega) ?_
          intro h25 tk25 μ25 col25 S25 K25 X25
          repeat tb_start
          have eI3 := K25 I3 oI3 (upd_self ..) cI3
          exact ⟨_, _, _, _, rfl, S25, eI3.1, trivial, hq1'', hq2'', hq3'', col25, X25.del eI3.2, PP.delI hI3' K25⟩
        · repeat tb_start
          exact ⟨_, _, _, _, rfl, SS, upd_self .., trivial, hq1'', hq2'', hq3'', col'', XXI.del cI3, PP.delI hI3' Kp.refl⟩
      · rintro m'' μ'' hh3 tk23 E3 ⟨hq1'', hq2'', hq3'', col'', XX, PP⟩ SS
        repeat tb_start
        refine ⟨_, _, _, _, rfl, SS, PP.at (by walk_at "mu"), trivial, hq1'', hq2'', col'', o4'', XX.del (PP.c0 (c := I2) (o := oI) (by walk_at "mu")), (fun b o e _ => ?_), del_of (Ne.symm nI4) (PP.at (by walk_at "mu")), PP.c0 (c := L' + 1 + 1 + 1 + 1) (o := o4'') (by walk_at "mu"), _, hd4''⟩
        have z := PP b o (by walk_at "mu") rfl
        exact ⟨del_of (ne_of_mu e nIν) z.1, z.2⟩
    · rintro m' μ' h tk E'' ⟨hq1', hq2', col', o4', X, P, e4', k4', v0, hv0⟩ S
      have nμr : Nn μ nr := by
        show μ nr = none
        cases e : μ nr with
        | none => rfl
        | some o => exact absurd rfl (hbase nr o e).2.2.2.1
      have nEr : Nn (upd (upd (upd (upd μ L oL) (L' + 1 + 1 + 1) o3') (L' + 1 + 1) o2') (L' + 1) o1') nr := nn_upd (Ne.symm n1r) (nn_upd (Ne.symm n2r) (nn_upd (Ne.symm n3r) (nn_upd (Ne.symm nrL) nμr)))
      have nE4 : Nn (upd (upd (upd (upd μ L oL) (L' + 1 + 1 + 1) o3') (L' + 1 + 1) o2') (L' + 1) o1') (L' + 1 + 1 + 1 + 1) := nn_low n4r nB4
      have PE : Kp (upd (upd (upd (upd μ L oL) (L' + 1 + 1 + 1) o3') (L' + 1 + 1) o2') (L' + 1) o1') (fun _ => 0) μ' col' := fun b o e _ => P b o (by walk_at "mu") rfl
      have eNr : μ' nr = some onr := P.at (upd_self ..)
      have kNr : col' nr = 0 := P.c0 (upd_self ..)
      clear P PB hnrν
      repeat tb_start
      refine r_range1 (n := many) S ?_
      intro rg4 org4 h30 tk30 hrg4 horg4 S30
      (try dsimp only)
      refine r_iter_range S30 (upd_self ..) horg4 (by omega) ?_
      intro I4 h31 hI4 S31
      (try dsimp only)
      refine r_for_rangeT (by exact hh) (fun i m'' μ'' => m'' "near" = some (.ref nr) ∧ ∃ o4' onr' nvs v0, GrA w μ'' col' true many ord ord ord x dx dg dn da dp ∧ Kp (upd (upd (upd (upd μ L oL) (L' + 1 + 1 + 1) o3') (L' + 1 + 1) o2') (L' + 1) o1') (fun _ => 0) μ'' col' ∧ μ'' (L' + 1 + 1 + 1 + 1) = some o4' ∧ o4'.data = .cell v0 ∧ μ'' nr = some onr' ∧ lstO nvs onr' ∧ nvs.length = i) S31 hI4 ?_ ?_ ?_
      · exact ⟨hq2', o4', onr, [], v0, X.mono (MuLe.updN hrg4), PE.trans (Kp.mono (MuLe.updN hrg4)), mu_up e4' hrg4, hv0, mu_up eNr hrg4, honr, rfl⟩
      · rintro one t m'' μ'' oI h tk E'' hi ⟨hq, o4', onr', nvs, v0, X, P, e4', hv0, eNr, hln, hlen'⟩ hI' S
        have XI := X.mono (MuLe.updN hI' (o := oI))
        have PI := P.trans (Kp.mono (col := col') (MuLe.updN hI' (o := oI)))
        have nI4' : L' + 1 + 1 + 1 + 1 ≠ I4 := ne_of_mu e4' hI'
        have nIr : nr ≠ I4 := ne_of_mu eNr hI'
        have nIν := P.nn hI'
        have cI := X.c0 hI'
        repeat tb_start
        refine r_stCell S rfl (mu_up e4' hI') hv0 ?_
        intro o4'' h18 hd4'' S18
        have X18 := XI.chg (o := o4'') k4'
        have P18 := PI.skip (o := o4'') nE4
        have eNr18 : upd (upd μ'' I4 oI) (L' + 1 + 1 + 1 + 1) o4'' nr = some onr' := mu_ch (mu_up eNr hI') (Ne.symm n4r)
        have PF : Kp (upd (upd (upd (upd (upd μ L oL) (L' + 1 + 1 + 1) o3') (L' + 1 + 1) o2') (L' + 1) o1') (L' + 1 + 1 + 1 + 1) o4'') (fun _ => 0) (upd (upd μ'' I4 oI) (L' + 1 + 1 + 1 + 1) o4'') col' := Kp.cons (upd_self ..) k4' P18
        repeat tb_start
        refine r_listMethod S18 eNr18 hln PySem.F.slot_list_append PySem.F.type_list_append ?_
        repeat tb_start
        refine' r_LC ?cmp2 ?clo2
        case clo2 => exact rfl
        repeat tb_start
        refine r_range1 (n := many) (by assumption) ?_
        intro rg org h33 tk33 hrg horg S33
        (try dsimp only)
        refine r_iter_range S33 (upd_self ..) horg (by omega) ?_
        intro I1 h34 hI1 S34
        (try dsimp only)
        have P33 := PF.trans (Kp.mono (col := col') (MuLe.updN hrg (o := org)))
        have X33 := X18.mono (MuLe.updN hrg (o := org))
        refine r_blockRange (by exact hh) (by omega) S34 hI1 (fun _ _ μ' => MuLe _ μ') (MuLe.refl _) ?_ ?_
        · rintro other t5 ys μ5 oI5 oLL oD C D m₂ h35 tk35 E5 hj hle hyl nL m1 m2 m3 hlo S5
          have PX := P33.trans (Kp.mono (col := col') hle)
          have X5 := X33.mono (hle.trans ((MuLe.updN m1 (o := oLL)).trans ((MuLe.updN m2 (o := oI5)).trans (MuLe.updN m3 (o := oD)))))
          clear P33 PF P18 PI
          obtain ⟨nIX, hnIX, IX⟩ := X5.inst
          refine wpAny_tests_one ?_
          repeat tb_start
          walk_at "M:methFn"
          repeat tb_start
          refine hasEdge G S5 X5 (hord one hi) (by exact hh) (by simp only [depth_deeper]; omega) ?_
          intro h36 tk36 b36 S36
          repeat tb_start
          refine bsplit (fun hb => ?_) (fun hb => ?_)
          · repeat tb_start
            exact ⟨_, _, _, _, rfl, S36, by walk_at "mu", by walk_at "mu", by walk_at "mu", trivial, hle.trans (MuLe.delN m1 (MuLe.delN m2 (MuLe.delN m3 (MuLe.refl _))))⟩
          · exact ⟨_, _, _, _, rfl, S36, by walk_at "mu", by walk_at "mu", by walk_at "mu", trivial, hle.trans (MuLe.delN m1 (MuLe.delN m2 (MuLe.delN m3 (MuLe.refl _))))⟩
        · intro ys μ5 C D oC oD mC h35 tk35 hle hlo nC hD hC S5
          refine post_val S5 hC nC (fun h37 S37 => ?_)
          have eN5 : upd μ5 D oD nr = some onr' := mu_up (hle _ _ (mu_up eNr18 hrg)) hD
          repeat tb_start
          refine r_append S37 eN5 hln (by rw [hlen']; size_fits) ?_
          intro onr2 h38 honr2 S38
          repeat tb_start
          have X37 := (X33.mono (hle.trans (MuLe.updN hD (o := oD)))).chg (b := nr) (o := onr2) kNr
          have PG := (P33.trans (Kp.mono (col := col') (hle.trans (MuLe.updN hD (o := oD)))))
          have eI6 : upd μ5 D oD I4 = some oI := mu_up (hle _ _ (mu_up (mu_ch (upd_self ..) (Ne.symm nI4')) hrg)) hD
          refine ⟨_, _, _, _, rfl, S38, mu_ch eI6 (Ne.symm nIr), trivial, hq, o4'', onr2, _, _, X37.del cI, (fun b o e _ => ?_), del_of nI4' (mu_ch (PG.at (upd_self ..)) n4r), hd4'', del_of nIr (upd_self ..), honr2, by rw [List.length_append, hlen']; rfl⟩
          have z := PG b o (by walk_at "mu") rfl
          exact ⟨del_of (ne_of_mu e nIν) (mu_ch z.1 (ne_of_mu e nEr)), z.2⟩
      · rintro m'' μ'' h tk E'' ⟨hq, o4', onr', nvs, v0, X, P, e4', hv0, eNr, hln, hlen'⟩ S
        repeat tb_start
        rename_i t9 ot9 h9' ht9 hot9 S9'
        have P9 := P.trans (Kp.mono (col := col') (MuLe.updN ht9 (o := ot9)))
        refine ⟨_, _, _, _, rfl, S9', P9.at (by walk_at "mu"), fun S10 => hpost _ _ _ _ many ord x dx dg dn da dp nr onr' t9 ot9 nvs S10 (fun b o e => ?_) ((X.mono (MuLe.updN ht9)).del (P9.c0 (c := L) (o := oL) (by walk_at "mu"))) hord hM0 ?_ hln hlen' ?_ hot9⟩
        · exact del_of (hbase b o e).2.2.2.2 (P9.at (by walk_at "mu"))
        · exact del_of (Ne.symm nrL) (mu_up eNr ht9)
        · exact del_of (Ne.symm (ne_of_mu (P.at (c := L) (o := oL) (by walk_at "mu")) ht9)) (upd_self ..)
end
end

/-! F12 -/
section
section
variable {w : World} {A : Around} {E : Value → Shared → Prop} {s : Shared} {g : Heap} {L : Addr} {m : Str → Option Value} {μ : Mu} {mg mb : Str → Option Value} {Q : Value → Shared → Prop}
theorem lawDrawnG {l : Addr} {vs : List Value} {ns : List Int} (G : Gd w mg mb g) (S : St g L m μ s.heap) (hh : A.handled = none) (hl : g.IsList l vs.toArray) (hI : IntsAre vs ns) (hlen : ns.length ≤ 63) (hroom : A.depth + 20 < recursionLimit)
    (hpost : ∀ h' tk' μ' col' many ord x dx dg dn da dp nr onr t ot nvs, St g L m μ' h' → MuLe μ μ' → GrA w μ' col' false many ord ord ord x dx dg dn da dp → (∀ i < many, i ∈ ord) → 0 < many → μ' nr = some onr → lstO nvs onr → nvs.length = many → μ' t = some ot → tupO [.ref x, .ref nr] ot → Q (.ref t) { s with heap := h', toks := tk' }) :
    wpAny (model PR w) A (call (.ref 818) [.ref l, (.bool false)] []) Q E s := by
  refine' r_callC (binds := [("script", .ref l), ("is_directed", (.bool false))]) G S ?ho ?hcd ?hroom ?hb ?hloc ?_ ?h1 ?h2 ?h3 ?h4
  case ho => k_is
  case hcd => k_is
  case hb => exact BindsTo.of_eq rfl
  case hroom => omega
  case hloc => intro n; intro x hx; simp at hx; rcases hx with rfl | rfl <;> exact .inl rfl
  case h1 => exact rfl
  case h2 => exact rfl
  case h3 => exact rfl
  case h4 => decide
  intro oL L' cells h₁ tk E' hN hL hnn hC S1
  have hC' : CellsAre _ [(Str.ofString "one", L' + 1 + 1 + 1 + 1), (Str.ofString "first", L' + 1 + 1 + 1), (Str.ofString "graph", L' + 1 + 1), (Str.ofString "many", L' + 1)] cells := hC
  clear hC
  obtain ⟨o4, o3, o2, o1, rfl, hd4, hd3, hd2, hd1⟩ := cells_four hC'
  clear hC'
  simp only [cellMu, NnAll] at hnn S1
  obtain ⟨n4, n3, n2, n1, _⟩ := hnn
  replace hd4 : o4.data = .cell none := hd4
  replace hd3 : o3.data = .cell none := hd3
  replace hd2 : o2.data = .cell none := hd2
  replace hd1 : o1.data = .cell none := hd1
  obtain ⟨mL, hm1, hm2, S1⟩ : ∃ mL : Str → Option Value, mL "script" = some (.ref l) ∧ mL "is_directed" = some (.bool false) ∧ St g L' mL _ h₁ := ⟨_, rfl, rfl, S1⟩
  have P1 := Kp.refl (μ := upd (upd (upd (upd (upd μ L oL) (L' + 1 + 1 + 1 + 1) o4) (L' + 1 + 1 + 1) o3) (L' + 1 + 1) o2) (L' + 1) o1) (col := fun _ => 0)
  repeat tb_start
  refine law_cell (k := 1) G S1 hl hI hlen (by decide) (by simp only [depth_deeper]; omega) ?_
  intro h2 tk2 μ2 t2 n2v S2 le2 hn2
  repeat tb_start
  refine mod_int' (by decide) ?_
  repeat tb_start
  obtain ⟨many, hM, hM0, hM6⟩ : ∃ M : Nat, (1 + n2v.fmod 6 : Int) = (M : Int) ∧ 0 < M ∧ M ≤ 6 := by
    have q : n2v.fmod 6 = n2v % 6 := Int.fmod_eq_emod_of_nonneg _ (by decide)
    rw [q]
    exact ⟨(1 + n2v % 6).toNat, by omega, by omega, by omega⟩
  refine new_graph G S2 (by simp only [depth_deeper]; omega) hM6 ?_
  intro h3 tk3 μ3 col3 x dx dg dn da dp S3 K3 X3
  have P3 := (P1.trans (Kp.mono le2)).trans K3
  clear K3 P1
  repeat tb_start
  rename_i t4 ot4 h4 ht4 hot4 S4
  refine r_unpack S4 (upd_self ..) hot4 (by exact hh) rfl rfl (fun h5 S5 => ?_)
  refine assignInOrder_cons ?_
  repeat tb_start
  rw [hM]
  have P4 := P3.trans (Kp.mono (col := col3) (MuLe.updN ht4 (o := ot4)))
  have X4 := X3.mono (MuLe.updN ht4 (o := ot4))
  refine r_stCell S5 rfl (by walk_at "mu") hd1 ?_
  intro o1' h6 hd1' S6
  have P5 := P4.st (c := L' + 1) (o' := o1') (by walk_at "mu")
  have X5 := X4.chg (o := o1') (P4.c0 (c := L' + 1) (by walk_at "mu"))
  clear P3 P4
  refine assignInOrder_cons ?_
  repeat tb_start
  refine r_stCell S6 rfl (by walk_at "mu") hd2 ?_
  intro o2' h7 hd2' S7
  have P6 := P5.st (c := L' + 1 + 1) (o' := o2') (by walk_at "mu")
  have X6 := X5.chg (o := o2') (P5.c0 (c := L' + 1 + 1) (by walk_at "mu"))
  clear P5
  repeat tb_start
  refine law_cell (k := 2) G S7 hl hI hlen (by decide) (by simp only [depth_deeper]; omega) ?_
  intro h8 tk8 μ8 t8 n8v S8 le8 hn8
  have P8 := P6.trans (Kp.mono (col := col3) le8)
  have X8 := X6.mono le8
  clear P6 X6
  repeat tb_start
  refine mod_int' (by omega) ?_
  repeat tb_start
  rename_i nr onr h9 hnr honr S9 tt ot h10 htt hott S10
  refine r_unpack S10 (upd_self ..) hott (by exact hh) rfl rfl (fun h11 S11 => ?_)
  refine assignInOrder_cons ?_
  repeat tb_start
  obtain ⟨first, hF, hFm⟩ : ∃ f : Nat, n8v.fmod (many : Int) = (f : Int) ∧ f < many := by
    have q : n8v.fmod (many : Int) = n8v % (many : Int) := Int.fmod_eq_emod_of_nonneg _ (by omega)
    have q1 := Int.emod_nonneg n8v (b := (many : Int)) (by omega)
    have q2 := Int.emod_lt_of_pos n8v (b := (many : Int)) (by omega)
    rw [q]
    exact ⟨(n8v % (many : Int)).toNat, by omega, by omega⟩
  rw [hF]
  have hnrν := P8.nn hnr
  have P9 := P8.pin (o := onr) hnr (X8.c0 hnr)
  have P11 := P9.trans (Kp.mono (col := col3) (MuLe.updN htt (o := ot)))
  have X11 := X8.mono ((MuLe.updN hnr (o := onr)).trans (MuLe.updN htt (o := ot)))
  refine r_stCell S11 rfl (by walk_at "mu") hd3 ?_
  intro o3' h12 hd3' S12
  have P12 := P11.st (c := L' + 1 + 1 + 1) (o' := o3') (by walk_at "mu")
  have X12 := X11.chg (o := o3') (P11.c0 (c := L' + 1 + 1 + 1) (by walk_at "mu"))
  clear P11 X11
  refine assignInOrder_cons ?_
  repeat tb_start
  obtain ⟨nI12, hnI12, I12⟩ := X12.inst
  walk_at "M:methFn"
  repeat tb_start
  refine' r_LC ?cmp ?clo
  case clo => exact rfl
  repeat tb_start
  refine r_range1 (n := many) (by assumption) ?_
  intro rg org h13 tk13 hrg horg S13
  (try dsimp only)
  refine r_iter_range S13 (upd_self ..) horg (by omega) ?_
  intro I1 h14 hI1 S14
  (try dsimp only)
  have P13 := P12.trans (Kp.mono (col := col3) (MuLe.updN hrg (o := org)))
  have X13 := X12.mono (MuLe.updN hrg (o := org))
  refine r_blockRange (by exact hh) (by omega) S14 hI1 (fun i ys μ' => MuLe _ μ' ∧ ∃ pts : List (Nat × Tok), ys = pts.map ptV ∧ pts.length = i ∧ ∀ j p, pts[j]? = some p → p.1 = (first + j) % many) ⟨MuLe.refl _, [], rfl, rfl, fun j p hj => by simp at hj⟩ ?_ ?_
  · rintro i t ys μ' oI oLL oD C D m₂ h tk E'' hi ⟨hle, pts, rfl, hpl, hpt⟩ hyl nL m1 m2 m3 hlo S
    have PX := P13.trans (Kp.mono (col := col3) hle)
    clear P12 P13
    refine wpAny_tests_nil ?_
    repeat tb_start
    refine mod_int' (by omega) ?_
    refine ⟨_, _, _, _, rfl, S, by walk_at "mu", by walk_at "mu", by walk_at "mu", trivial, hle.trans (MuLe.delN m1 (MuLe.delN m2 (MuLe.delN m3 (MuLe.refl _)))), pts ++ [((first + i) % many, tk + 1)], ?_, by rw [List.length_append, hpl]; rfl, fun j p hj => ?_⟩
    · have q : ((first : Int) + (i : Int)).fmod (many : Int) = (((first + i) % many : Nat) : Int) := by
        rw [Int.fmod_eq_emod_of_nonneg _ (by omega)]
        norm_cast
      rw [List.map_append, q]
      rfl
    · rw [List.getElem?_append] at hj
      split at hj
      · exact hpt j p hj
      · rename_i hge
        rw [hpl] at hge hj
        have : j - i = 0 := by
          cases q : j - i with
          | zero => rfl
          | succ n => rw [q] at hj; simp at hj
        rw [this] at hj
        have e : j = i := by omega
        simp at hj
        rw [← hj, e]
  · intro ys μ' C D oC oD mC h tk ⟨hle, pts, hys, hpl, hpt⟩ hlo nC hD hC S
    refine post_val S hC nC (fun h' S' => ?_)
    repeat tb_start
    have P14 := (P13.trans (Kp.mono (col := col3) hle)).trans (Kp.mono (col := col3) (MuLe.updN hD (o := oD)))
    have X14 := X13.mono (hle.trans (MuLe.updN hD (o := oD)))
    rw [hys] at hlo
    refine addNodesG G S' (by exact hh) X14 (upd_self ..) ((X13.mono hle).c0 hD) hlo (fun p hp => ?_) (by omega) (by simp only [depth_deeper]; omega) ?_
    · obtain ⟨j, hj⟩ := List.getElem?_of_mem hp
      rw [hpt j p hj]; exact Nat.mod_lt _ hM0
    intro h15 tk15 μ15 col15 ord S15 K15 X15 hin
    have P15 := P14.trans K15
    have hord : ∀ i < many, i ∈ ord := by
      intro i hi
      have hj : (i + many - first) % many < pts.length := by rw [hpl]; exact Nat.mod_lt _ hM0
      have := hin pts[(i + many - first) % many] (List.getElem_mem hj)
      rw [hpt _ _ (List.getElem?_eq_getElem hj)] at this
      have e : (first + (i + many - first) % many) % many = i := by
        rw [Nat.add_mod, Nat.mod_mod, ← Nat.add_mod, show first + (i + many - first) = i + many by omega, Nat.add_mod_right, Nat.mod_eq_of_lt hi]
      rw [e] at this
      exact this
    have PB : Kp (upd (upd (upd (upd (upd μ L oL) (L' + 1 + 1 + 1) o3') (L' + 1 + 1) o2') (L' + 1) o1') nr onr) (fun _ => 0) μ15 col15 :=
      Kp.cons (P15.at (by walk_at "mu")) (P15.c0 (by walk_at "mu")) (Kp.cons (P15.at (by walk_at "mu")) (P15.c0 (by walk_at "mu")) (Kp.cons (P15.at (by walk_at "mu")) (P15.c0 (by walk_at "mu")) (Kp.cons (P15.at (by walk_at "mu")) (P15.c0 (by walk_at "mu")) (Kp.cons (P15.at (by walk_at "mu")) (P15.c0 (by walk_at "mu")) (fun b o e _ => P15 b o (by walk_at "mu") rfl)))))
    have e4 : μ15 (L' + 1 + 1 + 1 + 1) = some o4 := P15.at (by walk_at "mu")
    have k4 : col15 (L' + 1 + 1 + 1 + 1) = 0 := P15.c0 (c := L' + 1 + 1 + 1 + 1) (o := o4) (by walk_at "mu")
    have n41 : L' + 1 + 1 + 1 + 1 ≠ L' + 1 := by walk_at "ne"
    have n42 : L' + 1 + 1 + 1 + 1 ≠ L' + 1 + 1 := by walk_at "ne"
    have n43 : L' + 1 + 1 + 1 + 1 ≠ L' + 1 + 1 + 1 := by walk_at "ne"
    have n4r : L' + 1 + 1 + 1 + 1 ≠ nr := by walk_at "ne"
    have n4L : L' + 1 + 1 + 1 + 1 ≠ L := by walk_at "ne"
    have nB4 : Nn (upd (upd (upd (upd (upd μ L oL) (L' + 1 + 1 + 1) o3') (L' + 1 + 1) o2') (L' + 1) o1') nr onr) (L' + 1 + 1 + 1 + 1) :=
      nn_upd n4r (nn_upd n41 (nn_upd n42 (nn_upd n43 n4)))
    have n12 : L' + 1 ≠ L' + 1 + 1 := by walk_at "ne"
    have n13 : L' + 1 ≠ L' + 1 + 1 + 1 := by walk_at "ne"
    have n23 : L' + 1 + 1 ≠ L' + 1 + 1 + 1 := by walk_at "ne"
    have n1r : L' + 1 ≠ nr := by walk_at "ne"
    have n2r : L' + 1 + 1 ≠ nr := by walk_at "ne"
    have n3r : L' + 1 + 1 + 1 ≠ nr := by walk_at "ne"
    have n1L : L ≠ L' + 1 := by walk_at "ne"
    have n2L : L ≠ L' + 1 + 1 := by walk_at "ne"
    have n3L : L ≠ L' + 1 + 1 + 1 := by walk_at "ne"
    have nrL : L ≠ nr := by walk_at "ne"
    have hbase : ∀ b o, μ b = some o → b ≠ L' + 1 ∧ b ≠ L' + 1 + 1 ∧ b ≠ L' + 1 + 1 + 1 ∧ b ≠ nr ∧ b ≠ L := fun b o e => ⟨by walk_at "ne", by walk_at "ne", by walk_at "ne", by walk_at "ne", by walk_at "ne"⟩
    clear P14 P15 P9 P8 X14 X13 X8 X12
    obtain ⟨mN, hq1, hq2, S15⟩ : ∃ mN : Str → Option Value, mN "script" = some (.ref l) ∧ mN "near" = some (.ref nr) ∧ St g L' mN μ15 h15 := ⟨fun y => if y = Str.ofString "near" then some (Value.ref nr) else mL y, hm1, rfl, S15⟩
    repeat tb_start
    refine r_range1 (n := many) S15 ?_
    intro rg2 org2 h16 tk16 hrg2 horg2 S16
    (try dsimp only)
    refine r_iter_range S16 (upd_self ..) horg2 (by omega) ?_
    intro I2 h17 hI2 S17
    (try dsimp only)
    refine r_for_rangeT (by exact hh) (fun i m' μ' => m' "script" = some (.ref l) ∧ m' "near" = some (.ref nr) ∧ ∃ col' o4', GrA w μ' col' false many ord ord ord x dx dg dn da dp ∧ Kp (upd (upd (upd (upd (upd μ L oL) (L' + 1 + 1 + 1) o3') (L' + 1 + 1) o2') (L' + 1) o1') nr onr) (fun _ => 0) μ' col' ∧ μ' (L' + 1 + 1 + 1 + 1) = some o4' ∧ col' (L' + 1 + 1 + 1 + 1) = 0 ∧ ∃ v0, o4'.data = .cell v0) S17 hI2 ?_ ?_ ?_
    · exact ⟨hq1, hq2, col15, o4, X15.mono (MuLe.updN hrg2), PB.trans (Kp.mono (MuLe.updN hrg2)), mu_up e4 hrg2, k4, none, hd4⟩
    · rintro one t m' μ' oI h tk E'' hi ⟨hq1', hq2', col', o4', X, P, e4', k4', v0, hv0⟩ hI' S
      have XI := X.mono (MuLe.updN hI' (o := oI))
      have PI := P.trans (Kp.mono (col := col') (MuLe.updN hI' (o := oI)))
      repeat tb_start
      refine r_stCell S rfl (mu_up e4' hI') hv0 ?_
      intro o4'' h18 hd4'' S18
      have X18 := XI.chg (o := o4'') k4'
      have P18 := PI.skip (o := o4'') nB4
      clear XI PI
      repeat tb_start
      refine law_cell (k := 3 + one) G S18 hl hI hlen (by omega) (by simp only [depth_deeper]; omega) ?_
      intro h19 tk19 μ19 t19 nv S19 le19 hnv
      have X19 := X18.mono le19
      have P19 := P18.trans (Kp.mono (col := col') le19)
      have e419 : μ19 (L' + 1 + 1 + 1 + 1) = some o4'' := le19 _ _ (upd_self ..)
      have eI19 : μ19 I2 = some oI := le19 _ _ (mu_ch (upd_self ..) (Ne.symm (ne_of_mu e4' hI')))
      clear X18 P18
      repeat tb_start
      refine law_bits (n := many + 1) G S19 (by exact hh) (by omega) (by simp only [depth_deeper]; omega) ?_
      intro h20 tk20 μ20 bl obl bvs S20 le20 nbl hbl hbo hbn hbi
      have X20 := X19.mono le20
      have P20 := P19.trans (Kp.mono (col := col') le20)
      have e420 := le20 _ _ e419
      have eI20 := le20 _ _ eI19
      have cbl := X19.c0 nbl
      have cI := X.c0 hI'
      have nIν := P.nn hI'
      have nI4 : I2 ≠ L' + 1 + 1 + 1 + 1 := Ne.symm (ne_of_mu e4' hI')
      have nIν' := nn_upd (o := o4'') nI4 nIν
      have PC : Kp (upd (upd (upd (upd (upd (upd (upd (upd μ L oL) (L' + 1 + 1 + 1) o3') (L' + 1 + 1) o2') (L' + 1) o1') nr onr) (L' + 1 + 1 + 1 + 1) o4'') I2 oI) bl obl) (fun _ => 0) μ20 col' :=
        Kp.cons hbl cbl (Kp.cons eI20 cI (Kp.cons e420 k4' P20))
      have nblν := (Kp.cons eI19 cI (Kp.cons e419 k4' P19)).nn nbl
      clear X19 P19 P20
      repeat tb_start
      rename_i h21 S21
      refine r_range1 (n := many) S21 ?_
      intro rg3 org3 h22 tk22 hrg3 horg3 S22
      (try dsimp only)
      refine r_iter_range S22 (upd_self ..) horg3 (by omega) ?_
      intro I3 h23 hI3 S23
      (try dsimp only)
      refine r_for_range (by exact hh) (fun j m'' μ'' => m'' "script" = some (.ref l) ∧ m'' "near" = some (.ref nr) ∧ m'' "bits" = some (.ref bl) ∧ ∃ col'', GrA w μ'' col'' false many ord ord ord x dx dg dn da dp ∧ Kp (upd (upd (upd (upd (upd (upd (upd (upd μ L oL) (L' + 1 + 1 + 1) o3') (L' + 1 + 1) o2') (L' + 1) o1') nr onr) (L' + 1 + 1 + 1 + 1) o4'') I2 oI) bl obl) (fun _ => 0) μ'' col'') S23 hI3 ?_ ?_ ?_
      · exact ⟨hq1', hq2', rfl, col', X20.mono (MuLe.updN hrg3), PC.trans (Kp.mono (MuLe.updN hrg3))⟩
      · rintro other t3 m'' μ'' oI3 hh3 tk23 E3 hj ⟨hq1'', hq2'', hq3'', col'', XX, PP⟩ hI3' SS
        have XXI := XX.mono (MuLe.updN hI3' (o := oI3))
        have PPI := PP.trans (Kp.mono (col := col'') (MuLe.updN hI3' (o := oI3)))
        have nI3ν := PP.nn hI3'
        clear PC P
        obtain ⟨bns, hbns⟩ := ints_of hbi
        have hbl := hbns.length
        refine wpAny_execs_cons (wpAny_If ?_)
        refine wpAny_mono (Q := fun (_ : Bool) s' => ∃ tk', s' = { s with heap := hh3, toks := tk' }) ?_ (fun bb s' hs' => ?_) (fun _ _ e => e)
        · repeat tb_start
          refine item_list_ints (hbo.isList (SS.get (by walk_at "mu"))) hbns (by omega) (by omega) (by omega) (fun t5 => ?_)
          repeat tb_start
          refine bsplit (fun hc1 => ?_) (fun hc1 => ?_)
          · repeat tb_start
            refine bsplit (fun hc2 => ?_) (fun hc2 => ?_)
            · repeat tb_start
              exact ⟨_, rfl⟩
            · repeat tb_start
              refine item_list_ints (hbo.isList (SS.get (by walk_at "mu"))) hbns (by omega) (by omega) (by omega) (fun t6 => ?_)
              repeat tb_start
              refine bsplit (fun hc3 => ?_) (fun hc3 => ?_)
              · repeat tb_start
                exact ⟨_, rfl⟩
              · repeat tb_start
                exact ⟨_, rfl⟩
          · repeat tb_start
            exact ⟨_, rfl⟩
        obtain ⟨tk24, rfl⟩ := hs'
        have cI3 := XX.c0 hI3'
        refine bsplit (fun hc1 => ?_) (fun hc1 => ?_)
        · obtain ⟨nIX, hnIX, IX⟩ := XXI.inst
          repeat tb_start
          walk_at "M:methFn"
          repeat tb_start
          refine addEdgeG G SS XXI (hord one hi) (hord other hj) (by exact hh) (by simp only [depth_deeper]; omega) ?_
          intro h25 tk25 μ25 col25 S25 K25 X25
          repeat tb_start
          have eI3 := K25 I3 oI3 (upd_self ..) cI3
          exact ⟨_, _, _, _, rfl, S25, eI3.1, trivial, hq1'', hq2'', hq3'', col25, X25.del eI3.2, PP.delI hI3' K25⟩
        · repeat tb_start
          exact ⟨_, _, _, _, rfl, SS, upd_self .., trivial, hq1'', hq2'', hq3'', col'', XXI.del cI3, PP.delI hI3' Kp.refl⟩
      · rintro m'' μ'' hh3 tk23 E3 ⟨hq1'', hq2'', hq3'', col'', XX, PP⟩ SS
        repeat tb_start
        refine ⟨_, _, _, _, rfl, SS, PP.at (by walk_at "mu"), trivial, hq1'', hq2'', col'', o4'', XX.del (PP.c0 (c := I2) (o := oI) (by walk_at "mu")), (fun b o e _ => ?_), del_of (Ne.symm nI4) (PP.at (by walk_at "mu")), PP.c0 (c := L' + 1 + 1 + 1 + 1) (o := o4'') (by walk_at "mu"), _, hd4''⟩
        have z := PP b o (by walk_at "mu") rfl
        exact ⟨del_of (ne_of_mu e nIν) z.1, z.2⟩
    · rintro m' μ' h tk E'' ⟨hq1', hq2', col', o4', X, P, e4', k4', v0, hv0⟩ S
      have nμr : Nn μ nr := by
        show μ nr = none
        cases e : μ nr with
        | none => rfl
        | some o => exact absurd rfl (hbase nr o e).2.2.2.1
      have nEr : Nn (upd (upd (upd (upd μ L oL) (L' + 1 + 1 + 1) o3') (L' + 1 + 1) o2') (L' + 1) o1') nr := nn_upd (Ne.symm n1r) (nn_upd (Ne.symm n2r) (nn_upd (Ne.symm n3r) (nn_upd (Ne.symm nrL) nμr)))
      have nE4 : Nn (upd (upd (upd (upd μ L oL) (L' + 1 + 1 + 1) o3') (L' + 1 + 1) o2') (L' + 1) o1') (L' + 1 + 1 + 1 + 1) := nn_low n4r nB4
      have PE : Kp (upd (upd (upd (upd μ L oL) (L' + 1 + 1 + 1) o3') (L' + 1 + 1) o2') (L' + 1) o1') (fun _ => 0) μ' col' := fun b o e _ => P b o (by walk_at "mu") rfl
      have eNr : μ' nr = some onr := P.at (upd_self ..)
      have kNr : col' nr = 0 := P.c0 (upd_self ..)
      clear P PB hnrν
      repeat tb_start
      refine r_range1 (n := many) S ?_
      intro rg4 org4 h30 tk30 hrg4 horg4 S30
      (try dsimp only)
      refine r_iter_range S30 (upd_self ..) horg4 (by omega) ?_
      intro I4 h31 hI4 S31
      (try dsimp only)
      refine r_for_rangeT (by exact hh) (fun i m'' μ'' => m'' "near" = some (.ref nr) ∧ ∃ o4' onr' nvs v0, GrA w μ'' col' false many ord ord ord x dx dg dn da dp ∧ Kp (upd (upd (upd (upd μ L oL) (L' + 1 + 1 + 1) o3') (L' + 1 + 1) o2') (L' + 1) o1') (fun _ => 0) μ'' col' ∧ μ'' (L' + 1 + 1 + 1 + 1) = some o4' ∧ o4'.data = .cell v0 ∧ μ'' nr = some onr' ∧ lstO nvs onr' ∧ nvs.length = i) S31 hI4 ?_ ?_ ?_
      · exact ⟨hq2', o4', onr, [], v0, X.mono (MuLe.updN hrg4), PE.trans (Kp.mono (MuLe.updN hrg4)), mu_up e4' hrg4, hv0, mu_up eNr hrg4, honr, rfl⟩
      · rintro one t m'' μ'' oI h tk E'' hi ⟨hq, o4', onr', nvs, v0, X, P, e4', hv0, eNr, hln, hlen'⟩ hI' S
        have XI := X.mono (MuLe.updN hI' (o := oI))
        have PI := P.trans (Kp.mono (col := col') (MuLe.updN hI' (o := oI)))
        have nI4' : L' + 1 + 1 + 1 + 1 ≠ I4 := ne_of_mu e4' hI'
        have nIr : nr ≠ I4 := ne_of_mu eNr hI'
        have nIν := P.nn hI'
        have cI := X.c0 hI'
        repeat tb_start
        refine r_stCell S rfl (mu_up e4' hI') hv0 ?_
        intro o4'' h18 hd4'' S18
        have X18 := XI.chg (o := o4'') k4'
        have P18 := PI.skip (o := o4'') nE4
        have eNr18 : upd (upd μ'' I4 oI) (L' + 1 + 1 + 1 + 1) o4'' nr = some onr' := mu_ch (mu_up eNr hI') (Ne.symm n4r)
        have PF : Kp (upd (upd (upd (upd (upd μ L oL) (L' + 1 + 1 + 1) o3') (L' + 1 + 1) o2') (L' + 1) o1') (L' + 1 + 1 + 1 + 1) o4'') (fun _ => 0) (upd (upd μ'' I4 oI) (L' + 1 + 1 + 1 + 1) o4'') col' := Kp.cons (upd_self ..) k4' P18
        repeat tb_start
        refine r_listMethod S18 eNr18 hln PySem.F.slot_list_append PySem.F.type_list_append ?_
        repeat tb_start
        refine' r_LC ?cmp2 ?clo2
        case clo2 => exact rfl
        repeat tb_start
        refine r_range1 (n := many) (by assumption) ?_
        intro rg org h33 tk33 hrg horg S33
        (try dsimp only)
        refine r_iter_range S33 (upd_self ..) horg (by omega) ?_
        intro I1 h34 hI1 S34
        (try dsimp only)
        have P33 := PF.trans (Kp.mono (col := col') (MuLe.updN hrg (o := org)))
        have X33 := X18.mono (MuLe.updN hrg (o := org))
        refine r_blockRange (by exact hh) (by omega) S34 hI1 (fun _ _ μ' => MuLe _ μ') (MuLe.refl _) ?_ ?_
        · rintro other t5 ys μ5 oI5 oLL oD C D m₂ h35 tk35 E5 hj hle hyl nL m1 m2 m3 hlo S5
          have PX := P33.trans (Kp.mono (col := col') hle)
          have X5 := X33.mono (hle.trans ((MuLe.updN m1 (o := oLL)).trans ((MuLe.updN m2 (o := oI5)).trans (MuLe.updN m3 (o := oD)))))
          clear P33 PF P18 PI
          obtain ⟨nIX, hnIX, IX⟩ := X5.inst
          refine wpAny_tests_one ?_
          repeat tb_start
          walk_at "M:methFn"
          repeat tb_start
          refine hasEdge G S5 X5 (hord one hi) (by exact hh) (by simp only [depth_deeper]; omega) ?_
          intro h36 tk36 b36 S36
          repeat tb_start
          refine bsplit (fun hb => ?_) (fun hb => ?_)
          · repeat tb_start
            exact ⟨_, _, _, _, rfl, S36, by walk_at "mu", by walk_at "mu", by walk_at "mu", trivial, hle.trans (MuLe.delN m1 (MuLe.delN m2 (MuLe.delN m3 (MuLe.refl _))))⟩
          · exact ⟨_, _, _, _, rfl, S36, by walk_at "mu", by walk_at "mu", by walk_at "mu", trivial, hle.trans (MuLe.delN m1 (MuLe.delN m2 (MuLe.delN m3 (MuLe.refl _))))⟩
        · intro ys μ5 C D oC oD mC h35 tk35 hle hlo nC hD hC S5
          refine post_val S5 hC nC (fun h37 S37 => ?_)
          have eN5 : upd μ5 D oD nr = some onr' := mu_up (hle _ _ (mu_up eNr18 hrg)) hD
          repeat tb_start
          refine r_append S37 eN5 hln (by rw [hlen']; size_fits) ?_
          intro onr2 h38 honr2 S38
          repeat tb_start
          have X37 := (X33.mono (hle.trans (MuLe.updN hD (o := oD)))).chg (b := nr) (o := onr2) kNr
          have PG := (P33.trans (Kp.mono (col := col') (hle.trans (MuLe.updN hD (o := oD)))))
          have eI6 : upd μ5 D oD I4 = some oI := mu_up (hle _ _ (mu_up (mu_ch (upd_self ..) (Ne.symm nI4')) hrg)) hD
          refine ⟨_, _, _, _, rfl, S38, mu_ch eI6 (Ne.symm nIr), trivial, hq, o4'', onr2, _, _, X37.del cI, (fun b o e _ => ?_), del_of nI4' (mu_ch (PG.at (upd_self ..)) n4r), hd4'', del_of nIr (upd_self ..), honr2, by rw [List.length_append, hlen']; rfl⟩
          have z := PG b o (by walk_at "mu") rfl
          exact ⟨del_of (ne_of_mu e nIν) (mu_ch z.1 (ne_of_mu e nEr)), z.2⟩
      · rintro m'' μ'' h tk E'' ⟨hq, o4', onr', nvs, v0, X, P, e4', hv0, eNr, hln, hlen'⟩ S
        repeat tb_start
        rename_i t9 ot9 h9' ht9 hot9 S9'
        have P9 := P.trans (Kp.mono (col := col') (MuLe.updN ht9 (o := ot9)))
        refine ⟨_, _, _, _, rfl, S9', P9.at (by walk_at "mu"), fun S10 => hpost _ _ _ _ many ord x dx dg dn da dp nr onr' t9 ot9 nvs S10 (fun b o e => ?_) ((X.mono (MuLe.updN ht9)).del (P9.c0 (c := L) (o := oL) (by walk_at "mu"))) hord hM0 ?_ hln hlen' ?_ hot9⟩
        · exact del_of (hbase b o e).2.2.2.2 (P9.at (by walk_at "mu"))
        · exact del_of (Ne.symm nrL) (mu_up eNr ht9)
        · exact del_of (Ne.symm (ne_of_mu (P.at (c := L) (o := oL) (by walk_at "mu")) ht9)) (upd_self ..)
end
end

/-! F13 -/
section
theorem lawWalk {w : World} {g : Heap} {mg mb : Str → Option Value} (G : Gd w mg mb g) {many : Nat} (hm6 : many ≤ 6) (R : List (List Nat)) (hRl : R.length = many) (hR : ∀ row ∈ R, ∀ x ∈ row, x < many) : ∀ (left : Nat), 0 < left →
    ∀ {A : Around} {E : Value → Shared → Prop} {s : Shared} {L : Addr} {m : Str → Option Value} {μ : Mu} {Q : Value → Shared → Prop} {ra sa fa : Addr} {so fo : Obj} {sv fv : List Value} {sn : List Nat} {fn : List Edge} {node : Nat} {tn tl : Tok}
    (S : St g L m μ s.heap) (hh : A.handled = none) (hroom : A.depth + left + 5 < recursionLimit) (hnode : node < many) (hne : sa ≠ fa)
    (hrows : RowsAt (del (del μ fa) sa) ra R) (hs : μ sa = some so) (hsl : lstO sv so) (hsn : NatsAre sv sn) (hf : μ fa = some fo) (hfl : lstO fv fo) (hfp : PairsL (del (del μ fa) sa) fv fn) (hok : WOk many sn fn)
    (h : ∀ h' tk' μ' so' fo' sv' fv', St g L m μ' h' → MuLe (del (del μ fa) sa) (del (del μ' fa) sa) → μ' sa = some so' → lstO sv' so' → NatsAre sv' (walkL (rowF R) left node (rowF R node) sn fn).1 → μ' fa = some fo' → lstO fv' fo' → PairsL (del (del μ' fa) sa) fv' (walkL (rowF R) left node (rowF R node) sn fn).2 → Q .none { s with heap := h', toks := tk' }),
    wpAny (model PR w) A (call (.ref 832) [.ref ra, .int (node : Int) tn, .int (left : Int) tl, .ref sa, .ref fa] []) Q E s := by
  intro left
  induction left with
  | zero => intro h0; exact absurd h0 (Nat.lt_irrefl _)
  | succ l ihl =>
    intro _ A E s L m μ Q ra sa fa so fo sv fv sn fn node tn tl S hh hroom hnode hne hrows hs hsl hsn hf hfl hfp hok hpost
    have hRf : ∀ c, c < many → ∀ x ∈ rowF R c, x < many := fun c hc x hx => hR (rowF R c) (by show R.getD c [] ∈ R; rw [List.getD_eq_getElem?_getD, List.getElem?_eq_getElem (by omega)]; exact List.getElem_mem _) x hx
    refine' r_call (binds := [("rows", .ref ra), ("node", .int (node : Int) tn), ("left", .int ((l + 1 : Nat) : Int) tl), ("seen", .ref sa), ("found", .ref fa)]) G S ?ho ?hcd ?hroom ?hb ?hloc ?_ ?h1 ?h2 ?h3 ?h4
    case ho => k_is
    case hcd => k_is
    case hb => exact BindsTo.of_eq rfl
    case hroom => omega
    case hloc => exact locs rfl
    case h1 => exact rfl
    case h2 => exact rfl
    case h3 => exact rfl
    case h4 => decide
    intro oL L' h₁ tk E' hN hL S2
    have hsL : sa ≠ L := ne_of_mu hs hL
    have hfL : fa ≠ L := ne_of_mu hf hL
    have k0 : MuLe (del (del μ fa) sa) (del (del (upd μ L oL) fa) sa) := ((MuLe.updN hL).del2 fa).del2 sa
    obtain ⟨oR, vR, eR, lR, nR, gR⟩ := hrows.mono k0
    have hrow : R[node]? = some (rowF R node) := by
      show R[node]? = some (R.getD node [])
      rw [List.getD_eq_getElem?_getD, List.getElem?_eq_getElem (by omega)]; rfl
    obtain ⟨r, orr, ivs, e1, e2, e3, e4⟩ := gR node _ hrow
    have eR' := (del_some (del_some eR).2).2
    have e2' := (del_some (del_some e2).2).2
    repeat tb_start
    refine item_list (lR.isList (S2.get eR')) (by omega) (by omega) (x := .ref r) (by simpa using e1) ?_
    repeat tb_start
    refine r_iter_list S2 e2' e3 ?_
    intro I oI h2 hI hit S3
    (try dsimp only)
    refine r_for_listC (by exact hh) (fun i m' μ' => m' "rows" = some (.ref ra) ∧ m' "node" = some (.int (node : Int) tn) ∧ m' "left" = some (.int ((l + 1 : Nat) : Int) tl) ∧ m' "seen" = some (.ref sa) ∧ m' "found" = some (.ref fa) ∧
      ∃ so' sv' s' fo' fv' f', μ' sa = some so' ∧ lstO sv' so' ∧ NatsAre sv' s' ∧ μ' fa = some fo' ∧ lstO fv' fo' ∧ PairsL (del (del μ' fa) sa) fv' f' ∧ MuLe (del (del (upd μ L oL) fa) sa) (del (del μ' fa) sa) ∧ WOk many s' f' ∧
        walkL (rowF R) (l + 1) node ((rowF R node).drop i) s' f' = walkL (rowF R) (l + 1) node (rowF R node) sn fn) S3 hI hit e2' e3 ?_ ?_ ?_
    · exact ⟨rfl, rfl, rfl, rfl, rfl, so, sv, sn, fo, fv, fn, mu_up hs hL, hsl, hsn, mu_up hf hL, hfl, hfp.mono k0, MuLe.refl _, hok, rfl⟩
    · rintro i v m' μ' oI' h tk6 E6 hi hcI ⟨q1, q2, q3, q4, q5, so', sv', s', fo', fv', f', hs', hsl', hsn', hf', hfl', hfp', hle, hok', heq⟩ hI' hr' S4
      obtain ⟨c, tc, hc, rfl⟩ := e4.at hi
      have hcm : c < many := hRf node hnode c (List.mem_of_getElem? hc)
      have hdrop : (rowF R node).drop i = c :: (rowF R node).drop (i + 1) := by
        have hlt : i < (rowF R node).length := by rw [List.getElem?_eq_some_iff] at hc; exact hc.1
        rw [List.drop_eq_getElem_cons hlt]
        rw [List.getElem?_eq_getElem hlt] at hc
        cases hc; rfl
      rw [hdrop] at heq
      have hIs : I ≠ sa := Ne.symm (ne_of_mu hs' hI')
      have hIf : I ≠ fa := Ne.symm (ne_of_mu hf' hI')
      repeat tb_start
      refine notin_list_ints (hsl'.isList (S4.get (mu_up hs' hI'))) hsn' ?_
      repeat tb_start
      rw [any_nat]
      refine bsplit (fun hnew => ?_) (fun hold => ?_)
      · have hcs : c ∉ s' := by simpa using hnew
        have hlen' := hok'.len
        have hlf := hok'.le
        rw [walkL_cons _ _ _ _ _ _ _ hcs] at heq
        repeat tb_start
        refine r_listMethod S4 (mu_up hs' hI') hsl' PySem.F.slot_list_append PySem.F.type_list_append ?_
        repeat tb_start
        refine r_append S4 (mu_up hs' hI') hsl' (by rw [hsn'.len, PySem.sizeLine_eq]; omega) ?_
        intro so2 h7 hso2 S7
        have hf7 : upd (upd μ' I oI') sa so2 fa = some fo' := mu_ch (mu_up hf' hI') (Ne.symm hne)
        repeat tb_start
        refine r_listMethod S7 hf7 hfl' PySem.F.slot_list_append PySem.F.type_list_append ?_
        repeat tb_start
        rename_i t ot h8 ht hot S8
        refine r_append S8 (mu_up hf7 ht) hfl' (by rw [hfp'.length, PySem.sizeLine_eq]; omega) ?_
        intro fo2 h9 hfo2 S9
        have hts : sa ≠ t := ne_of_mu (upd_self ..) ht
        have htf : fa ≠ t := ne_of_mu hf7 ht
        have hIt : I ≠ t := ne_of_mu (mu_ch (upd_self μ' I oI') hIs) ht
        obtain ⟨μ9, hμ9⟩ : ∃ μ9, μ9 = upd (upd (upd (upd μ' I oI') sa so2) t ot) fa fo2 := ⟨_, rfl⟩
        have hs9 : μ9 sa = some so2 := by rw [hμ9]; exact mu_ch (mu_up (upd_self ..) ht) hne
        have hf9 : μ9 fa = some fo2 := by rw [hμ9]; exact upd_self ..
        have ht9 : μ9 t = some ot := by rw [hμ9]; exact mu_ch (upd_self ..) (Ne.symm htf)
        have hI9 : μ9 I = some oI' := by rw [hμ9]; exact mu_ch (mu_up (mu_ch (upd_self ..) hIs) ht) hIf
        have k9' : ∀ b o, μ' b = some o → b ≠ sa → b ≠ fa → μ9 b = some o := fun b o e a1 a2 => by rw [hμ9]; exact mu_ch (mu_up (mu_ch (mu_up e hI') a1) ht) a2
        have k9 : MuLe (del (del μ' fa) sa) (del (del μ9 fa) sa) := fun b o e => by
          obtain ⟨a1, e⟩ := del_some e
          obtain ⟨a2, e⟩ := del_some e
          exact del_of a1 (del_of a2 (k9' b o e a1 a2))
        rw [← hμ9] at S9
        have hfp9 : PairsL (del (del μ9 fa) sa) (fv' ++ [.ref t]) (f' ++ [(node, c)]) := (hfp'.mono k9).snoc (e := (node, c)) (del_of (Ne.symm hts) (del_of (Ne.symm htf) ht9)) hot
        have hok9 := hok'.snoc hcs hcm (node, c)
        have hsn9 := hsn'.snoc c tc
        have hrI : r ≠ I := ne_of_mu hr' hI'
        have hrs : r ≠ sa := (del_some e2).1
        have hrf : r ≠ fa := (del_some (del_some e2).2).1
        repeat tb_start
        refine bsplit (fun hgt => ?_) (fun hle1 => ?_)
        · have hl0 : 0 < l := by simp at hgt; omega
          have hl1 : l + 1 > 1 := by omega
          simp only [hl1, if_true] at heq
          repeat tb_start
          refine sub_int ?_
          rw [show (((l + 1 : Nat) : Int) - 1) = (l : Int) by omega]
          repeat tb_start
          refine ihl hl0 S9 (by exact hh) (by simp only [depth_deeper]; omega) hcm hne ((hrows.mono k0).mono (hle.trans k9)) hs9 hso2 hsn9 hf9 hfo2 hfp9 hok9 ?_
          intro h10 tk10 μ10 so3 fo3 sv3 fv3 S10 k10 hs10 hsl10 hsn10 hf10 hfl10 hfp10
          have hk10 : ∀ b o, μ9 b = some o → b ≠ sa → b ≠ fa → μ10 b = some o := fun b o e a1 a2 => (del_some (del_some (k10 b o (del_of a1 (del_of a2 e)))).2).2
          repeat tb_start
          have kz : MuLe (del (del μ' fa) sa) (del (del (del μ10 I) fa) sa) := fun b o e => by
            obtain ⟨a1, e⟩ := del_some e
            obtain ⟨a2, e⟩ := del_some e
            exact del_of a1 (del_of a2 (del_of (ne_of_mu e hI') (hk10 b o (k9' b o e a1 a2) a1 a2)))
          have kzp : ∀ vs es, PairsL (del (del μ10 fa) sa) vs es → PairsL (del (del (del μ10 I) fa) sa) vs es := fun vs es hp => by
            induction hp with
            | nil => exact .nil
            | @cons t' ot' e' a' b' vs' es' et ho _ ih =>
              obtain ⟨a1, et⟩ := del_some et
              obtain ⟨a2, et⟩ := del_some et
              refine .cons (del_of a1 (del_of a2 (del_of (fun q => ?_) et))) ho ih
              have eI := hk10 I oI' hI9 hIs hIf
              rw [q, eI] at et; cases et
              obtain ⟨n, rfl⟩ := ho
              simp at hcI
          refine ⟨_, _, _, _, rfl, S10, hk10 I oI' hI9 hIs hIf, del_of hrI (hk10 r orr (k9' r orr hr' hrs hrf) hrs hrf), q1, q2, q3, q4, q5, so3, sv3, _, fo3, fv3, _, del_of (Ne.symm hIs) hs10, hsl10, hsn10, del_of (Ne.symm hIf) hf10, hfl10, kzp _ _ hfp10, hle.trans kz, walkL_ok (rowF R) many hRf l c _ _ _ hok9 (hRf c hcm), heq⟩
        · have hl1 : ¬ l + 1 > 1 := by simp at hle1; omega
          simp only [hl1, if_false] at heq
          repeat tb_start
          have kz : MuLe (del (del μ' fa) sa) (del (del (del μ9 I) fa) sa) := fun b o e => by
            obtain ⟨a1, e⟩ := del_some e
            obtain ⟨a2, e⟩ := del_some e
            exact del_of a1 (del_of a2 (del_of (ne_of_mu e hI') (k9' b o e a1 a2)))
          have hfpz : PairsL (del (del (del μ9 I) fa) sa) (fv' ++ [.ref t]) (f' ++ [(node, c)]) := (hfp'.mono kz).snoc (e := (node, c)) (del_of (Ne.symm hts) (del_of (Ne.symm htf) (del_of (Ne.symm hIt) ht9))) hot
          exact ⟨_, _, _, _, rfl, S9, hI9, del_of hrI (k9' r orr hr' hrs hrf), q1, q2, q3, q4, q5, so2, _, _, fo2, _, _, del_of (Ne.symm hIs) hs9, hso2, hsn9, del_of (Ne.symm hIf) hf9, hfo2, hfpz, hle.trans kz, hok9, heq⟩
      · have hcs : c ∈ s' := by simpa using hold
        rw [walkL_seen _ _ _ _ _ _ _ hcs] at heq
        repeat tb_start
        have kk : MuLe μ' (del (upd μ' I oI') I) := MuLe.delN hI' (MuLe.refl _)
        exact ⟨_, _, _, _, rfl, S4, upd_self .., kk _ _ hr', q1, q2, q3, q4, q5, so', sv', s', fo', fv', f', kk _ _ hs', hsl', hsn', kk _ _ hf', hfl', hfp'.mono ((kk.del2 fa).del2 sa), hle.trans ((kk.del2 fa).del2 sa), hok', heq⟩
    · rintro m' μ' h tk6 E6 ⟨q1, q2, q3, q4, q5, so', sv', s', fo', fv', f', hs', hsl', hsn', hf', hfl', hfp', hle, hok', heq⟩ S4
      repeat tb_start
      have hL' : μ' L = some oL := (del_some (del_some (hle L oL (del_of (Ne.symm hsL) (del_of (Ne.symm hfL) (upd_self ..))))).2).2
      rw [e4.len, List.drop_length, walkL_nil] at heq
      have kf : MuLe (del (del μ fa) sa) (del (del (del μ' L) fa) sa) := fun b o e => by
        have e' := hle b o (k0 b o e)
        have bL : b ≠ L := ne_of_mu (del_some (del_some e).2).2 hL
        obtain ⟨a1, e'⟩ := del_some e'
        obtain ⟨a2, e'⟩ := del_some e'
        exact del_of a1 (del_of a2 (del_of bL e'))
      refine ⟨_, _, _, _, rfl, S4, hL', fun S5 => hpost _ _ _ so' fo' sv' fv' S5 kf (del_of hsL hs') hsl' (by rw [← heq]; exact hsn') (del_of hfL hf') hfl' (by
        rw [← heq]
        have kp : ∀ vs es, PairsL (del (del μ' fa) sa) vs es → PairsL (del (del (del μ' L) fa) sa) vs es := fun vs es hp => by
          induction hp with
          | nil => exact .nil
          | @cons t' ot' e' a' b' vs' es' et ho _ ih =>
            obtain ⟨a1, et⟩ := del_some et
            obtain ⟨a2, et⟩ := del_some et
            refine .cons (del_of a1 (del_of a2 (del_of (fun q => ?_) et))) ho ih
            rw [q, hL'] at et; cases et
            obtain ⟨es1, ep1, hd1, _⟩ := hN
            obtain ⟨n, rfl⟩ := ho
            simp at hd1
        exact kp _ _ hfp')⟩
end

/-! F14 -/
section
section
variable {w : World} {A : Around} {E : Value → Shared → Prop} {s : Shared} {g : Heap} {L : Addr} {m : Str → Option Value} {μ : Mu} {mg mb : Str → Option Value} {Q : Value → Shared → Prop}
theorem lawDue (G : Gd w mg mb g) {many : Nat} (hm6 : many ≤ 6) (R : List (List Nat)) (hRl : R.length = many) (hR : ∀ row ∈ R, ∀ x ∈ row, x < many) {D : Nat} (hD : 0 < D) (hD6 : D ≤ 10) {ra qa : Addr} {qo : Obj} {qv : List Value} {src : List Nat} {tl : Tok}
    (S : St g L m μ s.heap) (hh : A.handled = none) (hroom : A.depth + 20 < recursionLimit) (hsrc : ∀ x ∈ src, x < many) (hrows : RowsAt μ ra R) (hq : μ qa = some qo) (hql : lstO qv qo) (hqn : NatsAre qv src)
    (hpost : ∀ h' tk' μ' fa fo fv, St g L m μ' h' → MuLe μ μ' → Nn μ fa → μ' fa = some fo → lstO fv fo → PairsL μ' fv (dueL (rowF R) D src [] []) → Q (.ref fa) { s with heap := h', toks := tk' }) :
    wpAny (model PR w) A (call (.ref 839) [.ref ra, .ref qa, .int (D : Int) tl] []) Q E s := by
  have hRf : ∀ c, c < many → ∀ x ∈ rowF R c, x < many := fun c hc x hx => hR (rowF R c) (by show R.getD c [] ∈ R; rw [List.getD_eq_getElem?_getD, List.getElem?_eq_getElem (by omega)]; exact List.getElem_mem _) x hx
  refine' r_call (binds := [("rows", .ref ra), ("sources", .ref qa), ("most", .int (D : Int) tl)]) G S ?ho ?hcd ?hroom ?hb ?hloc ?_ ?h1 ?h2 ?h3 ?h4
  case ho => k_is
  case hcd => k_is
  case hb => exact BindsTo.of_eq rfl
  case hroom => omega
  case hloc => exact locs rfl
  case h1 => exact rfl
  case h2 => exact rfl
  case h3 => exact rfl
  case h4 => decide
  intro oL L' h₁ tk E' hN hL S2
  repeat tb_start
  refine Assign_Tuple_swapped ?_
  repeat tb_start
  rename_i sa so h3 hsn hso S3 fa fo h4 hfn hfo S4 t ot h5 ht hot S5
  refine r_unpackItems S5 (upd_self ..) hot (by exact hh) rfl (fun h6 S6 => ?_)
  refine assignInOrder_cons (x := .ref fa) (xs := [.ref sa]) ?_
  repeat tb_start
  refine assignInOrder_cons (x := .ref sa) (xs := []) ?_
  repeat tb_start
  have hsf : sa ≠ fa := ne_of_mu (upd_self ..) hfn
  have hqs : qa ≠ sa := ne_of_mu (mu_up hq hL) hsn
  have hqf : qa ≠ fa := ne_of_mu (mu_up (mu_up hq hL) hsn) hfn
  have hLs : L ≠ sa := ne_of_mu (upd_self ..) hsn
  have hLf : L ≠ fa := ne_of_mu (mu_up (upd_self ..) hsn) hfn
  rename_i h7 S7
  obtain ⟨μ0, hμ0⟩ : ∃ μ0, μ0 = upd (upd (upd (upd μ L oL) sa so) fa fo) t ot := ⟨_, rfl⟩
  have q0 : μ0 qa = some qo := by rw [hμ0]; exact mu_up (mu_up (mu_up (mu_up hq hL) hsn) hfn) ht
  have s0 : μ0 sa = some so := by rw [hμ0]; exact mu_up (mu_up (upd_self ..) hfn) ht
  have f0 : μ0 fa = some fo := by rw [hμ0]; exact mu_up (upd_self ..) ht
  have L0 : μ0 L = some oL := by rw [hμ0]; exact mu_up (mu_up (mu_up (upd_self ..) hsn) hfn) ht
  have b0 : ∀ b o, μ b = some o → b ≠ L ∧ b ≠ sa ∧ b ≠ fa ∧ μ0 b = some o := fun b o e => ⟨ne_of_mu e hL, ne_of_mu (mu_up e hL) hsn, ne_of_mu (mu_up (mu_up e hL) hsn) hfn, by rw [hμ0]; exact mu_up (mu_up (mu_up (mu_up e hL) hsn) hfn) ht⟩
  have nμf : Nn μ fa := by
    show μ fa = none
    cases e : μ fa with
    | none => rfl
    | some o => exact absurd rfl (b0 fa o e).2.2.1
  rw [← hμ0] at S7
  refine r_iter_list S7 q0 hql ?_
  intro I oI h8 hI hit S8
  (try dsimp only)
  refine r_for_listC (by exact hh) (fun i m' μ' => m' "rows" = some (.ref ra) ∧ m' "most" = some (.int (D : Int) tl) ∧ m' "seen" = some (.ref sa) ∧ m' "found" = some (.ref fa) ∧
      ∃ so' sv' s' fo' fv' f', μ' sa = some so' ∧ lstO sv' so' ∧ NatsAre sv' s' ∧ μ' fa = some fo' ∧ lstO fv' fo' ∧ PairsL (del (del μ' fa) sa) fv' f' ∧ MuLe (del (del μ0 fa) sa) (del (del μ' fa) sa) ∧ WOk many s' f' ∧
        dueL (rowF R) D (src.drop i) s' f' = dueL (rowF R) D src [] []) S8 hI hit q0 hql ?_ ?_ ?_
  · exact ⟨rfl, rfl, rfl, rfl, so, [], [], fo, [], [], s0, hso, .nil, f0, hfo, .nil, MuLe.refl _, ⟨by simp, by simp, by simp⟩, rfl⟩
  · rintro i v m' μ' oI' h tk6 E6 hi hcI ⟨q1, q3, q4, q5, so', sv', s', fo', fv', f', hs', hsl', hsn', hf', hfl', hfp', hle, hok', heq⟩ hI' hr' S4
    obtain ⟨c, tc, hc, rfl⟩ := hqn.at hi
    have hcm : c < many := hsrc c (List.mem_of_getElem? hc)
    have hdrop : src.drop i = c :: src.drop (i + 1) := by
      have hlt : i < src.length := by rw [List.getElem?_eq_some_iff] at hc; exact hc.1
      rw [List.drop_eq_getElem_cons hlt]
      rw [List.getElem?_eq_getElem hlt] at hc
      cases hc; rfl
    rw [hdrop] at heq
    have hIs : I ≠ sa := Ne.symm (ne_of_mu hs' hI')
    have hIf : I ≠ fa := Ne.symm (ne_of_mu hf' hI')
    have kk : MuLe μ' (del (upd μ' I oI') I) := MuLe.delN hI' (MuLe.refl _)
    repeat tb_start
    refine notin_list_ints (hsl'.isList (S4.get (mu_up hs' hI'))) hsn' ?_
    repeat tb_start
    rw [any_nat]
    have hrowsI : RowsAt (del (del (upd μ' I oI') fa) sa) ra R := by
      have k1 : MuLe μ (del (del μ0 fa) sa) := fun b o e => let z := b0 b o e; del_of z.2.1 (del_of z.2.2.1 z.2.2.2)
      exact (hrows.mono (k1.trans hle)).mono (((MuLe.updN hI').del2 fa).del2 sa)
    refine bsplit (fun hnew => ?_) (fun hold => ?_)
    · have hcs : c ∉ s' := by simpa using hnew
      have hlen' := hok'.len
      simp only [dueL, hcs, if_false] at heq
      repeat tb_start
      refine r_listMethod S4 (mu_up hs' hI') hsl' PySem.F.slot_list_append PySem.F.type_list_append ?_
      repeat tb_start
      refine r_append S4 (mu_up hs' hI') hsl' (by rw [hsn'.len, PySem.sizeLine_eq]; omega) ?_
      intro so2 h9 hso2 S9
      repeat tb_start
      have hok9 := hok'.snocS hcs hcm
      refine lawWalk G hm6 R hRl hR D hD S9 (by exact hh) (by simp only [depth_deeper]; omega) hcm hsf (hrowsI.mono ?_) (upd_self ..) hso2 (hsn'.snoc c tc) (mu_ch (mu_up hf' hI') (Ne.symm hsf)) hfl' (PairsL.mono ?_ hfp') hok9 ?_
      · exact fun b o e => by
          obtain ⟨a1, e⟩ := del_some e
          obtain ⟨a2, e⟩ := del_some e
          exact del_of a1 (del_of a2 (mu_ch e a1))
      · exact fun b o e => by
          obtain ⟨a1, e⟩ := del_some e
          obtain ⟨a2, e⟩ := del_some e
          exact del_of a1 (del_of a2 (mu_ch (mu_up e hI') a1))
      intro h10 tk10 μ10 so3 fo3 sv3 fv3 S10 k10 hs10 hsl10 hsn10 hf10 hfl10 hfp10
      have hk10 : ∀ b o, μ' b = some o → b ≠ sa → b ≠ fa → μ10 b = some o := fun b o e a1 a2 => (del_some (del_some (k10 b o (del_of a1 (del_of a2 (mu_ch (mu_up e hI') a1))))).2).2
      have hI10 : μ10 I = some oI' := (del_some (del_some (k10 I oI' (del_of hIs (del_of hIf (mu_ch (upd_self ..) hIs))))).2).2
      repeat tb_start
      have kz : MuLe (del (del μ' fa) sa) (del (del (del μ10 I) fa) sa) := fun b o e => by
        obtain ⟨a1, e⟩ := del_some e
        obtain ⟨a2, e⟩ := del_some e
        exact del_of a1 (del_of a2 (del_of (ne_of_mu e hI') (hk10 b o e a1 a2)))
      have kzp : ∀ vs es, PairsL (del (del μ10 fa) sa) vs es → PairsL (del (del (del μ10 I) fa) sa) vs es := fun vs es hp => by
        induction hp with
        | nil => exact .nil
        | @cons t' ot' e' a' b' vs' es' et ho _ ih =>
          obtain ⟨a1, et⟩ := del_some et
          obtain ⟨a2, et⟩ := del_some et
          refine .cons (del_of a1 (del_of a2 (del_of (fun q => ?_) et))) ho ih
          rw [q, hI10] at et; cases et
          obtain ⟨n, rfl⟩ := ho
          simp at hcI
      exact ⟨_, _, _, _, rfl, S10, hI10, del_of (ne_of_mu hr' hI') (hk10 qa qo hr' hqs hqf), q1, q3, q4, q5, so3, sv3, _, fo3, fv3, _, del_of (Ne.symm hIs) hs10, hsl10, hsn10, del_of (Ne.symm hIf) hf10, hfl10, kzp _ _ hfp10, hle.trans kz, walkL_ok (rowF R) many hRf D c _ _ _ hok9 (hRf c hcm), heq⟩
    · have hcs : c ∈ s' := by simpa using hold
      simp only [dueL, hcs, if_true] at heq
      repeat tb_start
      exact ⟨_, _, _, _, rfl, S4, upd_self .., kk _ _ hr', q1, q3, q4, q5, so', sv', s', fo', fv', f', kk _ _ hs', hsl', hsn', kk _ _ hf', hfl', hfp'.mono ((kk.del2 fa).del2 sa), hle.trans ((kk.del2 fa).del2 sa), hok', heq⟩
  · rintro m' μ' h tk6 E6 ⟨q1, q3, q4, q5, so', sv', s', fo', fv', f', hs', hsl', hsn', hf', hfl', hfp', hle, hok', heq⟩ S4
    repeat tb_start
    have hL' : μ' L = some oL := (del_some (del_some (hle L oL (del_of hLs (del_of hLf L0)))).2).2
    rw [hqn.len, List.drop_length] at heq
    simp only [dueL] at heq
    refine ⟨_, _, _, _, rfl, S4, hL', fun S5 => hpost _ _ _ fa fo' fv' S5 (fun b o e => ?_) nμf (del_of (Ne.symm hLf) hf') hfl' ?_⟩
    · obtain ⟨a1, a2, a3, a4⟩ := b0 b o e
      exact del_of a1 (del_some (del_some (hle b o (del_of a2 (del_of a3 a4)))).2).2
    · rw [← heq]
      have kp : ∀ vs es, PairsL (del (del μ' fa) sa) vs es → PairsL (del μ' L) vs es := fun vs es hp => by
        induction hp with
        | nil => exact .nil
        | @cons t' ot' e' a' b' vs' es' et ho _ ih =>
          obtain ⟨a1, et⟩ := del_some et
          obtain ⟨a2, et⟩ := del_some et
          refine .cons (del_of (fun q => ?_) et) ho ih
          rw [q, hL'] at et; cases et
          obtain ⟨es1, ep1, hd1, _⟩ := hN
          obtain ⟨n, rfl⟩ := ho
          simp at hd1
      exact kp _ _ hfp'
end
end

/-! F15 -/
section
section
variable {w : World} {A : Around} {E : Value → Shared → Prop} {s : Shared} {g : Heap} {L : Addr} {m : Str → Option Value} {μ : Mu} {mg mb : Str → Option Value} {Q : Value → Shared → Prop}
theorem r_callK {f : Addr} {name qual : Str} {params : Arguments} {body : List Stmt} {scope : Scope} {dV kV doc pm cdv ct oc : Value} {an od : Option Addr} {osl : Array (Option Value)} {args : List Value} {kw : List (Str × Value)} {binds : List (Str × Value)}
    (G : Gd w mg mb g) (S : St g L m μ s.heap)
    (ho : (hd.heap_39 w.params).lookup f = some ⟨oc, od, .func (fnOf name qual params body scope dV kV doc pm an cdv ct), osl⟩)
    (hcd : codeIn (hd.heap_39 w.params) cdv qual = true) (hroom : A.depth < recursionLimit)
    (hbind : BindsTo s (fnOf name qual params body scope dV kV doc pm an cdv ct) ⟨args, kw⟩ binds)
    (hloc : ∀ x ∈ binds, scope.names.lookup x.1 = some .local)
    (h : ∀ oL L' h₁ tk (E' : Value → Shared → Prop), NsObj oL m → Nn μ L → St g L' (fun x => binds.reverse.lookup x) (upd μ L oL) h₁ →
      wpAny (model PR w) (A.deeper (envOf qual scope L' f cdv)) (execs body (envOf qual scope L' f cdv))
        (fun fl s' => ∃ m' μ' h' tk', s' = { s with heap := h', toks := tk' } ∧ St g L' m' μ' h' ∧ μ' L = some oL ∧
          (St g L m (del μ' L) h' → Q (match fl with | .ret v => v | _ => .none) s')) E' { s with heap := h₁, toks := tk })
    (hco : scope.isCoroutine = false := by rfl) (hgen : scope.isGenerator = false := by rfl) (hk : scope.kind = .function := by rfl)
    (hcell : ∀ x ∈ scope.names, x.2 ≠ .cell := by decide) :
    codeAny (model PR w) A (.call (.ref f) ⟨args, kw⟩) (WantV Q E) s :=
  r_callG (R := WantV Q E) (fun b μ₀ => b = binds ∧ μ₀ = μ) G S ho hcd hroom (fun Q E' hq => hbind _ _ _ _ (hq binds s.heap μ ⟨rfl, rfl⟩ S hloc)) (fun b μ₀ hb => by obtain ⟨rfl, rfl⟩ := hb; exact h) hco hgen hk hcell
theorem neighborsGc {many : Nat} {ord : List Nat} {R : List (List Nat)} {x dx dg dn da dp : Addr} {u : Nat} {row : List Nat} {tu : Tok} (G : Gd w mg mb g) (S : St g L m μ s.heap) {μ1 : Mu} (X1 : GfA w μ1 false many ord R x dx dg dn da dp) (k1 : MuLe μ1 μ)
    (hu : R[u]? = some row) (hroom : A.depth + 5 < recursionLimit)
    (h : ∀ h' tk' μ' I, St g L m μ' h' → MuLe μ μ' → Nn μ I → ItD w μ' I row → (∃ q, ItS w μ' I q row ∧ ∃ o, μ1 q = some o) → Q (.ref I) { s with heap := h', toks := tk' }) :
    codeAny (model PR w) A (.call (.ref 543) ⟨[.ref x, .int (u : Int) tu], []⟩) (WantV Q E) s := by
  refine' r_callK (binds := [("self", .ref x), ("n", .int (u : Int) tu)]) G S ?ho ?hcd ?hroom ?hb ?hloc ?_ ?h1 ?h2 ?h3 ?h4
  case ho => k_is
  case hcd => k_is
  case hb => exact BindsTo.of_eq rfl
  case hroom => omega
  case hloc => exact locs rfl
  case h1 => exact rfl
  case h2 => exact rfl
  case h3 => exact rfl
  case h4 => decide
  intro oL L' h₁ tk E' hN hL S2
  have X := X1.mono k1
  have X2 := X.mono (MuLe.updN hL (o := oL))
  obtain ⟨nI2, hnI2, I2⟩ := X2.inst
  obtain ⟨ka, oa, ea1, hda, hrows⟩ := X1.adj
  have ea0 := k1 _ _ ea1
  obtain ⟨r, kr, o, hv, er1, hdr, hkr⟩ := hrows u row hu
  have er0 := k1 _ _ er1
  have ea : upd μ L oL da = some oa := mu_up ea0 hL
  have er : upd μ L oL r = some o := mu_up er0 hL
  repeat tb_start
  walk_at "M:getOwn"
  repeat tb_start
  refine r_dictItem (by assumption) ea hda hv (fun tkz => ?_)
  repeat tb_start
  refine r_iterDict (by assumption) er hdr ?_
  intro I h3 oI ep hI hit ha S3
  repeat tb_start
  have hLI : L ≠ I := ne_of_mu (upd_self ..) hI
  have hrI : r ≠ I := ne_of_mu er hI
  have hrL : r ≠ L := ne_of_mu er0 hL
  refine ⟨_, _, _, _, rfl, S3, mu_up (upd_self ..) hI, fun S4 => h _ _ _ I S4 (MuLe.delN hL (MuLe.updN hI)) (nn_low (Ne.symm hLI) hI) ⟨r, 0, kr, ep, oI, o, del_of (Ne.symm hLI) (upd_self ..), hit, del_of hrL (mu_up er hI), ha, by rw [List.drop_zero]; exact hkr, hrI⟩ ⟨r, .inl ⟨0, kr, ep, oI, o, del_of (Ne.symm hLI) (upd_self ..), hit, del_of hrL (mu_up er hI), ha, by rw [List.drop_zero]; exact hkr, hrI⟩, o, er1⟩⟩
theorem neighborsG {many : Nat} {ord : List Nat} {R : List (List Nat)} {x dx dg dn da dp : Addr} {u : Nat} {row : List Nat} {tu : Tok} (G : Gd w mg mb g) (S : St g L m μ s.heap) {μ1 : Mu} (X1 : GfA w μ1 false many ord R x dx dg dn da dp) (k1 : MuLe μ1 μ)
    (hu : R[u]? = some row) (hroom : A.depth + 5 < recursionLimit)
    (h : ∀ h' tk' μ' I, St g L m μ' h' → MuLe μ μ' → Nn μ I → ItD w μ' I row → (∃ q, ItS w μ' I q row ∧ ∃ o, μ1 q = some o) → Q (.ref I) { s with heap := h', toks := tk' }) :
    wpAny (model PR w) A (call (.ref 543) [.ref x, .int (u : Int) tu] []) Q E s := wpAny_call (neighborsGc G S X1 k1 hu hroom h)
theorem neighborsDc {many : Nat} {ord : List Nat} {R : List (List Nat)} {x dx dg dn da dp : Addr} {u : Nat} {row : List Nat} {tu : Tok} (G : Gd w mg mb g) (S : St g L m μ s.heap) {μ1 : Mu} (X1 : GfA w μ1 true many ord R x dx dg dn da dp) (k1 : MuLe μ1 μ)
    (hu : R[u]? = some row) (hroom : A.depth + 5 < recursionLimit)
    (h : ∀ h' tk' μ' I, St g L m μ' h' → MuLe μ μ' → Nn μ I → ItD w μ' I row → (∃ q, ItS w μ' I q row ∧ ∃ o, μ1 q = some o) → Q (.ref I) { s with heap := h', toks := tk' }) :
    codeAny (model PR w) A (.call (.ref 715) ⟨[.ref x, .int (u : Int) tu], []⟩) (WantV Q E) s := by
  refine' r_callK (binds := [("self", .ref x), ("n", .int (u : Int) tu)]) G S ?ho ?hcd ?hroom ?hb ?hloc ?_ ?h1 ?h2 ?h3 ?h4
  case ho => k_is
  case hcd => k_is
  case hb => exact BindsTo.of_eq rfl
  case hroom => omega
  case hloc => exact locs rfl
  case h1 => exact rfl
  case h2 => exact rfl
  case h3 => exact rfl
  case h4 => decide
  intro oL L' h₁ tk E' hN hL S2
  have X := X1.mono k1
  have X2 := X.mono (MuLe.updN hL (o := oL))
  obtain ⟨nI2, hnI2, I2⟩ := X2.inst
  obtain ⟨ka, oa, ea1, hda, hrows⟩ := X1.adj
  have ea0 := k1 _ _ ea1
  obtain ⟨r, kr, o, hv, er1, hdr, hkr⟩ := hrows u row hu
  have er0 := k1 _ _ er1
  have ea : upd μ L oL da = some oa := mu_up ea0 hL
  have er : upd μ L oL r = some o := mu_up er0 hL
  repeat tb_start
  walk_at "M:getOwn"
  repeat tb_start
  refine r_dictItem (by assumption) ea hda hv (fun tkz => ?_)
  repeat tb_start
  refine r_iterDict (by assumption) er hdr ?_
  intro I h3 oI ep hI hit ha S3
  repeat tb_start
  have hLI : L ≠ I := ne_of_mu (upd_self ..) hI
  have hrI : r ≠ I := ne_of_mu er hI
  have hrL : r ≠ L := ne_of_mu er0 hL
  refine ⟨_, _, _, _, rfl, S3, mu_up (upd_self ..) hI, fun S4 => h _ _ _ I S4 (MuLe.delN hL (MuLe.updN hI)) (nn_low (Ne.symm hLI) hI) ⟨r, 0, kr, ep, oI, o, del_of (Ne.symm hLI) (upd_self ..), hit, del_of hrL (mu_up er hI), ha, by rw [List.drop_zero]; exact hkr, hrI⟩ ⟨r, .inl ⟨0, kr, ep, oI, o, del_of (Ne.symm hLI) (upd_self ..), hit, del_of hrL (mu_up er hI), ha, by rw [List.drop_zero]; exact hkr, hrI⟩, o, er1⟩⟩
theorem neighborsD {many : Nat} {ord : List Nat} {R : List (List Nat)} {x dx dg dn da dp : Addr} {u : Nat} {row : List Nat} {tu : Tok} (G : Gd w mg mb g) (S : St g L m μ s.heap) {μ1 : Mu} (X1 : GfA w μ1 true many ord R x dx dg dn da dp) (k1 : MuLe μ1 μ)
    (hu : R[u]? = some row) (hroom : A.depth + 5 < recursionLimit)
    (h : ∀ h' tk' μ' I, St g L m μ' h' → MuLe μ μ' → Nn μ I → ItD w μ' I row → (∃ q, ItS w μ' I q row ∧ ∃ o, μ1 q = some o) → Q (.ref I) { s with heap := h', toks := tk' }) :
    wpAny (model PR w) A (call (.ref 715) [.ref x, .int (u : Int) tu] []) Q E s := wpAny_call (neighborsDc G S X1 k1 hu hroom h)
end
end

/-! F16 -/
section
section
variable {w : World} {A : Around} {E : Value → Shared → Prop} {s : Shared} {g : Heap} {L : Addr} {m : Str → Option Value} {μ : Mu} {mg mb : Str → Option Value} {Q : Value → Shared → Prop}
theorem iterFnG {many : Nat} {ord : List Nat} {R : List (List Nat)} {x dx dg dn da dp : Addr} (G : Gd w mg mb g) (S : St g L m μ s.heap) (X : GfA w μ false many ord R x dx dg dn da dp) (hroom : A.depth + 5 < recursionLimit)
    (h : ∀ h' tk' μ' I oI kn on ep, St g L m μ' h' → MuLe μ μ' → Nn μ I → μ' I = some oI → KdkIter oI dn 0 kn.length ep → μ' dn = some on → KdkAt (intKind PR w) on kn ep → kn.map (·.1) = ord.map Int.ofNat → dn ≠ I → Q (.ref I) { s with heap := h', toks := tk' }) :
    wpAny (model PR w) A (call (.ref 449) [.ref x] []) Q E s := by
  refine' r_call (binds := [("self", .ref x)]) G S ?ho ?hcd ?hroom ?hb ?hloc ?_ ?h1 ?h2 ?h3 ?h4
  case ho => k_is
  case hcd => k_is
  case hb => exact BindsTo.of_eq rfl
  case hroom => omega
  case hloc => exact locs rfl
  case h1 => exact rfl
  case h2 => exact rfl
  case h3 => exact rfl
  case h4 => decide
  intro oL L' h₁ tk E' hN hL S2
  have X2 := X.mono (MuLe.updN hL (o := oL))
  obtain ⟨nI2, hnI2, I2⟩ := X2.inst
  obtain ⟨kn, on, en, hdn, hkn⟩ := X.nd
  repeat tb_start
  walk_at "M:getOwn"
  repeat tb_start
  refine r_iterDict (by assumption) (mu_up en hL) hdn ?_
  intro I h3 oI ep hI hit ha S3
  repeat tb_start
  have hLI : L ≠ I := ne_of_mu (upd_self ..) hI
  exact ⟨_, _, _, _, rfl, S3, mu_up (upd_self ..) hI, fun S4 => h _ _ _ I oI kn on ep S4 (MuLe.delN hL (MuLe.updN hI)) (nn_low (Ne.symm hLI) hI) (del_of (Ne.symm hLI) (upd_self ..)) hit (del_of (ne_of_mu en hL) (mu_up (mu_up en hL) hI)) ha hkn (ne_of_mu (mu_up en hL) hI)⟩
theorem iterG {many : Nat} {ord : List Nat} {R : List (List Nat)} {x dx dg dn da dp : Addr} (G : Gd w mg mb g) (S : St g L m μ s.heap) (X : GfA w μ false many ord R x dx dg dn da dp) (hroom : A.depth + 5 < recursionLimit)
    (h : ∀ h' tk' μ' I q, St g L m μ' h' → MuLe μ μ' → Nn μ I → ItD w μ' I ord → ItS w μ' I q ord → q = dn → Q (.ref I) { s with heap := h', toks := tk' }) :
    wpAny (model PR w) A (pyIter (.ref x)) Q E s := by
  obtain ⟨nI2, hnI2, I2⟩ := X.inst
  obtain ⟨od, IA, nod⟩ := I2.instAt S
  refine' owit_iter S.fr G.K IA ?hs ?hf ?_
  case hs => k_is
  case hf => k_is
  refine iterFnG G S X hroom ?_
  intro h' tk' μ' I oI kn on ep S' k hI eI hit en ha hkn hne
  unfold OwitIt
  have hi : h'.IsKeyIter I dn 0 kn.length ep := hit.at (S'.get eI)
  refine wpAny_specialOf (s := { s with heap := h', toks := tk' }) hi.typeIs PySem.F.slot_dict_keyiterator_next.lookup ?_
  exact h _ _ _ I dn S' k hI ⟨dn, 0, kn, ep, oI, on, eI, hit, en, ha, by rw [List.drop_zero]; exact hkn, hne⟩ (.inl ⟨0, kn, ep, oI, on, eI, hit, en, ha, by rw [List.drop_zero]; exact hkn, hne⟩) rfl
theorem lenFnG {many : Nat} {ord : List Nat} {R : List (List Nat)} {x dx dg dn da dp : Addr} (G : Gd w mg mb g) (S : St g L m μ s.heap) (X : GfA w μ false many ord R x dx dg dn da dp) (hroom : A.depth + 5 < recursionLimit)
    (h : ∀ h' tk' μ' t, St g L m μ' h' → MuLe μ μ' → Q (.int (ord.length : Int) t) { s with heap := h', toks := tk' }) :
    wpAny (model PR w) A (call (.ref 463) [.ref x] []) Q E s := by
  refine' r_call (binds := [("self", .ref x)]) G S ?ho ?hcd ?hroom ?hb ?hloc ?_ ?h1 ?h2 ?h3 ?h4
  case ho => k_is
  case hcd => k_is
  case hb => exact BindsTo.of_eq rfl
  case hroom => omega
  case hloc => exact locs rfl
  case h1 => exact rfl
  case h2 => exact rfl
  case h3 => exact rfl
  case h4 => decide
  intro oL L' h₁ tk E' hN hL S2
  have X2 := X.mono (MuLe.updN hL (o := oL))
  obtain ⟨nI2, hnI2, I2⟩ := X2.inst
  obtain ⟨kn, on, en, hdn, hkn⟩ := X.nd
  have hlen : kn.length = ord.length := by have := congrArg List.length hkn; simpa using this
  have h6 := X.olen
  repeat tb_start
  walk_at "M:getOwn"
  repeat tb_start
  refine call_len_dict (S2.sys (mu_up en hL)) (hdn.at (S2.get (mu_up en hL))) (by omega) ?_
  repeat tb_start
  rw [hlen]
  exact ⟨_, _, _, _, rfl, S2, upd_self .., fun S4 => h _ _ _ _ S4 (MuLe.delN hL (MuLe.refl _))⟩
theorem lenG {many : Nat} {ord : List Nat} {R : List (List Nat)} {x dx dg dn da dp : Addr} (G : Gd w mg mb g) (S : St g L m μ s.heap) (X : GfA w μ false many ord R x dx dg dn da dp) (hroom : A.depth + 5 < recursionLimit)
    (h : ∀ h' tk' μ' t, St g L m μ' h' → MuLe μ μ' → Q (.int (ord.length : Int) t) { s with heap := h', toks := tk' }) :
    wpAny (model PR w) A (call (.builtin "len") [.ref x] []) Q E s := by
  obtain ⟨nI2, hnI2, I2⟩ := X.inst
  obtain ⟨od, IA, nod⟩ := I2.instAt S
  have h6 := X.olen
  refine' len_K S.fr G.K IA ?hs ?hf ?_
  case hs => k_is
  case hf => k_is
  refine lenFnG G S X hroom ?_
  intro h' tk' μ' t S' k
  exact ⟨⟨by omega, by omega⟩, h _ _ _ _ S' k⟩
theorem iterFnD {many : Nat} {ord : List Nat} {R : List (List Nat)} {x dx dg dn da dp : Addr} (G : Gd w mg mb g) (S : St g L m μ s.heap) (X : GfA w μ true many ord R x dx dg dn da dp) (hroom : A.depth + 5 < recursionLimit)
    (h : ∀ h' tk' μ' I oI kn on ep, St g L m μ' h' → MuLe μ μ' → Nn μ I → μ' I = some oI → KdkIter oI dn 0 kn.length ep → μ' dn = some on → KdkAt (intKind PR w) on kn ep → kn.map (·.1) = ord.map Int.ofNat → dn ≠ I → Q (.ref I) { s with heap := h', toks := tk' }) :
    wpAny (model PR w) A (call (.ref 449) [.ref x] []) Q E s := by
  refine' r_call (binds := [("self", .ref x)]) G S ?ho ?hcd ?hroom ?hb ?hloc ?_ ?h1 ?h2 ?h3 ?h4
  case ho => k_is
  case hcd => k_is
  case hb => exact BindsTo.of_eq rfl
  case hroom => omega
  case hloc => exact locs rfl
  case h1 => exact rfl
  case h2 => exact rfl
  case h3 => exact rfl
  case h4 => decide
  intro oL L' h₁ tk E' hN hL S2
  have X2 := X.mono (MuLe.updN hL (o := oL))
  obtain ⟨nI2, hnI2, I2⟩ := X2.inst
  obtain ⟨kn, on, en, hdn, hkn⟩ := X.nd
  repeat tb_start
  walk_at "M:getOwn"
  repeat tb_start
  refine r_iterDict (by assumption) (mu_up en hL) hdn ?_
  intro I h3 oI ep hI hit ha S3
  repeat tb_start
  have hLI : L ≠ I := ne_of_mu (upd_self ..) hI
  exact ⟨_, _, _, _, rfl, S3, mu_up (upd_self ..) hI, fun S4 => h _ _ _ I oI kn on ep S4 (MuLe.delN hL (MuLe.updN hI)) (nn_low (Ne.symm hLI) hI) (del_of (Ne.symm hLI) (upd_self ..)) hit (del_of (ne_of_mu en hL) (mu_up (mu_up en hL) hI)) ha hkn (ne_of_mu (mu_up en hL) hI)⟩
theorem iterD {many : Nat} {ord : List Nat} {R : List (List Nat)} {x dx dg dn da dp : Addr} (G : Gd w mg mb g) (S : St g L m μ s.heap) (X : GfA w μ true many ord R x dx dg dn da dp) (hroom : A.depth + 5 < recursionLimit)
    (h : ∀ h' tk' μ' I q, St g L m μ' h' → MuLe μ μ' → Nn μ I → ItD w μ' I ord → ItS w μ' I q ord → q = dn → Q (.ref I) { s with heap := h', toks := tk' }) :
    wpAny (model PR w) A (pyIter (.ref x)) Q E s := by
  obtain ⟨nI2, hnI2, I2⟩ := X.inst
  obtain ⟨od, IA, nod⟩ := I2.instAt S
  refine' owit_iter S.fr G.K IA ?hs ?hf ?_
  case hs => k_is
  case hf => k_is
  refine iterFnD G S X hroom ?_
  intro h' tk' μ' I oI kn on ep S' k hI eI hit en ha hkn hne
  unfold OwitIt
  have hi : h'.IsKeyIter I dn 0 kn.length ep := hit.at (S'.get eI)
  refine wpAny_specialOf (s := { s with heap := h', toks := tk' }) hi.typeIs PySem.F.slot_dict_keyiterator_next.lookup ?_
  exact h _ _ _ I dn S' k hI ⟨dn, 0, kn, ep, oI, on, eI, hit, en, ha, by rw [List.drop_zero]; exact hkn, hne⟩ (.inl ⟨0, kn, ep, oI, on, eI, hit, en, ha, by rw [List.drop_zero]; exact hkn, hne⟩) rfl
theorem lenFnD {many : Nat} {ord : List Nat} {R : List (List Nat)} {x dx dg dn da dp : Addr} (G : Gd w mg mb g) (S : St g L m μ s.heap) (X : GfA w μ true many ord R x dx dg dn da dp) (hroom : A.depth + 5 < recursionLimit)
    (h : ∀ h' tk' μ' t, St g L m μ' h' → MuLe μ μ' → Q (.int (ord.length : Int) t) { s with heap := h', toks := tk' }) :
    wpAny (model PR w) A (call (.ref 463) [.ref x] []) Q E s := by
  refine' r_call (binds := [("self", .ref x)]) G S ?ho ?hcd ?hroom ?hb ?hloc ?_ ?h1 ?h2 ?h3 ?h4
  case ho => k_is
  case hcd => k_is
  case hb => exact BindsTo.of_eq rfl
  case hroom => omega
  case hloc => exact locs rfl
  case h1 => exact rfl
  case h2 => exact rfl
  case h3 => exact rfl
  case h4 => decide
  intro oL L' h₁ tk E' hN hL S2
  have X2 := X.mono (MuLe.updN hL (o := oL))
  obtain ⟨nI2, hnI2, I2⟩ := X2.inst
  obtain ⟨kn, on, en, hdn, hkn⟩ := X.nd
  have hlen : kn.length = ord.length := by have := congrArg List.length hkn; simpa using this
  have h6 := X.olen
  repeat tb_start
  walk_at "M:getOwn"
  repeat tb_start
  refine call_len_dict (S2.sys (mu_up en hL)) (hdn.at (S2.get (mu_up en hL))) (by omega) ?_
  repeat tb_start
  rw [hlen]
  exact ⟨_, _, _, _, rfl, S2, upd_self .., fun S4 => h _ _ _ _ S4 (MuLe.delN hL (MuLe.refl _))⟩
theorem lenD {many : Nat} {ord : List Nat} {R : List (List Nat)} {x dx dg dn da dp : Addr} (G : Gd w mg mb g) (S : St g L m μ s.heap) (X : GfA w μ true many ord R x dx dg dn da dp) (hroom : A.depth + 5 < recursionLimit)
    (h : ∀ h' tk' μ' t, St g L m μ' h' → MuLe μ μ' → Q (.int (ord.length : Int) t) { s with heap := h', toks := tk' }) :
    wpAny (model PR w) A (call (.builtin "len") [.ref x] []) Q E s := by
  obtain ⟨nI2, hnI2, I2⟩ := X.inst
  obtain ⟨od, IA, nod⟩ := I2.instAt S
  have h6 := X.olen
  refine' len_K S.fr G.K IA ?hs ?hf ?_
  case hs => k_is
  case hf => k_is
  refine lenFnD G S X hroom ?_
  intro h' tk' μ' t S' k
  exact ⟨⟨by omega, by omega⟩, h _ _ _ _ S' k⟩
end
end

/-! F17 -/
section
section
variable {w : World} {A : Around} {E : Value → Shared → Prop} {s : Shared} {g : Heap} {L : Addr} {m : Str → Option Value} {μ : Mu} {mg mb : Str → Option Value} {Q : Value → Shared → Prop}
theorem hintG {many : Nat} {ord : List Nat} {R : List (List Nat)} {x dx dg dn da dp : Addr} {Q : Bool → Shared → Prop} (G : Gd w mg mb g) (S : St g L m μ s.heap) (X : GfA w μ false many ord R x dx dg dn da dp) (hroom : A.depth + 8 < recursionLimit)
    (h : ∀ b h' tk' μ', St g L m μ' h' → MuLe μ μ' → Q b { s with heap := h', toks := tk' }) :
    wpAny (model PR w) A (Builtin.List.listLengthHint (.ref x)) Q E s := by
  obtain ⟨nI2, hnI2, I2⟩ := X.inst
  obtain ⟨od, IA, nod⟩ := I2.instAt S
  have h6 := X.olen
  have XK := G.keeps S
  have hs : findIn (hd.heap_39 w.params) (.ref (clsOf false)) "__len__" = some (some (.ref 463)) := by k_is
  unfold Builtin.List.listLengthHint
  refine wpAny_bind (wpAny_bind (IA.type.here ((looks_findIn XK hs).here ?_)))
  refine wpAny_ite_split (fun hab => absurd hab (by decide +kernel)) (fun _ => ?_)
  refine wpAny_ite_split (fun _ => ?_) (fun hab => absurd rfl hab)
  refine wpAny_bind (wpAny_rule (wpAny_bind (wpAny_attempt ?_)))
  refine lenG G S X (by omega) ?_
  intro h' tk' μ' t S' k
  have htl : Builtin.List.listTooLong ((ord.length : Int).toNat) = false := by simp [Builtin.List.listTooLong, sizeLine]; omega
  refine wpAny_bind (m := asInt? _) (wpAny_pure ?_)
  exact wpAny_ite_split (fun hab => absurd hab (by rw [htl]; decide)) (fun _ => wpAny_pure (h _ _ _ _ S' k))
theorem listG {many : Nat} {ord : List Nat} {R : List (List Nat)} {x dx dg dn da dp : Addr} (G : Gd w mg mb g) (S : St g L m μ s.heap) (hh : A.handled = none) (X : GfA w μ false many ord R x dx dg dn da dp) (hroom : A.depth + 12 < recursionLimit)
    (h : ∀ h' tk' μ' Sx oS ivs, St g L m μ' h' → MuLe μ μ' → Nn μ Sx → μ' Sx = some oS → lstO ivs oS → NatsAre ivs ord → Q (.ref Sx) { s with heap := h', toks := tk' }) :
    wpAny (model PR w) A (call (.type "list") [.ref x] []) Q E s := by
  obtain ⟨nI2, hnI2, I2⟩ := X.inst
  have h6 := X.olen
  refine r_listOf False (cs := ord) hh S I2.at_ rfl rfl (by omega) (fun s' μ' Q' E' S' k c => ?_) (fun s' μ' Q' E' S' k c => ?_) (fun h' tk' μ' Sx oS ivs I' S' k n e hl hn hI => ?_)
  · refine iterG G S' (X.mono k) (by simp only [Around.in1]; omega) ?_
    intro h' tk' μ2 I q S2 k2 hI _ hs hq
    obtain ⟨kn, on, en, _⟩ := X.nd
    exact c _ _ μ2 I q S2 k2 hs (fun Z oZ hZ nZ => ⟨ne_of_mu hZ hI, by rw [hq]; exact Ne.symm (ne_of_mu en nZ)⟩) (.inl (k.nn hI))
  · exact hintG G S' (X.mono k) (by simp only [Around.in1]; omega) c
  · refine h h' tk' μ' Sx oS ivs S' (fun b o eb => k b o eb ?_) n e hl hn
    rcases hI with hI | ⟨_, hf⟩
    · exact ne_of_mu eb hI
    · exact hf.elim
theorem hintD {many : Nat} {ord : List Nat} {R : List (List Nat)} {x dx dg dn da dp : Addr} {Q : Bool → Shared → Prop} (G : Gd w mg mb g) (S : St g L m μ s.heap) (X : GfA w μ true many ord R x dx dg dn da dp) (hroom : A.depth + 8 < recursionLimit)
    (h : ∀ b h' tk' μ', St g L m μ' h' → MuLe μ μ' → Q b { s with heap := h', toks := tk' }) :
    wpAny (model PR w) A (Builtin.List.listLengthHint (.ref x)) Q E s := by
  obtain ⟨nI2, hnI2, I2⟩ := X.inst
  obtain ⟨od, IA, nod⟩ := I2.instAt S
  have h6 := X.olen
  have XK := G.keeps S
  have hs : findIn (hd.heap_39 w.params) (.ref (clsOf true)) "__len__" = some (some (.ref 463)) := by k_is
  unfold Builtin.List.listLengthHint
  refine wpAny_bind (wpAny_bind (IA.type.here ((looks_findIn XK hs).here ?_)))
  refine wpAny_ite_split (fun hab => absurd hab (by decide +kernel)) (fun _ => ?_)
  refine wpAny_ite_split (fun _ => ?_) (fun hab => absurd rfl hab)
  refine wpAny_bind (wpAny_rule (wpAny_bind (wpAny_attempt ?_)))
  refine lenD G S X (by omega) ?_
  intro h' tk' μ' t S' k
  have htl : Builtin.List.listTooLong ((ord.length : Int).toNat) = false := by simp [Builtin.List.listTooLong, sizeLine]; omega
  refine wpAny_bind (m := asInt? _) (wpAny_pure ?_)
  exact wpAny_ite_split (fun hab => absurd hab (by rw [htl]; decide)) (fun _ => wpAny_pure (h _ _ _ _ S' k))
theorem listD {many : Nat} {ord : List Nat} {R : List (List Nat)} {x dx dg dn da dp : Addr} (G : Gd w mg mb g) (S : St g L m μ s.heap) (hh : A.handled = none) (X : GfA w μ true many ord R x dx dg dn da dp) (hroom : A.depth + 12 < recursionLimit)
    (h : ∀ h' tk' μ' Sx oS ivs, St g L m μ' h' → MuLe μ μ' → Nn μ Sx → μ' Sx = some oS → lstO ivs oS → NatsAre ivs ord → Q (.ref Sx) { s with heap := h', toks := tk' }) :
    wpAny (model PR w) A (call (.type "list") [.ref x] []) Q E s := by
  obtain ⟨nI2, hnI2, I2⟩ := X.inst
  have h6 := X.olen
  refine r_listOf False (cs := ord) hh S I2.at_ rfl rfl (by omega) (fun s' μ' Q' E' S' k c => ?_) (fun s' μ' Q' E' S' k c => ?_) (fun h' tk' μ' Sx oS ivs I' S' k n e hl hn hI => ?_)
  · refine iterD G S' (X.mono k) (by simp only [Around.in1]; omega) ?_
    intro h' tk' μ2 I q S2 k2 hI _ hs hq
    obtain ⟨kn, on, en, _⟩ := X.nd
    exact c _ _ μ2 I q S2 k2 hs (fun Z oZ hZ nZ => ⟨ne_of_mu hZ hI, by rw [hq]; exact Ne.symm (ne_of_mu en nZ)⟩) (.inl (k.nn hI))
  · exact hintD G S' (X.mono k) (by simp only [Around.in1]; omega) c
  · refine h h' tk' μ' Sx oS ivs S' (fun b o eb => k b o eb ?_) n e hl hn
    rcases hI with hI | ⟨_, hf⟩
    · exact ne_of_mu eb hI
    · exact hf.elim
end
end

/-! F18 -/
section
section
variable {w : World} {A : Around} {E : Value → Shared → Prop} {s : Shared} {g : Heap} {L : Addr} {m : Str → Option Value} {μ : Mu} {mg mb : Str → Option Value} {Q : Value → Shared → Prop}
theorem lawDownL {l : Addr} {o : Obj} {vs : List Value} {row : List Nat} (G : Gd w mg mb g) (S : St g L m μ s.heap) (hl : μ l = some o) (hlo : lstO vs o) (hn : NatsAre vs row) (h64 : vs.length < 64) (hroom : A.depth + 5 < recursionLimit)
    (h : ∀ h' tk' μ' a o' vs' row', St g L m μ' h' → MuLe μ μ' → Nn μ a → μ' a = some o' → lstO vs' o' → NatsAre vs' row' → row'.Perm row → row'.Pairwise (· ≥ ·) → Q (.ref a) { s with heap := h', toks := tk' }) :
    wpAny (model PR w) A (call (.ref 825) [.ref l] []) Q E s := by
  refine' r_call (binds := [("nodes", .ref l)]) G S ?ho ?hcd ?hroom ?hb ?hloc ?_ ?h1 ?h2 ?h3 ?h4
  case ho => k_is
  case hcd => k_is
  case hb => exact BindsTo.of_eq rfl
  case hroom => omega
  case hloc => exact locs rfl
  case h1 => exact rfl
  case h2 => exact rfl
  case h3 => exact rfl
  case h4 => decide
  intro oL L' h₁ tk E' hN hL S2
  repeat tb_start
  refine r_CallKw ?_
  repeat tb_start
  refine callWith_kw ?_
  repeat tb_start
  refine kws_cons ?_
  repeat tb_start
  refine kws_nil ?_
  refine r_sortRev S2 (mu_up hl hL) hlo hn h64 ?_
  intro h' a o' vs' row' ha S3 hlo' hn' hp hs
  repeat tb_start
  have hLa : L ≠ a := ne_of_mu (upd_self ..) ha
  exact ⟨_, _, _, _, rfl, S3, mu_up (upd_self ..) ha, fun S4 => h _ _ _ a o' vs' row' S4 (MuLe.delN hL (MuLe.updN ha)) (nn_low (Ne.symm hLa) ha) (del_of (Ne.symm hLa) (upd_self ..)) hlo' hn' hp hs⟩
theorem lawDownI {I : Addr} {cs : List Nat} (G : Gd w mg mb g) (S : St g L m μ s.heap) (hh : A.handled = none) (It : ItD w μ I cs) (hlen : cs.length ≤ 60) (hroom : A.depth + 5 < recursionLimit)
    (h : ∀ h' tk' μ' a o' vs' row', St g L m μ' h' → (∀ b o, μ b = some o → b ≠ I → μ' b = some o ∧ b ≠ a) → μ' a = some o' → lstO vs' o' → NatsAre vs' row' → row'.Perm cs → row'.Pairwise (· ≥ ·) → Q (.ref a) { s with heap := h', toks := tk' }) :
    wpAny (model PR w) A (call (.ref 825) [.ref I] []) Q E s := by
  refine' r_call (binds := [("nodes", .ref I)]) G S ?ho ?hcd ?hroom ?hb ?hloc ?_ ?h1 ?h2 ?h3 ?h4
  case ho => k_is
  case hcd => k_is
  case hb => exact BindsTo.of_eq rfl
  case hroom => omega
  case hloc => exact locs rfl
  case h1 => exact rfl
  case h2 => exact rfl
  case h3 => exact rfl
  case h4 => decide
  intro oL L' h₁ tk E' hN hL S2
  repeat tb_start
  refine r_CallKw ?_
  repeat tb_start
  refine callWith_kw ?_
  repeat tb_start
  refine kws_cons ?_
  repeat tb_start
  refine kws_nil ?_
  refine r_sortRevI (by exact hh) S2 (It.mono (MuLe.updN hL)) hlen ?_
  intro h' tk' μ' a o' vs' row' S3 k3 ea hlo' hn' hp hs
  repeat tb_start
  have hLI : L ≠ I := by
    obtain ⟨q, i, kvs, ep, oI, od, eI, _⟩ := It
    exact Ne.symm (ne_of_mu eI hL)
  have hL3 := k3 L oL (upd_self ..) hLI
  exact ⟨_, _, _, _, rfl, S3, hL3.1, fun S4 => h _ _ _ a o' vs' row' S4 (fun b ob eb bI => ⟨del_of (ne_of_mu eb hL) (k3 b ob (mu_up eb hL) bI).1, (k3 b ob (mu_up eb hL) bI).2⟩) (del_of (Ne.symm hL3.2) ea) hlo' hn' hp hs⟩
end
end

/-! G1 -/
section
open PySem.W.X
section
variable {w : World} {g : Heap} {mg mb : Str → Option Value} {μr μf : Mu} {many D : Nat} {gv : Value} {Rf : Nat → List Nat} {Lg va IS qS : Addr}
def InW (w : World) (g : Heap) (μr μf : Mu) (many D : Nat) (gv : Value) (Lg va IS qS : Addr) (V : List Nat) (E : List Ent) (as : List Nat) (es : List Edge) : Prop :=
  ∀ (A : Around) (s₀ s : Shared) (L : Addr) (mL : Str → Option Value) (μ₀ μg₀ μp : Mu) (m : Str → Option Value) (μ : Mu) (sa : Addr) (p1 p2 : Pos), A.handled = none → A.depth + 40 < recursionLimit → (∃ h tk, s = { s₀ with heap := h, toks := tk }) →
    Cx g μr μf L mL μ₀ μg₀ μp Lg → St g Lg m μ s.heap → MuLe μp μ → MW m va gv D sa E.length → FW w many μr μp μ va V IS qS as sa E →
    SegX (model PR w) A (cW (dEnv Lg)) ((model PR w).den (cW (dEnv Lg))) [fr2 (dEnv Lg) IS p2, fr1 (dEnv Lg) p1] s (GPost g s₀ L mL μ₀ μg₀ es (nextG w g μr es))
def InC (w : World) (g : Heap) (μr μf : Mu) (many D : Nat) (gv : Value) (Lg va IS qS : Addr) (V : List Nat) (e : Ent) (E : List Ent) (as : List Nat) (es : List Edge) : Prop :=
  ∀ (A : Around) (s₀ s : Shared) (L : Addr) (mL : Str → Option Value) (μ₀ μg₀ μp : Mu) (m : Str → Option Value) (μ : Mu) (sa : Addr) (p1 p2 p3 : Pos), A.handled = none → A.depth + 40 < recursionLimit → (∃ h tk, s = { s₀ with heap := h, toks := tk }) →
    Cx g μr μf L mL μ₀ μg₀ μp Lg → St g Lg m μ s.heap → MuLe μp μ → MW m va gv D sa (E.length + 1) → (∃ t, m "parent" = some (.int (e.p : Int) t)) → FW w many μr μp μ va V IS qS as sa (e :: E) →
    SegX (model PR w) A (cF2 (dEnv Lg) e.I) ((model PR w).den (cF2 (dEnv Lg) e.I)) [fr3 (dEnv Lg) p3, fr2 (dEnv Lg) IS p2, fr1 (dEnv Lg) p1] s (GPost g s₀ L mL μ₀ μg₀ es (nextG w g μr es))
def InS (w : World) (g : Heap) (μr μf : Mu) (many D : Nat) (gv : Value) (Lg va IS qS : Addr) (V : List Nat) (as : List Nat) (es : List Edge) : Prop :=
  ∀ (A : Around) (s₀ s : Shared) (L : Addr) (mL : Str → Option Value) (μ₀ μg₀ μp : Mu) (m : Str → Option Value) (μ : Mu) (p1 : Pos), A.handled = none → A.depth + 40 < recursionLimit → (∃ h tk, s = { s₀ with heap := h, toks := tk }) →
    Cx g μr μf L mL μ₀ μg₀ μp Lg → St g Lg m μ s.heap → MuLe μp μ → MB m va gv D → FB w many μr μp μ va V IS qS as →
    SegX (model PR w) A (cF1 (dEnv Lg) IS) ((model PR w).den (cF1 (dEnv Lg) IS)) [fr1 (dEnv Lg) p1] s (GPost g s₀ L mL μ₀ μg₀ es (nextG w g μr es))

theorem over1 {A : Around} {Lg IS : Addr} {p1 : Pos} (h : A.depth + 40 < recursionLimit) : (A.over (.forLoop (tgtS sFor1) (.ref IS) (bodyS sFor1) (elseS sFor1) (dEnv Lg)) [fr1 (dEnv Lg) p1]).depth + 20 < recursionLimit := by
  have e : (A.over (.forLoop (tgtS sFor1) (.ref IS) (bodyS sFor1) (elseS sFor1) (dEnv Lg)) [fr1 (dEnv Lg) p1]).depth = A.depth + 1 := rfl
  omega
theorem s_fin {V : List Nat} : InS w g μr μf many D gv Lg va IS qS V [] [] := by
  rintro A s₀ s L mL μ₀ μg₀ μp m μ p1 hh hd' ⟨h0, tk0, rfl⟩ C S hp M F
  refine g_forLoop ?_
  refine r_next (by exact hh) S F.it.it (fun c cs' t oI' h' tk' e => nomatch e) (fun h' tk' _ S1 => ?_)
  refine g_nil ?_
  show SegX _ _ _ (.pure (.done .next)) _ _ _
  refine g_ret ?_
  refine g_seq ?_
  refine g_nil ?_
  refine x_end (.ok (.ret .none)) ?_
  exact C.ended (s := { heap := h', gens := s₀.gens, drawn := s₀.drawn, toks := tk', os := s₀.os }) S1 (le_del hp F.it.nI) ⟨_, _, rfl⟩
theorem s_seen (h6 : many ≤ 6) {V : List Nat} {a : Nat} {as : List Nat} {es : List Edge} (hV : a ∈ V) (ih : InS w g μr μf many D gv Lg va IS qS V as es) : InS w g μr μf many D gv Lg va IS qS V (a :: as) es := by
  rintro A s₀ s L mL μ₀ μg₀ μp m μ p1 hh hd' ⟨h0, tk0, rfl⟩ C S hp M F
  refine g_forLoop ?_
  refine r_next (by exact hh) S F.it.it (fun c cs' t oI' h' tk' e S1 It1 => ?_) (fun h' tk' e => nomatch e)
  obtain ⟨rfl, rfl⟩ := List.cons.inj e
  have F1 := F.step It1 fun x hx => F.alt x (List.mem_cons_of_mem _ hx)
  obtain ⟨vo, ev, hv⟩ := F1.vis
  have mv := M.vis
  show wpAny _ _ (assign (.Name _ _) _ _) _ _ _
  repeat tb_start
  refine g_cons ?_
  refine g_If ?_
  show wpAny _ _ (PySem.isTrue (Expr.Compare _ [_] [_] _) _ _) _ _ _
  repeat tb_start
  refine r_setIn (by assumption) ev hv (F1.vlen h6) ?_
  repeat tb_start
  rw [if_pos (by simpa using hV)]
  refine g_cons ?_
  refine g_stmt ?_
  repeat tb_start
  refine x_again (by rfl) ?_
  rename_i h2 S2
  exact ih A s₀ _ L mL μ₀ μg₀ μp _ _ p1 hh hd' ⟨_, _, rfl⟩ C S2 (le_upd hp F.it.nI) ⟨M.vis, M.gc, M.dl⟩ F1
theorem s_new (h6 : many ≤ 6) (G : Gd w mg mb g) (X : Ch w g μr μf many gv Rf) (hR : ∀ c, c < many → ∀ x ∈ Rf c, x < many) {V : List Nat} {a : Nat} {as : List Nat} {es : List Edge} (hV : a ∉ V) (ih : ∀ t I q, InW w g μr μf many D gv Lg va IS qS (V ++ [a]) [⟨t, I, q, a, Rf a⟩] as es) :
    InS w g μr μf many D gv Lg va IS qS V (a :: as) es := by
  rintro A s₀ s L mL μ₀ μg₀ μp m μ p1 hh hd' ⟨h0, tk0, rfl⟩ C S hp M F
  refine g_forLoop ?_
  refine r_next (by exact hh) S F.it.it (fun c cs' t oI' h' tk' e S1 It1 => ?_) (fun h' tk' e => nomatch e)
  obtain ⟨rfl, rfl⟩ := List.cons.inj e
  have ha := F.alt a List.mem_cons_self
  have F1 := F.step It1 fun x hx => F.alt x (List.mem_cons_of_mem _ hx)
  have hp1 := le_upd (o := oI') hp F.it.nI
  obtain ⟨vo, ev, hv⟩ := F1.vis
  have mv := M.vis
  have mc := M.gc
  show wpAny _ _ (assign (.Name _ _) _ _) _ _ _
  repeat tb_start
  refine g_cons ?_
  refine g_If ?_
  show wpAny _ _ (PySem.isTrue (Expr.Compare _ [_] [_] _) _ _) _ _ _
  repeat tb_start
  refine r_setIn (by assumption) ev hv (F1.vlen h6) ?_
  repeat tb_start
  rw [if_neg (by simpa using hV)]
  refine g_nil ?_
  refine g_seq ?_
  refine g_cons ?_
  refine g_stmt ?_
  repeat tb_start
  refine r_setMethod (by assumption) ev hv (F1.vlen h6) ?_
  repeat tb_start
  refine r_setAdd (by assumption) ev hv (F1.vlen h6) hV ?_
  intro vo' h3 tk3 hv' S3
  have F3 := F1.addV hp1 C.hr hV ha hv'
  have hp3 := le_upd (o := vo') hp1 F1.nva
  repeat tb_start
  refine g_seq ?_
  refine g_cons ?_
  refine g_stmt ?_
  repeat tb_start
  refine r_getCh (c := a) X G (by assumption) (by exact hh) ?_ (C.hr.trans hp3) (C.hf.trans hp3) ha rfl ?_
  · exact over1 hd'
  intro h4 tk4 μ4 I q S4 k4 nI It4 hq
  repeat tb_start
  rename_i t' ot h5 nt hot S5 sa so h6' nsa hso S6 h7 S7
  refine g_seq ?_
  refine g_cons ?_
  refine g_stmt ?_
  repeat tb_start
  refine g_seq ?_
  refine g_cons ?_
  refine g_While fun p2 => ?_
  rename_i h8 S8
  have k6 : MuLe (upd (upd μ IS oI') va vo') (upd (upd μ4 t' ot) sa so) := fun b o eb => mu_up (mu_up (k4 _ _ eb) nt) nsa
  have nsa4 : Nn μ4 sa := nn_low (fun z => by rw [z] at nsa; exact nn_not nsa (upd_self ..)) nsa
  have nsa3 : Nn (upd (upd μ IS oI') va vo') sa := k4.nn nsa4
  obtain ⟨oq, eq, _⟩ := It4.cQ
  have hqs : q ≠ sa := fun z => by rw [z] at eq; exact nn_not nsa4 eq
  refine ih t' I q A s₀ _ L mL μ₀ μg₀ μp _ _ sa p1 p2 hh hd' ⟨_, _, rfl⟩ C S8 (hp3.trans k6) ⟨⟨M.vis, M.gc, M.dl⟩, rfl, ⟨_, rfl⟩⟩
    (F3.first (e := ⟨t', I, q, a, Rf a⟩) hp3 C.hr k6 (k4.nn nt) nI hq (It4.mono fun b o _ eb => mu_up (mu_up eb nt) nsa) ⟨ot, _, mu_up (upd_self ..) nsa, hot⟩ ⟨ha, hR a ha⟩ ⟨so, upd_self .., hso⟩ nsa3 hqs)
end
end

/-! G2 -/
section
open PySem.W.X
section
variable {w : World} {g : Heap} {mg mb : Str → Option Value} {μr μf : Mu} {many D : Nat} {gv : Value} {Rf : Nat → List Nat} {Lg va IS qS : Addr}
theorem over3 {A : Around} {Lg IS I : Addr} {p1 p2 p3 : Pos} (h : A.depth + 40 < recursionLimit) : (A.over (.forLoop (tgtS sFor2) (.ref I) (bodyS sFor2) (elseS sFor2) (dEnv Lg)) [fr3 (dEnv Lg) p3, fr2 (dEnv Lg) IS p2, fr1 (dEnv Lg) p1]).depth + 20 < recursionLimit := by
  have e : (A.over (.forLoop (tgtS sFor2) (.ref I) (bodyS sFor2) (elseS sFor2) (dEnv Lg)) [fr3 (dEnv Lg) p3, fr2 (dEnv Lg) IS p2, fr1 (dEnv Lg) p1]).depth = A.depth + 1 := rfl
  omega
theorem r_iterIt {w : World} {A : Around} {E : Value → Shared → Prop} {s : Shared} {g : Heap} {L : Addr} {m : Str → Option Value} {μ : Mu} {I q : Addr} {cs : List Nat} {Q : Value → Shared → Prop} (S : St g L m μ s.heap) (It : ItS w μ I q cs) (h : Q (.ref I) s) :
    wpAny (model PR w) A (pyIter (.ref I)) Q E s := by
  rcases It with ⟨i, kvs, ep, oI, od, eI, hit, _⟩ | ⟨i, oI, ol, vs, eI, hcl, hdt, _⟩
  · exact wpAny_pyIter_keyiter (hit.at (S.get eI)) h
  · exact wpAny_pyIter_listiter ⟨oI, S.get eI, hcl, hdt⟩ h
theorem w_out {V : List Nat} {as : List Nat} {es : List Edge} (ih : InS w g μr μf many D gv Lg va IS qS V as es) : InW w g μr μf many D gv Lg va IS qS V [] as es := by
  rintro A s₀ s L mL μ₀ μg₀ μp m μ sa p1 p2 hh hd' ⟨h0, tk0, rfl⟩ C S hp M F
  obtain ⟨so, es', hs⟩ := F.stk
  have mst := M.st
  refine g_whileLoop ?_
  show wpAny _ _ (PySem.isTrue (Expr.Name _ _) _ (eval (Expr.Name _ _) _)) _ _ _
  repeat tb_start
  refine r_truthyList S es' hs (by simp) fun tk' => ?_
  refine ite_of_false (by rfl) ?_
  refine g_nil ?_
  show SegX _ _ _ (.pure (.done .next)) _ _ _
  refine g_ret ?_
  refine g_seq ?_
  refine g_nil ?_
  refine x_again (by rfl) ?_
  exact ih A s₀ _ L mL μ₀ μg₀ μp _ _ p1 hh hd' ⟨_, _, rfl⟩ C S hp M.b F.b
theorem w_in {V : List Nat} {e : Ent} {E : List Ent} {as : List Nat} {es : List Edge} (ih : InC w g μr μf many D gv Lg va IS qS V e E as es) : InW w g μr μf many D gv Lg va IS qS V (e :: E) as es := by
  rintro A s₀ s L mL μ₀ μg₀ μp m μ sa p1 p2 hh hd' ⟨h0, tk0, rfl⟩ C S hp M F
  obtain ⟨so, es', hs⟩ := F.stk
  have mst := M.st
  have hgt := F.hgt
  refine g_whileLoop ?_
  show wpAny _ _ (PySem.isTrue (Expr.Name _ _) _ (eval (Expr.Name _ _) _)) _ _ _
  repeat tb_start
  refine r_truthyList S es' hs (by simpa using by simp at hgt; omega) fun tk' => ?_
  refine ite_of_true (by simp) ?_
  refine g_cons ?_
  refine g_stmt ?_
  repeat tb_start
  refine UnaryOp_ ?_
  repeat tb_start
  refine neg_int ?_
  refine r_last (y := .ref e.t) (vs := (E.map fun e => Value.ref e.t).reverse) S es' (by simpa using hs) ?_
  obtain ⟨ot, tkt, et, hot⟩ := (F.ents e List.mem_cons_self).tup
  refine r_unpack S et hot (by exact hh) rfl rfl fun h1 S1 => ?_
  refine assignInOrder_cons (x := .int (e.p : Int) tkt) (xs := [.ref e.I]) ?_
  repeat tb_start
  refine assignInOrder_cons (x := .ref e.I) (xs := []) ?_
  repeat tb_start
  rename_i h2 S2 h3 S3
  refine g_seq ?_
  refine g_cons ?_
  refine g_For ?_
  repeat tb_start
  refine r_iterIt S3 (F.ents e List.mem_cons_self).it.it ?_
  intro p3
  exact ih A s₀ _ L mL μ₀ μg₀ μp _ _ sa p1 p2 p3 hh hd' ⟨_, _, rfl⟩ C S3 hp ⟨⟨M.b.vis, M.b.gc, M.b.dl⟩, M.st, M.dn⟩ ⟨_, rfl⟩ F
theorem c_pop {V : List Nat} {e : Ent} {E : List Ent} {as : List Nat} {es : List Edge} (he : e.cs = []) (ih : InW w g μr μf many D gv Lg va IS qS V E as es) : InC w g μr μf many D gv Lg va IS qS V e E as es := by
  rintro A s₀ s L mL μ₀ μg₀ μp m μ sa p1 p2 p3 hh hd' ⟨h0, tk0, rfl⟩ C S hp M ⟨tp, mp⟩ F
  have X := F.ents e List.mem_cons_self
  have hgt := F.hgt
  have mst := M.st
  obtain ⟨td, mdn⟩ := M.dn
  refine g_forLoop ?_
  refine r_next (by exact hh) S X.it.it (fun c cs' t oI' h' tk' ec => by rw [he] at ec; cases ec) (fun h' tk' _ S1 => ?_)
  obtain ⟨so, es', hs⟩ := (F.top hp C.hr (del μ e.I) fun b o eb ne => del_of ne eb).2.1
  have hs' : lstO ((E.map fun e => Value.ref e.t).reverse ++ [.ref e.t]) so := by simpa using hs
  refine g_cons ?_
  refine g_stmt ?_
  repeat tb_start
  refine r_listMethod S1 es' hs' PySem.F.slot_list_pop PySem.F.type_list_pop ?_
  repeat tb_start
  refine r_pop S1 es' hs' (by simp at hgt ⊢; omega) ?_
  intro so' h2 hso' S2
  have F2 := F.pop hp C.hr hso'
  have hp2 := le_upd (o := so') (le_del hp X.it.nI) F.nsa
  repeat tb_start
  refine g_seq ?_
  refine g_cons ?_
  refine g_stmt ?_
  repeat tb_start
  refine wpAny_loadName_local rfl rfl S2.fr.ns mdn ?_
  repeat tb_start
  refine isub_int ?_
  repeat tb_start
  rename_i h3 S3
  refine g_seq ?_
  refine g_nil ?_
  show SegX _ _ _ (.pure (.done .next)) _ _ _
  refine g_ret ?_
  refine g_seq ?_
  refine g_nil ?_
  refine x_again (by rfl) ?_
  exact ih A s₀ _ L mL μ₀ μg₀ μp _ _ sa p1 p2 hh hd' ⟨_, _, rfl⟩ C S3 hp2 ⟨⟨M.b.vis, M.b.gc, M.b.dl⟩, M.st, ⟨_, by
    show some (Value.int (((E.length + 1 : Nat) : Int) - 1) _) = _
    rw [show (((E.length + 1 : Nat) : Int) - 1) = (E.length : Int) by omega]⟩⟩ F2
theorem c_seen (h6 : many ≤ 6) {V : List Nat} {e : Ent} {c : Nat} {cs : List Nat} {E : List Ent} {as : List Nat} {es : List Edge} (he : e.cs = c :: cs) (hV : c ∈ V) (ih : InC w g μr μf many D gv Lg va IS qS V { e with cs := cs } E as es) : InC w g μr μf many D gv Lg va IS qS V e E as es := by
  rintro A s₀ s L mL μ₀ μg₀ μp m μ sa p1 p2 p3 hh hd' ⟨h0, tk0, rfl⟩ C S hp M ⟨tp, mp⟩ F
  have X := F.ents e List.mem_cons_self
  have mv := M.b.vis
  refine g_forLoop ?_
  refine r_next (by exact hh) S X.it.it (fun c' cs' t oI' h' tk' ec S1 It1 => ?_) (fun h' tk' ec => by rw [he] at ec; cases ec)
  rw [he] at ec
  obtain ⟨rfl, rfl⟩ := List.cons.inj ec
  have hcs : ∀ x ∈ cs, x < many := fun x hx => (F.lt e List.mem_cons_self).2 x (by rw [he]; exact List.mem_cons_of_mem _ hx)
  have F1 := F.step hp C.hr It1 hcs
  have hp1 := le_upd (o := oI') hp X.it.nI
  obtain ⟨vo, ev, hv⟩ := F1.b.vis
  show wpAny _ _ (assign (.Name _ _) _ _) _ _ _
  repeat tb_start
  refine g_cons ?_
  refine g_If ?_
  show wpAny _ _ (PySem.isTrue (Expr.Compare _ [_] [_] _) _ _) _ _ _
  repeat tb_start
  refine r_setNotIn (by assumption) ev hv (F1.b.vlen h6) ?_
  repeat tb_start
  rw [if_neg (by simpa using hV)]
  refine g_nil ?_
  refine g_seq ?_
  refine g_nil ?_
  refine x_again (by rfl) ?_
  rename_i h2 S2
  exact ih A s₀ _ L mL μ₀ μg₀ μp _ _ sa p1 p2 p3 hh hd' ⟨_, _, rfl⟩ C S2 hp1 ⟨⟨M.b.vis, M.b.gc, M.b.dl⟩, M.st, M.dn⟩ ⟨tp, mp⟩ F1
end
end

/-! G3 -/
section
open PySem.W.X
section
variable {w : World} {g : Heap} {mg mb : Str → Option Value} {μr μf : Mu} {many D : Nat} {gv : Value} {Rf : Nat → List Nat} {Lg va IS qS : Addr}
/-- a child not yet met: it is told; then it is pushed, or not -/
theorem c_new (h6 : many ≤ 6) (G : Gd w mg mb g) (X : Ch w g μr μf many gv Rf) (hR : ∀ c, c < many → ∀ x ∈ Rf c, x < many) (hD : D ≤ 10) {V : List Nat} {e : Ent} {c : Nat} {cs : List Nat} {E : List Ent} {as : List Nat} {es : List Edge} (he : e.cs = c :: cs) (hV : c ∉ V)
    (ihD : E.length + 1 < D → ∀ t I q, InW w g μr μf many D gv Lg va IS qS (V ++ [c]) (⟨t, I, q, c, Rf c⟩ :: { e with cs := cs } :: E) as es)
    (ihF : ¬ E.length + 1 < D → InC w g μr μf many D gv Lg va IS qS (V ++ [c]) { e with cs := cs } E as es) : InC w g μr μf many D gv Lg va IS qS V e E as ((e.p, c) :: es) := by
  rintro A s₀ s L mL μ₀ μg₀ μp m μ sa p1 p2 p3 hh hd' ⟨h0, tk0, rfl⟩ C S hp M ⟨tp, mp⟩ F
  have Y := F.ents e List.mem_cons_self
  have mv := M.b.vis
  refine g_forLoop ?_
  refine r_next (by exact hh) S Y.it.it (fun c' cs' t oI' h' tk' ec S1 It1 => ?_) (fun h' tk' ec => by rw [he] at ec; cases ec)
  rw [he] at ec
  obtain ⟨rfl, rfl⟩ := List.cons.inj ec
  have hcm : c < many := (F.lt e List.mem_cons_self).2 c (by rw [he]; exact List.mem_cons_self)
  have hcs : ∀ x ∈ cs, x < many := fun x hx => (F.lt e List.mem_cons_self).2 x (by rw [he]; exact List.mem_cons_of_mem _ hx)
  have F1 := F.step hp C.hr It1 hcs
  have hp1 := le_upd (o := oI') hp Y.it.nI
  obtain ⟨vo, ev, hv⟩ := F1.b.vis
  show wpAny _ _ (assign (.Name _ _) _ _) _ _ _
  repeat tb_start
  refine g_cons ?_
  refine g_If ?_
  show wpAny _ _ (PySem.isTrue (Expr.Compare _ [_] [_] _) _ _) _ _ _
  repeat tb_start
  refine r_setNotIn (by assumption) ev hv (F1.b.vlen h6) ?_
  repeat tb_start
  rw [if_pos (by simpa using hV)]
  refine g_cons ?_
  refine g_Yield (by rfl) (by rfl) ?_
  rename_i h2 S2
  repeat tb_start
  rename_i tt ot h3 nt hot S3
  intro k l pz hk
  refine C.told S3 (le_upd hp1 (hp1.nn nt)) ⟨_, _, rfl⟩ (upd_self ..) hot (hp1.nn nt) ?_
  intro μg gr wake
  show GGo w g μr es _ μg
  rw [GGo_eq]
  refine ⟨gr, _, _, _, .inr ⟨k, l, pz, _, rfl, rfl⟩, ?_⟩
  intro A' s' L' mL' μ' hh1 hd1 St' hr' hg'
  obtain ⟨μp', μ₁, C', S', hp', ov⟩ := wake s' L' mL' μ' St' hr' hg'
  refine hk _ _ _ ?_
  refine g_seq ?_
  have F2 := F1.ov (μ' := μ₁) (μp' := μp') (fun b o eb n => ov b o (mu_up eb nt) n (ne_of_mu eb nt)) (C.hr.trans hp1) (C'.hr.trans hp')
  obtain ⟨vo2, ev2, hv2⟩ := F2.b.vis
  refine g_cons ?_
  refine g_stmt ?_
  repeat tb_start
  refine r_setMethod S' ev2 hv2 (F2.b.vlen h6) ?_
  repeat tb_start
  refine r_setAdd (by assumption) ev2 hv2 (F2.b.vlen h6) hV ?_
  intro vo' h4 tk4 hv' S4
  have F4 := F2.addV hp' C'.hr hV hcm hv'
  have hp4 := le_upd (o := vo') hp' F2.b.nva
  repeat tb_start
  refine g_seq ?_
  refine g_cons ?_
  refine g_If ?_
  obtain ⟨tdn, mdn⟩ := M.dn
  obtain ⟨tdl, mdl⟩ := M.b.dl
  have mst := M.st
  have mgc := M.b.gc
  obtain ⟨so, es', hs⟩ := F4.stk
  have hgt := F4.hgt
  repeat tb_start
  refine bsplit (fun hlt => ?_) (fun hge => ?_)
  · have hlt' : E.length + 1 < D := by have := of_decide_eq_true hlt; omega
    refine g_cons ?_
    refine g_stmt ?_
    repeat tb_start
    refine r_listMethod S4 es' hs PySem.F.slot_list_append PySem.F.type_list_append ?_
    repeat tb_start
    refine r_getCh (c := c) X G S4 (by exact hh1) (over3 hd1) (C'.hr.trans hp4) (C'.hf.trans hp4) hcm rfl ?_
    intro h5 tk5 μ5 I q S5 k5 nI It5 hq
    repeat tb_start
    rename_i t2 ot2 h6' nt2 hot2 S6
    have es6 : upd μ5 t2 ot2 sa = some so := mu_up (k5 _ _ es') nt2
    refine r_append S6 es6 hs (by rw [PySem.sizeLine_eq]; simp at hgt ⊢; omega) ?_
    intro so' h7 hso' S7
    have F7 := F4.push (e := ⟨t2, I, q, c, Rf c⟩) hp4 C'.hr (k5.trans (MuLe.updN nt2)) (k5.nn nt2) nI hq (It5.mono fun b o _ eb => mu_up eb nt2) ⟨ot2, _, upd_self .., hot2⟩ (by simp; omega) ⟨hcm, hR c hcm⟩ (so' := so') (by simpa using hso')
    have hp7 := le_upd (o := so') (hp4.trans (k5.trans (MuLe.updN (o := ot2) nt2))) F4.nsa
    repeat tb_start
    refine g_seq ?_
    refine g_cons ?_
    refine g_stmt ?_
    repeat tb_start
    refine wpAny_loadName_local rfl rfl S7.fr.ns mdn ?_
    repeat tb_start
    refine iadd_int ?_
    repeat tb_start
    rename_i h8 S8
    refine g_seq ?_
    refine g_cons ?_
    refine g_stmt ?_
    repeat tb_start
    show SegX _ _ _ (.pure (.done .next)) _ _ _
    refine g_ret ?_
    refine g_seq ?_
    refine g_nil ?_
    refine x_again (by rfl) ?_
    exact ihD hlt' t2 I q A' s' _ L' mL' μ' μg μp' _ _ sa p1 p2 hh1 hd1 ⟨_, _, rfl⟩ C' S8 hp7 ⟨⟨M.b.vis, M.b.gc, M.b.dl⟩, M.st, ⟨_, by
      show some (Value.int (((E.length + 1 : Nat) : Int) + 1) _) = _
      rfl⟩⟩ F7
  · have hge' : ¬ E.length + 1 < D := by have := of_decide_eq_false hge; omega
    refine g_nil ?_
    refine g_seq ?_
    refine g_nil ?_
    refine g_seq ?_
    refine g_nil ?_
    refine x_again (by rfl) ?_
    exact ihF hge' A' s' _ L' mL' μ' μg μp' _ _ sa p1 p2 p3 hh1 hd1 ⟨_, _, rfl⟩ C' S4 hp4 ⟨⟨M.b.vis, M.b.gc, M.b.dl⟩, M.st, M.dn⟩ ⟨tp, mp⟩ F4
end
end

/-! G4 -/
section
open PySem.W.X
section
variable {w : World} {g : Heap} {mg mb : Str → Option Value} {μr μf : Mu} {many D : Nat} {gv : Value} {Rf : Nat → List Nat} {Lg va IS qS : Addr}
theorem loops (h6 : many ≤ 6) (G : Gd w mg mb g) (X : Ch w g μr μf many gv Rf) (hR : ∀ c, c < many → ∀ x ∈ Rf c, x < many) (hD : D ≤ 10) {V : List Nat} {st : List (Nat × List Nat)} {as : List Nat} {es : List Edge} (h : Tells Rf D V st as es) :
    ∀ E : List Ent, E.map (fun e => (e.p, e.cs)) = st → InW w g μr μf many D gv Lg va IS qS V E as es ∧ (∀ e E', E = e :: E' → InC w g μr μf many D gv Lg va IS qS V e E' as es) ∧ (E = [] → InS w g μr μf many D gv Lg va IS qS V as es) := by
  have outer : ∀ {V as es}, InS w g μr μf many D gv Lg va IS qS V as es → ∀ E : List Ent, E.map (fun e => (e.p, e.cs)) = [] → InW w g μr μf many D gv Lg va IS qS V E as es ∧ (∀ e E', E = e :: E' → InC w g μr μf many D gv Lg va IS qS V e E' as es) ∧ (E = [] → InS w g μr μf many D gv Lg va IS qS V as es) := by
    intro V as es hS E hE
    have hE' : E = [] := List.map_eq_nil_iff.mp hE
    subst hE'
    exact ⟨w_out hS, fun e E' q => (nomatch q), fun _ => hS⟩
  have inner : ∀ {V as es} {e : Ent} {E : List Ent}, InC w g μr μf many D gv Lg va IS qS V e E as es → InW w g μr μf many D gv Lg va IS qS V (e :: E) as es ∧ (∀ e' E', e :: E = e' :: E' → InC w g μr μf many D gv Lg va IS qS V e' E' as es) ∧ (e :: E = [] → InS w g μr μf many D gv Lg va IS qS V as es) := by
    intro V as es e E hC
    refine ⟨w_in hC, fun e' E' q => ?_, fun q => nomatch q⟩
    obtain ⟨rfl, rfl⟩ := List.cons.inj q
    exact hC
  induction h with
  | fin => exact outer s_fin
  | seenS hV _ ih => exact outer (s_seen h6 hV ((ih [] rfl).2.2 rfl))
  | newS hV _ ih => exact outer (s_new h6 G X hR hV fun t I q => (ih [⟨t, I, q, _, _⟩] rfl).1)
  | pop _ ih =>
    intro E hE
    cases E with
    | nil => cases hE
    | cons e E =>
      rw [List.map_cons] at hE
      obtain ⟨h1, h2⟩ := List.cons.inj hE
      obtain ⟨h3, h4⟩ := Prod.mk.inj h1
      exact inner (c_pop h4 (ih E h2).1)
  | seenC hV _ ih =>
    intro E hE
    cases E with
    | nil => cases hE
    | cons e E =>
      rw [List.map_cons] at hE
      obtain ⟨h1, h2⟩ := List.cons.inj hE
      obtain ⟨h3, h4⟩ := Prod.mk.inj h1
      exact inner (c_seen h6 h4 hV ((ih ({ e with cs := _ } :: E) (by rw [List.map_cons, h2, h3])).2.1 _ _ rfl))
  | deep hV hlt _ ih =>
    intro E hE
    cases E with
    | nil => cases hE
    | cons e E =>
      rw [List.map_cons] at hE
      obtain ⟨h1, h2⟩ := List.cons.inj hE
      obtain ⟨h3, h4⟩ := Prod.mk.inj h1
      have hl : E.length + 1 < D := by rw [← h2] at hlt; simpa using hlt
      rw [← h3] at ih ⊢
      exact inner (c_new h6 G X hR hD h4 hV (fun _ t I q => (ih (⟨t, I, q, _, _⟩ :: { e with cs := _ } :: E) (by rw [List.map_cons, List.map_cons, h2])).1) fun hn => absurd hl hn)
  | flat hV hlt _ ih =>
    intro E hE
    cases E with
    | nil => cases hE
    | cons e E =>
      rw [List.map_cons] at hE
      obtain ⟨h1, h2⟩ := List.cons.inj hE
      obtain ⟨h3, h4⟩ := Prod.mk.inj h1
      have hl : ¬ E.length + 1 < D := by rw [← h2] at hlt; simpa using hlt
      rw [← h3] at ih ⊢
      exact inner (c_new h6 G X hR hD h4 hV (fun hn => absurd hn hl) fun _ => (ih ({ e with cs := _ } :: E) (by rw [List.map_cons, h2])).2.1 _ _ rfl)
end
end

/-! G5 -/
section
open PySem.W.X
section
variable {w : World} {A : Around} {E : Value → Shared → Prop} {s : Shared} {g : Heap} {Lg : Addr} {m : Str → Option Value} {μ : Mu} {mg mb : Str → Option Value}
def srcV (src : Option Nat) (v : Value) : Prop := match src with | none => v = .none | some a => ∃ t, v = .int (a : Int) t
def nodV (src : Option Nat) (x : Addr) (μ μ' : Mu) (nv : Value) : Prop := match src with | none => nv = .ref x | some a => ∃ l lo t, nv = .ref l ∧ Nn μ l ∧ μ' l = some lo ∧ lstO [.int (a : Int) t] lo
abbrev cG (Lg : Addr) : Addr := Lg + 1
abbrev cN (Lg : Addr) : Addr := Lg + 1 + 1
theorem stA {src : Option Nat} {sv : Value} {x : Addr} {oG : Obj} (S : St g Lg m μ s.heap) (hsv : srcV src sv) (ms : m "source" = some sv) (eG : μ (cG Lg) = some oG) (dG : oG.data = .cell (some (.ref x))) :
    wpAny (model PR w) A (exec (nthS (bodyS dfsS) 0) (dEnv Lg)) (fun f s' => f = .next ∧ ∃ nv h' tk' μ', s' = { s with heap := h', toks := tk' } ∧ St g Lg (fun y => if y = "nodes" then some nv else m y) μ' h' ∧ MuLe μ μ' ∧ nodV src x μ μ' nv) E s := by
  show wpAny _ _ (exec (Stmt.If _ _ _ _) _) _ _ _
  cases src with
  | none =>
    obtain rfl : sv = .none := hsv
    repeat tb_start
    rename_i h' S'
    exact ⟨rfl, _, _, _, _, rfl, S', MuLe.refl _, rfl⟩
  | some a =>
    obtain ⟨t, rfl⟩ := hsv
    repeat tb_start
    rename_i l lo h1 nl hl S1 h2 S2
    exact ⟨rfl, _, _, _, _, rfl, S2, MuLe.updN nl, l, lo, t, rfl, nl, upd_self .., hl⟩
theorem stB {bd : Option Nat} {bv : Value} {dir : Bool} {many : Nat} {ord : List Nat} {R : List (List Nat)} {x dx dg dn da dp : Addr} {oG : Obj} (G : Gd w mg mb g) (S : St g Lg m μ s.heap) (X : GfA w μ dir many ord R x dx dg dn da dp) (hroom : A.depth + 10 < recursionLimit)
    (hbv : srcV bd bv) (ms : m "depth_limit" = some bv) (eG : μ (cG Lg) = some oG) (dG : oG.data = .cell (some (.ref x))) :
    wpAny (model PR w) A (exec (nthS (bodyS dfsS) 1) (dEnv Lg)) (fun f s' => f = .next ∧ ∃ t h' tk' μ', s' = { s with heap := h', toks := tk' } ∧ St g Lg (fun y => if y = "depth_limit" then some (.int ((bd.getD ord.length : Nat) : Int) t) else m y) μ' h' ∧ MuLe μ μ') E s := by
  show wpAny _ _ (exec (Stmt.If _ _ _ _) _) _ _ _
  cases bd with
  | none =>
    obtain rfl : bv = .none := hbv
    repeat tb_start
    cases dir with
    | false =>
      refine lenG G S X (by omega) ?_
      intro h1 tk1 μ1 t S1 k1
      repeat tb_start
      rename_i h2 S2
      exact ⟨rfl, _, _, _, _, rfl, S2, k1⟩
    | true =>
      refine lenD G S X (by omega) ?_
      intro h1 tk1 μ1 t S1 k1
      repeat tb_start
      rename_i h2 S2
      exact ⟨rfl, _, _, _, _, rfl, S2, k1⟩
  | some a =>
    obtain ⟨t, rfl⟩ := hbv
    repeat tb_start
    refine ⟨rfl, t, _, _, _, rfl, ?_, MuLe.refl _⟩
    have e : m = fun (y : Str) => if y = "depth_limit" then some (Value.int ((Option.getD (some a) ord.length : Nat) : Int) t) else m y := by
      funext y
      by_cases q : y = ("depth_limit" : Str)
      · subst q; rw [if_pos rfl]; exact ms
      · rw [if_neg q]
    rw [← e]; exact S
def argsE : Expr → Arguments
  | .Lambda (args := a) .. => a
  | _ => { posonlyargs := [], args := [], vararg := none, kwonlyargs := [], kw_defaults := [], kwarg := none, defaults := [] }
def bodyE : Expr → Expr
  | .Lambda (body := b) .. => b
  | e => e
def scopeE : Expr → Scope
  | .Lambda (scope := s) .. => s
  | _ => { kind := .function, names := [], isGenerator := false, isCoroutine := false }
def nbF (dir : Bool) : Addr := if dir then 715 else 543
def lamClos (Lg : Addr) : List (Str × Addr) := [("sort_neighbors", cN Lg), ("G", cG Lg)]
def lamObj (Lg c' : Addr) (pm ctv : Value) : Obj := kla_obj "<lambda>" lamQual (argsE lamE) (bodyE lamE) (scopeE lamE) (lamClos Lg) pm c' ctv
/-- what get_children is made of -/
def GcV (w : World) (srt dir : Bool) (Lg x : Addr) (Old : Addr → Prop) (μ μ' : Mu) (gv : Value) : Prop := match srt with
  | false => ∃ q, gv = .ref q ∧ Nn μ q ∧ μ' q = some (methodObj (.ref (nbF dir)) (.ref x))
  | true => ∃ f c' oc vs t pm ctv, gv = .ref f ∧ Nn μ f ∧ μ' f = some (lamObj Lg c' pm ctv) ∧ c' ≠ 25 ∧ μ' c' = some oc ∧ (Old c' ∨ Nn μ c') ∧ oc.data = .fields vs ∧ vs[1]? = some (.str lamQual t)
theorem stC {srt : Bool} {nv : Value} {dir : Bool} {many : Nat} {ord : List Nat} {R : List (List Nat)} {x dx dg dn da dp : Addr} {oG oN : Obj} (G : Gd w mg mb g) (C29 : CodeHd g 29 25) (S : St g Lg m μ s.heap) (X : GfA w μ dir many ord R x dx dg dn da dp)
    {Old : Addr → Prop} (T : TabR (μ 25) fun c o => c ≠ 25 ∧ μ c = some o ∧ Old c)
    (hnv : nv = if srt then .ref 825 else .none) (eG : μ (cG Lg) = some oG) (dG : oG.data = .cell (some (.ref x))) (eN : μ (cN Lg) = some oN) (dN : oN.data = .cell (some nv)) :
    wpAny (model PR w) A (exec (nthS (bodyS dfsS) 2) (dEnv Lg)) (fun f s' => f = .next ∧ ∃ gv h' tk' μ', s' = { s with heap := h', toks := tk' } ∧ St g Lg (fun y => if y = "get_children" then some gv else m y) μ' h' ∧ (∀ b o, μ b = some o → b ≠ 25 → μ' b = some o) ∧
      GcV w srt dir Lg x Old μ μ' gv ∧ TabR (μ' 25) (fun c o => c ≠ 25 ∧ μ' c = some o ∧ (Old c ∨ Nn μ c))) E s := by
  obtain ⟨nI, hnI, I⟩ := X.inst
  show wpAny _ _ (exec (Stmt.Assign [Expr.Name _ _] _ _) _) _ _ _
  cases srt with
  | false =>
    obtain rfl : nv = .none := hnv
    have keep : ∀ q oq, Nn μ q → TabR (upd μ q oq 25) (fun c o => c ≠ 25 ∧ upd μ q oq c = some o ∧ (Old c ∨ Nn μ c)) := fun q oq hq =>
      (TabR.imp (fun c o ⟨a, b, c⟩ => ⟨a, mu_up b hq, .inl c⟩) T).at fun o e => mu_up e hq
    repeat tb_start
    cases dir with
    | false =>
      refine' r_bound (f := 543) G S I ?a ?b ?c ?d ?e ?f ?k ?n ?_
      case a => rfl
      case b => k_is
      case c => k_is
      case d => k_is
      case e => k_is
      case f => k_is
      case k => k_is
      case n => decide
      intro q h1 tk1 hq S1
      repeat tb_start
      rename_i h2 S2
      exact ⟨rfl, _, _, _, _, rfl, S2, fun b o e _ => mu_up e hq, ⟨q, rfl, hq, upd_self ..⟩, keep _ _ hq⟩
    | true =>
      refine' r_bound (f := 715) G S I ?a ?b ?c ?d ?e ?f ?k ?n ?_
      case a => rfl
      case b => k_is
      case c => k_is
      case d => k_is
      case e => k_is
      case f => k_is
      case k => k_is
      case n => decide
      intro q h1 tk1 hq S1
      repeat tb_start
      rename_i h2 S2
      exact ⟨rfl, _, _, _, _, rfl, S2, fun b o e _ => mu_up e hq, ⟨q, rfl, hq, upd_self ..⟩, keep _ _ hq⟩
  | true =>
    obtain rfl : nv = .ref 825 := hnv
    repeat tb_start
    refine kla_eval (by rfl) ?_
    refine r_lambda (clos := lamClos Lg) G C29 S T (by rfl) (by rfl) (by rfl) (by rfl) (by rfl) ?_
    intro f c' oc vs t ctv h1 tk1 μ1 S1 k1 nf ef hc25 ec hold hd hv T1
    repeat tb_start
    rename_i h2 S2
    exact ⟨rfl, _, _, _, _, rfl, S2, k1, ⟨f, c', oc, vs, t, _, ctv, rfl, nf, ef, hc25, ec, hold, hd, hv⟩, T1⟩
end
end

/-! G6 -/
section
open PySem.W.X
section
variable {w : World} {g : Heap} {mg mb : Str → Option Value} {μr μf : Mu} {dir : Bool} {many : Nat} {ord : List Nat} {R : List (List Nat)} {x dx dg dn da dp Lg : Addr}
theorem GfA.row {μ : Mu} (X : GfA w μ dir many ord R x dx dg dn da dp) {c : Nat} (hc : c < many) : R[c]? = some (rowF R c) := by
  have := X.len
  show R[c]? = some (R.getD c [])
  rw [List.getD_eq_getElem?_getD, List.getElem?_eq_getElem (by omega)]; rfl
theorem chBound {q : Addr} (G : Gd w mg mb g) (X : GfA w μr dir many ord R x dx dg dn da dp) (eq : μf q = some (methodObj (.ref (nbF dir)) (.ref x))) : Ch w g μr μf many (.ref q) (rowF R) := by
  refine ⟨fun h ⟨k, K⟩ => keeps_M (f := nbF dir) (self := .ref x) ?_ h ⟨k _ _ eq, K⟩, ?_⟩
  · cases dir <;> k_is
  intro A E s L m μ c t Q hh hroom S hr hf hc hpost
  refine r_callBound S (hf _ _ eq) ?_
  cases dir with
  | false =>
    refine neighborsGc G S X hr (X.row hc) (by omega) ?_
    intro h' tk' μ' I S' k nI It ⟨q0, It0, hq⟩
    exact hpost h' tk' μ' I q0 S' k nI It0 (.inr hq)
  | true =>
    refine neighborsDc G S X hr (X.row hc) (by omega) ?_
    intro h' tk' μ' I S' k nI It ⟨q0, It0, hq⟩
    exact hpost h' tk' μ' I q0 S' k nI It0 (.inr hq)
theorem chLam {f c' : Addr} {pm ctv : Value} {oc oG oN : Obj} {vs : Array Value} {t : Tok} (G : Gd w mg mb g) (X : GfA w μr dir many ord R x dx dg dn da dp) (ef : μf f = some (lamObj Lg c' pm ctv)) (ec : μf c' = some oc ∨ μr c' = some oc) (hd' : oc.data = .fields vs) (hv : vs[1]? = some (.str lamQual t))
    (eG : μf (cG Lg) = some oG) (dG : oG.data = .cell (some (.ref x))) (eN : μf (cN Lg) = some oN) (dN : oN.data = .cell (some (.ref 825))) : Ch w g μr μf many (.ref f) fun c => downL (rowF R c) := by
  refine ⟨fun h ⟨k, K⟩ => ⟨.frame, .inl rfl, (Looks.ld (part := none) (k _ _ ef)).andThen .now⟩, ?_⟩
  intro A E s L m μ c tc Q hh hroom S hr hf hc hpost
  refine wpAny_call ?_
  refine r_callLam (binds := [("n", .int (c : Int) tc)]) G S (hf _ _ ef) (ec.elim (hf _ _) (hr _ _)) hd' hv (by omega) (by rfl) (locs rfl) ?_
  intro oL L' h₁ tk E' hN hL S2
  have X2 := X.mono (hr.trans (MuLe.updN hL (o := oL)))
  have k2 : MuLe μr (upd μ L oL) := hr.trans (MuLe.updN hL)
  have eG2 := mu_up (ob := oL) (hf _ _ eG) hL
  have eN2 := mu_up (ob := oL) (hf _ _ eN) hL
  show wpAny _ _ (eval (.Call _ _ [] _) _) _ _ _
  repeat tb_start
  refine r_free (c := cN Lg) S2 (by rfl) eN2 dN ?_
  repeat tb_start
  refine r_free (c := cG Lg) S2 (by rfl) eG2 dG ?_
  repeat tb_start
  obtain ⟨nI2, hnI2, I2⟩ := X2.inst
  have go : ∀ (Q' : Value → Shared → Prop) (E' : Value → Shared → Prop) (A' : Around) (s' : Shared) , s'.heap = h₁ → A'.depth ≤ A.depth + 5 → (∀ h' tk' μ' I, St g L' (fun x => List.lookup x [(Str.ofString "n", Value.int (c : Int) tc)].reverse) μ' h' → MuLe (upd μ L oL) μ' → Nn (upd μ L oL) I → ItD w μ' I (rowF R c) → Q' (.ref I) { s' with heap := h', toks := tk' }) →
      wpAny (model PR w) A' (call (.ref (nbF dir)) [.ref x, .int (c : Int) tc] []) Q' E' s' := by
    intro Q' E' A' s' es hA hQ'
    have S2' : St g L' (fun x => List.lookup x [(Str.ofString "n", Value.int (c : Int) tc)].reverse) (upd μ L oL) s'.heap := by rw [es]; exact S2
    cases dir with
    | false => exact neighborsG G S2' X k2 (X.row hc) (by omega) fun h' tk' μ' I a b d e _ => hQ' h' tk' μ' I a b d e
    | true => exact neighborsD G S2' X k2 (X.row hc) (by omega) fun h' tk' μ' I a b d e _ => hQ' h' tk' μ' I a b d e
  have meth : ∀ {pl : Sem Bool} {A' : Around} {Q' : Value × List Value → Shared → Prop} {E'' : Value → Shared → Prop} {s' : Shared}, s'.heap = h₁ → Q' (.ref (nbF dir), [.ref x]) s' → wpAny (model PR w) A' (getMethod (.ref x) "neighbors" pl) Q' E'' s' := by
    intro pl A' Q' E'' s' es hq
    have S2' : St g L' (fun x => List.lookup x [(Str.ofString "n", Value.int (c : Int) tc)].reverse) (upd μ L oL) s'.heap := by rw [es]; exact S2
    cases dir with
    | false =>
      refine' r_methFn (f := 543) G S2' I2 ?a ?b ?c ?d hq
      case a => rfl
      case b => k_is
      case c => k_is
      case d => k_is
    | true =>
      refine' r_methFn (f := 715) G S2' I2 ?a ?b ?c ?d hq
      case a => rfl
      case b => k_is
      case c => k_is
      case d => k_is
  refine meth rfl ?_
  repeat tb_start
  refine callWith_K G.K (by cases dir <;> k_is) ?_
  repeat tb_start
  refine go _ _ _ _ rfl (by simp only [depth_deeper]; omega) ?_
  intro h3 tk3 μ3 I S3 k3 nI It
  have hRl : (rowF R c).length ≤ 6 := X.rlen _ (List.mem_of_getElem? (X.row hc))
  repeat tb_start
  refine lawDownI G S3 (by exact hh) It (by omega) (by simp only [depth_deeper]; omega) ?_
  intro h4 tk4 μ4 l lo vs' row' S4 k4 el hl hn hp hs
  have kL : MuLe (upd μ L oL) μ4 := fun b o e => (k4 b o (k3 _ _ e) (ne_of_mu e nI)).1
  have nl : Nn (upd μ L oL) l := (nn_or _ _).elim id fun ⟨o, e⟩ => absurd rfl (k4 l o (k3 _ _ e) (ne_of_mu e nI)).2
  obtain rfl := downL_eq hp hs
  repeat tb_start
  refine r_iterList S4 el hl ?_
  intro I2 h5 oI nI2' hc5 hd5 S5
  have hlL : l ≠ L := fun q => by rw [q] at nl; exact nn_not nl (upd_self ..)
  have hlI : l ≠ I2 := ne_of_mu el nI2'
  have hIL : I2 ≠ L := fun q => by rw [q] at nI2'; exact nn_not nI2' (kL _ _ (upd_self ..))
  refine ⟨_, _, _, _, rfl, S5, mu_up (kL _ _ (upd_self ..)) nI2', fun S6 => hpost _ _ _ I2 l S6 (MuLe.delN hL (kL.trans (MuLe.updN nI2'))) (nn_low hIL (kL.nn nI2')) (.inr ⟨0, oI, lo, vs', del_of hIL (upd_self ..), hc5, hd5, del_of hlL (mu_up el nI2'), hl, by simpa using hn, hlI⟩) (.inl (nn_low hlL nl))⟩
end
end

/-! G7 -/
section
open PySem.W.X
section
variable {w : World} {g : Heap} {mg mb : Str → Option Value} {μr μg : Mu} {dir : Bool} {many : Nat} {ord : List Nat} {R : List (List Nat)} {x dx dg dn da dp Lg : Addr}
def srcL (src : Option Nat) (ord : List Nat) : List Nat := match src with | none => ord | some a => [a]
def rowsF (srt : Bool) (R : List (List Nat)) : Nat → List Nat := match srt with | false => rowF R | true => fun c => downL (rowF R c)
theorem rowsF_lt (X : GfA w μr dir many ord R x dx dg dn da dp) {srt : Bool} {c : Nat} (hc : c < many) : (rowsF srt R c).length ≤ 6 ∧ ∀ y ∈ rowsF srt R c, y < many := by
  have h := X.row hc
  have h1 := X.rlen _ (List.mem_of_getElem? h)
  have h2 := X.rows _ (List.mem_of_getElem? h)
  cases srt with
  | false => exact ⟨h1, h2⟩
  | true => exact ⟨by show (downL (rowF R c)).length ≤ 6; rw [(downL_perm _).length_eq]; exact h1, fun y hy => h2 y ((downL_perm _).mem_iff.mp hy)⟩
theorem over0 {A : Around} {env : Env} {body : List Stmt} (h : A.depth + 40 < recursionLimit) : (A.over (.func body env) []).depth + 30 < recursionLimit := by
  have e : (A.over (.func body env) []).depth = A.depth + 1 := rfl
  omega
theorem genFresh {src bd : Option Nat} {srt : Bool} {sv bv nv : Value} {mG : Str → Option Value} {oF oG oN : Obj} (G : Gd w mg mb g) (C29 : CodeHd g 29 25) (X : GfA w μr dir many ord R x dx dg dn da dp)
    (hsrc : srcV src sv) (hbd : srcV bd bv) (hnv : nv = if srt then .ref 825 else .none) (hs1 : ∀ a, src = some a → a < many) (hb1 : ∀ a, bd = some a → a ≤ 10)
    (eF : μg Lg = some oF) (nF : NsObj oF mG) (ab : g.objs.size ≤ Lg) (ms : mG "source" = some sv) (mb' : mG "depth_limit" = some bv) (eG : μg (cG Lg) = some oG) (dG : oG.data = .cell (some (.ref x))) (eN : μg (cN Lg) = some oN) (dN : oN.data = .cell (some nv))
    (T : TabOk2 μg μr) (T' : TabR (μg 25) fun c o => c ≠ 25 ∧ μr c = some o) (dis : ∀ b o, μr b = some o → Nn μg b) :
    GGo w g μr (dueL (rowsF srt R) (bd.getD ord.length) (srcL src ord) [] []) (.fresh (.func (bodyS dfsS) (dEnv Lg))) μg := by
  rw [GGo_eq]
  refine ⟨dis, _, _, _, .inl ⟨rfl, rfl, rfl⟩, fun A s L mL μ hh hd' S hr hg => ?_⟩
  obtain ⟨oL, nL, hLG, S1⟩ := S.swap (hg _ _ eF) nF ab
  have n0 := S.nn
  have gk : ∀ b o, μg b = some o → b ≠ Lg → upd (del μ Lg) L oL b = some o := fun b o e h1 => mu_ch (del_of h1 (hg _ _ e)) (fun q => by rw [q] at e; exact nn_not n0 (hg _ _ e))
  have rk : MuLe μr (upd (del μ Lg) L oL) := fun b o e => mu_ch (del_of (fun q => by rw [q] at e; exact nn_not (dis _ _ e) eF) (hr _ _ e)) (fun q => by rw [q] at e; exact nn_not n0 (hr _ _ e))
  have eG1 := gk _ _ eG (Nat.ne_of_gt (Nat.lt_succ_self _))
  have eN1 := gk _ _ eN (Nat.ne_of_gt (Nat.lt_succ_of_lt (Nat.lt_succ_self _)))
  obtain ⟨o25, e25, hd25⟩ : ∃ o, μg 25 = some o ∧ ∃ ps, o = tabObj ps := by obtain ⟨ps, e, _⟩ := T; exact ⟨_, e, ps, rfl⟩
  have h25G : (25 : Addr) ≠ Lg := fun q => by
    obtain ⟨ps, rfl⟩ := hd25
    rw [q, eF] at e25
    obtain ⟨es, ep, hdd, _⟩ := nF
    cases e25; cases hdd
  have e251 := gk _ _ e25 h25G
  show SegX (model PR w) A (.func (bodyS dfsS) (dEnv Lg)) ((model PR w).den (.func (bodyS dfsS) (dEnv Lg))) [] s _
  refine g_func ?_
  show SegX _ _ _ ((execs [nthS (bodyS dfsS) 0, nthS (bodyS dfsS) 1, nthS (bodyS dfsS) 2, nthS (bodyS dfsS) 3, sFor1] (dEnv Lg)).wrap funK (funH (dEnv Lg)) id id) _ _ _
  refine g_cons (g_stmt ?_)
  refine wpAny_mono (stA S1 hsrc ms eG1 dG) (fun f s2 h2 => ?_) fun _ _ e => e
  obtain ⟨rfl, nodv, h2, tk2, μ2, rfl, S2, k2, hnod⟩ := h2
  refine g_seq (g_cons (g_stmt ?_))
  refine wpAny_mono (stB (bd := bd) G S2 (X.mono (rk.trans k2)) (by have := over0 (env := dEnv Lg) (body := bodyS dfsS) hd'; omega) hbd mb' (k2 _ _ eG1) dG) (fun f s3 h3 => ?_) fun _ _ e => e
  obtain ⟨rfl, tD, h3, tk3, μ3, rfl, S3, k3⟩ := h3
  have k13 := k2.trans k3
  refine g_seq (g_cons (g_stmt ?_))
  have TT : TabR (μ3 25) fun c o => c ≠ 25 ∧ μ3 c = some o ∧ ∃ o, μr c = some o := (TabR.imp (fun c o ⟨a, b⟩ => ⟨a, k13 _ _ (rk _ _ b), o, b⟩) T').at fun o e => k13 _ _ (gk _ _ e h25G)
  refine wpAny_mono (stC G C29 S3 (X.mono (rk.trans k13)) (Old := fun c => ∃ o, μr c = some o) TT hnv (k13 _ _ eG1) dG (k13 _ _ eN1) dN) (fun f s4 h4 => ?_) fun _ _ e => e
  obtain ⟨rfl, gv, h4, tk4, μ4, rfl, S4, k4, hgc, T4⟩ := h4
  have k4' : ∀ b o, upd (del μ Lg) L oL b = some o → b ≠ 25 → μ4 b = some o := fun b o e h => k4 b o (k13 _ _ e) h
  -- the list of one source, if there is one
  obtain ⟨lx, hlx⟩ : ∃ lx : Option Addr, match src with | none => lx = none ∧ nodv = .ref x | some a => ∃ l lo t, lx = some l ∧ nodv = .ref l ∧ Nn (upd (del μ Lg) L oL) l ∧ μ2 l = some lo ∧ lstO [.int (a : Int) t] lo := by
    cases src with
    | none => exact ⟨none, rfl, hnod⟩
    | some a => obtain ⟨l, lo, t, a1, a2, a3, a4⟩ := hnod; exact ⟨some l, l, lo, t, rfl, a1, a2, a3, a4⟩
  have hl : ∀ l, lx = some l → Nn μ l ∧ l ≠ L ∧ (∃ o, μ3 l = some o) := by
    intro l ql
    cases src with
    | none => obtain ⟨a1, _⟩ := hlx; rw [a1] at ql; cases ql
    | some a =>
      obtain ⟨l', lo, t, a1, a2, a3, a4, a5⟩ := hlx
      rw [a1] at ql; cases ql
      have hL : l ≠ L := fun q => by rw [q] at a3; exact nn_not a3 (upd_self ..)
      refine ⟨(nn_or μ l).elim id fun ⟨o, e⟩ => ?_, hL, lo, k3 _ _ a4⟩
      by_cases q : l = Lg
      · rw [q] at a4
        exact (nn_not S2.nn a4).elim
      · exact (nn_not a3 (mu_ch (del_of q e) hL)).elim
  have eL4 : μ4 L = some oL := k4' _ _ (upd_self ..) (fun q => by rw [q] at n0; exact nn_not n0 (hg _ _ e25))
  have hfr : ∀ c, Nn μ3 c → (∃ o, μ4 c = some o) → Nn μ c ∧ c ≠ L ∧ some c ≠ lx := fun c n ⟨o4, e4⟩ => by
    have hL : c ≠ L := fun q => by rw [q] at n; exact nn_not n (k13 _ _ (upd_self ..))
    refine ⟨(nn_or μ c).elim id fun ⟨o, e⟩ => ?_, hL, fun q => ?_⟩
    · by_cases q : c = Lg
      · rw [q] at e4; exact (nn_not S4.nn e4).elim
      · exact (nn_not n (k13 _ _ (mu_ch (del_of q e) hL))).elim
    · obtain ⟨_, _, o, e⟩ := hl c q.symm
      exact nn_not n e
  obtain ⟨C, hrp⟩ := Cx.start (lx := lx) hr dis S hg S4 nL eL4 (fun b o e h1 h2 => k4' b o (mu_ch (del_of h1 e) (fun q => by rw [q] at e; exact nn_not n0 e)) h2) ⟨_, eF⟩ ⟨_, e25⟩ ab (fun l q => ⟨(hl l q).1, (hl l q).2.1⟩)
    (TabR.imp (fun c o ⟨a, b, k⟩ => ⟨a, b, k.elim .inl fun n => .inr (hfr c n ⟨o, b⟩)⟩) T4)
  have cellOf : ∀ c oc v, μg c = some oc → oc.data = .cell v → c ≠ Lg → firstMu lx L μ μg μ4 c = some oc := fun c oc v e d hcL => by
    have h25 : c ≠ 25 := fun q => by
      obtain ⟨ps, rfl⟩ := hd25
      rw [q, e25] at e; cases e; cases d
    refine firstMu_of (k4' _ _ (gk _ _ e hcL) h25) (fun q => by rw [q] at e; exact nn_not n0 (hg _ _ e)) (fun q => nn_not (hl c q.symm).1 (hg _ _ e)) (.inr ⟨_, e⟩)
  have freshOf : ∀ c oc, Nn μ3 c → μ4 c = some oc → firstMu lx L μ μg μ4 c = some oc := fun c oc n e => let z := hfr c n ⟨oc, e⟩; firstMu_of e z.2.1 z.2.2 (.inl z.1)
  have hch : Ch w g μr (firstMu lx L μ μg μ4) many gv (rowsF srt R) := by
    cases srt with
    | false =>
      obtain ⟨q, rfl, nq, eq⟩ := hgc
      exact chBound G X (freshOf _ _ nq eq)
    | true =>
      obtain rfl : nv = .ref 825 := hnv
      obtain ⟨f, c', oc, vs, t, pm, ctv, rfl, nf, ef, hc25, ec, hold, hd, hv⟩ := hgc
      refine chLam G X (freshOf _ _ nf ef) ?_ hd hv (cellOf _ _ _ eG dG (Nat.ne_of_gt (Nat.lt_succ_self _))) dG (cellOf _ _ _ eN dN (Nat.ne_of_gt (Nat.lt_succ_of_lt (Nat.lt_succ_self _)))) dN
      rcases hold with ⟨o, ho⟩ | hn
      · have := off_le _ _ (hrp _ _ ho)
        rw [ec] at this; cases this
        exact .inr ho
      · exact .inl (freshOf _ _ hn ec)
  have hal : ∀ a ∈ srcL src ord, a < many := by
    cases src with
    | none => exact X.olt
    | some a => intro b hb; rw [List.mem_singleton.mp hb]; exact hs1 a rfl
  have hD : bd.getD ord.length ≤ 10 := by
    cases bd with
    | none => exact Nat.le_trans X.olen (by decide)
    | some a => exact hb1 a rfl
  have tells := tells_due (rowsF srt R) (bd.getD ord.length) many 6 (fun c hc => rowsF_lt X hc) (srcL src ord) hal
  refine g_seq (g_cons (g_stmt ?_))
  show wpAny _ _ (exec (Stmt.Assign [Expr.Name _ _] _ _) _) _ _ _
  repeat tb_start
  refine r_newSet S4 ?_
  intro va vo h5 nva hvo S5
  repeat tb_start
  rename_i h6 S6
  have nvp : Nn (offMu lx μ4) va := off_le.nn nva
  have hp5 : MuLe (offMu lx μ4) (upd μ4 va vo) := le_upd off_le nvp
  refine g_seq (g_cons ?_)
  show SegX _ _ _ ((exec (Stmt.For _ _ _ _ _) _).wrap _ _ _ _) _ _ _
  refine g_For ?_
  repeat tb_start
  have fin : ∀ (h7 : Heap) tk7 μ7 IS qS, St g Lg (fun y => if y = Str.ofString "visited" then some (Value.ref va) else if y = Str.ofString "get_children" then some gv else if y = Str.ofString "depth_limit" then some (.int ((bd.getD ord.length : Nat) : Int) tD) else if y = Str.ofString "nodes" then some nodv else mG y) μ7 h7 →
      MuLe (upd μ4 va vo) μ7 → Nn (upd μ4 va vo) IS → ItS w μ7 IS qS (srcL src ord) → (Nn (offMu lx μ4) qS ∨ ∃ o, μr qS = some o) → ∀ p : Pos,
      SegX (model PR w) A (cF1 (dEnv Lg) IS) ((model PR w).den (cF1 (dEnv Lg) IS)) [fr1 (dEnv Lg) p] { s with heap := h7, toks := tk7 } (GPost g s L mL μ μg (dueL (rowsF srt R) (bd.getD ord.length) (srcL src ord) [] []) (nextG w g μr (dueL (rowsF srt R) (bd.getD ord.length) (srcL src ord) [] []))) := by
    intro h7 tk7 μ7 IS qS S7 k7 nI It hq p
    exact ((loops (va := va) (IS := IS) (qS := qS) X.m6 G hch (fun c hc => (rowsF_lt X hc).2) hD tells [] rfl).2.2 rfl) A s _ L mL μ μg (offMu lx μ4) _ μ7 p hh hd' ⟨_, _, rfl⟩ C S7 (hp5.trans k7) ⟨rfl, rfl, ⟨tD, rfl⟩⟩
      ⟨⟨vo, k7 _ _ (upd_self ..), hvo⟩, nvp, ⟨It, hp5.nn nI, hq⟩, List.nodup_nil, (fun _ h => nomatch h), hal⟩
  cases src with
  | none =>
    obtain ⟨hlx1, rfl⟩ := hlx
    have X5 : GfA w (upd μ4 va vo) dir many ord R x dx dg dn da dp := X.mono (hrp.trans hp5)
    obtain ⟨kn, on, en, _⟩ := X.nd
    cases dir with
    | false =>
      refine iterG G S6 X5 (by have := over0 (env := dEnv Lg) (body := bodyS dfsS) hd'; omega) ?_
      intro h7 tk7 μ7 IS qS S7 k7 nI _ It hq p
      exact fin h7 tk7 μ7 IS qS S7 k7 nI It (.inr ⟨on, by rw [hq]; exact en⟩) p
    | true =>
      refine iterD G S6 X5 (by have := over0 (env := dEnv Lg) (body := bodyS dfsS) hd'; omega) ?_
      intro h7 tk7 μ7 IS qS S7 k7 nI _ It hq p
      exact fin h7 tk7 μ7 IS qS S7 k7 nI It (.inr ⟨on, by rw [hq]; exact en⟩) p
  | some a =>
    obtain ⟨l, lo, t, hlx1, rfl, nl, el, hlo⟩ := hlx
    have el4 : μ4 l = some lo := k4 _ _ (k3 _ _ el) (fun q => nn_not (hl l hlx1).1 (by rw [q]; exact hg _ _ e25))
    have el5 := mu_up (ob := vo) el4 nva
    refine r_iter_list S6 el5 hlo ?_
    intro IS oI h7 nI hit S7 p
    obtain ⟨oI', e', c1, d1⟩ := hit
    have := S7.get (upd_self ..)
    rw [e'] at this; cases this
    exact fin h7 _ _ IS l S7 (MuLe.updN nI) nI (.inr ⟨0, oI, lo, _, upd_self .., c1, d1, mu_up el5 nI, hlo, by
      show IntsAre [Value.int (a : Int) t] ([a].map Int.ofNat)
      exact .cons _ _ .nil, ne_of_mu el5 nI⟩) (.inl (by
      show offMu lx μ4 l = none
      unfold offMu
      rw [if_pos hlx1.symm])) p
end
end

/-! G8 -/
section
open PySem.W.X
section
variable {w : World} {A : Around} {E : Value → Shared → Prop} {s : Shared} {g : Heap} {L : Addr} {m : Str → Option Value} {μ : Mu} {mg mb : Str → Option Value} {Q : Value → Shared → Prop}
theorem GfA.not25 {μ' : Mu} {dir : Bool} {many : Nat} {ord : List Nat} {R : List (List Nat)} {x dx dg dn da dp : Addr} (k : ∀ b o, μ b = some o → (∀ ps, o ≠ tabObj ps) → (∀ v, o.data ≠ .cell v) → μ' b = some o) (X : GfA w μ dir many ord R x dx dg dn da dp) : GfA w μ' dir many ord R x dx dg dn da dp := by
  have dict : ∀ {kvs : List (Int × Value)} {o : Obj}, DO w kvs o → (∀ ps, o ≠ tabObj ps) ∧ ∀ v, o.data ≠ .cell v := fun h => by
    obtain ⟨es, ep, hx, hd, _⟩ := h
    refine ⟨fun ps e => ?_, fun v e => ?_⟩
    · rw [e] at hx
      have := hx.1
      cases this
    · rw [hd] at e; cases e
  obtain ⟨⟨n, hn, e, od, ed, hd⟩, ⟨kn, on, en, dn', q⟩, ⟨ka, oa, ea, da', hr⟩, r1, r2, r3, r4, r5, r6⟩ := X
  refine ⟨⟨n, hn, k _ _ e (fun ps z => ?_) (fun v z => ?_), od, k _ _ ed (fun ps z => ?_) (fun v z => ?_), hd⟩, ⟨kn, on, k _ _ en (dict dn').1 (dict dn').2, dn', q⟩, ⟨ka, oa, k _ _ ea (dict da').1 (dict da').2, da', fun i row hi => ?_⟩, r1, r2, r3, r4, r5, r6⟩
  · have := congrArg Obj.cls z; cases this
  · cases z
  · obtain ⟨es, ep, ns, hdd, _⟩ := hd
    rw [z] at hdd; cases hdd
  · obtain ⟨es, ep, ns, hdd, _⟩ := hd
    rw [z] at hdd; cases hdd
  · obtain ⟨r, kr, o, a, b, c, d⟩ := hr i row hi
    exact ⟨r, kr, o, a, k _ _ b (dict c).1 (dict c).2, c, d⟩
theorem cells_two {cm : Str → Option Value} {a b : Str} {ca cb : Addr} {cells : List (Addr × Obj)} (x : CellsAre cm [(a, ca), (b, cb)] cells) :
    ∃ oa ob, cells = [(ca, oa), (cb, ob)] ∧ oa.data = .cell (cm a) ∧ ob.data = .cell (cm b) := by
  cases x with | cons h1 x => cases x with | cons h2 x => cases x; exact ⟨_, _, rfl, h1, h2⟩
theorem Nn_low4 {a b c d : Addr} {oa ob oc : Obj} (ha : Nn μ a) (hb : Nn (upd μ a oa) b) (hc : Nn (upd (upd μ a oa) b ob) c) (hd : Nn (upd (upd (upd μ a oa) b ob) c oc) d) : Nn μ d :=
  (nn_or μ d).elim id fun ⟨o, e⟩ => (nn_not hd (mu_up (mu_up (mu_up e ha) hb) hc)).elim
/-- the four ways in which the law calls -/
inductive ArgForm (x : Value) : List Value → List (Str × Value) → Value → Value → Value → Prop
  | a (sv bv : Value) : ArgForm x [x, sv, bv] [] sv bv .none
  | b (sv bv nv : Value) : ArgForm x [x, sv, bv] [("sort_neighbors", nv)] sv bv nv
  | c (bv nv : Value) : ArgForm x [x] [("depth_limit", bv), ("sort_neighbors", nv)] .none bv nv
  | d : ArgForm x [x] [] .none .none .none
theorem callDfs {src bd : Option Nat} {srt : Bool} {sv bv nv : Value} {args : List Value} {kw : List (Str × Value)} {dir : Bool} {many : Nat} {ord : List Nat} {R : List (List Nat)} {x dx dg dn da dp : Addr} (G : Gd w mg mb g) (C29 : CodeHd g 29 25) (S : St g L m μ s.heap) (X : GfA w μ dir many ord R x dx dg dn da dp) (T : TabOk μ)
    (hroom : A.depth + 5 < recursionLimit) (hF : ArgForm (.ref x) args kw sv bv nv) (hsrc : srcV src sv) (hbd : srcV bd bv) (hnv : nv = if srt then .ref 825 else .none) (hs1 : ∀ a, src = some a → a < many) (hb1 : ∀ a, bd = some a → a ≤ 10)
    (h : ∀ h' tk' gens' μ' μg μr n ga, St g L m μ' h' → MuLe μ μ' → Nn μ ga → (∀ b o, μ b = some o → b ≠ 25 → Nn μg b) → GenAt w g μr (dueL (rowsF srt R) (bd.getD ord.length) (srcL src ord) [] []) n gens' ga μg μ' → (AllBare s.gens → AllBare gens') → Q (.ref ga) { s with heap := h', toks := tk', gens := gens' }) :
    wpAny (model PR w) A (call (.ref 30) args kw) Q E s := by
  refine' r_callGen (binds := [("G", .ref x), ("source", sv), ("depth_limit", bv), ("sort_neighbors", nv)]) G S ?ho ?hcd ?hroom ?hb ?hk ?_ ?h1 ?h2 ?h3 ?h4
  case ho => k_is
  case hcd => k_is
  case hroom => omega
  case hb =>
    cases hF with
    | a => exact kp_binds (G.keeps S) (fun _ => rfl)
    | b => exact kp_binds (G.keeps S) (fun _ => rfl)
    | c => exact kp_binds (G.keeps S) (fun _ => rfl)
    | d => exact kp_binds (G.keeps S) (fun _ => rfl)
  case hk =>
    intro n y hy
    simp at hy
    rcases hy with rfl | rfl | rfl | rfl
    · exact .inr ⟨rfl, rfl⟩
    · exact .inl rfl
    · exact .inl rfl
    · exact .inr ⟨rfl, rfl⟩
  case h1 => exact rfl
  case h2 => exact rfl
  case h3 => exact rfl
  case h4 => decide
  intro oF Lg cells h' tk' ga og nF nLg ab nC hC nga hgo S1
  have hC' : CellsAre _ [(Str.ofString "sort_neighbors", cN Lg), (Str.ofString "G", cG Lg)] cells := hC
  obtain ⟨oN, oG, rfl, dN, dG⟩ := cells_two hC'
  have dN' : oN.data = .cell (some nv) := dN
  have dG' : oG.data = .cell (some (.ref x)) := dG
  obtain ⟨n1, n2, _⟩ := nC
  obtain ⟨o25, e25⟩ : ∃ o, μ 25 = some o := by obtain ⟨ps, e, _⟩ := T; exact ⟨_, e⟩
  obtain ⟨ps, hps⟩ : ∃ ps, μ 25 = some (tabObj ps) := by obtain ⟨ps, e, _⟩ := T; exact ⟨_, e⟩
  have k1 : MuLe μ (upd (upd (upd (upd μ Lg oF) (cN Lg) oN) (cG Lg) oG) ga og) := fun b o e => mu_up (mu_up (mu_up (mu_up e nLg) n1) n2) nga
  have d1 : ∀ b o, μ b = some o → b ≠ Lg ∧ b ≠ cN Lg ∧ b ≠ cG Lg := fun b o e => ⟨ne_of_mu e nLg, ne_of_mu (mu_up e nLg) n1, ne_of_mu (mu_up (mu_up e nLg) n1) n2⟩
  have eF1 : upd (upd (upd (upd μ Lg oF) (cN Lg) oN) (cG Lg) oG) ga og Lg = some oF := mu_up (mu_up (mu_up (upd_self ..) n1) n2) nga
  have eN1 : upd (upd (upd (upd μ Lg oF) (cN Lg) oN) (cG Lg) oG) ga og (cN Lg) = some oN := mu_up (mu_up (upd_self ..) n2) nga
  have eG1 : upd (upd (upd (upd μ Lg oF) (cN Lg) oN) (cG Lg) oG) ga og (cG Lg) = some oG := mu_up (upd_self ..) nga
  have hgN : cG Lg ≠ cN Lg := Nat.ne_of_lt (Nat.lt_succ_self _)
  have hgL : cG Lg ≠ Lg := Nat.ne_of_gt (Nat.lt_succ_self _)
  have hnL : cN Lg ≠ Lg := Nat.ne_of_gt (Nat.lt_succ_of_lt (Nat.lt_succ_self _))
  obtain ⟨a1, a2, a3⟩ := d1 25 o25 e25
  obtain ⟨μg, hμg⟩ : ∃ μg : Mu, μg = fun b => if b = Lg then some oF else if b = cG Lg then some oG else if b = cN Lg then some oN else if b = 25 then some o25 else none := ⟨_, rfl⟩
  have gF : μg Lg = some oF := by rw [hμg]; exact if_pos rfl
  have gG : μg (cG Lg) = some oG := by rw [hμg]; show (if cG Lg = Lg then _ else _) = _; rw [if_neg hgL, if_pos rfl]
  have gN : μg (cN Lg) = some oN := by rw [hμg]; show (if cN Lg = Lg then _ else _) = _; rw [if_neg hnL, if_neg (Ne.symm hgN), if_pos rfl]
  have g25 : μg 25 = some o25 := by rw [hμg]; show (if 25 = Lg then _ else _) = _; rw [if_neg a1, if_neg a3, if_neg a2, if_pos rfl]
  have gno : ∀ b, b ≠ Lg → b ≠ cG Lg → b ≠ cN Lg → b ≠ 25 → Nn μg b := fun b b1 b2 b3 b4 => by
    show μg b = none
    rw [hμg]; show (if b = Lg then _ else _) = _; rw [if_neg b1, if_neg b2, if_neg b3, if_neg b4]
  have gle : MuLe μg (upd (upd (upd (upd μ Lg oF) (cN Lg) oN) (cG Lg) oG) ga og) := fun b o e => by
    by_cases b1 : b = Lg
    · rw [b1] at e ⊢; rw [gF] at e; rw [← e]; exact eF1
    by_cases b2 : b = cG Lg
    · rw [b2] at e ⊢; rw [gG] at e; rw [← e]; exact eG1
    by_cases b3 : b = cN Lg
    · rw [b3] at e ⊢; rw [gN] at e; rw [← e]; exact eN1
    by_cases b4 : b = 25
    · rw [b4] at e ⊢; rw [g25] at e; rw [← e]; exact k1 _ _ e25
    · exact (nn_not (gno b b1 b2 b3 b4) e).elim
  have dis : ∀ b o, μ b = some o → b ≠ 25 → Nn μg b := fun b o e b4 => let z := d1 b o e; gno b z.1 z.2.2 z.2.1 b4
  have T2 : TabR (μg 25) fun c o => c ≠ 25 ∧ del μ 25 c = some o := (TabR.imp (fun c o ⟨a, b⟩ => ⟨a, del_of a b⟩) T).at fun o e => by rw [e25] at e; rw [g25]; exact e
  refine h h' tk' _ _ μg (del μ 25) s.gens.size ga S1 k1 (Nn_low4 nLg n1 n2 nga) dis ⟨⟨og, upd_self .., hgo⟩, ?_, ⟨_, Array.getElem?_push_size, genFresh (mG := bindL (dEnv Lg).kindOf [("G", .ref x), ("source", sv), ("depth_limit", bv), ("sort_neighbors", nv)] fun _ => none) G C29 (X.not25 fun b o e hb _ => del_of (fun q => by rw [q, hps] at e; cases e; exact hb ps rfl) e) hsrc hbd hnv hs1 hb1 gF nF ab rfl rfl gG dG' gN dN' (TabR.imp (fun c o ⟨a, b⟩ => ⟨a, .inr b⟩) T2) T2 fun b o e => let z := del_some e; dis b o z.2 z.1⟩, gle, fun b o e => k1 _ _ (del_some e).2⟩ (fun hb => hb.push rfl)
  have hga : ∀ b o, upd (upd (upd μ Lg oF) (cN Lg) oN) (cG Lg) oG b = some o → ga ≠ b := fun b o e => Ne.symm (ne_of_mu e nga)
  exact gno ga (hga _ _ (mu_up (mu_up (upd_self ..) n1) n2)) (hga _ _ (upd_self ..)) (hga _ _ (mu_up (upd_self ..) n2)) (hga _ _ (mu_up (mu_up (mu_up e25 nLg) n1) n2))
end
end

/-! H1 -/
section
section
variable {w : World} {A : Around} {E : Value → Shared → Prop} {s : Shared} {g : Heap} {L fa : Addr} {cd : Value} {m : Str → Option Value} {μ : Mu} {mg mb : Str → Option Value}
def lawS : Stmt := nthS PR.main.body 30
def lEnv (L fa : Addr) (cd : Value) : Env := envOfC "law" (scopeS lawS) L fa cd
def tgtsS : Stmt → Expr
  | .Assign (targets := t :: _) .. => t
  | _ => .Constant .none 0 ⟨0, 0, 0, 0⟩
theorem lb0 {l : Addr} {vs : List Value} {ns : List Int} {oc : Obj} {v0 : Option Value} (G : Gd w mg mb g) (S : St g L m μ s.heap) (hh : A.handled = none) (hroom : A.depth + 100 < recursionLimit) (hl : g.IsList l vs.toArray) (hI : IntsAre vs ns) (hlen : ns.length ≤ 63)
    (ms : m "script" = some (.ref l)) (eC : μ (L + 1) = some oc) (dC : oc.data = .cell v0) :
    wpAny (model PR w) A (exec (nthS (bodyS lawS) 0) (lEnv L fa cd)) (fun f s' => f = .next ∧ ∃ dir many ord R x dx dg dn da dp nr onr nvs oc' h' tk' μ', s' = { s with heap := h', toks := tk' } ∧ St g L (fun y => if y = "near" then some (.ref nr) else m y) μ' h' ∧ (∀ b o, μ b = some o → b ≠ L + 1 → μ' b = some o) ∧
      GfA w μ' dir many ord R x dx dg dn da dp ∧ 0 < many ∧ (∀ i < many, i ∈ ord) ∧ μ' (L + 1) = some oc' ∧ oc'.data = .cell (some (.ref x)) ∧ μ' nr = some onr ∧ lstO nvs onr ∧ nvs.length = many) E s := by
  show wpAny _ _ (exec (Stmt.Assign [Expr.Tuple _ _ _] _ _) _) _ _ _
  repeat tb_start
  refine law_cell (k := 0) G S hl hI hlen (by decide) (by omega) ?_
  intro h1 tk1 μ1 t1 n1 S1 k1 hn1
  repeat tb_start
  refine mod_int' (by decide) ?_
  repeat tb_start
  have fin : ∀ h2 tk2 μ2 col' dir many ord x dx dg dn da dp nr onr t ot nvs, St g L m μ2 h2 → MuLe μ1 μ2 → GrA w μ2 col' dir many ord ord ord x dx dg dn da dp → (∀ i < many, i ∈ ord) → 0 < many → μ2 nr = some onr → lstO nvs onr → nvs.length = many → μ2 t = some ot → tupO [.ref x, .ref nr] ot →
      wpAny (model PR w) A (assign (tgtsS (nthS (bodyS lawS) 0)) (lEnv L fa cd) (.ref t)) (fun _ s' => Flow.next = Flow.next ∧ ∃ dir many ord R x dx dg dn da dp nr onr nvs oc' h' tk' μ', s' = { s with heap := h', toks := tk' } ∧ St g L (fun y => if y = "near" then some (.ref nr) else m y) μ' h' ∧ (∀ b o, μ b = some o → b ≠ L + 1 → μ' b = some o) ∧
      GfA w μ' dir many ord R x dx dg dn da dp ∧ 0 < many ∧ (∀ i < many, i ∈ ord) ∧ μ' (L + 1) = some oc' ∧ oc'.data = .cell (some (.ref x)) ∧ μ' nr = some onr ∧ lstO nvs onr ∧ nvs.length = many) E { s with heap := h2, toks := tk2 } := by
    intro h2 tk2 μ2 col' dir many ord x dx dg dn da dp nr onr t ot nvs S2 k2 X2 hord hm0 enr hnr hnl et hot
    obtain ⟨R, X⟩ := X2.gf hord
    have eC2 := k2 _ _ (k1 _ _ eC)
    show wpAny _ _ (assign (Expr.Tuple _ _ _) _ _) _ _ _
    refine r_unpack S2 et hot (by exact hh) rfl rfl (fun h3 S3 => ?_)
    refine assignInOrder_cons (x := .ref x) (xs := [.ref nr]) ?_
    repeat tb_start
    refine r_stCell (c := L + 1) S3 rfl eC2 dC ?_
    intro oc' h4 dC' S4
    refine assignInOrder_cons (x := .ref nr) (xs := []) ?_
    repeat tb_start
    rename_i h5 S5
    have nrC : nr ≠ L + 1 := fun q => by
      rw [q, eC2] at enr; cases enr
      obtain ⟨n, rfl⟩ := hnr; cases dC
    exact ⟨rfl, dir, many, ord, R, x, dx, dg, dn, da, dp, nr, onr, nvs, oc', _, _, _, rfl, S5, fun b o e hb => mu_ch (k2 _ _ (k1 _ _ e)) hb, X.not25 fun b o e _ hc => mu_ch e (fun q => by rw [q, eC2] at e; cases e; exact hc _ dC), hm0, hord, upd_self .., dC', mu_ch enr nrC, hnr, hnl⟩
  generalize (n1.fmod 2 == 1) = bb
  cases bb with
  | false =>
    refine lawDrawnG G S1 hh hl hI hlen (by omega) ?_
    intro h' tk' μ' col' many ord x dx dg dn da dp nr onr t ot nvs a1 a2 a3 a4 a5 a6 a7 a8 a9 a10
    exact fin h' tk' μ' col' false many ord x dx dg dn da dp nr onr t ot nvs a1 a2 a3 a4 a5 a6 a7 a8 a9 a10
  | true =>
    refine lawDrawnD G S1 hh hl hI hlen (by omega) ?_
    intro h' tk' μ' col' many ord x dx dg dn da dp nr onr t ot nvs a1 a2 a3 a4 a5 a6 a7 a8 a9 a10
    exact fin h' tk' μ' col' true many ord x dx dg dn da dp nr onr t ot nvs a1 a2 a3 a4 a5 a6 a7 a8 a9 a10
theorem lb1 {nr : Addr} {onr : Obj} {nvs : List Value} {many : Nat} (G : Gd w mg mb g) (S : St g L m μ s.heap) (ms : m "near" = some (.ref nr)) (en : μ nr = some onr) (hn : lstO nvs onr) (hl : nvs.length = many) (h6 : many ≤ 6) :
    wpAny (model PR w) A (exec (nthS (bodyS lawS) 1) (lEnv L fa cd)) (fun f s' => f = .next ∧ ∃ t h' tk', s' = { s with heap := h', toks := tk' } ∧ St g L (fun y => if y = "many" then some (.int (many : Int) t) else m y) μ h') E s := by
  show wpAny _ _ (exec (Stmt.Assign [Expr.Name _ _] _ _) _) _ _ _
  repeat tb_start
  refine call_len_list (hn.isList (S.get en)) (by rw [List.size_toArray]; omega) ?_
  repeat tb_start
  rename_i h1 S1
  rw [List.size_toArray, hl] at S1
  exact ⟨rfl, _, _, _, rfl, S1⟩
theorem lb2 {l : Addr} {vs : List Value} {ns : List Int} {many : Nat} {tm : Tok} (G : Gd w mg mb g) (S : St g L m μ s.heap) (hh : A.handled = none) (hroom : A.depth + 100 < recursionLimit) (hl : g.IsList l vs.toArray) (hI : IntsAre vs ns) (hlen : ns.length ≤ 63)
    (ms : m "script" = some (.ref l)) (mm : m "many" = some (.int (many : Int) tm)) (hm0 : 0 < many) :
    wpAny (model PR w) A (exec (nthS (bodyS lawS) 2) (lEnv L fa cd)) (fun f s' => f = .next ∧ ∃ (so mo : Nat) (t1 t2 : Tok) (h' : Heap) (tk' : Nat) (μ' : Mu), s' = { s with heap := h', toks := tk' } ∧ St g L (fun y => if y = "source" then some (.int (so : Int) t1) else if y = "most" then some (.int (mo : Int) t2) else m y) μ' h' ∧ MuLe μ μ' ∧ so < many ∧ 1 ≤ mo ∧ mo ≤ 4) E s := by
  show wpAny _ _ (exec (Stmt.Assign [Expr.Tuple _ _ _] _ _) _) _ _ _
  refine Assign_Tuple_swapped ?_
  repeat tb_start
  refine law_cell (k := 9) G S hl hI hlen (by decide) (by omega) ?_
  intro h1 tk1 μ1 t1 n1 S1 k1 hn1
  repeat tb_start
  refine mod_int' (by omega) ?_
  repeat tb_start
  refine law_cell (k := 10) G S1 hl hI hlen (by decide) (by omega) ?_
  intro h2 tk2 μ2 t2 n2 S2 k2 hn2
  repeat tb_start
  refine mod_int' (by decide) ?_
  repeat tb_start
  rename_i t ot h3 nt hot S3
  refine r_unpackItems S3 (upd_self ..) hot (by exact hh) rfl (fun h4 S4 => ?_)
  obtain ⟨so, hso, hsm⟩ : ∃ f : Nat, n1.fmod (many : Int) = (f : Int) ∧ f < many := by
    have q : n1.fmod (many : Int) = n1 % (many : Int) := Int.fmod_eq_emod_of_nonneg _ (by omega)
    have q1 := Int.emod_nonneg n1 (b := (many : Int)) (by omega)
    have q2 := Int.emod_lt_of_pos n1 (b := (many : Int)) (by omega)
    rw [q]
    exact ⟨(n1 % (many : Int)).toNat, by omega, by omega⟩
  obtain ⟨mo, hmo, hm1, hm4⟩ : ∃ M : Nat, (1 + n2.fmod 4 : Int) = (M : Int) ∧ 1 ≤ M ∧ M ≤ 4 := by
    have q : n2.fmod 4 = n2 % 4 := Int.fmod_eq_emod_of_nonneg _ (by decide)
    rw [q]
    exact ⟨(1 + n2 % 4).toNat, by omega, by omega, by omega⟩
  refine assignInOrder_cons (x := .int (1 + n2.fmod 4) _) (xs := [.int (n1.fmod (many : Int)) _]) ?_
  repeat tb_start
  refine assignInOrder_cons (x := .int (n1.fmod (many : Int)) _) (xs := []) ?_
  repeat tb_start
  rename_i h5 S5 h6 S6
  rw [hso, hmo] at S6
  exact ⟨rfl, so, mo, _, _, _, _, _, rfl, S6, (k1.trans k2).trans (MuLe.updN nt), hsm, hm1, hm4⟩
end
end

/-! H2 -/
section
section
variable {w : World} {A : Around} {E : Value → Shared → Prop} {s : Shared} {g : Heap} {L fa : Addr} {cd : Value} {m : Str → Option Value} {μ : Mu} {mg mb : Str → Option Value}
theorem r_methNb {Q : Value × List Value → Shared → Prop} {pl : Sem Bool} {dir : Bool} {many : Nat} {ord : List Nat} {R : List (List Nat)} {x dx dg dn da dp : Addr} (G : Gd w mg mb g) (S : St g L m μ s.heap) (X : GfA w μ dir many ord R x dx dg dn da dp) (h : Q (.ref (nbF dir), [.ref x]) s) :
    wpAny (model PR w) A (getMethod (.ref x) "neighbors" pl) Q E s := by
  obtain ⟨nI2, hnI2, I2⟩ := X.inst
  cases dir with
  | false =>
    refine' r_methFn (f := 543) G S I2 ?a ?b ?c ?d h
    case a => rfl
    case b => k_is
    case c => k_is
    case d => k_is
  | true =>
    refine' r_methFn (f := 715) G S I2 ?a ?b ?c ?d h
    case a => rfl
    case b => k_is
    case c => k_is
    case d => k_is
theorem r_nb {Q : Value → Shared → Prop} {dir : Bool} {many : Nat} {ord : List Nat} {R : List (List Nat)} {x dx dg dn da dp : Addr} {u : Nat} {row : List Nat} {tu : Tok} (G : Gd w mg mb g) (S : St g L m μ s.heap) (X : GfA w μ dir many ord R x dx dg dn da dp)
    (hu : R[u]? = some row) (hroom : A.depth + 5 < recursionLimit)
    (h : ∀ h' tk' μ' I, St g L m μ' h' → MuLe μ μ' → Nn μ I → ItD w μ' I row → Q (.ref I) { s with heap := h', toks := tk' }) :
    wpAny (model PR w) A (call (.ref (nbF dir)) [.ref x, .int (u : Int) tu] []) Q E s := by
  cases dir with
  | false => exact neighborsG G S X (MuLe.refl _) hu hroom fun h' tk' μ' I a b d e _ => h h' tk' μ' I a b d e
  | true => exact neighborsD G S X (MuLe.refl _) hu hroom fun h' tk' μ' I a b d e _ => h h' tk' μ' I a b d e
def RowsSo (μ : Mu) (ys : List Value) (R : List (List Nat)) (i : Nat) : Prop := ys.length = i ∧ ∀ (j : Nat) (row : List Nat), j < i → R[j]? = some row → ∃ (r : Addr) (orr : Obj) (ivs : List Value), ys[j]? = some (Value.ref r) ∧ μ r = some orr ∧ lstO ivs orr ∧ NatsAre ivs row
theorem RowsSo.mono {μ μ' : Mu} {ys : List Value} {R : List (List Nat)} {i : Nat} (k : MuLe μ μ') (h : RowsSo μ ys R i) : RowsSo μ' ys R i := ⟨h.1, fun j row hj e => let ⟨r, orr, ivs, a, b, c⟩ := h.2 j row hj e; ⟨r, orr, ivs, a, k _ _ b, c⟩⟩
theorem RowsSo.snoc {μ : Mu} {ys : List Value} {R : List (List Nat)} {i : Nat} (h : RowsSo μ ys R i) {r : Addr} {orr : Obj} {ivs : List Value} {row : List Nat} (e : R[i]? = some row) (er : μ r = some orr) (hl : lstO ivs orr) (hn : NatsAre ivs row) : RowsSo μ (ys ++ [.ref r]) R (i + 1) := by
  refine ⟨by rw [List.length_append, h.1]; rfl, fun j row' hj e' => ?_⟩
  by_cases q : j < i
  · obtain ⟨r', o', i', a, b, c⟩ := h.2 j row' q e'
    exact ⟨r', o', i', by rw [List.getElem?_append_left (by rw [h.1]; exact q)]; exact a, b, c⟩
  · have : j = i := by omega
    subst this
    rw [e] at e'; cases e'
    exact ⟨r, orr, ivs, by rw [List.getElem?_append_right (by rw [h.1]; omega), h.1, Nat.sub_self]; rfl, er, hl, hn⟩
theorem RowsSo.rows {μ : Mu} {ys : List Value} {R : List (List Nat)} {a : Addr} {o : Obj} (h : RowsSo μ ys R R.length) (e : μ a = some o) (hl : lstO ys o) : RowsAt μ a R :=
  ⟨o, ys, e, hl, h.1, fun i row hi => h.2 i row (by rw [List.getElem?_eq_some_iff] at hi; exact hi.1) hi⟩
theorem lb3 {dir : Bool} {many : Nat} {ord : List Nat} {R : List (List Nat)} {x dx dg dn da dp : Addr} {oc : Obj} {tm : Tok} (G : Gd w mg mb g) (S : St g L m μ s.heap) (hh : A.handled = none) (hroom : A.depth + 100 < recursionLimit)
    (X : GfA w μ dir many ord R x dx dg dn da dp) (eC : μ (L + 1) = some oc) (dC : oc.data = .cell (some (.ref x))) (mm : m "many" = some (.int (many : Int) tm)) :
    wpAny (model PR w) A (exec (nthS (bodyS lawS) 3) (lEnv L fa cd)) (fun f s' => f = .next ∧ ∃ ra h' tk' μ', s' = { s with heap := h', toks := tk' } ∧ St g L (fun y => if y = "rows" then some (.ref ra) else m y) μ' h' ∧ MuLe μ μ' ∧ RowsAt μ' ra R) E s := by
  have h6 := X.m6
  show wpAny _ _ (exec (Stmt.Assign [Expr.Name _ _] (Expr.ListComp _ _ _ _) _) _) _ _ _
  refine' r_LCa ?cmp ?sw ?clo
  case sw => exact rfl
  case clo => exact rfl
  repeat tb_start
  refine r_range1 (n := many) (by assumption) ?_
  intro rg org h1 tk1 hrg horg S1
  (try dsimp only)
  refine r_iter_range S1 (upd_self ..) horg (by omega) ?_
  intro I1 h2 hI1 S2
  (try dsimp only)
  refine r_blockRange (by exact hh) (by omega) S2 hI1 (fun i ys μ' => MuLe (upd μ rg org) μ' ∧ RowsSo μ' ys R i) ⟨MuLe.refl _, rfl, fun j row hj => absurd hj (Nat.not_lt_zero _)⟩ ?_ ?_
  · rintro i t ys μ' oI oLL oD C D m₂ h tk E'' hi ⟨hle, hrow⟩ hyl nL n1 n2 n3 hlo S3
    have k3 : MuLe μ' (upd (upd (upd μ' L oLL) I1 oI) D oD) := (MuLe.updN n1).trans ((MuLe.updN n2).trans (MuLe.updN n3))
    have k03 : MuLe μ (upd (upd (upd μ' L oLL) I1 oI) D oD) := ((MuLe.updN hrg).trans hle).trans k3
    have X3 := X.mono k03
    have eC3 := k03 _ _ eC
    refine wpAny_tests_nil ?_
    repeat tb_start
    refine r_methNb G S3 X3 ?_
    repeat tb_start
    refine callWith_K G.K (by cases dir <;> k_is) ?_
    repeat tb_start
    refine r_nb G S3 X3 (X.row hi) (by omega) ?_
    intro h4 tk4 μ4 I S4 k4 nI It
    repeat tb_start
    have hrl : (rowF R i).length ≤ 6 := X.rlen _ (List.mem_of_getElem? (X.row hi))
    refine list_keyiter (by exact hh) S4 It (by omega) ?_
    intro h5 tk5 μ5 Sx oS ivs S5 k5 nS eS hlS hnS
    have k35 : MuLe (upd (upd (upd μ' L oLL) I1 oI) D oD) μ5 := fun b o e => k5 b o (k4 _ _ e) (ne_of_mu e nI)
    have eD := k35 D oD (upd_self ..)
    have eI1 := k35 I1 oI (mu_up (upd_self ..) n3)
    have eL := k35 L oLL (mu_up (mu_up (upd_self ..) n2) n3)
    have kk : MuLe μ' (del (del (del μ5 D) I1) L) := MuLe.delN n1 (MuLe.delN n2 (MuLe.delN n3 k35))
    have nS3 : Nn (upd (upd (upd μ' L oLL) I1 oI) D oD) Sx := k4.nn nS
    have hSD : Sx ≠ D := fun q => by rw [q] at nS3; exact nn_not nS3 (upd_self ..)
    have hSI : Sx ≠ I1 := fun q => by rw [q] at nS3; exact nn_not nS3 (mu_up (upd_self ..) n3)
    have hSL : Sx ≠ L := fun q => by rw [q] at nS3; exact nn_not nS3 (mu_up (mu_up (upd_self ..) n2) n3)
    refine ⟨_, _, _, _, rfl, S5, eL, eI1, eD, trivial, hle.trans kk, (hrow.mono kk).snoc (X.row hi) (del_of hSL (del_of hSI (del_of hSD eS))) hlS hnS⟩
  · intro ys μ' C D oC oD mC h tk ⟨hle, hrow⟩ hlo nC hD hC S3
    refine post_loc S3 hC nC (fun h' tk' S4 => ?_)
    exact ⟨rfl, D, _, _, _, rfl, S4, (MuLe.updN hrg).trans (hle.trans (MuLe.updN hD)), RowsSo.rows (by rw [X.len]; exact hrow.mono (MuLe.updN hD)) (upd_self ..) hlo⟩
theorem lb4 {ra : Addr} {R : List (List Nat)} (G : Gd w mg mb g) (S : St g L m μ s.heap) (hh : A.handled = none) (hroom : A.depth + 100 < recursionLimit)
    (hR : RowsAt μ ra R) (hlen : R.length ≤ 6) (hrl : ∀ row ∈ R, row.length ≤ 6) (mr : m "rows" = some (.ref ra)) :
    wpAny (model PR w) A (exec (nthS (bodyS lawS) 4) (lEnv L fa cd)) (fun f s' => f = .next ∧ ∃ da h' tk' μ', s' = { s with heap := h', toks := tk' } ∧ St g L (fun y => if y = "down" then some (.ref da) else m y) μ' h' ∧ MuLe μ μ' ∧ RowsAt μ' da (R.map downL)) E s := by
  obtain ⟨oR, vR, eR, lR, nR, gR⟩ := hR
  show wpAny _ _ (exec (Stmt.Assign [Expr.Name _ _] (Expr.ListComp _ _ _ _) _) _) _ _ _
  refine' r_LCa ?cmp ?sw ?clo
  case sw => exact rfl
  case clo => exact rfl
  repeat tb_start
  refine r_iter_list S eR lR ?_
  intro I1 oI0 h2 hI1 hit S2
  (try dsimp only)
  refine r_blockList (by exact hh) (by omega) S2 hI1 hit eR lR (fun i ys μ' => MuLe μ μ' ∧ RowsSo μ' ys (R.map downL) i) ⟨MuLe.refl _, rfl, fun j row hj => absurd hj (Nat.not_lt_zero _)⟩ ?_ ?_
  · rintro i v ys μ' oI oLL oD C D m₂ h tk E'' hi ⟨hle, hrow⟩ hyl nL n1 n2 n3 hlo eR' S3
    have k3 : MuLe μ' (upd (upd (upd μ' L oLL) I1 oI) D oD) := (MuLe.updN n1).trans ((MuLe.updN n2).trans (MuLe.updN n3))
    have hiR : i < R.length := by rw [List.getElem?_eq_some_iff] at hi; have := hi.1; omega
    have hrow_i : R[i]? = some R[i] := List.getElem?_eq_getElem hiR
    obtain ⟨r, orr, ivs, e1, e2, e3, e4⟩ := gR i _ hrow_i
    rw [hi] at e1
    obtain rfl : v = .ref r := Option.some.inj e1
    have hl6 := hrl _ (List.getElem_mem hiR)
    refine wpAny_tests_nil ?_
    repeat tb_start
    refine lawDownL G S3 (k3 _ _ (hle _ _ e2)) e3 e4 (by rw [e4.len]; omega) (by omega) ?_
    intro h5 tk5 μ5 Sx oS vs' row' S5 k35 nS3 eS hlS hnS hp hs
    have hd := downL_eq hp hs
    have eD := k35 D oD (upd_self ..)
    have eI1 := k35 I1 oI (mu_up (upd_self ..) n3)
    have eL := k35 L oLL (mu_up (mu_up (upd_self ..) n2) n3)
    have kk : MuLe μ' (del (del (del μ5 D) I1) L) := MuLe.delN n1 (MuLe.delN n2 (MuLe.delN n3 k35))
    have hSD : Sx ≠ D := fun q => by rw [q] at nS3; exact nn_not nS3 (upd_self ..)
    have hSI : Sx ≠ I1 := fun q => by rw [q] at nS3; exact nn_not nS3 (mu_up (upd_self ..) n3)
    have hSL : Sx ≠ L := fun q => by rw [q] at nS3; exact nn_not nS3 (mu_up (mu_up (upd_self ..) n2) n3)
    repeat tb_start
    refine ⟨_, _, _, _, rfl, S5, eL, eI1, eD, kk _ _ eR', hle.trans kk, (hrow.mono kk).snoc (row := downL R[i]) (by rw [List.getElem?_map, hrow_i]; rfl) (del_of hSL (del_of hSI (del_of hSD eS))) hlS (by rw [← hd]; exact hnS)⟩
  · intro ys μ' C D oC oD mC h tk ⟨hle, hrow⟩ hlo nC hD hC S3
    refine post_loc S3 hC nC (fun h' tk' S4 => ?_)
    exact ⟨rfl, D, _, _, _, rfl, S4, hle.trans (MuLe.updN hD), RowsSo.rows (by rw [List.length_map, ← nR]; exact hrow.mono (MuLe.updN hD)) (upd_self ..) hlo⟩
end
end

/-! H3 -/
section
section
variable {w : World} {A : Around} {E : Value → Shared → Prop} {s : Shared} {g : Heap} {L fa : Addr} {cd : Value} {m : Str → Option Value} {μ : Mu} {mg mb : Str → Option Value}
theorem GfA.ordLen {dir : Bool} {many : Nat} {ord : List Nat} {R : List (List Nat)} {x dx dg dn da dp : Addr} (X : GfA w μ dir many ord R x dx dg dn da dp) (hord : ∀ i < many, i ∈ ord) : ord.length = many := by
  obtain ⟨kn, on, en, hd, hk⟩ := X.nd
  have hn := hd.nodup
  rw [hk] at hn
  have hn' : ord.Nodup := by
    have := List.pairwise_map.mp hn
    exact this.imp fun h q => h (by rw [q])
  have h1 := List.Nodup.length_le_of_subset hn' (l₂ := List.range many) (fun x hx => List.mem_range.mpr (X.olt x hx))
  have h2 := List.Nodup.length_le_of_subset (List.nodup_range (n := many)) (l₂ := ord) (fun x hx => hord x (List.mem_range.mp hx))
  simp at h1 h2
  omega
theorem rowsF_true (R : List (List Nat)) : rowsF true R = rowF (R.map downL) := by
  funext c
  show downL (R.getD c []) = (R.map downL).getD c []
  rw [List.getD_eq_getElem?_getD, List.getD_eq_getElem?_getD, List.getElem?_map]
  cases R[c]? with
  | none => show downL [] = []; exact List.mergeSort_nil
  | some r => rfl
theorem due_len {dir : Bool} {many : Nat} {ord : List Nat} {R : List (List Nat)} {x dx dg dn da dp : Addr} (X : GfA w μ dir many ord R x dx dg dn da dp) (srt : Bool) (D : Nat) (src : List Nat) (hs : ∀ a ∈ src, a < many) : (dueL (rowsF srt R) D src [] []).length ≤ 6 := by
  have h1 := due_nodup (rowsF srt R) D many 6 (fun c hc => rowsF_lt X hc) src hs
  have h2 := tells_lt (many := many) (fun c hc => (rowsF_lt X hc).2) (tells_due (rowsF srt R) D many 6 (fun c hc => rowsF_lt X hc) src hs) (fun _ h => nomatch h) hs
  have h3 := List.Nodup.length_le_of_subset h1 (l₂ := List.range many) (fun x hx => by
    obtain ⟨e, he, rfl⟩ := List.mem_map.mp hx
    exact List.mem_range.mpr (h2 e he))
  have := X.m6
  simp at h3
  omega
theorem RowsAt.not25 {μ' : Mu} {ra : Addr} {R : List (List Nat)} (k : ∀ b o, μ b = some o → (∀ ps, o ≠ tabObj ps) → μ' b = some o) (h : RowsAt μ ra R) : RowsAt μ' ra R := by
  have hl : ∀ {vs : List Value} {o : Obj}, lstO vs o → ∀ ps, o ≠ tabObj ps := fun h ps e => by
    obtain ⟨n, rfl⟩ := h
    have := congrArg Obj.cls e
    cases this
  obtain ⟨o, vs, e, l, n, r⟩ := h
  refine ⟨o, vs, k _ _ e (hl l), l, n, fun i row hi => ?_⟩
  obtain ⟨r', orr, ivs, a, b, c, d⟩ := r i row hi
  exact ⟨r', orr, ivs, a, k _ _ b (hl c), c, d⟩
/-- what the law holds between its checks -/
structure LI (w : World) (L : Addr) (dir : Bool) (many : Nat) (ord : List Nat) (R : List (List Nat)) (x dx dg dn da dp ra wa : Addr) (oc : Obj) (μ : Mu) : Prop where
  X : GfA w μ dir many ord R x dx dg dn da dp
  rows : RowsAt μ ra R
  down : RowsAt μ wa (R.map downL)
  cell : μ (L + 1) = some oc
  tab : TabOk μ
theorem LI.step {dir : Bool} {many : Nat} {ord : List Nat} {R : List (List Nat)} {x dx dg dn da dp ra wa : Addr} {oc : Obj} {μ' : Mu} {v : Option Value} (I : LI w L dir many ord R x dx dg dn da dp ra wa oc μ) (hc : oc.data = .cell v) (k : ∀ b o, μ b = some o → b ≠ 25 → μ' b = some o) (T : TabOk μ') : LI w L dir many ord R x dx dg dn da dp ra wa oc μ' := by
  obtain ⟨ps, hps⟩ : ∃ ps, μ 25 = some (tabObj ps) := by obtain ⟨ps, e, _⟩ := I.tab; exact ⟨_, e⟩
  have k' : ∀ b o, μ b = some o → (∀ ps, o ≠ tabObj ps) → μ' b = some o := fun b o e h => k b o e (fun q => by rw [q, hps] at e; cases e; exact h ps rfl)
  exact ⟨I.X.not25 fun b o e h _ => k' b o e h, I.rows.not25 k', I.down.not25 k', k' _ _ I.cell (fun ps q => by rw [q] at hc; cases hc), T⟩
def sLoop : Stmt := nthS (bodyS lawS) 5
/-- one check -/
def IfPost (g : Heap) (L : Addr) (m : Str → Option Value) (μ : Mu) (s : Shared) (f : Flow) (s' : Shared) : Prop :=
  f = .next ∧ ∃ h' tk' gn' μ', s' = { s with heap := h', toks := tk', gens := gn' } ∧ AllBare gn' ∧ St g L m μ' h' ∧ (∀ b o, μ b = some o → b ≠ 25 → μ' b = some o) ∧ TabOk μ'
theorem if1 {dir : Bool} {many : Nat} {ord : List Nat} {R : List (List Nat)} {x dx dg dn da dp ra wa : Addr} {oc : Obj} {bd : Option Nat} {bv : Value} {so D : Nat} {t1 tD : Tok} (G : Gd w mg mb g) (C29 : CodeHd g 29 25) (S : St g L m μ s.heap) (hh : A.handled = none) (hroom : A.depth + 100 < recursionLimit) (hu : A.units + 64 < cLine) (hb : AllBare s.gens)
    (I : LI w L dir many ord R x dx dg dn da dp ra wa oc μ) (hc : oc.data = .cell (some (.ref x))) (hord : ∀ i < many, i ∈ ord)
    (ms : m "source" = some (.int (so : Int) t1)) (hso : so < many) (mr : m "rows" = some (.ref ra)) (mw : m "down" = some (.ref wa)) (mbd : m "bound" = some bv) (hbd : srcV bd bv) (hb10 : ∀ a, bd = some a → a ≤ 10) (md : m "deep" = some (.int (D : Int) tD)) (hD : bd.getD many = D) (hD0 : 0 < D) (hD6 : D ≤ 10) :
    wpAny (model PR w) A (exec (nthS (bodyS sLoop) 0) (lEnv L fa cd)) (IfPost g L m μ s) E s := by
  have hol := I.X.ordLen hord
  have eC := I.cell
  have h6 := I.X.m6
  show wpAny _ _ (exec (Stmt.If _ _ _ _) _) _ _ _
  repeat tb_start
  refine callDfs (src := some so) (bd := bd) (srt := false) G C29 S I.X I.tab (by omega) (.a _ _) ⟨_, rfl⟩ hbd rfl (fun a q => by cases q; exact hso) hb10 ?_
  intro h2 tk2 gn2 μ2 μg μr n ga S2 k2 nga hown GA hb2
  repeat tb_start
  refine listGen G hh (by omega) S2 GA (Nat.le_trans (due_len I.X false _ _ (fun a ha => by rw [List.mem_singleton.mp ha]; exact hso)) (by decide)) ?_
  intro h3 tk3 gn3 μ3 Sx oS vs3 S3 k3 nS eS hlS P3 T3 hb3
  have k03 : ∀ b o, μ b = some o → b ≠ 25 → μ3 b = some o := fun b o e h => k3 b o (k2 _ _ e) (hown b o e h)
  have I3 := I.step hc k03 T3
  repeat tb_start
  rename_i qa qo h4 nq hq S4
  have I4k : MuLe μ3 (upd μ3 qa qo) := MuLe.updN nq
  refine lawDue G h6 R I.X.len I.X.rows hD0 hD6 S4 hh (by omega) (src := [so]) (fun y hy => by rw [List.mem_singleton.mp hy]; exact hso) (I3.rows.mono I4k) (upd_self ..) hq (.cons _ _ .nil) ?_
  intro h5 tk5 μ5 fa' fo fv S5 k5 nfa ef hlf P5
  repeat tb_start
  refine r_nePairs S5 (k5 _ _ (I4k _ _ eS)) hlS (P3.mono (I4k.trans k5)) ef hlf ?_ hu ?_
  · rw [hol, hD]; exact P5
  repeat tb_start
  exact ⟨rfl, _, _, _, _, rfl, hb3 (hb2 hb), S5, fun b o e h => k5 _ _ (I4k _ _ (k03 b o e h)), T3.mono (I4k.trans k5)⟩
end
end

/-! H4 -/
section
section
variable {w : World} {A : Around} {E : Value → Shared → Prop} {s : Shared} {g : Heap} {L fa : Addr} {cd : Value} {m : Str → Option Value} {μ : Mu} {mg mb : Str → Option Value}
theorem r_listGr {Q : Value → Shared → Prop} {dir : Bool} {many : Nat} {ord : List Nat} {R : List (List Nat)} {x dx dg dn da dp : Addr} (G : Gd w mg mb g) (S : St g L m μ s.heap) (hh : A.handled = none) (X : GfA w μ dir many ord R x dx dg dn da dp) (hroom : A.depth + 12 < recursionLimit)
    (h : ∀ h' tk' μ' Sx oS ivs, St g L m μ' h' → MuLe μ μ' → Nn μ Sx → μ' Sx = some oS → lstO ivs oS → NatsAre ivs ord → Q (.ref Sx) { s with heap := h', toks := tk' }) :
    wpAny (model PR w) A (call (.type "list") [.ref x] []) Q E s := by
  cases dir with
  | false => exact listG G S hh X hroom h
  | true => exact listD G S hh X hroom h
theorem if2 {dir : Bool} {many : Nat} {ord : List Nat} {R : List (List Nat)} {x dx dg dn da dp ra wa : Addr} {oc : Obj} {bd : Option Nat} {bv : Value} {so D : Nat} {t1 tD : Tok} (G : Gd w mg mb g) (C29 : CodeHd g 29 25) (S : St g L m μ s.heap) (hh : A.handled = none) (hroom : A.depth + 100 < recursionLimit) (hu : A.units + 64 < cLine) (hb : AllBare s.gens)
    (I : LI w L dir many ord R x dx dg dn da dp ra wa oc μ) (hc : oc.data = .cell (some (.ref x))) (hord : ∀ i < many, i ∈ ord)
    (ms : m "source" = some (.int (so : Int) t1)) (hso : so < many) (mr : m "rows" = some (.ref ra)) (mw : m "down" = some (.ref wa)) (mbd : m "bound" = some bv) (hbd : srcV bd bv) (hb10 : ∀ a, bd = some a → a ≤ 10) (md : m "deep" = some (.int (D : Int) tD)) (hD : bd.getD many = D) (hD0 : 0 < D) (hD6 : D ≤ 10) :
    wpAny (model PR w) A (exec (nthS (bodyS sLoop) 1) (lEnv L fa cd)) (IfPost g L m μ s) E s := by
  have hol := I.X.ordLen hord
  have eC := I.cell
  have h6 := I.X.m6
  show wpAny _ _ (exec (Stmt.If _ _ _ _) _) _ _ _
  repeat tb_start
  refine callDfs (src := none) (bd := bd) (srt := false) G C29 S I.X I.tab (by omega) (.a _ _) rfl hbd rfl (fun a q => by cases q) hb10 ?_
  intro h2 tk2 gn2 μ2 μg μr n ga S2 k2 nga hown GA hb2
  repeat tb_start
  refine listGen G hh (by omega) S2 GA (Nat.le_trans (due_len I.X false _ _ I.X.olt) (by decide)) ?_
  intro h3 tk3 gn3 μ3 Sx oS vs3 S3 k3 nS eS hlS P3 T3 hb3
  have k03 : ∀ b o, μ b = some o → b ≠ 25 → μ3 b = some o := fun b o e h => k3 b o (k2 _ _ e) (hown b o e h)
  have I3 := I.step hc k03 T3
  have eC3 := I3.cell
  repeat tb_start
  refine r_listGr G S3 hh I3.X (by omega) ?_
  intro h4 tk4 μ4 qa qo qv S4 I4k nq eq hq hqn
  repeat tb_start
  refine lawDue G h6 R I.X.len I.X.rows hD0 hD6 S4 hh (by omega) (src := ord) I.X.olt (I3.rows.mono I4k) eq hq hqn ?_
  intro h5 tk5 μ5 fa' fo fv S5 k5 nfa ef hlf P5
  repeat tb_start
  refine r_nePairs S5 (k5 _ _ (I4k _ _ eS)) hlS (P3.mono (I4k.trans k5)) ef hlf ?_ hu ?_
  · rw [hol, hD]; exact P5
  repeat tb_start
  exact ⟨rfl, _, _, _, _, rfl, hb3 (hb2 hb), S5, fun b o e h => k5 _ _ (I4k _ _ (k03 b o e h)), T3.mono (I4k.trans k5)⟩
theorem if3 {dir : Bool} {many : Nat} {ord : List Nat} {R : List (List Nat)} {x dx dg dn da dp ra wa : Addr} {oc : Obj} {bd : Option Nat} {bv : Value} {so D : Nat} {t1 tD : Tok} (G : Gd w mg mb g) (C29 : CodeHd g 29 25) (S : St g L m μ s.heap) (hh : A.handled = none) (hroom : A.depth + 100 < recursionLimit) (hu : A.units + 64 < cLine) (hb : AllBare s.gens)
    (I : LI w L dir many ord R x dx dg dn da dp ra wa oc μ) (hc : oc.data = .cell (some (.ref x))) (hord : ∀ i < many, i ∈ ord)
    (ms : m "source" = some (.int (so : Int) t1)) (hso : so < many) (mr : m "rows" = some (.ref ra)) (mw : m "down" = some (.ref wa)) (mbd : m "bound" = some bv) (hbd : srcV bd bv) (hb10 : ∀ a, bd = some a → a ≤ 10) (md : m "deep" = some (.int (D : Int) tD)) (hD : bd.getD many = D) (hD0 : 0 < D) (hD6 : D ≤ 10) :
    wpAny (model PR w) A (exec (nthS (bodyS sLoop) 2) (lEnv L fa cd)) (IfPost g L m μ s) E s := by
  have hol := I.X.ordLen hord
  have eC := I.cell
  have h6 := I.X.m6
  show wpAny _ _ (exec (Stmt.If _ _ _ _) _) _ _ _
  repeat tb_start
  refine r_CallKw ?_
  repeat tb_start
  refine' callWith_KW (K := hd.heap_39 w.params) G.K ?kk ?ka ?_
  case kk => k_is
  case ka => exact rfl
  repeat tb_start
  refine kws_cons ?_
  repeat tb_start
  refine kws_nil ?_
  repeat tb_start
  refine callDfs (src := some so) (bd := bd) (srt := true) G C29 S I.X I.tab (by omega) (.b _ _ _) ⟨_, rfl⟩ hbd rfl (fun a q => by cases q; exact hso) hb10 ?_
  intro h2 tk2 gn2 μ2 μg μr n ga S2 k2 nga hown GA hb2
  repeat tb_start
  refine listGen G hh (by omega) S2 GA (Nat.le_trans (due_len I.X true _ _ (fun a ha => by rw [List.mem_singleton.mp ha]; exact hso)) (by decide)) ?_
  intro h3 tk3 gn3 μ3 Sx oS vs3 S3 k3 nS eS hlS P3 T3 hb3
  have k03 : ∀ b o, μ b = some o → b ≠ 25 → μ3 b = some o := fun b o e h => k3 b o (k2 _ _ e) (hown b o e h)
  have I3 := I.step hc k03 T3
  have eC3 := I3.cell
  repeat tb_start
  rename_i qa qo h4 nq hq S4
  have I4k : MuLe μ3 (upd μ3 qa qo) := MuLe.updN nq
  refine lawDue G h6 (R.map downL) (by rw [List.length_map]; exact I.X.len) (fun row hr y hy => by obtain ⟨r, hr', rfl⟩ := List.mem_map.mp hr; exact I.X.rows r hr' y ((downL_perm _).mem_iff.mp hy)) hD0 hD6 S4 hh (by omega) (src := [so]) (fun y hy => by rw [List.mem_singleton.mp hy]; exact hso) (I3.down.mono I4k) (upd_self ..) hq (.cons _ _ .nil) ?_
  intro h5 tk5 μ5 fa' fo fv S5 k5 nfa ef hlf P5
  repeat tb_start
  refine r_nePairs S5 (k5 _ _ (I4k _ _ eS)) hlS (P3.mono (I4k.trans k5)) ef hlf ?_ hu ?_
  · rw [hol, hD, rowsF_true]; exact P5
  repeat tb_start
  exact ⟨rfl, _, _, _, _, rfl, hb3 (hb2 hb), S5, fun b o e h => k5 _ _ (I4k _ _ (k03 b o e h)), T3.mono (I4k.trans k5)⟩
theorem if4 {dir : Bool} {many : Nat} {ord : List Nat} {R : List (List Nat)} {x dx dg dn da dp ra wa : Addr} {oc : Obj} {bd : Option Nat} {bv : Value} {so D : Nat} {t1 tD : Tok} (G : Gd w mg mb g) (C29 : CodeHd g 29 25) (S : St g L m μ s.heap) (hh : A.handled = none) (hroom : A.depth + 100 < recursionLimit) (hu : A.units + 64 < cLine) (hb : AllBare s.gens)
    (I : LI w L dir many ord R x dx dg dn da dp ra wa oc μ) (hc : oc.data = .cell (some (.ref x))) (hord : ∀ i < many, i ∈ ord)
    (ms : m "source" = some (.int (so : Int) t1)) (hso : so < many) (mr : m "rows" = some (.ref ra)) (mw : m "down" = some (.ref wa)) (mbd : m "bound" = some bv) (hbd : srcV bd bv) (hb10 : ∀ a, bd = some a → a ≤ 10) (md : m "deep" = some (.int (D : Int) tD)) (hD : bd.getD many = D) (hD0 : 0 < D) (hD6 : D ≤ 10) :
    wpAny (model PR w) A (exec (nthS (bodyS sLoop) 3) (lEnv L fa cd)) (IfPost g L m μ s) E s := by
  have hol := I.X.ordLen hord
  have eC := I.cell
  have h6 := I.X.m6
  show wpAny _ _ (exec (Stmt.If _ _ _ _) _) _ _ _
  repeat tb_start
  refine r_CallKw ?_
  repeat tb_start
  refine' callWith_KW (K := hd.heap_39 w.params) G.K ?kk ?ka ?_
  case kk => k_is
  case ka => exact rfl
  repeat tb_start
  refine kws_cons ?_
  repeat tb_start
  refine kws_cons ?_
  repeat tb_start
  refine kws_nil ?_
  repeat tb_start
  refine callDfs (src := none) (bd := bd) (srt := true) G C29 S I.X I.tab (by omega) (.c _ _) rfl hbd rfl (fun a q => by cases q) hb10 ?_
  intro h2 tk2 gn2 μ2 μg μr n ga S2 k2 nga hown GA hb2
  repeat tb_start
  refine listGen G hh (by omega) S2 GA (Nat.le_trans (due_len I.X true _ _ I.X.olt) (by decide)) ?_
  intro h3 tk3 gn3 μ3 Sx oS vs3 S3 k3 nS eS hlS P3 T3 hb3
  have k03 : ∀ b o, μ b = some o → b ≠ 25 → μ3 b = some o := fun b o e h => k3 b o (k2 _ _ e) (hown b o e h)
  have I3 := I.step hc k03 T3
  have eC3 := I3.cell
  repeat tb_start
  refine r_listGr G S3 hh I3.X (by omega) ?_
  intro h4 tk4 μ4 qa qo qv S4 I4k nq eq hq hqn
  repeat tb_start
  refine lawDue G h6 (R.map downL) (by rw [List.length_map]; exact I.X.len) (fun row hr y hy => by obtain ⟨r, hr', rfl⟩ := List.mem_map.mp hr; exact I.X.rows r hr' y ((downL_perm _).mem_iff.mp hy)) hD0 hD6 S4 hh (by omega) (src := ord) I.X.olt (I3.down.mono I4k) eq hq hqn ?_
  intro h5 tk5 μ5 fa' fo fv S5 k5 nfa ef hlf P5
  repeat tb_start
  refine r_nePairs S5 (k5 _ _ (I4k _ _ eS)) hlS (P3.mono (I4k.trans k5)) ef hlf ?_ hu ?_
  · rw [hol, hD, rowsF_true]; exact P5
  repeat tb_start
  exact ⟨rfl, _, _, _, _, rfl, hb3 (hb2 hb), S5, fun b o e h => k5 _ _ (I4k _ _ (k03 b o e h)), T3.mono (I4k.trans k5)⟩
end
end

/-! H5 -/
section
section
variable {w : World} {A : Around} {E : Value → Shared → Prop} {s : Shared} {g : Heap} {L fa : Addr} {cd : Value} {m : Str → Option Value} {μ : Mu} {mg mb : Str → Option Value}
theorem TabOk.del {I : Addr} {oI : Obj} {l : Addr} {k : Nat} (T : TabOk μ) (e : μ I = some oI) (hd : oI.data = .fields #[.ref l, .int (k : Int) 0]) (h25 : I ≠ 25) : TabOk (del μ I) := by
  obtain ⟨ps, e25, ht, hc⟩ := T
  refine ⟨ps, del_of (Ne.symm h25) e25, ht, ?_⟩
  rcases hc with hc | ⟨c', oc, vs, t, a, ⟨b1, b2⟩, d1, d2⟩
  · exact .inl hc
  · refine .inr ⟨c', oc, vs, t, a, ⟨b1, del_of (fun q => ?_) b2⟩, d1, d2⟩
    rw [q, e] at b2; cases b2
    rw [hd] at d1; cases d1
    cases d2
theorem turnBody {dir : Bool} {many : Nat} {ord : List Nat} {R : List (List Nat)} {x dx dg dn da dp ra wa : Addr} {oc : Obj} {bd : Option Nat} {bv : Value} {so D : Nat} {t1 tD : Tok} (G : Gd w mg mb g) (C29 : CodeHd g 29 25) (S : St g L m μ s.heap) (hh : A.handled = none) (hroom : A.depth + 100 < recursionLimit) (hu : A.units + 64 < cLine) (hb : AllBare s.gens)
    (I : LI w L dir many ord R x dx dg dn da dp ra wa oc μ) (hc : oc.data = .cell (some (.ref x))) (hord : ∀ i < many, i ∈ ord)
    (ms : m "source" = some (.int (so : Int) t1)) (hso : so < many) (mr : m "rows" = some (.ref ra)) (mw : m "down" = some (.ref wa)) (mbd : m "bound" = some bv) (hbd : srcV bd bv) (hb10 : ∀ a, bd = some a → a ≤ 10) (md : m "deep" = some (.int (D : Int) tD)) (hD : bd.getD many = D) (hD0 : 0 < D) (hD6 : D ≤ 10) :
    wpAny (model PR w) A (execs (bodyS sLoop) (lEnv L fa cd)) (IfPost g L m μ s) E s := by
  show wpAny _ _ (execs [nthS (bodyS sLoop) 0, nthS (bodyS sLoop) 1, nthS (bodyS sLoop) 2, nthS (bodyS sLoop) 3] _) _ _ _
  refine wpAny_execs_cons (wpAny_mono (if1 G C29 S hh hroom hu hb I hc hord ms hso mr mw mbd hbd hb10 md hD hD0 hD6) (fun f s1 h1 => ?_) fun _ _ e => e)
  obtain ⟨rfl, h1, tk1, gn1, μ1, rfl, hb1, S1, k1, T1⟩ := h1
  have I1 := I.step hc k1 T1
  refine wpAny_execs_cons (wpAny_mono (if2 (s := { s with heap := h1, toks := tk1, gens := gn1 }) G C29 S1 hh hroom hu hb1 I1 hc hord ms hso mr mw mbd hbd hb10 md hD hD0 hD6) (fun f s2 h2 => ?_) fun _ _ e => e)
  obtain ⟨rfl, h2, tk2, gn2, μ2, rfl, hb2, S2, k2, T2⟩ := h2
  have I2 := I1.step hc k2 T2
  refine wpAny_execs_cons (wpAny_mono (if3 (s := { s with heap := h2, toks := tk2, gens := gn2 }) G C29 S2 hh hroom hu hb2 I2 hc hord ms hso mr mw mbd hbd hb10 md hD hD0 hD6) (fun f s3 h3 => ?_) fun _ _ e => e)
  obtain ⟨rfl, h3, tk3, gn3, μ3, rfl, hb3, S3, k3, T3⟩ := h3
  have I3 := I2.step hc k3 T3
  refine wpAny_execs_cons (wpAny_mono (if4 (s := { s with heap := h3, toks := tk3, gens := gn3 }) G C29 S3 hh hroom hu hb3 I3 hc hord ms hso mr mw mbd hbd hb10 md hD hD0 hD6) (fun f s4 h4 => ?_) fun _ _ e => e)
  obtain ⟨rfl, h4, tk4, gn4, μ4, rfl, hb4, S4, k4, T4⟩ := h4
  refine wpAny_execs_nil ?_
  exact ⟨rfl, h4, tk4, gn4, μ4, rfl, hb4, S4, fun b o e h => k4 b o (k3 b o (k2 b o (k1 b o e h) h) h) h, T4⟩
theorem lb5 {dir : Bool} {many : Nat} {ord : List Nat} {R : List (List Nat)} {x dx dg dn da dp ra wa : Addr} {oc : Obj} {so mo : Nat} {t1 t2 tm : Tok} (G : Gd w mg mb g) (C29 : CodeHd g 29 25) (S : St g L m μ s.heap) (hh : A.handled = none) (hroom : A.depth + 100 < recursionLimit) (hu : A.units + 64 < cLine) (hb : AllBare s.gens)
    (I : LI w L dir many ord R x dx dg dn da dp ra wa oc μ) (hc : oc.data = .cell (some (.ref x))) (hord : ∀ i < many, i ∈ ord) (hm0 : 0 < many)
    (ms : m "source" = some (.int (so : Int) t1)) (hso : so < many) (mmo : m "most" = some (.int (mo : Int) t2)) (hmo1 : 1 ≤ mo) (hmo4 : mo ≤ 4) (mm : m "many" = some (.int (many : Int) tm)) (mr : m "rows" = some (.ref ra)) (mw : m "down" = some (.ref wa)) :
    wpAny (model PR w) A (exec sLoop (lEnv L fa cd)) (fun f s' => f = .next ∧ ∃ m' h' tk' gn' μ', s' = { s with heap := h', toks := tk', gens := gn' } ∧ AllBare gn' ∧ St g L m' μ' h' ∧ (∀ b o, μ b = some o → b ≠ 25 → μ' b = some o) ∧ TabOk μ') E s := by
  have h6 := I.X.m6
  obtain ⟨o25, e25⟩ : ∃ o, μ 25 = some o := by obtain ⟨ps, e, _⟩ := I.tab; exact ⟨_, e⟩
  show wpAny _ _ (exec (Stmt.For _ _ _ _ _) _) _ _ _
  repeat tb_start
  rename_i p1 o1 h1 n1 ho1 S1 p2 o2 h2 n2 ho2 S2 tt ot h3 nt hot S3
  refine r_iter_tuple S3 (upd_self ..) hot ?_
  intro It oI0 h4 nI hit S4
  (try dsimp only)
  have k3 : MuLe μ (upd (upd (upd μ p1 o1) p2 o2) tt ot) := fun b o e => mu_up (mu_up (mu_up e n1) n2) nt
  have e1 : upd (upd (upd μ p1 o1) p2 o2) tt ot p1 = some o1 := mu_up (mu_up (upd_self ..) n2) nt
  have e2 : upd (upd (upd μ p1 o1) p2 o2) tt ot p2 = some o2 := mu_up (upd_self ..) nt
  have p1n : p1 ≠ 25 := Ne.symm (ne_of_mu e25 n1)
  have p2n : p2 ≠ 25 := Ne.symm (ne_of_mu (mu_up e25 n1) n2)
  have ttn : tt ≠ 25 := Ne.symm (ne_of_mu (mu_up (mu_up e25 n1) n2) nt)
  have I3 := I.step hc (fun b o e _ => k3 _ _ e) (I.tab.mono k3)
  refine r_for_tupleG hh (fun i m' μ' => m' "source" = some (.int (so : Int) t1) ∧ m' "rows" = some (.ref ra) ∧ m' "down" = some (.ref wa) ∧ LI w L dir many ord R x dx dg dn da dp ra wa oc μ' ∧ ∀ b o, upd (upd (upd μ p1 o1) p2 o2) tt ot b = some o → b ≠ 25 → μ' b = some o) hb S4 nI hit (upd_self ..) hot ⟨ms, mr, mw, I3, fun b o e _ => e⟩ ?_ ?_
  · rintro i v m' μ' oI h5 tk5 gn5 E5 hi ⟨kI, hdI⟩ hb5 ⟨q1, q2, q3, I5, k5⟩ nI5 ett S5
    have I5' := I5.step hc (fun b o e _ => mu_up e nI5) (I5.tab.mono (MuLe.updN nI5 (o := oI)))
    obtain ⟨o25', e25'⟩ : ∃ o, μ' 25 = some o := by obtain ⟨ps, e, _⟩ := I5.tab; exact ⟨_, e⟩
    have It25 : It ≠ 25 := Ne.symm (ne_of_mu e25' nI5)
    have hIL : ∀ b o, μ' b = some o → b ≠ It := fun b o e => ne_of_mu e nI5
    have toEnd : ∀ (s4 : Shared) (hs4 : ∀ h tk gn, ({ s4 with heap := h, toks := tk, gens := gn } : Shared) = { s with heap := h, toks := tk, gens := gn }) (RR : Result → Shared → Prop) (m2 : Str → Option Value) (h6' : Heap) (tk6 : Nat) (f : Flow) (s' : Shared), m2 "source" = some (.int (so : Int) t1) → m2 "rows" = some (.ref ra) → m2 "down" = some (.ref wa) → IfPost g L m2 (upd μ' It oI) { s with heap := h6', toks := tk6, gens := gn5 } f s' →
        LoopEndG s4 g L It oI (fun μ' => μ' tt = some ot) (fun m' μ' => m' "source" = some (.int (so : Int) t1) ∧ m' "rows" = some (.ref ra) ∧ m' "down" = some (.ref wa) ∧ LI w L dir many ord R x dx dg dn da dp ra wa oc μ' ∧ ∀ b o, upd (upd (upd μ p1 o1) p2 o2) tt ot b = some o → b ≠ 25 → μ' b = some o) RR f s' := by
      rintro s4 hs4 RR m2 h6' tk6 f s' z1 z2 z3 ⟨rfl, h7, tk7, gn7, μ7, rfl, hb7, S7, k7, T7⟩
      have eI7 := k7 It oI (upd_self ..) It25
      have kd : ∀ b o, μ' b = some o → b ≠ 25 → del μ7 It b = some o := fun b o e h => del_of (hIL b o e) (k7 b o (mu_up e nI5) h)
      exact ⟨m2, μ7, h7, tk7, gn7, (hs4 _ _ _).symm, hb7, S7, eI7, kd _ _ ett ttn, z1, z2, z3, I5.step hc kd (T7.del eI7 hdI It25), fun b o e h => kd b o (k5 b o e h) h⟩
    have cases2 : v = .ref p1 ∨ v = .ref p2 := by
      match i, hi with
      | 0, hi => left; simpa using hi.symm
      | 1, hi => right; simpa using hi.symm
      | k + 2, hi => simp at hi
    show wpAny _ _ (assign (Expr.Tuple _ _ _) _ _) _ _ _
    rcases cases2 with rfl | rfl
    · have ep := mu_up (ob := oI) (k5 p1 o1 e1 p1n) nI5
      refine r_unpack S5 ep ho1 (by exact hh) rfl rfl (fun h6' S6 => ?_)
      refine assignInOrder_cons (x := .none) (xs := [.int (many : Int) tm]) ?_
      repeat tb_start
      refine assignInOrder_cons (x := .int (many : Int) tm) (xs := []) ?_
      tb_start
      tb_start
      refine assignInOrder_nil ?_
      rename_i h7 S7 h8 S8
      refine wpAny_mono (turnBody (bd := none) (bv := .none) (so := so) (D := many) (t1 := t1) (tD := tm) G C29 S8 hh hroom hu hb5 I5' hc hord q1 hso q2 q3 rfl rfl (fun a q => nomatch q) rfl rfl hm0 (by omega)) (fun f s' hp => ?_) fun _ _ e => e
      exact toEnd _ (by exact fun _ _ _ => rfl) _ _ _ _ _ _ (by exact q1) (by exact q2) (by exact q3) hp
    · have ep := mu_up (ob := oI) (k5 p2 o2 e2 p2n) nI5
      refine r_unpack S5 ep ho2 (by exact hh) rfl rfl (fun h6' S6 => ?_)
      refine assignInOrder_cons (x := .int (mo : Int) t2) (xs := [.int (mo : Int) t2]) ?_
      repeat tb_start
      refine assignInOrder_cons (x := .int (mo : Int) t2) (xs := []) ?_
      tb_start
      tb_start
      refine assignInOrder_nil ?_
      rename_i h7 S7 h8 S8
      refine wpAny_mono (turnBody (bd := some mo) (bv := .int (mo : Int) t2) (so := so) (D := mo) (t1 := t1) (tD := t2) G C29 S8 hh hroom hu hb5 I5' hc hord q1 hso q2 q3 rfl ⟨_, rfl⟩ (fun a q => by cases q; omega) rfl rfl (by omega) (by omega)) (fun f s' hp => ?_) fun _ _ e => e
      exact toEnd _ (by exact fun _ _ _ => rfl) _ _ _ _ _ _ (by exact q1) (by exact q2) (by exact q3) hp
  · rintro m' μ' h5 tk5 gn5 E5 hb5 ⟨q1, q2, q3, I5, k5⟩ S5
    repeat tb_start
    exact ⟨rfl, m', _, _, _, _, rfl, hb5, S5, fun b o e h => k5 b o (k3 _ _ e) h, I5.tab⟩
end
end

/-! H6 -/
section
section
variable {w : World} {A : Around} {E : Value → Shared → Prop} {s : Shared} {g : Heap} {L fa : Addr} {cd : Value} {m : Str → Option Value} {μ : Mu} {mg mb : Str → Option Value}
theorem lb6 {dir : Bool} {many : Nat} {ord : List Nat} {R : List (List Nat)} {x dx dg dn da dp ra wa : Addr} {oc : Obj} (G : Gd w mg mb g) (C29 : CodeHd g 29 25) (S : St g L m μ s.heap) (hh : A.handled = none) (hroom : A.depth + 100 < recursionLimit) (hb : AllBare s.gens)
    (I : LI w L dir many ord R x dx dg dn da dp ra wa oc μ) (hc : oc.data = .cell (some (.ref x))) :
    wpAny (model PR w) A (exec (nthS (bodyS lawS) 6) (lEnv L fa cd)) (fun f s' => f = .next ∧ ∃ ta ot vs cs h' tk' gn' μ', s' = { s with heap := h', toks := tk', gens := gn' } ∧ AllBare gn' ∧ St g L (fun y => if y = "told" then some (.ref ta) else m y) μ' h' ∧ (∀ b o, μ b = some o → b ≠ 25 → μ' b = some o) ∧
      μ' ta = some ot ∧ lstO vs ot ∧ NatsAre vs cs ∧ cs.Nodup ∧ cs.length ≤ 100 ∧ (∃ ps, μ' 25 = some (tabObj ps))) E s := by
  have eC := I.cell
  show wpAny _ _ (exec (Stmt.Assign [Expr.Name _ _] (Expr.ListComp _ _ _ _) _) _) _ _ _
  refine' r_LCa ?cmp ?sw ?clo
  case sw => exact rfl
  case clo => exact rfl
  repeat tb_start
  refine callDfs (src := none) (bd := none) (srt := false) G C29 S I.X I.tab (by omega) .d rfl rfl rfl (fun a q => by cases q) (fun a q => by cases q) ?_
  intro h2 tk2 gn2 μ2 μg μr n ga S2 k2 nga hown GA hb2
  (try dsimp only)
  obtain ⟨og, eo, ho⟩ := GA.ob
  refine wpAny_pyIter_gen (ho.isGen (S2.get eo)) ?_
  have hl6 := due_len I.X false ord.length ord I.X.olt
  refine r_blockGen G hh (by omega) (Nat.le_trans hl6 (by decide)) (hb2 hb) S2 GA ?_ ?_
  · intro d t ot ta tb C m₂ μ' h tk gn Qx E' S' et hot hq
    show wpAny _ _ (assign (Expr.Tuple _ _ _) _ _) _ _ _
    refine r_unpack S' et hot (by exact hh) rfl rfl (fun h6' S6 => ?_)
    refine assignInOrder_cons (x := .int (d.1 : Int) ta) (xs := [.int (d.2 : Int) tb]) ?_
    tb_start
    tb_start
    refine assignInOrder_cons (x := .int (d.2 : Int) tb) (xs := []) ?_
    tb_start
    tb_start
    refine assignInOrder_nil ?_
    repeat tb_start
    rename_i h7 S7 h8 S8
    exact hq _ _ _ S8
  · intro ys μ' C D oC oD mC h tk gn hlo hn nC hD hC kp S3 hb3 ⟨ps, h25⟩
    refine post_loc (s := { s with gens := gn }) S3 hC nC (fun h' tk' S4 => ?_)
    have hnd := due_nodup (rowsF false R) ord.length many 6 (fun c hc => rowsF_lt I.X hc) ord I.X.olt
    refine ⟨rfl, D, oD, ys, _, h', tk', gn, _, rfl, hb3, S4, fun b o e h => mu_up (kp b o (k2 _ _ e) (hown b o e h)) hD, upd_self .., hlo, hn, hnd, ?_, ps, mu_up h25 hD⟩
    rw [List.length_map]
    exact Nat.le_trans hl6 (by decide)
theorem lb7 {ta : Addr} {ot : Obj} {vs : List Value} {cs : List Nat} {QF : Flow → Shared → Prop} (G : Gd w mg mb g) (S : St g L m μ s.heap) (hh : A.handled = none) (mt : m "told" = some (.ref ta)) (et : μ ta = some ot) (hl : lstO vs ot) (hn : NatsAre vs cs) (hnd : cs.Nodup) (hlen : cs.length ≤ 100)
    (hQ : ∀ h' tk' μ', St g L m μ' h' → MuLe μ μ' → QF (.ret (.bool true)) { s with heap := h', toks := tk' }) :
    wpAny (model PR w) A (exec (nthS (bodyS lawS) 7) (lEnv L fa cd)) QF E s := by
  have hlv := hn.len
  show wpAny _ _ (exec (Stmt.Return (some _) _) _) _ _ _
  repeat tb_start
  refine call_len_list (hl.isList (S.get et)) (by rw [List.size_toArray]; omega) ?_
  repeat tb_start
  refine r_setOf hh S et hl hn hnd hlen ?_
  intro h1 tk1 a oa S1 na ⟨Sf, ho⟩
  repeat tb_start
  refine r_lenSet S1 (upd_self ..) ho hlen (fun t tk => ?_)
  repeat tb_start
  rw [List.size_toArray, hlv, show (((cs.length : Nat) : Int) == ((cs.length : Nat) : Int)) = true from by simp]
  exact hQ _ _ _ S1 (MuLe.updN na)
end
end

/-! H7 -/
section
section
variable {w : World} {A : Around} {E : Value → Shared → Prop} {s : Shared} {g : Heap} {L fa : Addr} {cd : Value} {m : Str → Option Value} {μ : Mu} {mg mb : Str → Option Value}
theorem TabOk.butCell {μ' : Mu} {c : Addr} {oc : Obj} {v : Option Value} (T : TabOk μ) (ec : μ c = some oc) (hc : oc.data = .cell v) (k : ∀ b o, μ b = some o → b ≠ c → μ' b = some o) : TabOk μ' := by
  obtain ⟨ps, e25, ht, h⟩ := T
  refine ⟨ps, k _ _ e25 (fun q => by rw [← q, e25] at ec; cases ec; cases hc), ht, ?_⟩
  rcases h with h | ⟨c', oc', vs, t, a, ⟨b1, b2⟩, d1, d2⟩
  · exact .inl h
  · exact .inr ⟨c', oc', vs, t, a, ⟨b1, k _ _ b2 (fun q => by rw [q, ec] at b2; cases b2; rw [hc] at d1; cases d1)⟩, d1, d2⟩
theorem lawBody {l : Addr} {vs : List Value} {ns : List Int} {oc : Obj} {v0 : Option Value} {Q : Flow → Shared → Prop} (G : Gd w mg mb g) (C29 : CodeHd g 29 25) (S : St g L m μ s.heap) (hh : A.handled = none) (hroom : A.depth + 100 < recursionLimit) (hu : A.units + 64 < cLine) (hb : AllBare s.gens) (hl : g.IsList l vs.toArray) (hI : IntsAre vs ns) (hlen : ns.length ≤ 63)
    (ms : m "script" = some (.ref l)) (eC : μ (L + 1) = some oc) (dC : oc.data = .cell v0) (T : TabOk μ)
    (hQ : ∀ h' tk' gn' m' μ', St g L m' μ' h' → AllBare gn' → (∀ b o, μ b = some o → b ≠ 25 → b ≠ L + 1 → μ' b = some o) → (∃ ps, μ' 25 = some (tabObj ps)) → Q (.ret (.bool true)) { s with heap := h', toks := tk', gens := gn' }) :
    wpAny (model PR w) A (execs (bodyS lawS) (lEnv L fa cd)) Q E s := by
  show wpAny _ _ (execs [nthS (bodyS lawS) 0, nthS (bodyS lawS) 1, nthS (bodyS lawS) 2, nthS (bodyS lawS) 3, nthS (bodyS lawS) 4, sLoop, nthS (bodyS lawS) 6, nthS (bodyS lawS) 7] _) _ _ _
  refine wpAny_execs_cons (wpAny_mono (lb0 G S hh hroom hl hI hlen ms eC dC) (fun f s1 h1 => ?_) fun _ _ e => e)
  obtain ⟨rfl, dir, many, ord, R, x, dx, dg, dn, da, dp, nr, onr, nvs, oc', h1, tk1, μ1, rfl, S1, k1, X1, hm0, hord, eC1, dC1, en1, hn1, hnl⟩ := h1
  have h6 := X1.m6
  have T1 := T.butCell eC dC k1
  refine wpAny_execs_cons (wpAny_mono (lb1 (s := { s with heap := h1, toks := tk1 }) G S1 rfl en1 hn1 hnl h6) (fun f s2 h2 => ?_) fun _ _ e => e)
  obtain ⟨rfl, tm, h2, tk2, rfl, S2⟩ := h2
  refine wpAny_execs_cons (wpAny_mono (lb2 (s := { s with heap := h2, toks := tk2 }) G S2 hh hroom hl hI hlen ms rfl hm0) (fun f s3 h3 => ?_) fun _ _ e => e)
  obtain ⟨rfl, so, mo, t1, t2, h3, tk3, μ3, rfl, S3, k3, hso, hmo1, hmo4⟩ := h3
  have X3 := X1.mono k3
  refine wpAny_execs_cons (wpAny_mono (lb3 (s := { s with heap := h3, toks := tk3 }) G S3 hh hroom X3 (k3 _ _ eC1) dC1 rfl) (fun f s4 h4 => ?_) fun _ _ e => e)
  obtain ⟨rfl, ra, h4, tk4, μ4, rfl, S4, k4, R4⟩ := h4
  refine wpAny_execs_cons (wpAny_mono (lb4 (s := { s with heap := h4, toks := tk4 }) G S4 hh hroom R4 (by rw [X1.len]; exact h6) X1.rlen rfl) (fun f s5 h5 => ?_) fun _ _ e => e)
  obtain ⟨rfl, wa, h5, tk5, μ5, rfl, S5, k5, W5⟩ := h5
  have k15 := k3.trans (k4.trans k5)
  have I5 : LI w L dir many ord R x dx dg dn da dp ra wa oc' μ5 := ⟨X1.mono k15, R4.mono k5, W5, k15 _ _ eC1, T1.mono k15⟩
  refine wpAny_execs_cons (wpAny_mono (lb5 (s := { s with heap := h5, toks := tk5 }) G C29 S5 hh hroom hu hb I5 dC1 hord hm0 rfl hso rfl hmo1 hmo4 rfl rfl rfl) (fun f s6 h6' => ?_) fun _ _ e => e)
  obtain ⟨rfl, m6, h6', tk6, gn6, μ6, rfl, hb6, S6, k6, T6⟩ := h6'
  have I6 := I5.step dC1 k6 T6
  refine wpAny_execs_cons (wpAny_mono (lb6 (s := { s with heap := h6', toks := tk6, gens := gn6 }) G C29 S6 hh hroom hb6 I6 dC1) (fun f s7 h7 => ?_) fun _ _ e => e)
  obtain ⟨rfl, ta, ot, vs7, cs, h7, tk7, gn7, μ7, rfl, hb7, S7, k7, et, hlt, hnt, hnd, hcl, ps, h25⟩ := h7
  refine wpAny_execs_cons (lb7 (s := { s with heap := h7, toks := tk7, gens := gn7 }) G S7 hh rfl et hlt hnt hnd hcl ?_)
  intro h8 tk8 μ8 S8 k8
  exact hQ h8 tk8 gn7 _ μ8 S8 hb7 (fun b o e h h' => k8 _ _ (k7 b o (k6 b o (k15 _ _ (k1 b o e h')) h) h)) ⟨ps, k8 _ _ h25⟩
end
end

/-! H8 -/
section
section
variable {w : World} {A : Around} {E : Value → Shared → Prop} {s : Shared} {g : Heap} {L fa : Addr} {cd : Value} {m : Str → Option Value} {mg mb : Str → Option Value}
theorem lawStart {l : Addr} {vs : List Value} {ns : List Int} {oc : Obj} {v0 : Option Value} {Q : Flow → Shared → Prop} {p : Program} {loose : List Str} {mean : ExcName → Option Value}
    (X : (hd.heap_39 w.params).In g) (T : Top p loose mean mg mb g) (C29 : CodeHd g 29 25) (F : Fr g L s.heap m) (N : News g L s.heap [(L + 1, oc), (136, tabObj #[]), (211, tabObj #[]), (25, tabObj #[])]) (hlo : sysModules < g.objs.size) (hh : A.handled = none) (hroom : A.depth + 100 < recursionLimit) (hu : A.units + 64 < cLine) (hg : s.gens = #[]) (hl : g.IsList l vs.toArray) (hI : IntsAre vs ns) (hlen : ns.length ≤ 63)
    (ms : m "script" = some (.ref l)) (dC : oc.data = .cell v0)
    (hQ : ∀ h' tk' gn' m', Fr g L h' m' → AllBare gn' → (∃ ps, h'.get? 136 = some (tabObj ps)) → (∃ ps, h'.get? 211 = some (tabObj ps)) → (∃ ps, h'.get? 25 = some (tabObj ps)) → Q (.ret (.bool true)) { s with heap := h', toks := tk', gens := gn' }) :
    wpAny (model PR w) A (execs (bodyS lawS) (lEnv L fa cd)) Q E s := by
  have hLs : sysModules < L := Nat.lt_of_lt_of_le hlo F.above
  have n1 := N (L + 1, oc) (by simp)
  have n2 := N (136, tabObj #[]) (by simp)
  have n3 := N (211, tabObj #[]) (by simp)
  have n4 := N (25, tabObj #[]) (by simp)
  have S : St g L m (upd (upd (upd (upd (fun _ => none) 25 (tabObj #[])) 211 (tabObj #[])) 136 (tabObj #[])) (L + 1) oc) s.heap := by
    refine ⟨F, fun a o e => ?_, hlo⟩
    by_cases q1 : a = L + 1
    · subst q1; rw [upd_self] at e; cases e
      exact ⟨n1.1, n1.2.1, n1.2.2, Nat.ne_of_gt (Nat.lt_succ_of_lt hLs)⟩
    · rw [upd_ne q1] at e
      by_cases q2 : a = 136
      · subst q2; rw [upd_self] at e; cases e
        exact ⟨n2.1, n2.2.1, n2.2.2, by decide⟩
      · rw [upd_ne q2] at e
        by_cases q3 : a = 211
        · subst q3; rw [upd_self] at e; cases e
          exact ⟨n3.1, n3.2.1, n3.2.2, by decide⟩
        · rw [upd_ne q3] at e
          by_cases q4 : a = 25
          · subst q4; rw [upd_self] at e; cases e
            exact ⟨n4.1, n4.2.1, n4.2.2, by decide⟩
          · rw [upd_ne q4] at e; cases e
  have c25 : (25 : Addr) ≠ L + 1 := fun q => by rw [← q, n4.1] at n1; have := n1.1; cases this; cases dC
  have c136 : (136 : Addr) ≠ L + 1 := fun q => by rw [← q, n2.1] at n1; have := n1.1; cases this; cases dC
  have c211 : (211 : Addr) ≠ L + 1 := fun q => by rw [← q, n3.1] at n1; have := n1.1; cases this; cases dC
  have e25 : upd (upd (upd (upd (fun _ => none) 25 (tabObj #[])) 211 (tabObj #[])) 136 (tabObj #[])) (L + 1) oc 25 = some (tabObj #[]) := by
    rw [upd_ne c25, upd_ne (by decide), upd_ne (by decide), upd_self]
  have e136 : upd (upd (upd (upd (fun _ => none) 25 (tabObj #[])) 211 (tabObj #[])) 136 (tabObj #[])) (L + 1) oc 136 = some (tabObj #[]) := by
    rw [upd_ne c136, upd_self]
  have e211 : upd (upd (upd (upd (fun _ => none) 25 (tabObj #[])) 211 (tabObj #[])) 136 (tabObj #[])) (L + 1) oc 211 = some (tabObj #[]) := by
    rw [upd_ne c211, upd_ne (by decide), upd_self]
  refine lawBody ⟨X, _, _, _, T⟩ C29 S hh hroom hu (by rw [hg]; exact AllBare.empty) hl hI hlen ms (upd_self ..) dC ⟨#[], e25, trivial, .inl rfl⟩ ?_
  intro h' tk' gn' m' μ' S' hb k ⟨ps, h25⟩
  exact hQ h' tk' gn' m' S'.fr hb ⟨_, S'.get (k _ _ e136 (by decide) c136)⟩ ⟨_, S'.get (k _ _ e211 (by decide) c211)⟩ ⟨ps, S'.get h25⟩
end
end

end

section
open PySem PySem.W PyProof.Rows PySem.Calls
local macro_rules | `(tactic| kn_posts) => `(tactic| refine kn_postG (by assumption) (fun _ _ => rfl) ?_)
theorem whole : PySem.Challenge.rw_bj0030_01.Holds := hd (And.intro (leftRun runTop_spec (fun w => look2 w) (fun w => look3 w) (fun s => by kernel_rfl) (fun P => by kernel_rfl) (by kernel_rfl) (by kernel_rfl)) (by
  k_go0
  rename Top _ _ _ _ _ _ => T9
  rename Fr _ _ _ _ => F9
  rename News _ _ _ _ => N9
  rename Frag.In _ _ => X9
  rename IntsAre _ _ => I9
  refine' lawStart X9 T9 (by assumption) F9 N9 ?z1 ?z2 ?z3 ?z4 ?z5 (by assumption) I9 ?z8 ?z9 ?z10 ?z11
  case z1 =>
    rename (136 < _ ∧ _) => l9
    exact Nat.lt_of_lt_of_eq (Nat.lt_of_le_of_lt (by decide) l9.1) (hideAll_size _ _).symm
  case z2 => exact rfl
  case z3 => simp only [depth_deeper, depth_caller]; decide
  case z4 => simp only [units_deeper, units_caller]; decide
  case z5 => assumption
  case z8 => omega
  case z9 => exact rfl
  case z10 => assumption
  case z11 =>
    intro h' tk' gn' m' F' hb g1 g2 g3
    refine ⟨⟨goodW_bool F' rfl (fun _ => rfl) ?_, hb⟩, g1, g2, g3, trivial⟩
    wrow_post))
end
end Mine

open PySem PySem.W PyProof.Rows
theorem PySem.Challenge.cw_bj0030_01_holds : PySem.Challenge.rw_bj0030_01.Holds := by
  exact Mine.whole
