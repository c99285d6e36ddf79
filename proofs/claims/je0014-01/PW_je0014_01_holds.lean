import PyProof.Rows.All
import Wide.All
import OpenK.AllK
import Wide.FinOn
import KE.LcTurns
import PyProof.DictCompW
import KE.KDictIter
import KE.KLcPair
import KE.KData
import KE.KDictSum
import KE.KSortTup
import PyProof.Rows.SortRunK
import PyProof.Rows.SortInsK
import KE.KDictAnyGet
import PyProof.Rows.SetFrom
import PyProof.SetKind
import PyProof.SetRoads
import PyProof.SetNew
import PyProof.Rows.SetListFold
import Wide.Seal
import PyProof.EqKinds
import KE.LcSums
import KE.KSorted
import PySem.Challenge.RW_je0014_01
open PySem PySem.W PyProof.Rows
set_option Elab.async false
set_option maxRecDepth 100000
set_option maxHeartbeats 8000000
set_option linter.unusedVariables false
set_option linter.unusedSimpArgs false
namespace Mine
/-- what stands at the law's call: the text's defs and classes -/
noncomputable def vw : Program := { PySem.Challenge.rw_je0014_01.row.toRowW.1 with main := { PySem.Challenge.rw_je0014_01.row.toRowW.1.main with body := [0, 2, 3, 4, 5, 6, 7, 9, 11, 12, 13].map fun k => PySem.Challenge.pw_je0014_01.main.body.getD k (.Pass ⟨0, 0, 0, 0⟩) } }
/-! the text's top runs: the opening is the library's, a short stretch in its heap, all statements in a tree of objects; what is asked of its end is asked of the end itself -/
noncomputable abbrev P0 : Program := PySem.Challenge.rw_je0014_01.row.toRowW.1
noncomputable abbrev z0 : Pos := ⟨0, 0, 0, 0⟩
noncomputable def env0 : Env := { scope := P0.main.scope, locals := mainNs, globals := mainNs, cells := [], code := .ref 13, frame := some 14 }
noncomputable abbrev cd0 : Code := .body (behindTheImports P0) env0
noncomputable def t11 : Obj := { cls := .type "tuple", data := .seq #[] }
noncomputable def f12 : Obj := { cls := .none, data := .fields #[] }
noncomputable def c13 : Obj := { cls := .type "code", data := .fields #[.str (Str.ofString "<module>") 182, .str (Str.ofString "<module>") 183, .str (Str.ofString "/claim/cut.py") 184, .int 1 0, .int 0 0, .int 0 0, .int 0 0, .int 0 0, .ref 11, .bool false, .int 181 0, .ref 12, .none, .none, .none, .none, .int 185 0, .int 1 0, .str (Str.ofString "/claim/cut.py") 186] }
noncomputable def r14 : Obj := { cls := .type "frame", slots := #[some (.ref 13), some (.ref 3), some (.ref 3), none, some (.str (Str.ofString "__main__") 164), none, some (.ref 0)] }
noncomputable def hp0 (P : Params) : Heap := { objs := #[boot_o_0 P, boot_o_1 P, boot_o_2 P, boot_o_3 P, boot_o_4 P, boot_o_5 P, boot_o_6 P, boot_o_7 P, boot_o_8 P, boot_o_9 P, boot_o_10 P, t11, f12, c13, r14] }
noncomputable def tr0 (P : Params) : BT := .node (boot_o_0 P) (.node (boot_o_1 P) (.node (boot_o_3 P) (.node (boot_o_7 P) .nil .nil) (.node t11 .nil .nil)) (.node (boot_o_5 P) (.node (boot_o_9 P) .nil .nil) (.node c13 .nil .nil))) (.node (boot_o_2 P) (.node (boot_o_4 P) (.node (boot_o_8 P) .nil .nil) (.node f12 .nil .nil)) (.node (boot_o_6 P) (.node (boot_o_10 P) .nil .nil) (.node r14 .nil .nil)))
noncomputable def st0 (w : World) (os : OsState) : SharedT := { tree := tr0 w.params, n := 15, life := {}, gens := #[], drawn := {}, toks := 187, os := os }
theorem top_pre (w : World) : (fun os => topGo treeTable P0 w 11 (some (.ref 6)) 12 ⟨boot_heap w.params, #[], boot_drawn, boot_toks, os⟩ (topStub P0)) = fun os => some (⟨hp0 w.params, #[], {}, 187, os⟩, ⟨denote treeTable cd0, cd0, z0, [topFrame z0]⟩) := by kernel_rfl
theorem top_block (w : World) : (fun os => segRun treeTable P0 w 11 (some (.ref 6)) 1 1 ⟨hp0 w.params, #[], {}, 187, os⟩ (blockOf (behindTheImports P0) env0 cd0 z0 [topFrame z0])) = fun os => some (.next, (st0 w os).abs, cd0, z0) := by kernel_rfl
theorem top_size (w : World) : ((boot_heap w.params).isNs mainGlobals && (#[] : Array GenState).size == 0, (boot_heap w.params).objs.size, (boot_heap w.params).nsMap mainGlobals "__annotations__") = (true, 11, some (.ref 6)) := by kernel_rfl
theorem top_plain : opening P0 = plainProg P0.main.scope.names := by kernel_rfl
/-- what is asked of the end -/
noncomputable def asked {α : Type} (q : Program) (loose : List Str) (Xt : Shared → Bool) (Yf : Shared → α) (w : World) (s : Shared) := (staticsOk (importedModules P0.main.body) (boot_heap w.params) s.heap && namesBound P0 s.heap && gensDone s && laidKept (boot_heap w.params) s.heap, openSeen q loose (importedModules P0.main.body) Xt true s, Yf s)
noncomputable def ends {α : Type} (q : Program) (loose : List Str) (Xt : Shared → Bool) (Yf : Shared → α) (w : World) (r : Flow × SharedT × Code × Pos) := (r.1, r.2.2.1, (topRun treeTable P0 w 11 (some (.ref 6)) 2 r.2.1.abs (restOf [] env0 r.2.2.1 r.2.2.2 [topFrame z0])).map (asked q loose Xt Yf w))
theorem left_tree {α : Type} {q : Program} {loose : List Str} {Xt : Shared → Bool} {Yf : Shared → α} {Ya : World → α} (hf : ∀ s : Shared, fenceModules? P0 s = some s)
    (looks : ∀ w : World, (fun os => (PySem.W.Fast.tw10110043849684766642 PySem.W.Fast.tw14364793385576792824 P0 w 11 (some (.ref 6)) 1 1917 (st0 w os) (piecesOf (behindTheImports P0) env0 cd0 z0 [topFrame z0])).map (ends q loose Xt Yf w)) = fun _ => some (.next, cd0, some (true, openGood q loose, Ya w))) : LeftO P0 q loose Xt Yf Ya 3948 true := fun w => by
  rw [← PySem.W.Fast.te10110043849684766642, ← PySem.W.Fast.te14364793385576792824] at looks
  obtain ⟨⟨h, gs, d, k, os⟩, e1, e2⟩ := Option.map_eq_some_iff.mp (boot_open (p := P0) (N := 3948) top_plain rfl hf w)
  simp only [Prod.mk.injEq] at e2
  obtain ⟨rfl, rfl, rfl, rfl⟩ := e2
  obtain ⟨⟨f, st, c, ps⟩, e3, e4⟩ := Option.map_eq_some_iff.mp (congrFun (looks w) os)
  simp only [ends, Prod.mk.injEq] at e4
  obtain ⟨rfl, rfl, e5⟩ := e4
  obtain ⟨s₁, e6, e7⟩ := Option.map_eq_some_iff.mp e5
  simp only [asked, Prod.mk.injEq] at e7
  obtain ⟨l1, l2, l3⟩ := e7
  have r1 := piece_app (rest := []) (segRun_of e3) e6
  rw [List.append_nil] at r1
  have r2 := topRun_mono 2016 _ _ _ _ (go_top (congrFun (top_pre w) os) (piece_block (congrFun (top_block w) os) r1))
  have hs := top_size w
  simp only [Prod.mk.injEq] at hs
  have r3 : topFrom treeTable P0 w 3948 ⟨boot_heap w.params, #[], boot_drawn, boot_toks, os⟩ = some s₁ := by
    unfold topFrom
    dsimp only
    rw [hs.1, hs.2.1, hs.2.2]
    dsimp only
    rw [show topRun treeTable P0 w 11 (some (.ref 6)) 3948 ⟨boot_heap w.params, #[], boot_drawn, boot_toks, os⟩ (topStub P0) = some s₁ from r2, Option.bind_some, l1]
  unfold openEnds
  rw [e1, Option.bind_some, r3, Option.map_some, l2, l3]
theorem law_said : OpenLaw.wellSaid PySem.Challenge.rw_je0014_01 = true := by kernel_rfl
local macro_rules | `(tactic| o_law) => `(tactic| refine holds_law law_said fun said => ?_)
local macro_rules | `(tactic| o_head $H) => do
  let hw := Lean.mkIdent `hw
  let hc := Lean.mkIdent `hc
  `(tactic| refine holds_open (q := Mine.vw) (loose := [Str.ofString "ConsumerProtocolSubscription", Str.ofString "RoundRobinPartitionAssignor"]) (Xt := fun s => xlAt Mine.vw [] s && recOk (RowW.records PySem.Challenge.rw_je0014_01.row.toRowW) s) (XP := XL Mine.vw []) (Yf := Hook.obs $H) (Ya := Hook.val $H) (YP := Hook.says $H) (N := 3948) (left_tree (fun _ => by kernel_rfl) (fun w => by kernel_rfl)) (Hook.of $H) (Hook.keeps $H) (fun s e => xl_of s (Bool.and_eq_true_iff.mp e).1) XL.keeps (by rfl) (by rfl) (by rfl) (fun s e => recFacts_of (Bool.and_eq_true_iff.mp e).2) (by rfl) (by first | assumption | decide +kernel) (by decide +kernel) ⟨rfl, rfl, rfl, rfl, rfl, by decide +kernel⟩ ?$hw ?$hc)
open_top hd for PySem.Challenge.rw_je0014_01
theorem top_off : True := by
  w_top off
  trivial
end Mine
namespace Mine
section
open PySem PyProof.Rows
open LCg PySem.W
-- K2
section
variable {prog : Program} {w : World} {A : Around} {E : Value → Shared → Prop} {s : Shared} {h₀ : Heap} {L : Addr} {m : Str → Option Value} {env : Env}
noncomputable abbrev SK (prog : Program) (w : World) : KeyKind prog w Str := PySem.strKind prog w
/-- where an entry of a dict comprehension ends: the key and the value stand, the rest goes on -/
noncomputable def DRest (prog : Program) (w : World) (A : Around) (h₀ : Heap) (L : Addr) (m : Str → Option Value) (env : Env) (kx vx : PySem.Expr) (x : Str) (scope : Scope) (cl : List (Str × Addr)) (s : Shared) (S : List (Addr × Obj) → Prop) (P : Nat → Value → Prop)
    (Fin : List (Str × Value) → List (Addr × Obj) → Prop) : Nat → Nat → List (Str × Value) → List (Addr × Obj) → Prop
  | 0, _, kvs, news => Fin kvs news
  | k + 1, i, kvs, news => ∀ v I oI C oC D oD m₂ h tk (E' : Value → Shared → Prop), P i v → oD.IsDictOf (SK prog w) kvs → NsObj oC m₂ → m₂ x = some v → Fr h₀ L h m → News h₀ L h ((I, oI) :: (C, oC) :: (D, oD) :: news) → Off3 I C D news → ((@Ne Nat I C) ∧ (@Ne Nat I D) ∧ (@Ne Nat C D)) →
      wpAny (model prog w) A (eval kx (compEnvC scope cl C env)) (fun key s' => wpAny (model prog w) A (eval vx (compEnvC scope cl C env))
        (CompEnd h₀ L m { s with heap := h, toks := tk } I oI C oC D oD S (fun y news' => ∃ kk, (SK prog w).is kk key = true ∧ DRest prog w A h₀ L m env kx vx x scope cl s S P Fin k (i + 1) (stored kvs kk y) news')) E' s') E' { s with heap := h, toks := tk }
theorem stored_le {kvs : List (Str × Value)} {k : Str} {v : Value} {n : Nat} (h : kvs.length ≤ n) : (stored kvs k v).length ≤ n + 1 := Nat.le_trans (stored_length_le kvs k v) (Nat.succ_le_succ h)
theorem dblock {kx vx iter : PySem.Expr} {x : Str} {px : Pos} {scope : Scope} {cl : List (Str × Addr)} {pos : Pos} {s₂ : Shared} {I : Addr} {fp : List Addr} {n : Nat} {P : Nat → Value → Prop} {St : Nat → Heap → Prop} {S : List (Addr × Obj) → Prop} {news : List (Addr × Obj)}
    {Fin : List (Str × Value) → List (Addr × Obj) → Prop} {RR : Value → Addr → Result → Shared → Prop}
    (W : Walks prog w A I fp [I] n P St) (hsz : n ≤ sizeLine) (hIo : ∀ i h, St i h → ∃ o, h.get? I = some o)
    (hSt : ∀ i h h' o nw, St i h → h.get? I = some o → h'.get? I = some o → (∀ b o, h₀.get? b = some o → h'.get? b = some o) → News h₀ L h' nw → S nw → St i h')
    (hcell : ∀ y ∈ scope.names, y.2 ≠ .cell) (hkind : scope.kind = .function) (hx : scope.names.lookup x = some .local) (hst : St 0 s₂.heap) (hfp : ∀ b ∈ fp, b < s₂.heap.objs.size)
    (F : Fr h₀ L s₂.heap m) (N : News h₀ L s₂.heap news) (hIL : L ≠ I) (hI₀ : h₀.get? I = none) (off : ∀ p ∈ news, p.1 ≠ I) (hS : S news)
    (R : DRest prog w A h₀ L m env kx vx x scope cl s₂ S P Fin n 0 [] news)
    (hRR : ∀ D C h tk m' oD kvs news', Fr h₀ L h m → oD.IsDictOf (SK prog w) kvs → News h₀ L h ((D, oD) :: news') → Off1 D news' → h.Ns C m' → h₀.get? C = none → h₀.get? D = none → C ≠ L → (@LT.lt Nat _ L D) → C ≠ D → (∀ p ∈ news', p.1 ≠ C) → Fin kvs news' → RR (.ref D) C (.ok .next) { s₂ with heap := h, toks := tk }) :
    wpAny (model prog w) A newDict (fun acc s₃ => wpAny (model prog w) A (newFunctionEnv scope env.globals cl [] env.qual none .none (some env)) (fun cenv s₄ =>
      codeAny (model prog w) A (.compStart (.DictComp kx vx [⟨.Name x px, iter, [], 0⟩] scope pos) 0 (.ref I) acc { cenv with scope := relabel scope env }) (RR acc cenv.locals) s₄) E s₃) E s₂ := by
  refine wpAny_newObj_type (wpAny_newFunctionEnv hcell (by intro y hy; simp at hy) (fun h₁ hns₁ hsb₁ => ?_) hkind)
  dsimp only at hns₁ hsb₁ ⊢
  have hnew : (s₂.heap.push { cls := .type "dict", dict := none, data := .dict #[] }).DictOf (SK prog w) s₂.heap.objs.size [] := Heap.DictOf.new s₂.heap
  generalize hH2 : s₂.heap.push { cls := .type "dict", dict := none, data := .dict #[] } = H2 at hns₁ hsb₁ hnew ⊢
  have hC : H2.objs.size = s₂.heap.objs.size + 1 := by rw [← hH2, Heap.size_push]
  have hDC : s₂.heap.objs.size ≠ H2.objs.size := by rw [hC]; exact Nat.ne_of_lt (Nat.lt_succ_self _)
  have below : ∀ b, b < s₂.heap.objs.size → b ≠ H2.objs.size ∧ b ≠ s₂.heap.objs.size := fun b hb => ⟨by rw [hC]; exact Nat.ne_of_lt (Nat.lt_succ_of_lt hb), Nat.ne_of_lt hb⟩
  have hDf : s₂.heap.objs.size ∉ fp := fun hm => Nat.lt_irrefl _ (hfp _ hm)
  have hCf : H2.objs.size ∉ fp := fun hm => by have := hfp _ hm; rw [hC] at this; exact Nat.lt_irrefl _ (Nat.lt_of_succ_lt this)
  have hIlt : I < s₂.heap.objs.size := hfp I (W.sub I (List.mem_singleton.mpr rfl))
  have old : ∀ b o, s₂.heap.get? b = some o → h₁.get? b = some o := fun b o e => hsb₁.extBut b o (below b (Heap.lt_size e)).1 (Heap.get?_push_of_some _ (hH2 ▸ Heap.get?_push_of_some _ e))
  have hacc : h₁.DictOf (SK prog w) s₂.heap.objs.size [] := hnew.at fun o e => hsb₁.extBut _ _ hDC (Heap.get?_push_of_some _ e)
  have hst₁ : St 0 h₁ := W.frame _ _ _ hst fun b _ o e => old b o e
  have fresh₀ : ∀ a, s₂.heap.objs.size ≤ a → h₀.get? a = none := fun a ha => by
    cases e : h₀.get? a with
    | none => rfl
    | some o' => exact absurd (Heap.lt_size (F.keep a o' e)) (Nat.not_lt.mpr ha)
  have hD₀ : h₀.get? s₂.heap.objs.size = none := fresh₀ _ (Nat.le_refl _)
  have hC₀ : h₀.get? H2.objs.size = none := fresh₀ _ (by rw [hC]; exact Nat.le_succ _)
  have hLlt : L < s₂.heap.objs.size := F.ns.lt
  have hDL : s₂.heap.objs.size ≠ L := Ne.symm (below L hLlt).2
  have hCL : H2.objs.size ≠ L := Ne.symm (below L hLlt).1
  have hCI : I ≠ H2.objs.size := (below I hIlt).1
  have hDI : I ≠ s₂.heap.objs.size := (below I hIlt).2
  have off₀ : Off3 I H2.objs.size s₂.heap.objs.size news := Off3.of fun p hp => ⟨off p hp, (below _ (Heap.lt_size (N p hp).1)).1, (below _ (Heap.lt_size (N p hp).1)).2⟩
  obtain ⟨oD₀, eD₀, dD₀⟩ := Heap.dictOf_iff.mp hacc
  have loop : ∀ s₃ : Shared, s₃ = { s₂ with heap := h₁, toks := s₂.toks + ([] : List (Str × Value)).length } →
      codeAny (model prog w) A (.compLoop (.DictComp kx vx [⟨.Name x px, iter, [], 0⟩] scope pos) 0 (.ref I) (.ref s₂.heap.objs.size) (compEnvC scope cl H2.objs.size env))
        (RR (.ref s₂.heap.objs.size) H2.objs.size) s₃ := by
    rintro s₃ rfl
    refine codeAny_compLoop_testsD
      (fun k s' => ∃ h' tk i kvs oD m' news', s' = { s₂ with heap := h', toks := tk } ∧ i ≤ n ∧ k = n + 1 - i ∧ kvs.length ≤ i ∧ St i h' ∧ Fr h₀ L h' m ∧ h'.Ns H2.objs.size m' ∧ oD.IsDictOf (SK prog w) kvs ∧ News h₀ L h' ((s₂.heap.objs.size, oD) :: news') ∧
        Off3 I H2.objs.size s₂.heap.objs.size news' ∧ S news' ∧ DRest prog w A h₀ L m env kx vx x scope cl s₂ S P Fin (n - i) i kvs news') ?_ (n + 1)
      ⟨h₁, _, 0, [], oD₀, _, news, rfl, Nat.zero_le _, rfl, Nat.le_refl _, hst₁, F.keeps old, hns₁, dD₀, fun p hp => ?_, off₀, hS, R⟩
    · rintro k s' ⟨h', tk, i, kvs, oD, m', news', rfl, hi, rfl, hyl, hst', F', hn', hoD, N', off', hS', R'⟩
      have off3 := off'.mem
      have offI : ∀ p ∈ (s₂.heap.objs.size, oD) :: news', p.1 ≠ I := fun p hp => by
        rcases List.mem_cons.mp hp with rfl | hp
        · exact Ne.symm hDI
        · exact (off3 p hp).1
      by_cases hlt : i < n
      · obtain ⟨j, hj⟩ : ∃ j, n - i = j + 1 := ⟨n - i - 1, by omega⟩
        rw [hj] at R'
        refine W.item i _ _ _ hlt hst' fun v h₂ tk₂ hPv hst₂ hk₂ => ?_
        refine wpAny_assign_Name (wpAny_storeName_local (lookup_relabel_local hx) (hn'.at' fun o e => hk₂ _ o (by simpa using Ne.symm hCI) e) (fun h₃ hn₃ hs₃ => ?_) (by simp [compEnvC, relabel, hkind]))
        refine wpAny_tests_nil ?_
        simp only [if_true]
        have hst₃ : St (i + 1) h₃ := W.frame _ _ _ hst₂ fun b hb o e => hs₃.extBut b o (fun q => hCf (by have q' : b = H2.objs.size := q; rw [← q']; exact hb)) e
        obtain ⟨oI, heI⟩ := hIo _ _ hst₃
        obtain ⟨oC, heC, hoC⟩ := ns_obj hn₃
        have F₃ : Fr h₀ L h₃ m := (fr_but F' hk₂ hIL hI₀).change hs₃ hCL hC₀
        have N₂ : News h₀ L h₂ ((s₂.heap.objs.size, oD) :: news') := news_but N' hk₂ offI
        have N₃ : News h₀ L h₃ ((I, oI) :: (H2.objs.size, oC) :: (s₂.heap.objs.size, oD) :: news') := fun p hp => by
          rcases List.mem_cons.mp hp with rfl | hp
          · exact ⟨heI, Ne.symm hIL, hI₀⟩
          · rcases List.mem_cons.mp hp with rfl | hp
            · exact ⟨heC, hCL, hC₀⟩
            · have z := N₂ p hp
              refine ⟨hs₃.extBut _ _ ?_ z.1, z.2⟩
              rcases List.mem_cons.mp hp with rfl | hp
              · exact hDC
              · exact (off3 p hp).2.1
        refine wpAny_mono (R' v I oI H2.objs.size oC s₂.heap.objs.size oD _ h₃ _ _ hPv hoD hoC (by simp) F₃ N₃ off' ⟨hCI, hDI, Ne.symm hDC⟩) (fun key s₄ hkey => wpAny_mono hkey (fun y s₅ h₄ => ?_) fun _ _ e => e) fun _ _ e => e
        obtain ⟨h₄, tk₄, news₄, rfl, F₄, N₄, off₄, hS₄, kk, hkk, R₄⟩ := h₄
        have zI := (N₄ (I, oI) List.mem_cons_self).1
        have zC := (N₄ (H2.objs.size, oC) (List.mem_cons_of_mem _ List.mem_cons_self)).1
        have zD := (N₄ (s₂.heap.objs.size, oD) (List.mem_cons_of_mem _ (List.mem_cons_of_mem _ List.mem_cons_self))).1
        have N₄' : News h₀ L h₄ news₄ := fun p hp => N₄ p (List.mem_cons_of_mem _ (List.mem_cons_of_mem _ (List.mem_cons_of_mem _ hp)))
        have hst₄ : St (i + 1) h₄ := hSt _ _ _ _ _ hst₃ heI zI F₄.keep N₄' hS₄
        refine wpAny_dictSet_pairs (hsz := Nat.le_trans hyl (Nat.le_trans hi hsz)) hkk (Heap.dictOf_iff.mpr ⟨oD, zD, hoD⟩) fun h₅ hm₅ hs₅ => ?_
        obtain ⟨oD', eD', hoD'⟩ := Heap.dictOf_iff.mp hm₅
        have off4 := off₄.mem
        refine ⟨n + 1 - (i + 1), by omega, h₅, _, i + 1, stored kvs kk y, oD', _, news₄, rfl, hlt, rfl, stored_le hyl, W.frame _ _ _ hst₄ fun b hb o e => hs₅.extBut b o (fun q => hDf (q ▸ hb)) e, F₄.change hs₅ hDL hD₀,
          (hoC.ns zC).sameBut hs₅ (Ne.symm hDC), hoD', fun p hp => ?_, off₄, hS₄, ?_⟩
        · rcases List.mem_cons.mp hp with rfl | hp
          · exact ⟨eD', hDL, hD₀⟩
          · exact ⟨hs₅.extBut _ _ (off4 p hp).2.2 (N₄' p hp).1, (N₄' p hp).2⟩
        · rw [show n - (i + 1) = j by omega]
          exact R₄
      · obtain rfl : i = n := Nat.le_antisymm hi (Nat.not_lt.mp hlt)
        rw [Nat.sub_self] at R'
        refine W.done _ _ _ hst' fun h₂ tk₂ hk₂ => ?_
        exact hRR _ _ h₂ tk₂ _ oD kvs news' (fr_but F' hk₂ hIL hI₀) hoD (news_but N' hk₂ offI) off'.one (hn'.at' fun o e => hk₂ _ o (by simpa using Ne.symm hCI) e) hC₀ hD₀ hCL hLlt (Ne.symm hDC) (fun p hp => (off3 p hp).2.1) R'
    · rcases List.mem_cons.mp hp with rfl | hp
      · exact ⟨eD₀, hDL, hD₀⟩
      · exact ⟨old _ _ (N p hp).1, (N p hp).2⟩
  exact codeAny_compStart_dict (loop _ rfl) (W.self 0 _ _ _ hst₁ (loop _ rfl))
noncomputable def DSrc (prog : Program) (w : World) (A : Around) (h₀ : Heap) (L : Addr) (m : Str → Option Value) (env : Env) (kx vx : PySem.Expr) (x : Str) (scope : Scope) (cl : List (Str × Addr)) (Fin : Shared → List (Str × Value) → List (Addr × Obj) → Prop) (xv : Value) (s₁ : Shared) : Prop :=
  (∃ ax its news, xv = .ref ax ∧ A.handled = none ∧ Fr h₀ L s₁.heap m ∧ News h₀ L s₁.heap news ∧ SrcAt h₀ ax its news ∧ its.size ≤ sizeLine ∧
    ∀ s₂ : Shared, (∃ h, s₂ = { s₁ with heap := h }) → DRest prog w A h₀ L m env kx vx x scope cl s₂ (SrcAt h₀ ax its) (fun i v => its[i]? = some v) (Fin s₂) its.size 0 [] news) ∨
  (∃ d od kvs₀ news, xv = .ref d ∧ A.handled = none ∧ Fr h₀ L s₁.heap m ∧ News h₀ L s₁.heap news ∧ (d, od) ∈ news ∧ od.IsDictOf (SK prog w) kvs₀ ∧ (d == sysModules) = false ∧ kvs₀.length ≤ sizeLine ∧
    ∀ s₂ : Shared, (∃ h, s₂ = { s₁ with heap := h }) → DRest prog w A h₀ L m env kx vx x scope cl s₂ (fun nw => (d, od) ∈ nw) (fun i v => ∃ k y, kvs₀[i]? = some (k, y) ∧ (SK prog w).is k v = true) (Fin s₂) kvs₀.length 0 [] news)
theorem DSrc.ledger {kx vx : PySem.Expr} {x : Str} {scope : Scope} {cl : List (Str × Addr)} {Fin : Shared → List (Str × Value) → List (Addr × Obj) → Prop} {ax : Addr} {its : Array Value} {k : Nat} {news : List (Addr × Obj)} {s₁ : Shared}
    (hh : A.handled = none) (F : Fr h₀ L s₁.heap m) (N : News h₀ L s₁.heap news) (hm : (ax, ({ cls := .type "list", data := .seq its k } : Obj)) ∈ news) (hsz : its.size ≤ sizeLine)
    (h : ∀ g, DRest prog w A h₀ L m env kx vx x scope cl { s₁ with heap := g } (SrcAt h₀ ax its) (fun i v => its[i]? = some v) (Fin { s₁ with heap := g }) its.size 0 [] news) :
    DSrc prog w A h₀ L m env kx vx x scope cl Fin (.ref ax) s₁ := .inl ⟨ax, its, news, rfl, hh, F, N, .inr ⟨_, hm, rfl, _, rfl⟩, hsz, fun _ ⟨g, e⟩ => e ▸ h g⟩
theorem DSrc.dict {kx vx : PySem.Expr} {x : Str} {scope : Scope} {cl : List (Str × Addr)} {Fin : Shared → List (Str × Value) → List (Addr × Obj) → Prop} {d : Addr} {od : Obj} {kvs₀ : List (Str × Value)} {news : List (Addr × Obj)} {s₁ : Shared}
    (hh : A.handled = none) (F : Fr h₀ L s₁.heap m) (N : News h₀ L s₁.heap news) (hm : (d, od) ∈ news) (hd : od.IsDictOf (SK prog w) kvs₀) (lo : (d == sysModules) = false) (hsz : kvs₀.length ≤ sizeLine)
    (h : ∀ g, DRest prog w A h₀ L m env kx vx x scope cl { s₁ with heap := g } (fun nw => (d, od) ∈ nw) (fun i v => ∃ k y, kvs₀[i]? = some (k, y) ∧ (SK prog w).is k v = true) (Fin { s₁ with heap := g }) kvs₀.length 0 [] news) :
    DSrc prog w A h₀ L m env kx vx x scope cl Fin (.ref d) s₁ := .inr ⟨d, od, kvs₀, news, rfl, hh, F, N, hm, hd, lo, hsz, fun _ ⟨g, e⟩ => e ▸ h g⟩
theorem key_st {d I : Addr} {od : Obj} {kvs : List (Str × Value)} {ep : Nat} (ha : PySem.W.KdkAt (SK prog w) od kvs ep) : ∀ i (h h' : Heap) (o : Obj) (nw : List (Addr × Obj)), (h.IsKeyIter I d i kvs.length ep ∧ h.DictAt (SK prog w) d kvs ep) → h.get? I = some o → h'.get? I = some o → (∀ b o, h₀.get? b = some o → h'.get? b = some o) → News h₀ L h' nw → (d, od) ∈ nw → (h'.IsKeyIter I d i kvs.length ep ∧ h'.DictAt (SK prog w) d kvs ep) :=
  fun i h h' o nw st e e' _ N hm => ⟨st.1.at fun o' q => by rw [e] at q; cases q; exact e', ha.dictAt (N _ hm).1⟩
noncomputable def DFinE (prog : Program) (w : World) (h₀ : Heap) (L : Addr) (m : Str → Option Value) (s : Shared) (Q : Value → Shared → Prop) (kvs : List (Str × Value)) (news : List (Addr × Obj)) : Prop :=
  ∀ D oD h tk, oD.IsDictOf (SK prog w) kvs → Fr h₀ L h m → News h₀ L h ((D, oD) :: news) → Off1 D news → (@LT.lt Nat _ L D) → Q (.ref D) { s with heap := h, toks := tk }
theorem DictComp_U {kx vx iter : PySem.Expr} {x : Str} {px : Pos} {scope : Scope} {cl : List (Str × Addr)} {pos : Pos} {Q : Value → Shared → Prop} (F₀ : Fr h₀ L s.heap m)
    (hclos : closureFor scope env = pure cl) (hcell : ∀ y ∈ scope.names, y.2 ≠ .cell) (hkind : scope.kind = .function)
    (hnames : ∀ y ∈ scope.names, y.2 = .local → scope.names.lookup y.1 = some .local) (hx : scope.names.lookup x = some .local)
    (h : wpAny (model prog w) A (eval iter env) (DSrc prog w A h₀ L m env kx vx x scope cl (fun s₂ => DFinE prog w h₀ L m s₂ Q)) E s)
    (hs : ∀ x, foldedSetIterable iter env x = pure x := by intro _; rfl) :
    wpAny (model prog w) A (eval (.DictComp kx vx [⟨.Name x px, iter, [], 0⟩] scope pos) env) Q E s := by
  rw [arm_eval_DictComp]
  refine wpAny_comprehension_free (use := none) rfl hs hclos hkind hnames (wpAny_mono h (fun xv s₁ h₁ => ?_) fun _ _ e => e)
  have fin : ∀ (s₂ : Shared) D C h tk m' oD kvs news', Fr h₀ L h m → oD.IsDictOf (SK prog w) kvs → News h₀ L h ((D, oD) :: news') → Off1 D news' → h.Ns C m' → h₀.get? C = none → h₀.get? D = none → C ≠ L → (@LT.lt Nat _ L D) → C ≠ D → (∀ p ∈ news', p.1 ≠ C) → DFinE prog w h₀ L m s₂ Q kvs news' →
      compPost (model prog w) A E none Q (.ref D) C (.ok .next) { s₂ with heap := h, toks := tk } := by
    intro s₂ D C h tk m' oD kvs news' F' hD N' o1 hn hC₀ hD₀ hCL hDL hCD offC fin
    refine ⟨m', hn, fun h'' hs'' => fin D oD h'' tk hD (F'.change hs'' hCL hC₀) (fun p hp => ?_) o1 hDL⟩
    refine ⟨hs''.extBut _ _ ?_ (N' p hp).1, (N' p hp).2⟩
    rcases List.mem_cons.mp hp with rfl | hp
    · exact Ne.symm hCD
    · exact offC p hp
  rcases h₁ with ⟨ax, its, news, rfl, hh, F, N, S, hsz, R⟩ | ⟨d, od, kvs₀, news, rfl, hh, F, N, hm, hd, lo, hsz, R⟩
  · have hl := S.list F.keep N
    have hlt : ax < s₁.heap.objs.size := by obtain ⟨_, e, _⟩ := hl; exact Heap.lt_size e
    refine wpAny_pyIter_list hl ?_
    have up : ∀ b o, s₁.heap.get? b = some o → (s₁.heap.push { cls := .type "list_iterator", data := .fields #[.ref ax, .int 0 0] }).get? b = some o := fun b o e => Heap.get?_push_of_some _ e
    refine dblock (RR := fun acc C => compPost (model prog w) A E none Q acc C) (Walks.list hh s₁.heap.objs.size ax (Nat.ne_of_lt hlt) its) hsz (fun i h st => by obtain ⟨o, e, _⟩ := st.1; exact ⟨o, e⟩) list_st hcell hkind hx ⟨⟨_, Heap.get?_push_size _ rfl, rfl, rfl⟩, hl.push _⟩ (fun b hb => ?_)
      (F.keeps up) (N.grown up) (Nat.ne_of_lt F.ns.lt) (next_is_new F) (fun p hp => Nat.ne_of_lt (Heap.lt_size (N p hp).1)) S (R _ ⟨_, rfl⟩) (fin _)
    show b < (s₁.heap.push _).objs.size
    rw [Heap.size_push]
    rcases List.mem_cons.mp hb with rfl | hb
    · exact Nat.lt_succ_self _
    · rw [List.mem_singleton.mp hb]; exact Nat.lt_succ_of_lt hlt
  · obtain ⟨ep, ha⟩ := PySem.W.KdkAt.of hd
    have hlt : d < s₁.heap.objs.size := Heap.lt_size (N _ hm).1
    have hat : s₁.heap.DictAt (SK prog w) d kvs₀ ep := ha.dictAt (N _ hm).1
    refine wpAny_pyIter_dict lo hat ?_
    have up : ∀ b o, s₁.heap.get? b = some o → (s₁.heap.push { cls := .type "dict_keyiterator", data := .fields #[.ref d, .int 0 0, .int kvs₀.length 0, .int ep 0] }).get? b = some o := fun b o e => Heap.get?_push_of_some _ e
    refine dblock (RR := fun acc C => compPost (model prog w) A E none Q acc C) (Walks.dictKeys hh s₁.heap.objs.size d (Nat.ne_of_lt hlt) kvs₀ ep) hsz (fun i h st => by obtain ⟨o, e, _⟩ := st.1; exact ⟨o, e⟩) (key_st ha) hcell hkind hx ⟨⟨_, Heap.get?_push_size _ rfl, rfl, rfl⟩, hat.at' fun o e => up _ _ e⟩ (fun b hb => ?_)
      (F.keeps up) (N.grown up) (Nat.ne_of_lt F.ns.lt) (next_is_new F) (fun p hp => Nat.ne_of_lt (Heap.lt_size (N p hp).1)) hm (R _ ⟨_, rfl⟩) (fin _)
    show b < (s₁.heap.push _).objs.size
    rw [Heap.size_push]
    rcases List.mem_cons.mp hb with rfl | hb
    · exact Nat.lt_succ_self _
    · rw [List.mem_singleton.mp hb]; exact Nat.lt_succ_of_lt hlt
noncomputable def DFinA (prog : Program) (w : World) (h₀ : Heap) (L : Addr) (m : Str → Option Value) (s : Shared) (y : Str) (Q : Flow → Shared → Prop) (kvs : List (Str × Value)) (news : List (Addr × Obj)) : Prop :=
  ∀ D oD h tk, oD.IsDictOf (SK prog w) kvs → Fr h₀ L h (fun z => if z = y then some (.ref D) else m z) → News h₀ L h ((D, oD) :: news) → Off1 D news → (@LT.lt Nat _ L D) → Q .next { s with heap := h, toks := tk }
theorem Assign_DictComp_U {kx vx iter : PySem.Expr} {x y : Str} {px py : Pos} {scope : Scope} {cl : List (Str × Addr)} {pos spos : Pos} {Q : Flow → Shared → Prop} (F₀ : Fr h₀ L s.heap m) (hLe : env.locals = L)
    (hsw : swapsWith (.DictComp kx vx [⟨.Name x px, iter, [], 0⟩] scope pos) (some (.Name y py)) spos.line env = pure true)
    (hclos : closureFor scope env = pure cl) (hcell : ∀ z ∈ scope.names, z.2 ≠ .cell) (hkind : scope.kind = .function)
    (hnames : ∀ z ∈ scope.names, z.2 = .local → scope.names.lookup z.1 = some .local) (hx : scope.names.lookup x = some .local)
    (hy : env.kindOf y = some .local) (hp : (env.scope.kind == .class || (env.scope.kind == .module && env.locals != env.globals)) = false)
    (h : wpAny (model prog w) A (eval iter env) (DSrc prog w A h₀ L m env kx vx x scope cl (fun s₂ => DFinA prog w h₀ L m s₂ y Q)) E s)
    (hs : ∀ x, foldedSetIterable iter env x = pure x := by intro _; rfl) :
    wpAny (model prog w) A (exec (.Assign [.Name y py] (.DictComp kx vx [⟨.Name x px, iter, [], 0⟩] scope pos) spos) env) Q E s := by
  subst hLe
  rw [exec_Assign_Name_used _ _ _ _ hsw]
  refine wpAny_bind (wpAny_standAt (wpAny_bind ?_))
  show wpAny _ A (do let _ ← comprehension (.DictComp kx vx [⟨.Name x px, iter, [], 0⟩] scope pos) scope env _ newDict false (eval iter env) (some (assign (.Name y py) env))) _ _ s
  refine wpAny_bind (wpAny_mono (wpAny_comprehension_free (use := some (assign (.Name y py) env)) (Q := fun _ s' => Q .next s') rfl hs hclos hkind hnames
    (wpAny_mono h (fun xv s₁ h₁ => ?_) fun _ _ e => e)) (fun _ s' hq => wpAny_pure (wpAny_pure hq)) fun _ _ e => e)
  have fin : ∀ (s₂ : Shared) D C h tk m' oD kvs news', Fr h₀ env.locals h m → oD.IsDictOf (SK prog w) kvs → News h₀ env.locals h ((D, oD) :: news') → Off1 D news' → h.Ns C m' → h₀.get? C = none → h₀.get? D = none → C ≠ env.locals → (@LT.lt Nat _ env.locals D) → C ≠ D → (∀ p ∈ news', p.1 ≠ C) → DFinA prog w h₀ env.locals m s₂ y Q kvs news' →
      compPost (model prog w) A (fun e s' => E e s') (some (assign (.Name y py) env)) (fun _ s' => Q .next s') (.ref D) C (.ok .next) { s₂ with heap := h, toks := tk } := by
    intro s₂ D C h tk m' oD kvs news' F' hD N' o1 hn hC₀ hD₀ hCL hDL hCD offC fin
    show wpAny _ A (assign (.Name y py) env (.ref D)) _ _ _
    refine wpAny_assign_Name (wpAny_storeName_local hy F'.ns (fun h₂ hn₂ hs₂ => ?_) hp)
    have hL₀ : h₀.get? env.locals = none := Heap.get?_none_of_le F'.above
    have F₂ : Fr h₀ env.locals h₂ (fun z => if z = y then some (.ref D) else m z) := ⟨hn₂, fun b o e => hs₂.extBut b o (fun q => by rw [q, hL₀] at e; cases e) (F'.keep b o e), F'.above⟩
    refine ⟨m', hn.sameBut hs₂ hCL, fun h'' hs'' => fin D oD h'' _ hD (F₂.change hs'' hCL hC₀) (fun p hp => ?_) o1 hDL⟩
    have z : h₂.get? p.1 = some p.2 := hs₂.extBut _ _ (N' p hp).2.1 (N' p hp).1
    refine ⟨hs''.extBut _ _ ?_ z, (N' p hp).2⟩
    rcases List.mem_cons.mp hp with rfl | hp
    · exact Ne.symm hCD
    · exact offC p hp
  rcases h₁ with ⟨ax, its, news, rfl, hh, F, N, S, hsz, R⟩ | ⟨d, od, kvs₀, news, rfl, hh, F, N, hm, hd, lo, hsz, R⟩
  · have hl := S.list F.keep N
    have hlt : ax < s₁.heap.objs.size := by obtain ⟨_, e, _⟩ := hl; exact Heap.lt_size e
    refine wpAny_pyIter_list hl ?_
    have up : ∀ b o, s₁.heap.get? b = some o → (s₁.heap.push { cls := .type "list_iterator", data := .fields #[.ref ax, .int 0 0] }).get? b = some o := fun b o e => Heap.get?_push_of_some _ e
    refine dblock (Walks.list hh s₁.heap.objs.size ax (Nat.ne_of_lt hlt) its) hsz (fun i h st => by obtain ⟨o, e, _⟩ := st.1; exact ⟨o, e⟩) list_st hcell hkind hx ⟨⟨_, Heap.get?_push_size _ rfl, rfl, rfl⟩, hl.push _⟩ (fun b hb => ?_)
      (F.keeps up) (N.grown up) (Nat.ne_of_lt F.ns.lt) (next_is_new F) (fun p hp => Nat.ne_of_lt (Heap.lt_size (N p hp).1)) S (R _ ⟨_, rfl⟩) (fin _)
    show b < (s₁.heap.push _).objs.size
    rw [Heap.size_push]
    rcases List.mem_cons.mp hb with rfl | hb
    · exact Nat.lt_succ_self _
    · rw [List.mem_singleton.mp hb]; exact Nat.lt_succ_of_lt hlt
  · obtain ⟨ep, ha⟩ := PySem.W.KdkAt.of hd
    have hlt : d < s₁.heap.objs.size := Heap.lt_size (N _ hm).1
    have hat : s₁.heap.DictAt (SK prog w) d kvs₀ ep := ha.dictAt (N _ hm).1
    refine wpAny_pyIter_dict lo hat ?_
    have up : ∀ b o, s₁.heap.get? b = some o → (s₁.heap.push { cls := .type "dict_keyiterator", data := .fields #[.ref d, .int 0 0, .int kvs₀.length 0, .int ep 0] }).get? b = some o := fun b o e => Heap.get?_push_of_some _ e
    refine dblock (Walks.dictKeys hh s₁.heap.objs.size d (Nat.ne_of_lt hlt) kvs₀ ep) hsz (fun i h st => by obtain ⟨o, e, _⟩ := st.1; exact ⟨o, e⟩) (key_st ha) hcell hkind hx ⟨⟨_, Heap.get?_push_size _ rfl, rfl, rfl⟩, hat.at' fun o e => up _ _ e⟩ (fun b hb => ?_)
      (F.keeps up) (N.grown up) (Nat.ne_of_lt F.ns.lt) (next_is_new F) (fun p hp => Nat.ne_of_lt (Heap.lt_size (N p hp).1)) hm (R _ ⟨_, rfl⟩) (fin _)
    show b < (s₁.heap.push _).objs.size
    rw [Heap.size_push]
    rcases List.mem_cons.mp hb with rfl | hb
    · exact Nat.lt_succ_self _
    · rw [List.mem_singleton.mp hb]; exact Nat.lt_succ_of_lt hlt
end
end
section
open PySem PyProof.Rows
-- SP
/-! the plain law: no program in sight -/
noncomputable abbrev sK : KeyOrd := PyProof.Rows.strKind.toKeyOrd
noncomputable def iK : KeyOrd where
  α := Int
  blt a b := decide (a < b)
  irrefl a := by simp
  trans a b c h1 h2 := by simp only [decide_eq_true_eq] at *; exact Int.lt_trans h1 h2
  negTrans a b c h := by simp only [decide_eq_true_eq] at *; omega
  total a b h1 h2 := by simp only [decide_eq_false_iff_not] at *; omega
noncomputable def pairK (A B : KeyOrd) : KeyOrd where
  α := A.α × B.α
  blt x y := A.blt x.1 y.1 || (!A.blt y.1 x.1 && B.blt x.2 y.2)
  irrefl a := by simp [A.irrefl, B.irrefl]
  trans a b c h1 h2 := by
    simp only [Bool.or_eq_true, Bool.and_eq_true, Bool.not_eq_true'] at *
    rcases h1 with h1 | ⟨h1, h1'⟩ <;> rcases h2 with h2 | ⟨h2, h2'⟩
    · exact .inl (A.trans _ _ _ h1 h2)
    · exact .inl (KeyOrd.klt_of_klt_of_kle h1 h2)
    · exact .inl (KeyOrd.klt_of_kle_of_klt h1 h2)
    · exact .inr ⟨KeyOrd.kle_trans h1 h2, B.trans _ _ _ h1' h2'⟩
  negTrans a b c h := by
    simp only [Bool.or_eq_true, Bool.and_eq_true, Bool.not_eq_true'] at *
    cases hab : A.blt a.1 b.1 with
    | true => exact .inl (.inl rfl)
    | false =>
      cases hbc : A.blt b.1 c.1 with
      | true => exact .inr (.inl rfl)
      | false =>
        have hca : A.kle c.1 a.1 := KeyOrd.kle_trans (b := b.1) hbc hab
        rcases h with h | ⟨h, h'⟩
        · exact absurd h (by rw [show A.blt a.1 c.1 = false from hca]; simp)
        · have e1 : a.1 = b.1 := KeyOrd.kle_antisymm (KeyOrd.kle_trans (b := c.1) h hbc) hab
          have e2 : b.1 = c.1 := KeyOrd.kle_antisymm (KeyOrd.kle_trans (b := a.1) hab h) hbc
          rcases B.negTrans a.2 b.2 c.2 h' with q | q
          · exact .inl (.inr ⟨by rw [e1, A.irrefl], q⟩)
          · exact .inr (.inr ⟨by rw [e2, A.irrefl], q⟩)
  total a b h1 h2 := by
    simp only [Bool.or_eq_false_iff, Bool.and_eq_false_iff, Bool.not_eq_false'] at h1 h2
    have e1 : a.1 = b.1 := A.total _ _ h1.1 h2.1
    have e2 : a.2 = b.2 := B.total _ _ (h1.2.resolve_left (by rw [h2.1]; simp)) (h2.2.resolve_left (by rw [h1.1]; simp))
    exact Prod.ext e1 e2
noncomputable def Srt {β : Type} (O : KeyOrd) (f : β → O.α) (l : List β) : Prop := l.Pairwise fun a b => O.kle (f a) (f b)
theorem srt_unique {β : Type} {O : KeyOrd} {f : β → O.α} (hf : ∀ a b, f a = f b → a = b) {l₁ l₂ : List β} (p : l₁.Perm l₂) (h1 : Srt O f l₁) (h2 : Srt O f l₂) : l₁ = l₂ :=
  List.Perm.eq_of_pairwise (le := fun a b => O.kle (f a) (f b)) (fun a b _ _ x y => hf a b (KeyOrd.kle_antisymm x y)) h1 h2 p
noncomputable def keyS (x : Str) : List Nat := x.cps.toList
noncomputable def keyP (p : Str × Int) : (pairK sK iK).α := (keyS p.1, p.2)
noncomputable def keyG (p : Str × Str) : (pairK sK sK).α := (keyS p.1, keyS p.2)
theorem keyS_inj (a b : Str) (h : keyS a = keyS b) : a = b := Str.ext' (Array.toList_inj.mp h)
theorem keyP_inj (a b : Str × Int) (h : keyP a = keyP b) : a = b := Prod.ext (keyS_inj _ _ (congrArg Prod.fst h)) (show (keyP a).2 = (keyP b).2 from congrArg (fun z => z.2) h)
theorem keyG_inj (a b : Str × Str) (h : keyG a = keyG b) : a = b := Prod.ext (keyS_inj _ _ (congrArg Prod.fst h)) (keyS_inj _ _ (congrArg Prod.snd h))
theorem srt_of_rising : ∀ (r : List Str) (x : Str), risingS x r = true → Srt sK keyS (x :: r)
  | [], _, _ => List.pairwise_singleton _ _
  | y :: r, x, h => by
    rw [risingS, Bool.and_eq_true, Bool.not_eq_true'] at h
    have ih := srt_of_rising r y h.2
    have hxy : sK.kle (keyS x) (keyS y) := (ltCps_eq _ _).symm.trans h.1
    refine List.pairwise_cons.mpr ⟨fun z hz => ?_, ih⟩
    rcases List.mem_cons.mp hz with rfl | hz
    · exact hxy
    · exact KeyOrd.kle_trans hxy ((List.pairwise_cons.mp ih).1 z hz)
theorem srt_of_sortedS {ss : List Str} (h : sortedS ss = true) : Srt sK keyS ss := by
  cases ss with
  | nil => exact .nil
  | cons x r => exact srt_of_rising r x h
/-- all partitions of the wanted topics -/
noncomputable def partsOf (cl : List (Str × List Int)) (ss : List Str) : List (Str × Int) := cl.flatMap fun c => if c.1 ∈ ss then c.2.map fun n => (c.1, n) else []
noncomputable def SeqOf (cl : List (Str × List Int)) (ss : List Str) (seq : List (Str × Int)) : Prop := seq.Perm (partsOf cl ss) ∧ Srt (pairK sK iK) keyP seq
theorem SeqOf.unique {cl : List (Str × List Int)} {ss : List Str} {a b : List (Str × Int)} (h1 : SeqOf cl ss a) (h2 : SeqOf cl ss b) : a = b := srt_unique keyP_inj (h1.1.trans h2.1.symm) h1.2 h2.2
/-- the members in their order: (own id, name) -/
noncomputable def stats (gn : List (Option Str × Str)) : List (Str × Str) := gn.filterMap fun p => p.1.map fun g => (g, p.2)
noncomputable def rests (gn : List (Option Str × Str)) : List Str := gn.filterMap fun p => match p.1 with | none => some p.2 | some _ => none
noncomputable def OrderOf (gn : List (Option Str × Str)) (order : List Str) : Prop := ∃ a b, a.Perm (stats gn) ∧ Srt (pairK sK sK) keyG a ∧ b.Perm (rests gn) ∧ Srt sK keyS b ∧ order = a.map (·.2) ++ b
theorem OrderOf.unique {gn : List (Option Str × Str)} {x y : List Str} (h1 : OrderOf gn x) (h2 : OrderOf gn y) : x = y := by
  obtain ⟨a, b, p1, q1, p2, q2, rfl⟩ := h1
  obtain ⟨c, d, p3, q3, p4, q4, rfl⟩ := h2
  rw [srt_unique keyG_inj (p1.trans p3.symm) q1 q3, srt_unique keyS_inj (p2.trans p4.symm) q2 q4]
noncomputable abbrev Rows1 := List (Str × List Int)
/-- one more number of a topic -/
noncomputable def addTo : Rows1 → Str → Int → Rows1
  | [], t, n => [(t, [n])]
  | (u, l) :: r, t, n => if u = t then (u, l ++ [n]) :: r else (u, l) :: addTo r t n
noncomputable def giveTo : List (Str × Rows1) → Str → Str → Int → List (Str × Rows1)
  | [], nm, t, n => [(nm, addTo [] t n)]
  | (u, g) :: r, nm, t, n => if u = nm then (u, addTo g t n) :: r else (u, g) :: giveTo r nm t n
noncomputable def rowOf : List (Str × Rows1) → Str → Rows1
  | [], _ => []
  | (u, g) :: r, nm => if u = nm then g else rowOf r nm
theorem rowOf_give : ∀ (D : List (Str × Rows1)) (nm t : Str) (n : Int) (x : Str), rowOf (giveTo D nm t n) x = if nm = x then addTo (rowOf D nm) t n else rowOf D x
  | [], nm, t, n, x => by by_cases h : nm = x <;> simp [giveTo, rowOf, h]
  | (u, g) :: r, nm, t, n, x => by
    rw [giveTo]
    by_cases h : u = nm
    · subst h
      rw [if_pos rfl, rowOf, rowOf, if_pos rfl]
      by_cases hx : u = x
      · rw [if_pos hx, if_pos hx]
      · rw [if_neg hx, if_neg hx, rowOf, if_neg hx]
    · rw [if_neg h, rowOf, rowOf_give r nm t n x, rowOf, if_neg h, rowOf]
      by_cases hx : nm = x
      · subst hx; rw [if_neg h, if_pos rfl, if_pos rfl]
      · rw [if_neg hx, if_neg hx]
noncomputable def nthOf (order : List Str) (i : Nat) : Str := order.getD (i % order.length) Str.empty
noncomputable def dealN (order : List Str) (seq : List (Str × Int)) (D₀ : List (Str × Rows1)) : Nat → List (Str × Rows1)
  | 0 => D₀
  | i + 1 => match seq[i]? with | some p => giveTo (dealN order seq D₀ i) (nthOf order i) p.1 p.2 | none => dealN order seq D₀ i
theorem dealN_succ {order : List Str} {seq : List (Str × Int)} {D₀ : List (Str × Rows1)} {i : Nat} {t : Str} {n : Int} (h : seq[i]? = some (t, n)) : dealN order seq D₀ (i + 1) = giveTo (dealN order seq D₀ i) (nthOf order i) t n := by
  rw [dealN, h]
theorem deal_rows {order : List Str} {seq : List (Str × Int)} {D₀ D₁ : List (Str × Rows1)} (h : ∀ x, rowOf D₀ x = rowOf D₁ x) : ∀ (i : Nat) (x : Str), rowOf (dealN order seq D₀ i) x = rowOf (dealN order seq D₁ i) x
  | 0, x => h x
  | i + 1, x => by
    rw [dealN, dealN]
    cases seq[i]? with
    | none => exact deal_rows h i x
    | some p =>
      dsimp only
      rw [rowOf_give, rowOf_give, deal_rows h i, deal_rows h i]
theorem rowOf_empty (names : List Str) (x : Str) : rowOf (names.map fun y => (y, ([] : Rows1))) x = [] := by
  induction names with
  | nil => rfl
  | cons y r ih => rw [List.map_cons, rowOf]; split <;> first | rfl | exact ih
/-- how many numbers -/
noncomputable def szOf : Rows1 → Nat
  | [] => 0
  | (_, l) :: r => l.length + szOf r
theorem szOf_add : ∀ (g : Rows1) (t : Str) (n : Int), szOf (addTo g t n) = szOf g + 1
  | [], _, _ => rfl
  | (u, l) :: r, t, n => by
    rw [addTo]
    by_cases h : u = t
    · rw [if_pos h, szOf, szOf, List.length_append, List.length_singleton]; omega
    · rw [if_neg h, szOf, szOf, szOf_add r t n]; omega
theorem step_div (i m k : Nat) (hk : k < m) : (i + 1 + m - 1 - k) / m = (i + m - 1 - k) / m + if i % m = k then 1 else 0 := by
  have hm : 0 < m := by omega
  have e : i + 1 + m - 1 - k = (i + m - 1 - k) + 1 := by omega
  rw [e, Nat.add_div hm]
  have h1 : 1 / m + (if m ≤ (i + m - 1 - k) % m + 1 % m then 1 else 0) = if i % m = k then 1 else 0 := by
    by_cases hm1 : m = 1
    · subst hm1
      have : k = 0 := by omega
      subst this
      simp [Nat.mod_one]
    · have hd : 1 / m = 0 := Nat.div_eq_of_lt (by omega)
      have hmo : 1 % m = 1 := Nat.mod_eq_of_lt (by omega)
      rw [hd, hmo, Nat.zero_add]
      have hi := Nat.mod_lt i hm
      have key : (i + m - 1 - k) % m = if k < i % m then i % m - 1 - k else i % m + m - 1 - k := by
        have e2 : i + m - 1 - k = m * (i / m) + (i % m + m - 1 - k) := by have := Nat.div_add_mod i m; omega
        rw [e2, Nat.mul_add_mod]
        split
        · rw [show i % m + m - 1 - k = m + (i % m - 1 - k) by omega, Nat.add_mod_left]
          exact Nat.mod_eq_of_lt (by omega)
        · exact Nat.mod_eq_of_lt (by omega)
      rw [key]
      by_cases hki : k < i % m
      · rw [if_pos hki, if_neg (by omega), if_neg (by omega)]
      · rw [if_neg hki]
        by_cases hk2 : i % m = k
        · rw [if_pos hk2, if_pos (by omega)]
        · rw [if_neg hk2, if_neg (by omega)]
  omega
theorem nth_eq {order : List Str} (hn : order.Nodup) {k : Nat} (hk : k < order.length) (i : Nat) : nthOf order i = order[k] ↔ i % order.length = k := by
  have hl : i % order.length < order.length := Nat.mod_lt _ (by omega)
  have e : nthOf order i = order[i % order.length] := by rw [nthOf, List.getD_eq_getElem?_getD, List.getElem?_eq_getElem hl]; rfl
  rw [e]
  constructor
  · intro h
    have hp := List.pairwise_iff_getElem.mp hn
    rcases Nat.lt_trichotomy (i % order.length) k with q | q | q
    · exact absurd h (hp _ _ hl hk q)
    · exact q
    · exact absurd h.symm (hp _ _ hk hl q)
  · intro h
    subst h; rfl
/-- each is told its share -/
theorem deal_size {order : List Str} (hn : order.Nodup) {seq : List (Str × Int)} {D₀ : List (Str × Rows1)} (h0 : ∀ x, rowOf D₀ x = []) {k : Nat} (hk : k < order.length) : ∀ i, i ≤ seq.length → szOf (rowOf (dealN order seq D₀ i) order[k]) = (i + order.length - 1 - k) / order.length
  | 0, _ => by
    rw [dealN, h0, szOf]
    exact (Nat.div_eq_of_lt (by omega)).symm
  | i + 1, hi => by
    have ih := deal_size hn h0 hk i (by omega) (seq := seq)
    rw [dealN_succ (t := seq[i].1) (n := seq[i].2) (List.getElem?_eq_getElem (by omega)), rowOf_give, step_div i order.length k hk]
    by_cases h : nthOf order i = order[k]
    · rw [if_pos h, szOf_add, h, ih, if_pos ((nth_eq hn hk i).mp h)]
    · rw [if_neg h, ih, if_neg fun q => h ((nth_eq hn hk i).mpr q)]; rfl
theorem deal_near {order : List Str} (hn : order.Nodup) {seq : List (Str × Int)} {D₀ : List (Str × Rows1)} (h0 : ∀ x, rowOf D₀ x = []) {a b : Str} (ha : a ∈ order) (hb : b ∈ order) :
    szOf (rowOf (dealN order seq D₀ seq.length) a) ≤ szOf (rowOf (dealN order seq D₀ seq.length) b) + 1 := by
  obtain ⟨j, hj, rfl⟩ := List.mem_iff_getElem.mp ha
  obtain ⟨k, hk, rfl⟩ := List.mem_iff_getElem.mp hb
  rw [deal_size hn h0 hj _ (Nat.le_refl _), deal_size hn h0 hk _ (Nat.le_refl _)]
  have hm : 0 < order.length := by omega
  calc (seq.length + order.length - 1 - j) / order.length ≤ (seq.length + order.length - 1 - k + order.length) / order.length := Nat.div_le_div_right (by omega)
    _ = (seq.length + order.length - 1 - k) / order.length + 1 := Nat.add_div_right _ hm
theorem sum_one {names : List Str} (hn : names.Nodup) {x : Str} (hx : x ∈ names) {f g : Str → Nat} (h1 : f x = g x + 1) (h2 : ∀ y, y ≠ x → f y = g y) : (names.map f).sum = (names.map g).sum + 1 := by
  induction names with
  | nil => nomatch hx
  | cons y r ih =>
    rw [List.map_cons, List.map_cons, List.sum_cons, List.sum_cons]
    have hy := List.nodup_cons.mp hn
    rcases List.mem_cons.mp hx with rfl | hx
    · have e : r.map f = r.map g := List.map_congr_left fun z hz => h2 z fun q => hy.1 (q ▸ hz)
      rw [e, h1]; omega
    · rw [ih hy.2 hx, h2 y fun q => hy.1 (q ▸ hx)]; omega
theorem sum_zero : ∀ l : List Str, (l.map fun _ => (0 : Nat)).sum = 0
  | [] => rfl
  | _ :: r => by rw [List.map_cons, List.sum_cons, sum_zero r]
theorem deal_sum {order names : List Str} (ho : order ≠ []) (hn : names.Nodup) (hsub : ∀ x ∈ order, x ∈ names) {seq : List (Str × Int)} {D₀ : List (Str × Rows1)} (h0 : ∀ x, rowOf D₀ x = []) : ∀ i, i ≤ seq.length →
    (names.map fun x => szOf (rowOf (dealN order seq D₀ i) x)).sum = i
  | 0, _ => by
    have : (names.map fun x => szOf (rowOf (dealN order seq D₀ 0) x)) = names.map fun _ => 0 := List.map_congr_left fun x _ => by rw [dealN, h0]; rfl
    rw [this]
    exact sum_zero names
  | i + 1, hi => by
    have ih := deal_sum ho hn hsub h0 i (by omega) (seq := seq)
    have hl : 0 < order.length := List.length_pos_iff.mpr ho
    have hm : nthOf order i ∈ names := hsub _ (by
      have := Nat.mod_lt i hl
      rw [nthOf, List.getD_eq_getElem?_getD, List.getElem?_eq_getElem this]
      exact List.getElem_mem _)
    rw [dealN_succ (t := seq[i].1) (n := seq[i].2) (List.getElem?_eq_getElem (by omega))]
    conv => rhs; rw [← ih]
    exact sum_one hn hm (by rw [rowOf_give, if_pos rfl, szOf_add]) fun y hy => by rw [rowOf_give, if_neg (Ne.symm hy)]
/-- what a member is told, its topics in order -/
noncomputable def numsOf : Rows1 → Str → List Int
  | [], _ => []
  | (u, l) :: r, t => if u = t then l else numsOf r t
noncomputable def RowsOf (g rows : Rows1) : Prop := ∃ ks : List Str, ks.Perm (g.map (·.1)) ∧ Srt sK keyS ks ∧ rows = ks.map fun t => (t, numsOf g t)
theorem RowsOf.unique {g a b : Rows1} (h1 : RowsOf g a) (h2 : RowsOf g b) : a = b := by
  obtain ⟨k, p1, q1, rfl⟩ := h1
  obtain ⟨l, p2, q2, rfl⟩ := h2
  rw [srt_unique keyS_inj (p1.trans p2.symm) q1 q2]
theorem add_keys : ∀ (g : Rows1) (t : Str) (n : Int), (addTo g t n).map (·.1) = if t ∈ g.map (·.1) then g.map (·.1) else g.map (·.1) ++ [t]
  | [], _, _ => rfl
  | (u, l) :: r, t, n => by
    rw [addTo]
    by_cases h : u = t
    · subst h; simp
    · rw [if_neg h, List.map_cons, List.map_cons, add_keys r t n]
      by_cases hm : t ∈ r.map (·.1)
      · rw [if_pos hm, if_pos (List.mem_cons_of_mem _ hm)]
      · rw [if_neg hm, if_neg (by rw [List.mem_cons, not_or]; exact ⟨fun e => h e.symm, hm⟩)]; rfl
theorem add_nodup {g : Rows1} (h : (g.map (·.1)).Nodup) (t : Str) (n : Int) : ((addTo g t n).map (·.1)).Nodup := by
  rw [add_keys]
  split
  · exact h
  · rename_i hn
    rw [List.nodup_append]
    exact ⟨h, by simp, fun a ha b hb => by rw [List.mem_singleton.mp hb]; exact fun e => hn (e ▸ ha)⟩
theorem deal_nodup {order : List Str} {seq : List (Str × Int)} {D₀ : List (Str × Rows1)} (h0 : ∀ x, rowOf D₀ x = []) : ∀ (i : Nat) (x : Str), ((rowOf (dealN order seq D₀ i) x).map (·.1)).Nodup
  | 0, x => by rw [dealN, h0]; exact .nil
  | i + 1, x => by
    rw [dealN]
    cases seq[i]? with
    | none => exact deal_nodup h0 i x
    | some p =>
      dsimp only
      rw [rowOf_give]
      split
      · exact add_nodup (deal_nodup h0 i _) _ _
      · exact deal_nodup h0 i x
theorem nums_here {g : Rows1} (h : (g.map (·.1)).Nodup) : g.map (fun c => numsOf g c.1) = g.map (·.2) := by
  induction g with
  | nil => rfl
  | cons c r ih =>
    obtain ⟨u, l⟩ := c
    have hn := List.nodup_cons.mp h
    rw [List.map_cons, List.map_cons, numsOf, if_pos rfl]
    congr 1
    rw [← ih hn.2]
    refine List.map_congr_left fun c hc => ?_
    rw [numsOf, if_neg]
    exact fun e => hn.1 (e ▸ List.mem_map.mpr ⟨c, hc, rfl⟩)
theorem szOf_eq (g : Rows1) : szOf g = (g.map fun c => c.2.length).sum := by
  induction g with
  | nil => rfl
  | cons c r ih => rw [szOf, List.map_cons, List.sum_cons, ih]
theorem rows_size {g rows : Rows1} (hn : (g.map (·.1)).Nodup) (h : RowsOf g rows) : szOf rows = szOf g := by
  obtain ⟨ks, p, -, rfl⟩ := h
  rw [szOf_eq, szOf_eq, List.map_map]
  have e1 := (p.map fun t => (numsOf g t).length).sum_nat
  rw [show (fun c : Str × List Int => c.2.length) ∘ (fun t => (t, numsOf g t)) = fun t => (numsOf g t).length from rfl, e1, List.map_map]
  have := congrArg (fun l => (l.map List.length).sum) (nums_here hn)
  simpa [List.map_map, Function.comp_def] using this
end
-- K7
/-- rows of a told assignment, as data -/
noncomputable def rowD (r : Str × List Int) : Dat := .tuple [.str r.1, .list (r.2.map Dat.int)]
noncomputable def pairD (p : Str × Int) : Dat := .tuple [.str p.1, .int p.2]
section
variable {prog : Program} {w : World} {A : Around} {R : Result → Shared → Prop} {elt it1 it2 : PySem.Expr} {tg1 tg2 : PySem.Expr} {scope : Scope} {pos : Pos} {it acc : Value} {env : Env}
theorem loop_in (I : Nat → Shared → Prop)
    (turn : ∀ n s, I n s → wpAny (model prog w) A (pyNext it) (fun r s₁ => match r with
      | none => R (.ok .next) s₁
      | some v => wpAny (model prog w) A (assign tg2 env v) (fun _ s₂ => wpAny (model prog w) A (eval elt env) (fun x s₃ =>
          wpAny (model prog w) A (call (.builtin "list.append") [acc, x]) (fun _ s₄ => ∃ m, m < n ∧ I m s₄) (fun _ _ => False) s₃) (fun _ _ => False) s₂) (fun _ _ => False) s₁) (fun _ _ => False) s)
    (n : Nat) {s : Shared} (h : I n s) (ht : ∀ v, letOwnedTupleGo tg2 it v = pure ()) :
    codeAny (model prog w) A (.compLoop (.ListComp elt [⟨tg1, it1, [], 0⟩, ⟨tg2, it2, [], 0⟩] scope pos) 1 it acc env) R s := by
  refine codeAny_loop rfl I (fun n s hI => ?_) n h
  show wpAny _ _ ((compTurn (.ListComp elt [⟨tg1, it1, [], 0⟩, ⟨tg2, it2, [], 0⟩] scope pos) 1 it acc env).onRaise (fun x => do noteFrame x env; theTreesLotGoes x)) _ _ s
  refine wpAny_noted ?_
  show wpAny _ _ (standAt it2.pos >>= fun _ => pyNext it >>= _) _ _ s
  refine wpAny_bind (wpAny_standAt (wpAny_bind (wpAny_mono (turn n s hI) (fun r s₁ h₁ => ?_) fun _ _ x => x.elim)))
  cases r with
  | none => exact wpAny_pure h₁
  | some v =>
    refine wpAny_bind (wpAny_of_eq (ht v) ?_)
    refine wpAny_bind (wpAny_mono h₁ (fun _ s₂ h₂ => ?_) fun _ _ x => x.elim)
    refine wpAny_bind (wpAny_mono (wpAny_tests_nil (Q := fun ok s₃ => ok = true ∧ s₃ = s₂) ⟨rfl, rfl⟩) (fun ok s₃ h₃ => ?_) fun _ _ h' => h')
    obtain ⟨rfl, rfl⟩ := h₃
    refine wpAny_bind ?_
    refine wpAny_bind (wpAny_mono h₂ (fun x s₄ h₄ => ?_) fun _ _ x => x.elim)
    exact wpAny_bind (wpAny_mono h₄ (fun _ s₅ h₅ => wpAny_pure (wpAny_pure ⟨rfl, h₅⟩)) fun _ _ x => x.elim)
theorem loop_out (I : Nat → Shared → Prop)
    (turn : ∀ n s, I n s → wpAny (model prog w) A (pyNext it) (fun r s₁ => match r with
      | none => R (.ok .next) s₁
      | some v => wpAny (model prog w) A (letOwnedTupleGo tg1 it v) (fun _ s₁' => wpAny (model prog w) A (assign tg1 env v) (fun _ s₂ => wpAny (model prog w) A (eval it2 env) (fun x s₃ =>
          wpAny (model prog w) A (pyIter x) (fun i2 s₄ => codeAny (model prog w) (A.mark none) (.compStart (.ListComp elt [⟨tg1, it1, [], 0⟩, ⟨tg2, it2, [], 0⟩] scope pos) 1 i2 acc env) (fun r s₅ => match r with | .ok _ => ∃ m, m < n ∧ I m s₅ | .error _ => False) s₄) (fun _ _ => False) s₃) (fun _ _ => False) s₂) (fun _ _ => False) s₁') (fun _ _ => False) s₁) (fun _ _ => False) s)
    (n : Nat) {s : Shared} (h : I n s) (hs : ∀ x, foldedSetIterable it2 env x = pure x) :
    codeAny (model prog w) A (.compLoop (.ListComp elt [⟨tg1, it1, [], 0⟩, ⟨tg2, it2, [], 0⟩] scope pos) 0 it acc env) R s := by
  refine codeAny_loop rfl I (fun n s hI => ?_) n h
  show wpAny _ _ ((compTurn (.ListComp elt [⟨tg1, it1, [], 0⟩, ⟨tg2, it2, [], 0⟩] scope pos) 0 it acc env).onRaise (fun x => do noteFrame x env; theTreesLotGoes x)) _ _ s
  refine wpAny_noted ?_
  show wpAny _ _ (standAt it1.pos >>= fun _ => pyNext it >>= _) _ _ s
  refine wpAny_bind (wpAny_standAt (wpAny_bind (wpAny_mono (turn n s hI) (fun r s₁ h₁ => ?_) fun _ _ x => x.elim)))
  cases r with
  | none => exact wpAny_pure h₁
  | some v =>
    refine wpAny_bind (wpAny_mono h₁ (fun _ s₂ h₂ => ?_) fun _ _ x => x.elim)
    refine wpAny_bind (wpAny_mono h₂ (fun _ s₂ h₂ => ?_) fun _ _ x => x.elim)
    refine wpAny_bind (wpAny_mono (wpAny_tests_nil (Q := fun ok s₃ => ok = true ∧ s₃ = s₂) ⟨rfl, rfl⟩) (fun ok s₃ h₃ => ?_) fun _ _ h' => h')
    obtain ⟨rfl, rfl⟩ := h₃
    refine wpAny_bind (wpAny_mono h₂ (fun x s₄ h₄ => ?_) fun _ _ x => x.elim)
    refine wpAny_bind (wpAny_standAt ?_)
    show wpAny _ _ (foldedSetIterable it2 env x >>= _) _ _ _
    refine wpAny_bind (wpAny_of_eq (hs x) ?_)
    refine wpAny_bind (wpAny_holding (wpAny_mono h₄ (fun i2 s₅ h₅ => ?_) fun _ _ x => x.elim))
    refine wpAny_bind (wpAny_runOwn (codeAny_mono h₅ fun r s₆ h₆ => ?_))
    cases r with
    | ok f => exact wpAny_pure ⟨rfl, h₆⟩
    | error e => exact h₆.elim
theorem start_in {i2 : Value} {s : Shared} (hi : ∀ (Q' : Value → Shared → Prop), Q' i2 s → wpAny (model prog w) A (pyIter i2) Q' (fun _ _ => False) s)
    (h : codeAny (model prog w) A (.compLoop (.ListComp elt [⟨tg1, it1, [], 0⟩, ⟨tg2, it2, [], 0⟩] scope pos) 1 i2 acc env) R s) :
    codeAny (model prog w) A (.compStart (.ListComp elt [⟨tg1, it1, [], 0⟩, ⟨tg2, it2, [], 0⟩] scope pos) 1 i2 acc env) R s := by
  refine codeAny_of_tree ?_
  show wpAny _ _ ((compStart (.ListComp elt [⟨tg1, it1, [], 0⟩, ⟨tg2, it2, [], 0⟩] scope pos) 1 i2 acc env).onRaise (fun x => do noteFrame x env; standAt theWindowsPlace)) _ _ s
  refine wpAny_notedAt ?_
  unfold compStart
  show wpAny _ _ (ask >>= _) _ _ s
  refine wpAny_bind (wpAny_askSetting (wpAny_ite ?_))
  split
  · exact wpAny_pure (And.intro rfl h)
  · refine wpAny_bind (wpAny_rule ?_)
    show wpAny _ _ (standAt it2.pos >>= _) _ _ s
    refine wpAny_bind (wpAny_standAt (wpAny_bind (wpAny_mono (hi (fun v s' => v = i2 ∧ s' = s) ⟨rfl, rfl⟩) (fun it' s' e => ?_) fun _ _ x => x.elim)))
    obtain ⟨rfl, rfl⟩ := e
    exact wpAny_pure (And.intro rfl h)
end
noncomputable def pairT (t : Str) (ns : List Int) : List Dat := ns.map fun n => Dat.tuple [.str t, .int n]
section
open LCg
variable {prog : Program} {w : World} {A : Around} {R : Result → Shared → Prop} {s : Shared} {h₀ : Heap} {L : Addr} {m : Str → Option Value} {env : Env} {a c : Str} {p1 p2 p3 pc : Pos} {k2 : Nat} {it1 it2 tg1 : PySem.Expr} {scope : Scope} {cl : List (Str × Addr)} {pos : Pos}
theorem inner2 {I2 D C l : Addr} {us : List Value} {ns : List Int} {n : Nat} {t : Str} {tt : Tok} {ys₀ : List Value} {ds : List Dat} {news₀ cst : List (Addr × Obj)} {m₀ : Str → Option Value}
    (hh : A.handled = none) (hkind : scope.kind = .function) (ha : scope.names.lookup a = some .local) (hc : scope.names.lookup c = some .local) (hac : a ≠ c) (hda : (a == ("__debug__" : Str)) = false) (hdc : (c == ("__debug__" : Str)) = false)
    (F : Fr h₀ L s.heap m) (N : News h₀ L s.heap ((D, lst ys₀) :: (cst ++ news₀))) (hn : s.heap.Ns C m₀) (hma : m₀ a = some (.str t tt)) (hit : s.heap.IsListIter I2 l 0) (hl : (l, listOf us.toArray n) ∈ news₀) (hi : IntsAre us ns)
    (off : ∀ p ∈ cst ++ news₀, p.1 ≠ I2 ∧ p.1 ≠ C ∧ p.1 ≠ D) (hcn : ∀ q ∈ cst, ∀ p ∈ news₀, p.1 ≠ q.1) (hDC : D ≠ C) (hDI : D ≠ I2) (hCI : C ≠ I2) (hIL : I2 ≠ L) (hCL : C ≠ L) (hI₀ : h₀.get? I2 = none) (hC₀ : h₀.get? C = none) (hd : DatAll news₀ ys₀ ds) (hsz : ys₀.length + ns.length ≤ 1000)
    (hR : ∀ h' tk ys news m', Fr h₀ L h' m → News h₀ L h' ((D, lst ys) :: (cst ++ news)) → h'.Ns C m' → (∀ p ∈ news₀, p ∈ news) → (∀ p ∈ news, p.1 ≠ C ∧ p.1 ≠ D) → (∀ q ∈ cst, ∀ p ∈ news, p.1 ≠ q.1) → DatAll news ys (ds ++ pairT t ns) → ys.length = ys₀.length + ns.length → R (.ok .next) { s with heap := h', toks := tk }) :
    codeAny (model prog w) A (.compLoop (.ListComp (.Tuple [.Name a p1, .Name c p2] k2 p3) [⟨tg1, it1, [], 0⟩, ⟨.Name c pc, it2, [], 0⟩] scope pos) 1 (.ref I2) (.ref D) (compEnvC scope cl C env)) R s := by
  have hlu : us.length = ns.length := hi.length
  have hne : l ≠ I2 := (off _ (List.mem_append_right _ hl)).1
  have W := Walks.list (prog := prog) (w := w) hh I2 l hne us.toArray
  rw [show us.toArray.size = ns.length by rw [List.size_toArray, hlu]] at W
  refine loop_in (fun k s' => ∃ h' tk j ys news m', s' = { s with heap := h', toks := tk } ∧ j ≤ ns.length ∧ k = ns.length + 1 - j ∧ h'.IsListIter I2 l j ∧ Fr h₀ L h' m ∧ h'.Ns C m' ∧ m' a = some (.str t tt) ∧ News h₀ L h' ((D, lst ys) :: (cst ++ news)) ∧ (∀ p ∈ news₀, p ∈ news) ∧ ((∀ p ∈ cst ++ news, p.1 ≠ I2 ∧ p.1 ≠ C ∧ p.1 ≠ D) ∧ ∀ q ∈ cst, ∀ p ∈ news, p.1 ≠ q.1) ∧ DatAll news ys (ds ++ pairT t (ns.take j)) ∧ ys.length = ys₀.length + j) ?_ (ns.length + 1)
    ⟨s.heap, s.toks, 0, ys₀, news₀, m₀, rfl, Nat.zero_le _, rfl, hit, F, hn, hma, N, fun _ h => h, ⟨off, hcn⟩, by rw [List.take_zero, pairT, List.map_nil, List.append_nil]; exact hd, rfl⟩ (by intro _; rfl)
  rintro k s' ⟨h', tk, j, ys, news, m', rfl, hj, rfl, hit', F', hn', hma', N', hs', ⟨off', hcn'⟩, hd', hyl⟩
  have hlist : h'.IsList l us.toArray := ⟨_, (N' _ (.tail _ (List.mem_append_right _ (hs' _ hl)))).1, rfl, n, rfl⟩
  have kept : ∀ h₁ : Heap, (∀ b o, b ∉ [I2] → h'.get? b = some o → h₁.get? b = some o) → Fr h₀ L h₁ m ∧ News h₀ L h₁ ((D, lst ys) :: (cst ++ news)) := fun h₁ hk => by
    refine ⟨fr_but F' hk (Ne.symm hIL) hI₀, news_but N' hk fun p hp => ?_⟩
    rcases List.mem_cons.mp hp with rfl | hp
    · exact hDI
    · exact (off' p hp).1
  by_cases hlt : j < ns.length
  · refine W.item j _ _ _ hlt ⟨hit', hlist⟩ fun v h₁ tk₁ hP hst₁ hk₁ => ?_
    obtain ⟨F₁, N₁⟩ := kept h₁ hk₁
    obtain ⟨tk9, rfl⟩ := hi.int_at j v (by simpa using hP)
    have hx : ns[j]? = some (ns.getD j 0) := by rw [List.getD_eq_getElem?_getD, List.getElem?_eq_getElem hlt]; rfl
    generalize ns.getD j 0 = x at hx
    refine wpAny_assign_Name (wpAny_storeName_local (lookup_relabel_local hc) (hn'.at' fun o e => hk₁ _ o (by simpa using hCI) e) (fun h₂ hn₂ hs₂ => ?_) (by simp [compEnvC, relabel, hkind]))
    have F₂ := F₁.change hs₂ hCL hC₀
    have N₂ : News h₀ L h₂ ((D, lst ys) :: (cst ++ news)) := fun p hp => by
      refine ⟨hs₂.extBut _ _ ?_ (N₁ p hp).1, (N₁ p hp).2⟩
      rcases List.mem_cons.mp hp with rfl | hp
      · exact hDC
      · exact (off' p hp).2.1
    have hit₂ : h₂.IsListIter I2 l (j + 1) := hst₁.1.at fun o e => hs₂.extBut _ _ (Ne.symm hCI) e
    have hma₂ : (fun y => if y = c then some (Value.int x tk9) else m' y) a = some (.str t tt) := by
      show (if a = c then _ else _) = _
      rw [if_neg hac]; exact hma'
    refine Tuple_ (args_cons (wpAny_Name (wpAny_loadName_local (v := .str t tt) ?_ (lookup_relabel_local ha) hn₂ hma₂ (args_cons (wpAny_Name (wpAny_loadName_local (v := .int x tk9) ?_ (lookup_relabel_local hc) hn₂ (by simp) (args_nil ?_)) hdc))) hda))
    · exact hkind
    · exact hkind
    refine wpAny_newObj_type ?_ (by show 2 ≤ _; rw [sizeLine_eq]; exact Nat.le_of_ble_eq_true rfl)
    have up : ∀ b o, h₂.get? b = some o → (h₂.push { cls := .type "tuple", data := .seq [Value.str t tt, Value.int x tk9].toArray }).get? b = some o := fun b o e => Heap.get?_push_of_some _ e
    have F₃ := F₂.push { cls := .type "tuple", data := .seq [Value.str t tt, Value.int x tk9].toArray }
    have N₃ := N₂.push F₂ { cls := .type "tuple", data := .seq [Value.str t tt, Value.int x tk9].toArray }
    have hlt₂ : ∀ b o, h₂.get? b = some o → h₂.objs.size ≠ b := fun b o e => Nat.ne_of_gt (Heap.lt_size e)
    have q1 : h₂.objs.size ≠ I2 := by obtain ⟨o, e, _⟩ := hit₂; exact hlt₂ _ _ e
    have q2 : h₂.objs.size ≠ C := by obtain ⟨o, e, _⟩ := ns_obj hn₂; exact hlt₂ _ _ e
    have q3 : h₂.objs.size ≠ D := hlt₂ _ _ (N₂ _ (.head _)).1
    have hit₃ := hit₂.at fun o e => up _ o e
    have hn₃ := hn₂.at' fun o e => up _ o e
    clear N₁ F₁ N' F' hk₁ W
    have hD₃ := N₃ (D, lst ys) (.tail _ (.head _))
    refine append_at (hsz := by show ys.toArray.size ≤ sizeLine; rw [List.size_toArray, hyl, sizeLine_eq]; omega) hD₃.1 fun h₅ hs₅ hD₅ => ?_
    refine ⟨ns.length + 1 - (j + 1), by omega, h₅, _, j + 1, ys ++ [Value.ref h₂.objs.size], (h₂.objs.size, { cls := .type "tuple", data := .seq [Value.str t tt, Value.int x tk9].toArray }) :: news, _, rfl, hlt, rfl, hit₃.at fun o e => hs₅.extBut _ _ (Ne.symm hDI) e, F₃.change hs₅ hD₃.2.1 hD₃.2.2, hn₃.sameBut hs₅ (Ne.symm hDC), hma₂, fun p hp => ?_, fun p hp => .tail _ (hs' p hp), ⟨fun p hp => ?_, fun q hq p hp => ?_⟩, ?_, by rw [List.length_append, List.length_singleton, hyl]; omega⟩
    · rcases List.mem_cons.mp hp with rfl | hp
      · exact ⟨hD₅.trans (congrArg some (lst_snoc ys _)), hD₃.2⟩
      · have h0 : p ∈ (h₂.objs.size, ({ cls := .type "tuple", data := .seq [Value.str t tt, Value.int x tk9].toArray } : Obj)) :: (cst ++ news) := by
          rcases List.mem_append.mp hp with hp | hp
          · exact .tail _ (List.mem_append_left _ hp)
          · rcases List.mem_cons.mp hp with rfl | hp
            · exact .head _
            · exact .tail _ (List.mem_append_right _ hp)
        have h1 : p.1 ≠ D := by
          rcases List.mem_cons.mp h0 with rfl | hp
          · exact q3
          · exact (off' p hp).2.2
        have h2 := N₃ p (by rcases List.mem_cons.mp h0 with rfl | hp; exact .head _; exact .tail _ (.tail _ hp))
        exact ⟨hs₅.extBut _ _ h1 h2.1, h2.2⟩
    · rcases List.mem_append.mp hp with hp | hp
      · exact off' p (List.mem_append_left _ hp)
      · rcases List.mem_cons.mp hp with rfl | hp
        · exact ⟨q1, q2, q3⟩
        · exact off' p (List.mem_append_right _ hp)
    · rcases List.mem_cons.mp hp with rfl | hp
      · exact hlt₂ _ _ (N₂ q (.tail _ (List.mem_append_left _ hq))).1
      · exact hcn' q hq p hp
    · rw [List.take_add_one, hx, pairT, List.map_append, ← List.append_assoc]
      refine (hd'.mono fun p hp => .tail _ hp).append (.one ?_)
      exact .tuple (vs := [_, _]) (.head _) (.cons (.str _ _) (.cons (.int _ _) .nil))
  · have hjn : j = ns.length := Nat.le_antisymm hj (Nat.not_lt.mp hlt)
    subst hjn
    refine W.done _ _ _ ⟨hit', hlist⟩ fun h₁ tk₁ hk₁ => ?_
    obtain ⟨F₁, N₁⟩ := kept h₁ hk₁
    rw [List.take_length] at hd'
    exact hR h₁ tk₁ ys news m' F₁ N₁ (hn'.at' fun o e => hk₁ _ o (by simpa using hCI) e) hs' (fun p hp => (off' p (List.mem_append_right _ hp)).2) hcn' hd' hyl
theorem dat_ints {news : List (Addr × Obj)} : ∀ {us : List Value} {ns : List Int}, DatAll news us (ns.map Dat.int) → IntsAre us ns
  | _, [], h => by cases h; exact .nil
  | _, _ :: _, h => by
    cases h with
    | cons hv hr => cases hv; exact .cons _ _ (dat_ints hr)
theorem dat_row {news : List (Addr × Obj)} {v : Value} {r : Str × List Int} (h : DatIn news v (rowD r)) : ∃ T n t l us k, v = .ref T ∧ (T, ({ cls := .type "tuple", data := .seq #[.str r.1 t, .ref l] n } : Obj)) ∈ news ∧ (l, listOf us.toArray k) ∈ news ∧ IntsAre us r.2 := by
  cases h with
  | tuple hm hd =>
    cases hd with
    | cons h1 hd =>
      cases hd with
      | cons h2 hd =>
        cases hd
        cases h1
        cases h2 with
        | list hl hi =>
          exact ⟨_, _, _, _, _, _, rfl, hm, hl, dat_ints hi⟩
variable {b : Str} {pa pb pb2 tp : Pos} {k1 : Nat} {iter : PySem.Expr}
theorem block2 {I ax : Addr} {vs : List Value} {kx : Nat} {rows : List (Str × List Int)} {news₀ : List (Addr × Obj)} {RR : Value → Addr → Result → Shared → Prop}
    (hh : A.handled = none) (hcell : ∀ y ∈ scope.names, y.2 ≠ .cell) (hkind : scope.kind = .function) (ha : scope.names.lookup a = some .local) (hb : scope.names.lookup b = some .local) (hc : scope.names.lookup c = some .local) (hab : a ≠ b) (hac : a ≠ c)
    (hda : (a == ("__debug__" : Str)) = false) (hdb : (b == ("__debug__" : Str)) = false) (hdc : (c == ("__debug__" : Str)) = false) (hs1 : ∀ C x, foldedSetIterable (.Name b pb2) (compEnvC scope cl C env) x = pure x)
    (hit : s.heap.IsListIter I ax 0) (hI : I < s.heap.objs.size) (F : Fr h₀ L s.heap m) (N : News h₀ L s.heap news₀) (hIL : L ≠ I) (hI₀ : h₀.get? I = none) (off : ∀ p ∈ news₀, p.1 ≠ I) (hax : (ax, listOf vs.toArray kx) ∈ news₀) (hd : DatAll news₀ vs (rows.map rowD))
    (hlen : rows.length ≤ 30) (hrl : ∀ r ∈ rows, r.2.length ≤ 30)
    (hRR : ∀ D C h tk m' ys news, Fr h₀ L h m → News h₀ L h ((D, lst ys) :: news) → (∀ p ∈ news, p.1 ≠ D) → h.Ns C m' → h₀.get? C = none → C ≠ L → C ≠ D → (∀ p ∈ news, p.1 ≠ C) → (∀ p ∈ news₀, p ∈ news) → DatAll news ys (rows.flatMap fun r => pairT r.1 r.2) → RR (.ref D) C (.ok .next) { s with heap := h, toks := tk }) :
    wpAny (model prog w) A (newList []) (fun acc s₃ => wpAny (model prog w) A (newFunctionEnv scope env.globals cl [] env.qual none .none (some env)) (fun cenv s₄ =>
      codeAny (model prog w) A (.compStart (.ListComp (.Tuple [.Name a p1, .Name c p2] k2 p3) [⟨.Tuple [.Name a pa, .Name b pb] k1 tp, iter, [], 0⟩, ⟨.Name c pc, .Name b pb2, [], 0⟩] scope pos) 0 (.ref I) acc { cenv with scope := relabel scope env }) (RR acc cenv.locals) s₄) E s₃) E s := by
  refine wpAny_newObj_type (wpAny_newFunctionEnv hcell (by intro y hy; simp at hy) (fun h₁ hns₁ hsb₁ => ?_) hkind)
  dsimp only at hns₁ hsb₁ ⊢
  have hC : (s.heap.push { cls := .type "list", dict := none, data := .seq ([] : List Value).toArray }).objs.size = s.heap.objs.size + 1 := by rw [Heap.size_push]
  generalize hH2 : s.heap.push { cls := .type "list", dict := none, data := .seq ([] : List Value).toArray } = H2 at hns₁ hsb₁ hC ⊢
  have below : ∀ q, q < s.heap.objs.size → q ≠ H2.objs.size := fun q hq => by rw [hC]; exact Nat.ne_of_lt (Nat.lt_succ_of_lt hq)
  have old : ∀ q o, s.heap.get? q = some o → h₁.get? q = some o := fun q o e => hsb₁.extBut q o (below q (Heap.lt_size e)) (Heap.get?_push_of_some _ (hH2 ▸ Heap.get?_push_of_some _ e))
  have hDC : s.heap.objs.size ≠ H2.objs.size := by rw [hC]; exact Nat.ne_of_lt (Nat.lt_succ_self _)
  have hacc : h₁.get? s.heap.objs.size = some (lst []) := hsb₁.extBut _ _ hDC (Heap.get?_push_of_some _ (hH2 ▸ Heap.get?_push_size _ rfl))
  have fresh₀ : ∀ q, s.heap.objs.size ≤ q → h₀.get? q = none := fun q hq => by
    cases e : h₀.get? q with
    | none => rfl
    | some o' => exact absurd (Heap.lt_size (F.keep q o' e)) (Nat.not_lt.mpr hq)
  have hD₀ := fresh₀ _ (Nat.le_refl _)
  have hC₀ : h₀.get? H2.objs.size = none := fresh₀ _ (by rw [hC]; exact Nat.le_succ _)
  have hDL : s.heap.objs.size ≠ L := Nat.ne_of_gt F.ns.lt
  have hCL : H2.objs.size ≠ L := (below L F.ns.lt).symm
  have hCI : H2.objs.size ≠ I := (below I hI).symm
  have hDI : s.heap.objs.size ≠ I := Nat.ne_of_gt hI
  have offC : ∀ p ∈ news₀, p.1 ≠ H2.objs.size ∧ p.1 ≠ s.heap.objs.size := fun p hp => ⟨below _ (Heap.lt_size (N p hp).1), Nat.ne_of_lt (Heap.lt_size (N p hp).1)⟩
  have hne : ax ≠ I := off _ hax
  have F₁ := F.keeps old
  have N₁ : News h₀ L h₁ ((s.heap.objs.size, lst []) :: news₀) := fun p hp => by
    rcases List.mem_cons.mp hp with rfl | hp
    · exact ⟨hacc, hDL, hD₀⟩
    · exact ⟨old _ _ (N p hp).1, (N p hp).2⟩
  have hit₁ : h₁.IsListIter I ax 0 := hit.at fun o e => old _ o e
  generalize s.heap.objs.size = D at *
  generalize H2.objs.size = C at *
  have W := Walks.list (prog := prog) (w := w) hh I ax hne vs.toArray
  have hvl : vs.length = rows.length := by have := hd.length; rwa [List.length_map] at this
  rw [show vs.toArray.size = rows.length by rw [List.size_toArray, hvl]] at W
  have loop : ∀ tk₀, codeAny (model prog w) A (.compLoop (.ListComp (.Tuple [.Name a p1, .Name c p2] k2 p3) [⟨.Tuple [.Name a pa, .Name b pb] k1 tp, iter, [], 0⟩, ⟨.Name c pc, .Name b pb2, [], 0⟩] scope pos) 0 (.ref I) (.ref D) (compEnvC scope cl C env)) (RR (.ref D) C) { s with heap := h₁, toks := tk₀ } := by
    intro tk₀
    refine loop_out (fun k s' => ∃ h' tk j ys news m', s' = { s with heap := h', toks := tk } ∧ j ≤ rows.length ∧ k = rows.length + 1 - j ∧ h'.IsListIter I ax j ∧ Fr h₀ L h' m ∧ h'.Ns C m' ∧ News h₀ L h' ((D, lst ys) :: news) ∧ (∀ p ∈ news₀, p ∈ news) ∧ (∀ p ∈ news, p.1 ≠ I ∧ p.1 ≠ C ∧ p.1 ≠ D) ∧ DatAll news ys ((rows.take j).flatMap fun r => pairT r.1 r.2) ∧ ys.length ≤ 30 * j) ?_ (rows.length + 1)
      ⟨h₁, _, 0, [], news₀, _, rfl, Nat.zero_le _, rfl, hit₁, F₁, hns₁, N₁, fun _ h => h, fun p hp => ⟨off p hp, offC p hp⟩, by rw [List.take_zero]; exact .nil, Nat.zero_le _⟩ (hs1 C)
    rintro k s' ⟨h', tk, j, ys, news, m', rfl, hj, rfl, hit', F', hn', N', hs', off', hd', hyl⟩
    have hlist : h'.IsList ax vs.toArray := ⟨_, (N' _ (.tail _ (hs' _ hax))).1, rfl, kx, rfl⟩
    have kept : ∀ h₂ : Heap, (∀ q o, q ∉ [I] → h'.get? q = some o → h₂.get? q = some o) → Fr h₀ L h₂ m ∧ News h₀ L h₂ ((D, lst ys) :: news) := fun h₂ hk => by
      refine ⟨fr_but F' hk hIL hI₀, news_but N' hk fun p hp => ?_⟩
      rcases List.mem_cons.mp hp with rfl | hp
      · exact hDI
      · exact (off' p hp).1
    by_cases hlt : j < rows.length
    · refine W.item j _ _ _ hlt ⟨hit', hlist⟩ fun v h₂ tk₂ hP hst₂ hk₂ => ?_
      obtain ⟨F₂, N₂⟩ := kept h₂ hk₂
      obtain ⟨v', hv', hdr⟩ := hd.get (k := j) (by rw [List.length_map]; exact hlt)
      have hP' : vs[j]? = some v := by simpa using hP
      rw [hP'] at hv'
      cases hv'
      rw [List.getElem_map] at hdr
      obtain ⟨T, nT, t, l, us, kl, rfl, hT, hl, hi⟩ := dat_row hdr
      have hrj : rows[j] ∈ rows := List.getElem_mem hlt
      have hrx : rows[j]? = some rows[j] := List.getElem?_eq_getElem hlt
      have hr30 := hrl _ hrj
      generalize rows[j] = r at hT hi hrx hr30
      have hn₂ := hn'.at' fun o e => hk₂ _ o (by simpa using hCI) e
      have ht : IsTup h₂ T #[.str r.1 t, .ref l] := ⟨_, (N₂ _ (.tail _ (hs' _ hT))).1, rfl, nT, rfl⟩
      refine wpAny_letOwnedTupleGo_listiter hst₂.1 ?_
      refine assign_Tuple_tuple hh ht rfl rfl fun h₃ he => ?_
      have he' : ∀ q o, h₂.get? q = some o → h₃.get? q = some o := fun q o e => he q o (Nat.ne_of_lt (Heap.lt_size e)) e
      refine assignInOrder_cons (wpAny_assign_Name (wpAny_storeName_local (lookup_relabel_local ha) (hn₂.at' fun o e => he' _ o e) (fun h₆ hn₆ hs₆ => ?_) (by simp [compEnvC, relabel, hkind])))
      refine assignInOrder_cons (wpAny_assign_Name (wpAny_storeName_local (lookup_relabel_local hb) hn₆ (fun h₇ hn₇ hs₇ => ?_) (by simp [compEnvC, relabel, hkind])))
      refine assignInOrder_nil ?_
      have old7 : ∀ q o, q ≠ C → h₂.get? q = some o → h₇.get? q = some o := fun q o hq e => hs₇.extBut q o hq (hs₆.extBut q o hq (he' q o e))
      have hit₇ : h₇.IsListIter I ax (j + 1) := hst₂.1.at fun o e => old7 _ o (Ne.symm hCI) e
      have F₇ : Fr h₀ L h₇ m := ((F₂.keeps he').change hs₆ hCL hC₀).change hs₇ hCL hC₀
      have N₇ : News h₀ L h₇ ((D, lst ys) :: news) := fun p hp => by
        refine ⟨old7 _ _ ?_ (N₂ p hp).1, (N₂ p hp).2⟩
        rcases List.mem_cons.mp hp with rfl | hp
        · exact hDC
        · exact (off' p hp).2.1
      refine wpAny_Name (wpAny_loadName_local (v := .ref l) hkind (lookup_relabel_local hb) hn₇ (by simp) ?_) hdb
      refine wpAny_pyIter_list (items := us.toArray) ⟨_, (N₇ _ (.tail _ (hs' _ hl))).1, rfl, kl, rfl⟩ ?_
      obtain ⟨oI, hoI, hoI2⟩ := id hit₇
      have up : ∀ q o, h₇.get? q = some o → (h₇.push { cls := .type "list_iterator", data := .fields #[.ref l, .int 0 0] }).get? q = some o := fun q o e => Heap.get?_push_of_some _ e
      have hlt₇ : ∀ q o, h₇.get? q = some o → q ≠ h₇.objs.size := fun q o e => Nat.ne_of_lt (Heap.lt_size e)
      have hit2 : (h₇.push { cls := .type "list_iterator", data := .fields #[.ref l, .int 0 0] }).IsListIter h₇.objs.size l 0 := ⟨_, Heap.get?_push_size _ rfl, rfl, rfl⟩
      obtain ⟨oC, hoC, -⟩ := ns_obj hn₇
      have e7 : h₀.get? h₇.objs.size = none := next_is_new F₇
      clear N₂ F₂ N' F' hk₂ W N N₁ F F₁ kept
      refine start_in (fun Q' hq => wpAny_pyIter_listiter hit2 hq) ?_
      refine inner2 (t := r.1) (tt := t) (ns := r.2) (us := us) (n := kl) (l := l) (C := C) (D := D) (ys₀ := ys) (news₀ := news) (cst := [(I, oI)]) (ds := (rows.take j).flatMap fun r => pairT r.1 r.2) ?_ hkind ha hc hac hda hdc (F₇.push _) ?_ (hn₇.at' fun o e => up _ o e) ?_ hit2 (hs' _ hl) hi ?_ (fun q hq p hp => by rw [List.mem_singleton.mp hq]; exact (off' p hp).1) hDC (hlt₇ _ _ (N₇ _ (.head _)).1) (hlt₇ _ _ hoC) (Nat.ne_of_gt F₇.ns.lt) hCL e7 hC₀ hd' (by omega) ?_
      · exact hh
      · intro p hp
        rcases List.mem_cons.mp hp with rfl | hp
        · exact ⟨up _ _ (N₇ _ (.head _)).1, (N₇ _ (.head _)).2⟩
        · rcases List.mem_append.mp hp with hp | hp
          · rw [List.mem_singleton.mp hp]
            exact ⟨up _ _ hoI, Ne.symm hIL, hI₀⟩
          · exact ⟨up _ _ (N₇ _ (.tail _ hp)).1, (N₇ _ (.tail _ hp)).2⟩
      · rw [if_neg hab, if_pos rfl]
      · intro p hp
        rcases List.mem_append.mp hp with hp | hp
        · rw [List.mem_singleton.mp hp]
          exact ⟨hlt₇ _ _ hoI, Ne.symm hCI, Ne.symm hDI⟩
        · exact ⟨hlt₇ _ _ (N₇ _ (.tail _ hp)).1, (off' p hp).2⟩
      · intro h8 tk8 ys8 news8 m8 F8 N8 hn8 hs8 off8 hcn8 hd8 hyl8
        refine ⟨rows.length + 1 - (j + 1), by omega, h8, tk8, j + 1, ys8, news8, m8, rfl, hlt, rfl, hit₇.at fun o e => ?_, F8, hn8, fun p hp => N8 p ?_, fun p hp => hs8 p (hs' p hp), fun p hp => ⟨hcn8 _ (.head _) p hp, off8 p hp⟩, ?_, by omega⟩
        · rw [hoI] at e
          cases e
          exact (N8 _ (.tail _ (.head _))).1
        · rcases List.mem_cons.mp hp with rfl | hp
          · exact .head _
          · exact .tail _ (.tail _ hp)
        · rw [List.take_add_one, hrx, Option.toList_some, List.flatMap_append, List.flatMap_cons, List.flatMap_nil, List.append_nil]
          exact hd8
    · have hjn : j = rows.length := Nat.le_antisymm hj (Nat.not_lt.mp hlt)
      subst hjn
      refine W.done _ _ _ ⟨hit', hlist⟩ fun h₂ tk₂ hk₂ => ?_
      obtain ⟨F₂, N₂⟩ := kept h₂ hk₂
      rw [List.take_length] at hd'
      exact hRR D C h₂ tk₂ m' ys news F₂ N₂ (fun p hp => (off' p hp).2.2) (hn'.at' fun o e => hk₂ _ o (by simpa using hCI) e) hC₀ hCL (Ne.symm hDC) (fun p hp => (off' p hp).2.1) hs' hd'
  exact codeAny_compStart_list (loop _) (W.self 0 _ _ _ ⟨hit₁, ⟨_, (N₁ _ (.tail _ hax)).1, rfl, kx, rfl⟩⟩ (loop _))
/-- the source of a comprehension over pairs and their lists -/
noncomputable def Src2 (A : Around) (h₀ : Heap) (L : Addr) (m : Str → Option Value) (Q : Value → Shared → Prop) (xv : Value) (s₁ : Shared) : Prop :=
  ∃ (ax : Addr) (vs : List Value) (kx : Nat) (rows : List (Str × List Int)) (news₀ : List (Addr × Obj)), xv = .ref ax ∧ A.handled = none ∧ Fr h₀ L s₁.heap m ∧ News h₀ L s₁.heap news₀ ∧ (ax, listOf vs.toArray kx) ∈ news₀ ∧ DatAll news₀ vs (rows.map rowD) ∧ rows.length ≤ 30 ∧ (∀ r ∈ rows, r.2.length ≤ 30) ∧
    ∀ D h tk ys news, Fr h₀ L h m → News h₀ L h ((D, lst ys) :: news) → (∀ p ∈ news, p.1 ≠ D) → (∀ p ∈ news₀, p ∈ news) → DatAll news ys (rows.flatMap fun r => pairT r.1 r.2) → Q (.ref D) { s₁ with heap := h, toks := tk }
theorem comp2 {E : Value → Shared → Prop} {Q : Value → Shared → Prop} (F₀ : Fr h₀ L s.heap m)
    (hclos : closureFor scope env = pure cl) (hcell : ∀ y ∈ scope.names, y.2 ≠ .cell) (hkind : scope.kind = .function)
    (hnames : ∀ y ∈ scope.names, y.2 = .local → scope.names.lookup y.1 = some .local) (ha : scope.names.lookup a = some .local) (hb : scope.names.lookup b = some .local) (hc : scope.names.lookup c = some .local) (hab : a ≠ b) (hac : a ≠ c)
    (hda : (a == ("__debug__" : Str)) = false) (hdb : (b == ("__debug__" : Str)) = false) (hdc : (c == ("__debug__" : Str)) = false) (hs1 : ∀ C x, foldedSetIterable (.Name b pb2) (compEnvC scope cl C env) x = pure x)
    (hs : ∀ x, foldedSetIterable iter env x = pure x)
    (h : wpAny (model prog w) A (eval iter env) (Src2 A h₀ L m Q) E s) :
    wpAny (model prog w) A (eval (.ListComp (.Tuple [.Name a p1, .Name c p2] k2 p3) [⟨.Tuple [.Name a pa, .Name b pb] k1 tp, iter, [], 0⟩, ⟨.Name c pc, .Name b pb2, [], 0⟩] scope pos) env) Q E s := by
  rw [eval_ListComp]
  refine wpAny_comprehension_free (use := none) rfl hs hclos hkind hnames (wpAny_mono h (fun xv s₁ h₁ => ?_) fun _ _ e => e)
  obtain ⟨ax, vs, kx, rows, news₀, rfl, hh, F, N, hax, hd, hl1, hl2, fin⟩ := h₁
  have hlt : ax < s₁.heap.objs.size := Heap.lt_size (N _ hax).1
  refine wpAny_pyIter_list (items := vs.toArray) ⟨_, (N _ hax).1, rfl, kx, rfl⟩ ?_
  have up : ∀ b o, s₁.heap.get? b = some o → (s₁.heap.push { cls := .type "list_iterator", data := .fields #[.ref ax, .int 0 0] }).get? b = some o := fun b o e => Heap.get?_push_of_some _ e
  refine block2 hh hcell hkind ha hb hc hab hac hda hdb hdc hs1 ⟨_, Heap.get?_push_size _ rfl, rfl, rfl⟩ ?_ (F.keeps up) (N.grown up) (Nat.ne_of_lt F.ns.lt) (next_is_new F) (fun p hp => Nat.ne_of_lt (Heap.lt_size (N p hp).1)) hax hd hl1 hl2 ?_
  · show _ < (s₁.heap.push _).objs.size
    rw [Heap.size_push]
    exact Nat.lt_succ_self _
  · intro D C h tk m' ys news F' N' o1 hn hC₀ hCL hCD offC hsub hdd
    refine ⟨m', hn, fun h'' hs'' => fin D h'' tk ys news (F'.change hs'' hCL hC₀) (fun p hp => ?_) o1 hsub hdd⟩
    refine ⟨hs''.extBut _ _ ?_ (N' p hp).1, (N' p hp).2⟩
    rcases List.mem_cons.mp hp with rfl | hp
    · exact Ne.symm hCD
    · exact offC p hp
end
section
open PySem PyProof.Rows
-- SP2
noncomputable def dealL (order : List Str) (D₀ : List (Str × Rows1)) (l : List (Str × Int)) : List (Str × Rows1) := dealN order l D₀ l.length
theorem deal_pre {order : List Str} {D₀ : List (Str × Rows1)} (a b : List (Str × Int)) : ∀ i, i ≤ a.length → dealN order (a ++ b) D₀ i = dealN order a D₀ i
  | 0, _ => rfl
  | i + 1, h => by rw [dealN, dealN, deal_pre a b i (Nat.le_of_succ_le h), List.getElem?_append_left h]
theorem deal_snoc {order : List Str} {D₀ : List (Str × Rows1)} (l : List (Str × Int)) (t : Str) (n : Int) : dealL order D₀ (l ++ [(t, n)]) = giveTo (dealL order D₀ l) (nthOf order l.length) t n := by
  rw [dealL, List.length_append, List.length_singleton, dealN_succ (t := t) (n := n) (by simp), deal_pre _ _ _ (Nat.le_refl _)]; rfl
/-- topic by topic -/
inductive Blocks (cl : List (Str × List Int)) (ss : List Str) : List Str → List (Str × Int) → Prop
  | nil : Blocks cl ss [] []
  | skip {ks : List Str} {d : List (Str × Int)} {t : Str} (hb : Blocks cl ss ks d) (h : t ∉ ss) : Blocks cl ss (ks ++ [t]) d
  | take {ks : List Str} {d : List (Str × Int)} {t : Str} {ns ms : List Int} (hb : Blocks cl ss ks d) (h : t ∈ ss) (hm : (t, ms) ∈ cl) (hp : ns.Perm ms) (hs : ns.Pairwise (· ≤ ·)) : Blocks cl ss (ks ++ [t]) (d ++ ns.map fun n => (t, n))
theorem blocks_mem {cl : List (Str × List Int)} {ss ks : List Str} {d : List (Str × Int)} (h : Blocks cl ss ks d) : ∀ p ∈ d, p.1 ∈ ks := by
  induction h with
  | nil => exact fun _ h => nomatch h
  | skip _ _ ih => exact fun p hp => List.mem_append_left _ (ih p hp)
  | take _ _ _ _ _ ih =>
    intro p hp
    rcases List.mem_append.mp hp with hp | hp
    · exact List.mem_append_left _ (ih p hp)
    · obtain ⟨n, _, rfl⟩ := List.mem_map.mp hp
      exact List.mem_append_right _ (.head _)
theorem blocks_srt {cl : List (Str × List Int)} {ss ks : List Str} {d : List (Str × Int)} (h : Blocks cl ss ks d) : Srt sK keyS ks → ks.Nodup → Srt (pairK sK iK) keyP d := by
  induction h with
  | nil => exact fun _ _ => .nil
  | skip _ _ ih => exact fun h1 h2 => ih (List.pairwise_append.mp h1).1 (List.nodup_append.mp h2).1
  | @take ks d t ns ms hb _ _ _ hs ih =>
    intro h1 h2
    obtain ⟨s1, -, s3⟩ := List.pairwise_append.mp h1
    obtain ⟨n1, -, n3⟩ := List.nodup_append.mp h2
    refine List.pairwise_append.mpr ⟨ih s1 n1, ?_, ?_⟩
    · refine List.pairwise_map.mpr (hs.imp fun {a b} hab => ?_)
      show (pairK sK iK).blt (keyS t, b) (keyS t, a) = false
      show (sK.blt (keyS t) (keyS t) || (!sK.blt (keyS t) (keyS t) && decide (b < a))) = false
      rw [sK.irrefl, decide_eq_false (by omega)]; rfl
    · intro p hp q hq
      obtain ⟨n, _, rfl⟩ := List.mem_map.mp hq
      have hk := blocks_mem hb p hp
      have hle : sK.kle (keyS p.1) (keyS t) := s3 _ hk _ (.head _)
      have hne : p.1 ≠ t := n3 _ hk _ (.head _)
      have hlt : sK.blt (keyS p.1) (keyS t) = true := by
        cases e : sK.blt (keyS p.1) (keyS t) with
        | true => rfl
        | false => exact absurd (keyS_inj _ _ (KeyOrd.kle_antisymm hle e)) hne
      show (sK.blt (keyS t) (keyS p.1) || (!sK.blt (keyS p.1) (keyS t) && decide (n < p.2))) = false
      rw [hlt, show sK.blt (keyS t) (keyS p.1) = false from hle]; rfl
theorem nums_of_mem : ∀ {cl : List (Str × List Int)}, (cl.map (·.1)).Nodup → ∀ {t : Str} {ms : List Int}, (t, ms) ∈ cl → numsOf cl t = ms
  | (u, l) :: r, hn, t, ms, h => by
    have hn' := List.nodup_cons.mp hn
    rcases List.mem_cons.mp h with h | h
    · cases h; rw [numsOf, if_pos rfl]
    · rw [numsOf, if_neg (fun e : u = t => hn'.1 (by rw [e]; exact List.mem_map.mpr ⟨_, h, rfl⟩))]
      exact nums_of_mem hn'.2 h
theorem blocks_perm {cl : List (Str × List Int)} {ss ks : List Str} {d : List (Str × Int)} (hn : (cl.map (·.1)).Nodup) (h : Blocks cl ss ks d) : d.Perm (ks.flatMap fun t => if t ∈ ss then (numsOf cl t).map fun n => (t, n) else []) := by
  induction h with
  | nil => exact .refl _
  | skip _ h ih => rw [List.flatMap_append, List.flatMap_cons, if_neg h, List.flatMap_nil, List.append_nil, List.append_nil]; exact ih
  | take _ h hm hp _ ih =>
    rw [List.flatMap_append, List.flatMap_cons, if_pos h, List.flatMap_nil, List.append_nil, nums_of_mem hn hm]
    exact ih.append (hp.map _)
theorem parts_eq {cl : List (Str × List Int)} (ss : List Str) (hn : (cl.map (·.1)).Nodup) : partsOf cl ss = (cl.map (·.1)).flatMap fun t => if t ∈ ss then (numsOf cl t).map fun n => (t, n) else [] := by
  rw [partsOf, List.flatMap_map]
  rw [List.flatMap_def, List.flatMap_def]
  congr 1
  refine List.map_congr_left fun c hc => ?_
  rw [nums_of_mem hn (t := c.1) (ms := c.2) hc]
theorem blocks_seq {cl : List (Str × List Int)} {ss ks : List Str} {d : List (Str × Int)} (hn : (cl.map (·.1)).Nodup) (hk : ks.Perm (cl.map (·.1))) (hs : Srt sK keyS ks) (h : Blocks cl ss ks d) : SeqOf cl ss d := by
  refine ⟨?_, blocks_srt h hs (hk.nodup_iff.mpr hn)⟩
  rw [parts_eq ss hn]
  exact (blocks_perm hn h).trans (hk.flatMap_right _)
end
-- K1
section
variable {O : KeyOrd} {f : Nat → O.α} {n : Nat}
/-- the questions of a sort, answered by an order -/
noncomputable def Holds (O : KeyOrd) (f : Nat → O.α) (n : Nat) {α : Type} : KasT α → (α → Prop) → Prop
  | .ret a, P => P a
  | .ask i j k, P => i < n ∧ j < n ∧ Holds O f n (k (O.blt (f i) (f j))) P
theorem Holds.bind {α β : Type} {g : α → KasT β} {P : β → Prop} : ∀ {t : KasT α}, Holds O f n t (fun a => Holds O f n (g a) P) → Holds O f n (t.bind g) P
  | .ret _, h => h
  | .ask _ _ _, ⟨h1, h2, h3⟩ => ⟨h1, h2, Holds.bind h3⟩
theorem Holds.wp {α : Type} {cmp : Nat → Nat → (Bool → Shared → Prop) → Shared → Prop} {P : α → Prop} {Q : α → Shared → Prop} {s : Shared}
    (hc : ∀ i j C, i < n → j < n → C (O.blt (f i) (f j)) s → cmp i j C s) (hq : ∀ a, P a → Q a s) : ∀ {t : KasT α}, Holds O f n t P → t.kasWp cmp Q s
  | .ret _, h => hq _ h
  | .ask _ _ _, ⟨h1, h2, h3⟩ => hc _ _ _ h1 h2 (Holds.wp hc hq h3)
/-- a permutation of the numbers below n -/
noncomputable def PermN (n : Nat) (p : Array Nat) : Prop := p.Perm (List.toArray (List.range n))
theorem PermN.size {p : Array Nat} (h : PermN n p) : p.size = n := by have := Array.Perm.size_eq h; simpa using this
theorem PermN.lt {p : Array Nat} (h : PermN n p) {i : Nat} (hi : i < n) : p.getD i 0 < n := by
  have hs := h.size
  have hi' : i < p.size := by omega
  have hm : p[i] ∈ List.range n := by
    have := (Array.perm_iff_toList_perm.mp h).mem_iff (a := p[i])
    exact this.mp (by simp)
  have e : p.getD i 0 = p[i] := by simp [Array.getD, hi']
  rw [e]
  exact List.mem_range.mp hm
theorem PermN.of {p q : Array Nat} (h : PermN n p) (hq : q.Perm p) : PermN n q := hq.trans h
noncomputable def kk (f : Nat → O.α) (p : Array Nat) (i : Nat) : O.α := f (p.getD i 0)
noncomputable def SortedN (f : Nat → O.α) (p : Array Nat) (k : Nat) : Prop := ∀ i j, i ≤ j → j < k → O.kle (kk f p i) (kk f p j)
noncomputable def NonIncN (f : Nat → O.α) (p : Array Nat) (k : Nat) : Prop := ∀ i j, i ≤ j → j < k → O.kle (kk f p j) (kk f p i)
theorem getD_congr {p q : Array Nat} {i j : Nat} (h : p[i]? = q[j]?) : p.getD i 0 = q.getD j 0 := by
  rw [Array.getD_eq_getD_getElem?, Array.getD_eq_getD_getElem?, h]
theorem kk_congr {p q : Array Nat} {i j : Nat} (h : p[i]? = q[j]?) : kk f p i = kk f q j := by unfold kk; rw [getD_congr h]
theorem kk_bubble {xs : Array Nat} {src d : Nat} (hs : src < xs.size) (hd : d ≤ src) (k : Nat) :
    kk f (bubble xs src d) k = if k = src - d then kk f xs src else if src - d < k ∧ k ≤ src then kk f xs (k - 1) else kk f xs k := by
  have e := getElem?_bubble hs d hd k
  by_cases h1 : k = src - d
  · rw [if_pos h1] at e ⊢; exact kk_congr e
  · rw [if_neg h1] at e ⊢
    by_cases h2 : src - d < k ∧ k ≤ src
    · rw [if_pos h2] at e ⊢; exact kk_congr e
    · rw [if_neg h2] at e ⊢; exact kk_congr e
theorem kk_mirror {xs : Array Nat} {i j : Nat} (hj : j ≤ xs.size) (k : Nat) :
    kk f (kas_rev xs i j) k = if i ≤ k ∧ k < j then kk f xs (i + j - 1 - k) else kk f xs k := by
  have e := getElem?_mirror_all (i := i) hj k
  unfold kas_rev
  by_cases h1 : i ≤ k ∧ k < j
  · rw [if_pos h1] at e ⊢; exact kk_congr e
  · rw [if_neg h1] at e ⊢; exact kk_congr e
theorem kk_mirror_equal {xs : Array Nat} {i j : Nat} (hj : j ≤ xs.size) (heq : ∀ k, i ≤ k → k < j → kk f xs k = kk f xs (j - 1)) (k : Nat) :
    kk f (kas_rev xs i j) k = kk f xs k := by
  rw [kk_mirror hj]
  split
  · rw [heq _ (by omega) (by omega), heq k (by omega) (by omega)]
  · rfl
theorem rev_perm (p : Array Nat) (i j : Nat) : (kas_rev p i j).Perm p := mirror_perm _ _ _ _
theorem h_asc {p : Array Nat} (hp : PermN n p) {P : Nat → Prop} : ∀ (fu x : Nat), 1 ≤ x → x + fu ≤ n → SortedN f p x →
    (∀ m, x ≤ m → m ≤ x + fu → SortedN f p m → (m = x + fu ∨ O.klt (kk f p m) (kk f p (m - 1))) → P m) → Holds O f n (kas_asc p fu x) P
  | 0, x, _, _, hs, h => h x (Nat.le_refl _) (Nat.le_refl _) hs (.inl rfl)
  | fu + 1, x, h1, hx, hs, h => by
    refine ⟨hp.lt (by omega), hp.lt (by omega), ?_⟩
    cases hless : O.blt (f (p.getD x 0)) (f (p.getD (x - 1) 0))
    case true =>
      simp only [if_true]
      exact h x (Nat.le_refl _) (by omega) hs (.inr hless)
    case false =>
      simp only [Bool.false_eq_true, if_false]
      refine h_asc hp fu (x + 1) (by omega) (by omega) (fun i j hij hj => ?_) fun m a b c d => h m (by omega) (by omega) c (d.imp (fun e => by omega) id)
      by_cases hjx : j < x
      · exact hs i j hij hjx
      · have hj' : j = x := by omega
        subst hj'
        by_cases hi' : i = j
        · subst hi'; exact KeyOrd.kle_refl _
        · exact KeyOrd.kle_trans (hs i (j - 1) (by omega) (by omega)) hless
theorem h_tail3 {p : Array Nat} (hp : PermN n p) {P : Nat × Array Nat → Prop} {x : Nat} (h1 : 1 ≤ x) (hx : x ≤ n) (hs : NonIncN f p x)
    (h : ∀ m q, PermN n q → 1 ≤ m → m ≤ n → SortedN f q m → P (m, q)) : Holds O f n (kas_tail3 x n p) P := by
  unfold kas_tail3
  have hsz : x ≤ p.size := by rw [hp.size]; exact hx
  have hp' : PermN n (kas_rev p 0 x) := hp.of (rev_perm _ _ _)
  refine Holds.bind (h_asc hp' _ _ h1 (by omega) ?_ fun m a b c _ => h m _ hp' (by omega) (by omega) c)
  intro i j hij hj
  rw [kk_mirror hsz, kk_mirror hsz, if_pos (by omega), if_pos (by omega)]
  exact hs _ _ (by omega) (by omega)
theorem h_desc {P : Array Nat × Nat × Nat → Prop} : ∀ (fu : Nat) (p : Array Nat) (x neq : Nat), PermN n p → 1 ≤ x → x + fu ≤ n → NonIncN f p x → neq + 1 ≤ x →
    (∀ i, x - (neq + 1) ≤ i → i < x → kk f p i = kk f p (x - 1)) →
    (∀ q m k, PermN n q → x ≤ m → m ≤ x + fu → NonIncN f q m → k + 1 ≤ m → (∀ i, m - (k + 1) ≤ i → i < m → kk f q i = kk f q (m - 1)) → P (q, m, k)) → Holds O f n (kas_desc fu p x neq) P
  | 0, p, x, neq, hp, _, _, hs, hq, he, h => h p x neq hp (Nat.le_refl _) (Nat.le_refl _) hs hq he
  | fu + 1, p, x, neq, hp, h1, hx, hs, hq, he, h => by
    refine ⟨hp.lt (by omega), hp.lt (by omega), ?_⟩
    have hsz : x ≤ p.size := by rw [hp.size]; omega
    cases hless : O.blt (f (p.getD x 0)) (f (p.getD (x - 1) 0))
    case true =>
      simp only [if_true]
      have step1 : ∀ xs : Array Nat, (∀ k, kk f xs k = kk f p k) → NonIncN f xs (x + 1) := by
        intro xs hk i j hij hj
        rw [hk, hk]
        by_cases hjx : j < x
        · exact hs i j hij hjx
        · have hj' : j = x := by omega
          subst hj'
          by_cases hi' : i = j
          · subst hi'; exact KeyOrd.kle_refl _
          · exact KeyOrd.kle_trans (KeyOrd.kle_of_klt hless) (hs i (j - 1) (by omega) (by omega))
      by_cases hneq : neq > 0
      · rw [if_pos hneq]
        exact h_desc fu _ (x + 1) 0 (hp.of (rev_perm _ _ _)) (by omega) (by omega) (step1 _ (kk_mirror_equal hsz he)) (by omega) (fun i h1 h2 => by congr 1; omega) fun q m k a b c => h q m k a (by omega) (by omega)
      · rw [if_neg hneq]
        exact h_desc fu _ (x + 1) 0 hp (by omega) (by omega) (step1 _ fun _ => rfl) (by omega) (fun i h1 h2 => by congr 1; omega) fun q m k a b c => h q m k a (by omega) (by omega)
    case false =>
      simp only [Bool.false_eq_true, if_false]
      refine ⟨hp.lt (by omega), hp.lt (by omega), ?_⟩
      cases hlarger : O.blt (f (p.getD (x - 1) 0)) (f (p.getD x 0))
      case true =>
        simp only [if_true]
        exact h p x neq hp (by omega) (by omega) hs hq he
      case false =>
        simp only [Bool.false_eq_true, if_false]
        have heqx : kk f p x = kk f p (x - 1) := KeyOrd.kle_antisymm hlarger hless
        refine h_desc fu p (x + 1) (neq + 1) hp (by omega) (by omega) (fun i j hij hj => ?_) (by omega) (fun i h1 h2 => ?_) fun q m k a b c => h q m k a (by omega) (by omega)
        · by_cases hjx : j < x
          · exact hs i j hij hjx
          · have hj' : j = x := by omega
            subst hj'
            by_cases hi' : i = j
            · subst hi'; exact KeyOrd.kle_refl _
            · rw [heqx]; exact hs i (j - 1) (by omega) (by omega)
        · rw [show x + 1 - 1 = x by omega]
          by_cases hix : i = x
          · subst hix; rfl
          · rw [heqx]; exact he i (by omega) (by omega)
theorem h_descPart {p : Array Nat} (hp : PermN n p) {P : Nat × Array Nat → Prop} {x : Nat} (hx : x + 1 ≤ n) (hs : NonIncN f p (x + 1))
    (h : ∀ m q, PermN n q → 1 ≤ m → m ≤ n → SortedN f q m → P (m, q)) : Holds O f n (kas_descPart x n p) P := by
  unfold kas_descPart
  refine Holds.bind (h_desc _ p (x + 1) 0 hp (by omega) (by omega) hs (by omega) (fun i h1 h2 => by congr 1; omega) fun q m k hq a b c d e => ?_)
  dsimp only
  have hsz : m ≤ q.size := by rw [hq.size]; omega
  by_cases hk : k > 0
  · rw [if_pos hk]
    refine h_tail3 (hq.of (rev_perm _ _ _)) (by omega) (by omega) (fun i j hij hj => ?_) h
    rw [kk_mirror_equal hsz e, kk_mirror_equal hsz e]
    exact c i j hij hj
  · rw [if_neg hk]
    exact h_tail3 hq (by omega) (by omega) c h
theorem h_count {p : Array Nat} (hp : PermN n p) (hn : 1 ≤ n) {P : Nat × Array Nat → Prop} (h : ∀ m q, PermN n q → 1 ≤ m → m ≤ n → SortedN f q m → P (m, q)) : Holds O f n (kas_count n p) P := by
  unfold kas_count
  refine Holds.bind (h_asc hp _ _ (Nat.le_refl 1) (by omega) (fun i j hij hj => by have : i = j := (by omega); subst this; exact KeyOrd.kle_refl _) fun x hx1 hx2 hsn hor => ?_)
  by_cases hnn : x = n
  · rw [if_pos (by simpa using hnn)]
    exact h x p hp hx1 (by omega) hsn
  · rw [if_neg (by simpa using hnn)]
    have hlt : O.klt (kk f p x) (kk f p (x - 1)) := hor.resolve_left (by omega)
    by_cases hgt : x > 1
    · rw [if_pos hgt]
      refine ⟨hp.lt (by omega), hp.lt (by omega), ?_⟩
      cases hrose : O.blt (f (p.getD 0 0)) (f (p.getD (x - 1) 0))
      case true =>
        simp only [if_true]
        exact h x p hp hx1 (by omega) hsn
      case false =>
        simp only [Bool.false_eq_true, if_false]
        have hsz : x ≤ p.size := by rw [hp.size]; omega
        have hall : ∀ k, 0 ≤ k → k < x → kk f p k = kk f p (x - 1) := by
          intro k _ hk
          have a1 := hsn 0 k (by omega) hk
          have a2 := hsn k (x - 1) (by omega) (by omega)
          exact KeyOrd.kle_antisymm a2 (KeyOrd.kle_trans hrose a1)
        refine h_descPart (hp.of (rev_perm _ _ _)) (by omega) (fun i j hij hj => ?_) h
        rw [kk_mirror_equal hsz hall, kk_mirror_equal hsz hall]
        by_cases hjn : j < x
        · rw [hall i (by omega) (by omega), hall j (by omega) hjn]; exact KeyOrd.kle_refl _
        · have hj' : j = x := by omega
          subst hj'
          by_cases hi' : i = j
          · subst hi'; exact KeyOrd.kle_refl _
          · rw [hall i (by omega) (by omega)]; exact KeyOrd.kle_of_klt hlt
    · rw [if_neg hgt]
      have hn1' : x = 1 := by omega
      subst hn1'
      refine h_descPart hp (by omega) ?_ h
      intro i j hij hj
      by_cases hi' : i = j
      · subst hi'; exact KeyOrd.kle_refl _
      · have hi0 : i = 0 := by omega
        have hj1 : j = 1 := by omega
        subst hi0; subst hj1
        exact KeyOrd.kle_of_klt hlt
theorem h_place {p : Array Nat} (hp : PermN n p) {P : Nat → Prop} {k : Nat} (hk : k < n) (hs : SortedN f p k)
    (h : ∀ l, l ≤ k → (∀ i, i < l → O.kle (kk f p i) (kk f p k)) → (∀ i, l ≤ i → i < k → O.klt (kk f p k) (kk f p i)) → P l) : ∀ (fu l r : Nat), l ≤ r → r ≤ k → r - l ≤ fu →
      (∀ i, i < l → O.kle (kk f p i) (kk f p k)) → (∀ i, r ≤ i → i < k → O.klt (kk f p k) (kk f p i)) → Holds O f n (kas_place p k fu l r) P
  | 0, l, r, hlr, hrk, hm, hlo, hhi => by
    have : l = r := by omega
    subst this
    exact h l hrk hlo hhi
  | fu + 1, l, r, hlr, hrk, hm, hlo, hhi => by
    unfold kas_place
    by_cases hge : l ≥ r
    · rw [if_pos hge]
      have : l = r := by omega
      subst this
      exact h l hrk hlo hhi
    · rw [if_neg hge]
      refine ⟨hp.lt hk, hp.lt (by omega), ?_⟩
      cases hless : O.blt (f (p.getD k 0)) (f (p.getD ((l + r) / 2) 0))
      case true =>
        simp only [if_true]
        exact h_place hp hk hs h fu l ((l + r) / 2) (by omega) (by omega) (by omega) hlo fun i h1 h2 => KeyOrd.klt_of_klt_of_kle hless (hs _ _ h1 h2)
      case false =>
        simp only [Bool.false_eq_true, if_false]
        exact h_place hp hk hs h fu ((l + r) / 2 + 1) r (by omega) (by omega) (by omega) (fun i h1 => KeyOrd.kle_trans (hs i ((l + r) / 2) (by omega) (by omega)) (show O.kle _ _ from hless)) hhi
theorem h_bin {P : Array Nat → Prop} (h : ∀ q, PermN n q → SortedN f q n → P q) : ∀ (fu : Nat) (p : Array Nat) (k : Nat), PermN n p → k + fu = n → SortedN f p k → Holds O f n (kas_bin fu p k) P
  | 0, p, k, hp, hk, hs => h p hp (by rwa [← hk, Nat.add_zero])
  | fu + 1, p, k, hp, hk, hs => by
    unfold kas_bin
    refine Holds.bind (h_place hp (by omega) hs (fun l hl hlo hhi => ?_) k 0 k (by omega) (by omega) (by omega) (fun i hi => by omega) fun i h1 h2 => by omega)
    refine h_bin h fu _ (k + 1) (hp.of (bubble_perm _ _ _)) (by omega) ?_
    have hks : k < p.size := by rw [hp.size]; omega
    intro i j hij hj
    rw [kk_bubble hks (by omega), kk_bubble hks (by omega), show k - (k - l) = l by omega]
    repeat' split
    all_goals first
      | (exfalso; omega)
      | exact KeyOrd.kle_refl _
      | exact hlo _ (by omega)
      | exact KeyOrd.kle_of_klt (hhi _ (by omega) (by omega))
      | exact hs _ _ (by omega) (by omega)
theorem h_sort (hn : 1 ≤ n) {P : Array Nat → Prop} (h : ∀ q, PermN n q → SortedN f q n → P q) : Holds O f n (kas_sort n) P := by
  unfold kas_sort
  refine Holds.bind (h_count (show PermN n (List.toArray (List.range n)) from Array.Perm.refl _) hn fun m q hq h1 h2 hs => ?_)
  dsimp only
  by_cases hm : m < n
  · rw [if_pos hm]
    exact h_bin h _ _ _ hq (by omega) (by rwa [show max m 1 = m by omega])
  · rw [if_neg hm]
    exact h q hq (by rwa [show m = n by omega] at hs)
end
section
open PySem PySem.W PySem.Calls PyProof.Rows
-- K5
section
variable {prog : Program} {w : World} {A : Around} {E : Value → Shared → Prop} {s : Shared} {h₀ : Heap} {L a : Addr} {m : Str → Option Value} {news : List (Addr × Obj)} {vs : List Value}
theorem ls_short {n : Nat} {P : PySem.Fin → Shared → Prop} (F : Fr h₀ L s.heap m) (N : News h₀ L s.heap news) (ho : s.heap.get? a = some (seqObj "list" vs.toArray n)) (haL : a ≠ L) (ha0 : h₀.get? a = none) (hna : ∀ p ∈ news, p.1 ≠ a)
    (h1 : vs.length < 2)
    (h : ∀ c h', Fr h₀ L h' m → News h₀ L h' ((a, seqObj "list" vs.toArray c) :: news) → P (.done (.ret .none)) { s with heap := h' }) :
    wpAny (model prog w) A (Builtin.«list.sort» ⟨[.ref a], []⟩) P E s := by
  have s1 := Heap.SameBut.update s.heap a (Obj.mapSeq fun _ => (#[] : Array Value))
  obtain ⟨e1, ho1⟩ : ∃ e1, (s.heap.update a (Obj.mapSeq fun _ => (#[] : Array Value))).get? a = some (seqObj "list" #[] e1) := ⟨_, get?_update_seq ho fun _ => #[]⟩
  rw [list_sort_plain]
  refine wpAny_bind (listItems_at ho rfl ?_)
  refine wpAny_bind (listUpdate_at ho rfl ?_ (by rw [List.size_toArray, sizeLine_eq]; omega) (Nat.zero_le _))
  refine wpAny_bind (seqEpoch_at ho1 rfl ?_)
  refine wpAny_bind (wpAny_newTuple ?_ (by show vs.length ≤ _; rw [sizeLine_eq]; omega))
  refine wpAny_bind (wpAny_newList ?_ (Nat.zero_le _))
  refine wpAny_holding ?_
  dsimp only
  have hn2 : vs.toArray.size < 2 := by rw [List.size_toArray]; omega
  rw [if_pos hn2, if_pos hn2]
  have ho2 : (((s.heap.update a (Obj.mapSeq fun _ => (#[] : Array Value))).push { cls := .type "tuple", data := .seq vs.toArray }).push { cls := .type "list", data := .seq #[] }).get? a = some (seqObj "list" #[] e1) := Heap.get?_push_of_some _ (Heap.get?_push_of_some _ ho1)
  have F3 := ((kas_fr F s1 haL ha0).push { cls := .type "tuple", data := .seq vs.toArray }).push { cls := .type "list", data := .seq #[] }
  have N3 : News h₀ L (((s.heap.update a (Obj.mapSeq fun _ => (#[] : Array Value))).push { cls := .type "tuple", data := .seq vs.toArray }).push { cls := .type "list", data := .seq #[] }) news :=
    (kas_news N s1 hna).grown fun b x e => Heap.get?_push_of_some _ (Heap.get?_push_of_some _ e)
  generalize ((s.heap.update a (Obj.mapSeq fun _ => (#[] : Array Value))).push { cls := .type "tuple", data := .seq vs.toArray }).push { cls := .type "list", data := .seq #[] } = g at ho2 F3 N3 ⊢
  refine wpAny_bind (wpAny_pure ?_)
  refine wpAny_bind (m := (pure () : StateT SortSt Sem Unit).run _) (wpAny_pure ?_)
  refine wpAny_bind (seqEpoch_at ho2 rfl ?_)
  dsimp only
  have e2 : Array.map (fun x => x.snd) (arrOf (SortSt.mk' general' (vs.toArray.zip vs.toArray) #[] 7 none)) = vs.toArray := by
    show Array.map (fun x => x.snd) (vs.toArray.zip vs.toArray) = _
    apply Array.toList_inj.mp
    rw [Array.toList_map, Array.toList_zip]
    exact List.map_snd_zip (Nat.le_refl _)
  rw [e2]
  have s2 := Heap.SameBut.update g a (Obj.mapSeq fun _ => vs.toArray)
  obtain ⟨c2, hc2⟩ : ∃ c2, (g.update a (Obj.mapSeq fun _ => vs.toArray)).get? a = some (seqObj "list" vs.toArray c2) := ⟨_, get?_update_seq ho2 fun _ => vs.toArray⟩
  refine wpAny_bind (listUpdate_at ho2 rfl ?_ (Nat.zero_le _) (by rw [List.size_toArray, sizeLine_eq]; omega))
  simp only [bne_self_eq_false, Bool.false_eq_true, if_false]
  refine wpAny_pure (h c2 _ (kas_fr F3 s2 haL ha0) fun p hp => ?_)
  rcases List.mem_cons.mp hp with rfl | hp
  · exact ⟨hc2, haL, ha0⟩
  · exact kas_news N3 s2 hna p hp
/-- the sorted places of a list -/
theorem perm_list {β : Type} {n : Nat} {q : Array Nat} (hq : PermN n q) (ps : List β) (d : β) (hl : ps.length = n) : (q.toList.map fun i => ps.getD i d).Perm ps := by
  have h1 := (Array.perm_iff_toList_perm.mp hq).map fun i => ps.getD i d
  have e : (List.range n).map (fun i => ps.getD i d) = ps := by
    apply List.ext_getElem (by simp [hl])
    intro i h1 h2
    simp [h2]
  rw [show ((List.toArray (List.range n)).toList.map fun i => ps.getD i d) = ps from e] at h1
  exact h1
theorem srt_list {β : Type} {O : KeyOrd} {key : β → O.α} {n : Nat} {q : Array Nat} (hq : PermN n q) {ps : List β} {d : β} (h : SortedN (fun i => key (ps.getD i d)) q n) : Srt O key (q.toList.map fun i => ps.getD i d) := by
  have hs := hq.size
  refine List.pairwise_iff_getElem.mpr fun i j hi hj hij => ?_
  rw [List.length_map, Array.length_toList] at hi hj
  rw [List.getElem_map, List.getElem_map, Array.getElem_toList, Array.getElem_toList]
  have h1 := h i j (Nat.le_of_lt hij) (by omega)
  have e : ∀ k (hk : k < q.size), q.getD k 0 = q[k] := fun k hk => by simp [Array.getD, hk]
  unfold kk at h1
  rw [e i hi, e j hj] at h1
  exact h1
theorem dat_list {ds : List Dat} (hd : DatAll news vs ds) : ∀ (idx : List Nat), (∀ i ∈ idx, i < ds.length) → DatAll news (idx.map fun i => vs.getD i Value.none) (idx.map fun i => ds.getD i Dat.none)
  | [], _ => .nil
  | i :: r, h => by
    have hi := h i (.head _)
    obtain ⟨v, hv, hin⟩ := hd.get hi
    refine .cons ?_ (dat_list hd r fun j hj => h j (.tail _ hj))
    dsimp only
    rw [List.getD_eq_getElem?_getD, hv, List.getD_eq_getElem?_getD, List.getElem?_eq_getElem hi]
    exact hin
/-- a sort of data, by any order that the comparison of two items follows -/
theorem sort_dat {β : Type} {O : KeyOrd} {key : β → O.α} {enc : β → Dat} {ps : List β} (d : β) {cmp : Nat → Nat → (Bool → Shared → Prop) → Shared → Prop} {Q : Array Nat → Shared → Prop} (h2 : 1 ≤ ps.length) (hd : DatAll news vs (ps.map enc))
    (hc : ∀ i j C, i < ps.length → j < ps.length → C (O.blt (key (ps.getD i d)) (key (ps.getD j d))) s → cmp i j C s)
    (h : ∀ q ps', ps'.Perm ps → Srt O key ps' → DatAll news (q.toList.map fun i => vs.getD i Value.none) (ps'.map enc) → Q q s) : (kas_sort vs.length).kasWp cmp Q s := by
  have hl : vs.length = ps.length := by have := hd.length; rwa [List.length_map] at this
  rw [hl]
  refine Holds.wp (O := O) (f := fun i => key (ps.getD i d)) (n := ps.length) (P := fun q => PermN ps.length q ∧ SortedN (fun i => key (ps.getD i d)) q ps.length) hc (fun q hq => ?_) (h_sort h2 fun q a b => ⟨a, b⟩)
  refine h q (q.toList.map fun i => ps.getD i d) (perm_list hq.1 ps d rfl) (srt_list hq.1 hq.2) ?_
  have hlt : ∀ i ∈ q.toList, i < (ps.map enc).length := fun i hi => by
    have := (Array.perm_iff_toList_perm.mp hq.1).mem_iff.mp hi
    rw [List.length_map]
    exact List.mem_range.mp this
  have e : ((q.toList.map fun i => ps.getD i d).map enc) = q.toList.map fun i => (ps.map enc).getD i Dat.none := by
    rw [List.map_map]
    refine List.map_congr_left fun i hi => ?_
    have hi' := hlt i hi
    rw [List.length_map] at hi'
    simp [hi']
  rw [e]
  exact dat_list hd _ hlt
theorem sorted_short {l : Addr} {Q : Value → Shared → Prop} (F : Fr h₀ L s.heap m) (N : News h₀ L s.heap news) (hl : s.heap.IsList l vs.toArray) (h1 : vs.length < 2)
    (h : ∀ D c h', Fr h₀ L h' m → News h₀ L h' ((D, seqObj "list" vs.toArray c) :: news) → (∀ q ∈ news, q.1 < D) → Q (.ref D) { s with heap := h' }) :
    wpAny (model prog w) A (call (.builtin "sorted") [.ref l]) Q E s := by
  refine Calls.call_function_entry kind_sorted plain_sorted entry_sorted (args_sorted1 _) ?_
  unfold Builtin.«sorted»
  refine wpAny_bind (m := checkCount "sorted" 1 1 _) (wpAny_pure ?_)
  refine wpAny_bind (collect_list hl ?_ (by show vs.length ≤ _; rw [sizeLine_eq]; omega))
  refine wpAny_bind (wpAny_newList ?_ (by show vs.length ≤ _; rw [sizeLine_eq]; omega))
  have hsz : ((s.heap.push (seqObj "list" #[] 0)).update s.heap.objs.size (Obj.mapSeq (· ++ vs.toArray))).objs.size = s.heap.objs.size + 1 := by
    rw [Heap.size_update, size_push']
  have hoL : (((s.heap.push (seqObj "list" #[] 0)).update s.heap.objs.size (Obj.mapSeq (· ++ vs.toArray))).push (seqObj "list" vs.toArray 0)).get? (s.heap.objs.size + 1) = some (seqObj "list" vs.toArray 0) := by
    rw [← hsz]; exact Heap.get?_push_size _ rfl
  have keep : ∀ b o, s.heap.get? b = some o → (((s.heap.push (seqObj "list" #[] 0)).update s.heap.objs.size (Obj.mapSeq (· ++ vs.toArray))).push (seqObj "list" vs.toArray 0)).get? b = some o := fun b o q => by
    have hlt : b < s.heap.objs.size := Heap.lt_size q
    rw [Heap.get?_push_ne _ _ _ (by rw [hsz]; exact Nat.ne_of_lt (Nat.lt_succ_of_lt hlt)), Heap.get?_update_ne _ _ _ _ (Nat.ne_of_lt hlt), Heap.get?_push_ne _ _ _ (Nat.ne_of_lt hlt)]
    exact q
  have hL : L < s.heap.objs.size := F.ns.lt
  show wpAny _ _ _ _ _ { s with heap := ((s.heap.push (seqObj "list" #[] 0)).update s.heap.objs.size (Obj.mapSeq (· ++ vs.toArray))).push (seqObj "list" vs.toArray 0) }
  rw [hsz]
  refine wpAny_bind (wpAny_holding (wpAny_call_entry slot_list_sort ⟨_, hoL, rfl⟩ entry_list_sort ?body (args_list_sort _)))
  case body =>
    exact ls_short (s := { s with heap := ((s.heap.push (seqObj "list" #[] 0)).update s.heap.objs.size (Obj.mapSeq (· ++ vs.toArray))).push (seqObj "list" vs.toArray 0) })
      (F.kept keep) (N.grown keep) hoL (Nat.ne_of_gt (Nat.lt_succ_of_lt hL)) (Heap.get?_none_of_le (Nat.le_trans F.above (Nat.le_succ_of_le (Nat.le_of_lt hL))))
      (fun p hp => Nat.ne_of_lt (Nat.lt_succ_of_lt (Heap.lt_size (N p hp).1))) h1 fun c h' F' N' =>
        ⟨_, rfl, wpAny_pure ⟨_, rfl, h _ c h' F' N' fun q hq => Nat.lt_succ_of_lt (Heap.lt_size (N q hq).1)⟩⟩
/-- how two second items compare -/
structure Cmp2 (prog : Program) (w : World) {β : Type} (O : KeyOrd) (k : β → O.α) (enc : β → Dat) : Prop where
  eq : ∀ {A : Around} {E : Value → Shared → Prop} {s : Shared} {news : List (Addr × Obj)} {v u : Value} {b c : β} {Q : Bool → Shared → Prop}, DatIn news v (enc b) → DatIn news u (enc c) → (∀ e : Bool, (e = true → k b = k c) → (e = false → k b ≠ k c) → Q e s) →
    wpAny (model prog w) A (eqBool v u) Q E s
  lt : ∀ {A : Around} {E : Value → Shared → Prop} {s : Shared} {news : List (Addr × Obj)} {v u : Value} {b c : β} {Q : Value → Shared → Prop}, DatIn news v (enc b) → DatIn news u (enc c) → Q (.bool (O.blt (k b) (k c))) s →
    wpAny (model prog w) A (compareOp .Lt v u) Q E s
theorem cmp_int : Cmp2 (β := Int) prog w iK (fun x : Int => x) Dat.int where
  eq {_ _ _ _ _ _ b c _} hv hu h := by
    cases hv; cases hu
    exact (PySem.intKind prog w).eqBool (a := b) (b := c) (intKind_is _ _ _ _) (intKind_is _ _ _ _) (h _ (fun e => of_decide_eq_true (p := b = c) e) fun e => of_decide_eq_false (p := b = c) e)
  lt := fun hv hu h => by
    cases hv; cases hu
    exact PyProof.Rows.lt_int h
theorem cmp_str : Cmp2 prog w sK keyS Dat.str where
  eq {_ _ _ _ _ _ b c _} hv hu h := by
    cases hv; cases hu
    exact (PySem.strKind prog w).eqBool (a := b) (b := c) (strKind_is _ _ _ _) (strKind_is _ _ _ _) (h _ (fun e => congrArg keyS (of_decide_eq_true e)) fun e q => of_decide_eq_false e (keyS_inj _ _ q))
  lt := fun hv hu h => by
    cases hv; cases hu
    exact PyProof.Rows.lt_str h
theorem datIn_tuple {v : Value} {ds : List Dat} (h : DatIn news v (.tuple ds)) : ∃ a us n, v = .ref a ∧ (a, ({ cls := .type "tuple", data := .seq us.toArray n } : Obj)) ∈ news ∧ DatAll news us ds := by
  cases h with
  | tuple hm hd => exact ⟨_, _, _, rfl, hm, hd⟩
theorem datAll_two {us : List Value} {d e : Dat} (h : DatAll news us [d, e]) : ∃ v u, us = [v, u] ∧ DatIn news v d ∧ DatIn news u e := by
  cases h with
  | cons h1 h => cases h with
    | cons h2 h => cases h; exact ⟨_, _, rfl, h1, h2⟩
section
variable {β : Type} {O : KeyOrd} {k : β → O.α} {enc : β → Dat}
noncomputable def encP (enc : β → Dat) (p : Str × β) : Dat := .tuple [.str p.1, enc p.2]
theorem pair_ask (C2 : Cmp2 prog w O k enc) {v u : Value} {p q : Str × β} {C : Bool → Shared → Prop} (N : News h₀ L s.heap news) (hv : DatIn news v (encP enc p)) (hu : DatIn news u (encP enc q))
    (h : C ((pairK sK O).blt (keyS p.1, k p.2) (keyS q.1, k q.2)) s) : wpAny (model prog w) A (keyLt' (tuples' true) v u) C E s := by
  obtain ⟨a, us, n, rfl, ma, ha⟩ := datIn_tuple hv
  obtain ⟨b, ws, n', rfl, mb, hb⟩ := datIn_tuple hu
  obtain ⟨v1, v2, rfl, h1, h2⟩ := datAll_two ha
  obtain ⟨u1, u2, rfl, h3, h4⟩ := datAll_two hb
  cases h1; cases h3
  rename_i t1 t2
  refine kat_lt (N.get ma) rfl (N.get mb) rfl ?_
  refine kat_cons ((PySem.strKind prog w).eqBool (a := p.1) (b := q.1) (strKind_is _ _ _ _) (strKind_is _ _ _ _) ?_)
  have hb0 : ∀ x y : Str, sK.blt (keyS x) (keyS y) = decide (x.cps.toList < y.cps.toList) := fun _ _ => rfl
  by_cases e : p.1 = q.1
  · rw [decide_eq_true e]
    refine kat_yes (kat_cons (C2.eq h2 h4 fun e2 y1 y2 => ?_))
    have hp : (pairK sK O).blt (keyS p.1, k p.2) (keyS q.1, k q.2) = O.blt (k p.2) (k q.2) := by
      show (sK.blt (keyS p.1) (keyS q.1) || (!sK.blt (keyS q.1) (keyS p.1) && O.blt (k p.2) (k q.2))) = _
      rw [e, sK.irrefl]; rfl
    rw [hp] at h
    cases e2 with
    | true =>
      refine kat_yes (kat_nil ?_)
      rw [y1 rfl, O.irrefl] at h
      exact h
    | false => exact kat_no (kat_one _ _ (C2.lt h2 h4 h))
  · rw [decide_eq_false e]
    refine kat_no (oneLt_str ?_)
    have hp : (pairK sK O).blt (keyS p.1, k p.2) (keyS q.1, k q.2) = decide (p.1.cps.toList < q.1.cps.toList) := by
      show (sK.blt (keyS p.1) (keyS q.1) || (!sK.blt (keyS q.1) (keyS p.1) && O.blt (k p.2) (k q.2))) = _
      rw [← hb0]
      cases h1 : sK.blt (keyS p.1) (keyS q.1) with
      | true => rfl
      | false =>
        cases h2 : sK.blt (keyS q.1) (keyS p.1) with
        | true => rfl
        | false => exact absurd (keyS_inj _ _ (sK.total _ _ h1 h2)) e
    rw [hp] at h
    exact h
theorem pair_kind {n₁ : List (Addr × Obj)} {ps : List (Str × β)} (N : News h₀ L s.heap news) (hs : ∀ p ∈ n₁, p ∈ news) (hd : DatAll n₁ vs (ps.map (encP enc))) (h1 : 1 ≤ ps.length) {Q : SortKind → Shared → Prop} (h : Q (tuples' true) s) : wpAny (model prog w) A (keyKind' vs.toArray) Q E s := by
  have key : ∀ (vs : List Value) (ps : List (Str × β)), DatAll n₁ vs (ps.map (encP enc)) → ∃ fs, KatTups s.heap vs fs ∧ fs.length = ps.length ∧ ∀ v ∈ fs, Looks (model prog w) s.heap (typeOf v) (Value.type "str") := by
    intro vs ps
    induction ps generalizing vs with
    | nil =>
      intro hd
      cases hd
      exact ⟨[], trivial, rfl, fun _ h => nomatch h⟩
    | cons p r ih =>
      intro hd
      cases hd with
      | cons hv hr =>
        obtain ⟨fs, t, e, l⟩ := ih _ hr
        obtain ⟨a, us, n, rfl, ma, ha⟩ := datIn_tuple hv
        obtain ⟨v1, v2, rfl, h1, h2⟩ := datAll_two ha
        cases h1
        rename_i tk
        refine ⟨.str p.1 tk :: fs, KatTups.cons (N.get (hs _ ma)) rfl rfl rfl t, by rw [List.length_cons, List.length_cons, e], fun v hv => ?_⟩
        rcases List.mem_cons.mp hv with rfl | hv
        · exact Looks.of_pure rfl
        · exact l v hv
  obtain ⟨fs, t, e, l⟩ := key vs ps hd
  refine kat_kind t (by omega) l (by decide) ?_
  exact h
/-- sorted(pairs) -/
theorem sorted_pairs (C2 : Cmp2 prog w O k enc) (d : β) {n₁ : List (Addr × Obj)} {l : Addr} {n : Nat} {ps : List (Str × β)} {Q : Value → Shared → Prop} (F : Fr h₀ L s.heap m) (N : News h₀ L s.heap news) (hl : (l, listOf vs.toArray n) ∈ news)
    (hs : ∀ p ∈ n₁, p ∈ news) (hd : DatAll n₁ vs (ps.map (encP enc))) (h64 : ps.length < 64)
    (h : ∀ D ws ps' c h', ps'.Perm ps → Srt (pairK sK O) (fun p => (keyS p.1, k p.2)) ps' → DatAll n₁ ws (ps'.map (encP enc)) → Fr h₀ L h' m → News h₀ L h' ((D, listOf ws.toArray c) :: news) → (∀ q ∈ news, q.1 < D) → Q (.ref D) { s with heap := h' }) :
    wpAny (model prog w) A (call (.builtin "sorted") [.ref l]) Q E s := by
  have hll : vs.length = ps.length := by have := hd.length; rwa [List.length_map] at this
  have hil : s.heap.IsList l vs.toArray := ⟨_, N.get hl, rfl, n, rfl⟩
  by_cases h2 : vs.length < 2
  · refine sorted_short F N hil h2 fun D c h' F' N' l1 => h D vs ps c h' (.refl _) ?_ hd F' N' l1
    match ps, hll with
    | [], _ => exact .nil
    | [_], _ => exact List.pairwise_singleton _ _
    | _ :: _ :: _, e => rw [e] at h2; exact absurd h2 (by simp)
  · refine kat_sorted F N hil (by omega) (by omega) fun D e1 h' F' N' l1 => ?_
    have hs' : ∀ p ∈ n₁, p ∈ (D, seqObj "list" #[] e1) :: news := fun p hp => .tail _ (hs p hp)
    refine pair_kind N' hs' hd (by omega) ?_
    refine sort_dat (O := pairK sK O) (key := fun p => (keyS p.1, k p.2)) (Str.empty, d) (by omega) hd (fun i j C hi hj hC => ?_) fun q ps' hp hsr hdd => KasFin.intro F' N' (.head fun p hp => Nat.ne_of_lt (l1 p hp)) fun h2 c F2 N2 => h D _ ps' c h2 hp hsr hdd F2 N2 l1
    have gi := (hd.mono hs').get (k := i) (by rw [List.length_map]; exact hi)
    have gj := (hd.mono hs').get (k := j) (by rw [List.length_map]; exact hj)
    obtain ⟨vi, ei, di⟩ := gi
    obtain ⟨vj, ej, dj⟩ := gj
    rw [List.getElem_map] at di dj
    unfold kas_ask
    rw [List.getD_eq_getElem?_getD, ei, List.getD_eq_getElem?_getD, ej]
    refine pair_ask C2 N' di dj ?_
    rw [List.getD_eq_getElem?_getD, List.getElem?_eq_getElem hi, List.getD_eq_getElem?_getD, List.getElem?_eq_getElem hj] at hC
    exact hC
/-- pairs.sort() -/
theorem lsort_pairs (C2 : Cmp2 prog w O k enc) (d : β) {n₁ : List (Addr × Obj)} {D : Addr} {n : Nat} {ps : List (Str × β)} {Q : Value → Shared → Prop} (F : Fr h₀ L s.heap m) (N : News h₀ L s.heap ((D, listOf vs.toArray n) :: news)) (hD : ∀ p ∈ news, p.1 ≠ D)
    (hs : ∀ p ∈ n₁, p ∈ news) (hd : DatAll n₁ vs (ps.map (encP enc))) (h64 : ps.length < 64)
    (h : ∀ ws ps' c h', ps'.Perm ps → Srt (pairK sK O) (fun p => (keyS p.1, k p.2)) ps' → DatAll n₁ ws (ps'.map (encP enc)) → Fr h₀ L h' m → News h₀ L h' ((D, listOf ws.toArray c) :: news) → Q .none { s with heap := h' }) :
    wpAny (model prog w) A (call (.builtin "list.sort") [.ref D]) Q E s := by
  have hll : vs.length = ps.length := by have := hd.length; rwa [List.length_map] at this
  by_cases h2 : vs.length < 2
  · have nz := N _ (List.Mem.head _)
    refine wpAny_call_entry slot_list_sort ⟨_, nz.1, rfl⟩ entry_list_sort (ls_short (news := news) F (fun p hp => N p (.tail _ hp)) nz.1 nz.2.1 nz.2.2 hD h2 fun c h' F' N' => ⟨_, rfl, h vs ps c h' (.refl _) ?_ hd F' N'⟩) (args_list_sort _)
    match ps, hll with
    | [], _ => exact .nil
    | [_], _ => exact List.pairwise_singleton _ _
    | _ :: _ :: _, e => rw [e] at h2; exact absurd h2 (by simp)
  · refine kat_lsort F N (.head hD) rfl (by show 2 ≤ vs.length; omega) (by show vs.length < 64; omega) fun e1 h' F' N' => ?_
    have hs' : ∀ p ∈ n₁, p ∈ (D, seqObj "list" #[] e1) :: news := fun p hp => .tail _ (hs p hp)
    refine pair_kind N' hs' hd (by omega) ?_
    refine sort_dat (O := pairK sK O) (key := fun p => (keyS p.1, k p.2)) (Str.empty, d) (by omega) hd (fun i j C hi hj hC => ?_) fun q ps' hp hsr hdd => KasFin.intro F' N' (.head hD) fun h2 c F2 N2 => h _ ps' c h2 hp hsr hdd F2 N2
    have gi := (hd.mono hs').get (k := i) (by rw [List.length_map]; exact hi)
    have gj := (hd.mono hs').get (k := j) (by rw [List.length_map]; exact hj)
    obtain ⟨vi, ei, di⟩ := gi
    obtain ⟨vj, ej, dj⟩ := gj
    rw [List.getElem_map] at di dj
    unfold kas_ask
    rw [List.getD_eq_getElem?_getD, ei, List.getD_eq_getElem?_getD, ej]
    refine pair_ask C2 N' di dj ?_
    rw [List.getD_eq_getElem?_getD, List.getElem?_eq_getElem hi, List.getD_eq_getElem?_getD, List.getElem?_eq_getElem hj] at hC
    exact hC
end
end
end
section
open PySem PySem.W PySem.Calls PyProof.Rows
-- K6
section
variable {prog : Program} {w : World} {A : Around} {E : Value → Shared → Prop} {s : Shared} {h₀ : Heap} {L a : Addr} {m : Str → Option Value} {news : List (Addr × Obj)} {vs : List Value}
theorem strs_dat {vs : List Value} {ss : List Str} (h : StrsAre vs ss) : DatAll [] vs (ss.map Dat.str) := by
  induction h with
  | nil => exact .nil
  | cons x t _ ih => exact .cons (.str x t) ih
theorem dat_strs : ∀ {vs : List Value} {ss : List Str}, DatAll [] vs (ss.map Dat.str) → StrsAre vs ss
  | _, [], h => by cases h; exact .nil
  | _, _ :: _, h => by
    cases h with
    | cons hv hr => cases hv; exact .cons _ _ (dat_strs hr)
/-- strs.sort() -/
theorem lsort_strs {D : Addr} {n : Nat} {ss : List Str} {Q : Value → Shared → Prop} (F : Fr h₀ L s.heap m) (N : News h₀ L s.heap ((D, listOf vs.toArray n) :: news)) (hD : ∀ p ∈ news, p.1 ≠ D) (hS : StrsAre vs ss) (h64 : ss.length < 64)
    (h : ∀ ws ss' c h', StrsAre ws ss' → ss'.Perm ss → Srt sK keyS ss' → Fr h₀ L h' m → News h₀ L h' ((D, listOf ws.toArray c) :: news) → Q .none { s with heap := h' }) :
    wpAny (model prog w) A (call (.builtin "list.sort") [.ref D]) Q E s := by
  have hll := hS.length
  by_cases h2 : vs.length < 2
  · have nz := N _ (List.Mem.head _)
    refine wpAny_call_entry slot_list_sort ⟨_, nz.1, rfl⟩ entry_list_sort (ls_short (news := news) F (fun p hp => N p (.tail _ hp)) nz.1 nz.2.1 nz.2.2 hD h2 fun c h' F' N' => ⟨_, rfl, h vs ss c h' hS (.refl _) ?_ F' N'⟩) (args_list_sort _)
    match ss, hll with
    | [], _ => exact .nil
    | [_], _ => exact List.pairwise_singleton _ _
    | _ :: _ :: _, e => rw [e] at h2; exact absurd h2 (by simp)
  · refine kat_lsort F N (.head hD) rfl (by show 2 ≤ vs.length; omega) (by show vs.length < 64; omega) fun e1 h' F' N' => ?_
    have hk : keyKind' vs.toArray = pure oneType' := by
      match vs, ss, hS, h2 with
      | [], _, _, h2 => exact absurd (by simp) h2
      | [_], _, _, h2 => exact absurd (by simp) h2
      | _ :: _ :: _, _, hS, _ => exact keyKind_strs hS
    show wpAny _ _ (keyKind' vs.toArray) _ _ _
    rw [hk]
    refine wpAny_pure ?_
    have hd := strs_dat hS
    refine sort_dat (O := sK) (key := keyS) Str.empty (by omega) hd (fun i j C hi hj hC => ?_) fun q ps' hp hsr hdd => KasFin.intro F' N' (.head hD) fun h2 c F2 N2 => h _ ps' c h2 (dat_strs hdd) hp hsr F2 N2
    obtain ⟨vi, ei, di⟩ := hd.get (k := i) (by rw [List.length_map]; exact hi)
    obtain ⟨vj, ej, dj⟩ := hd.get (k := j) (by rw [List.length_map]; exact hj)
    rw [List.getElem_map] at di dj
    unfold kas_ask
    rw [List.getD_eq_getElem?_getD, ei, List.getD_eq_getElem?_getD, ej]
    cases di; cases dj
    rw [List.getD_eq_getElem?_getD, List.getElem?_eq_getElem hi, List.getD_eq_getElem?_getD, List.getElem?_eq_getElem hj] at hC
    show wpAny _ _ (keyLt' oneType' _ _) _ _ _
    rw [keyLt'_oneType]
    exact oneLt_str hC
theorem keys_strs : ∀ {vs : List Value} {kvs : List (Str × Value)}, vs.length = kvs.length → (∀ (j : Nat) (v : Value), vs[j]? = some v → ∃ k x, kvs[j]? = some (k, x) ∧ (PySem.strKind prog w).is k v = true) → StrsAre vs (kvs.map (·.1))
  | [], [], _, _ => .nil
  | v :: vs, (k, x) :: kvs, hl, h => by
    obtain ⟨k', x', e, hk⟩ := h 0 v rfl
    cases e
    obtain ⟨t, rfl⟩ := Value.isStrOf_shape hk
    exact .cons k t (keys_strs (Nat.succ.inj hl) fun j u hu => h (j + 1) u hu)
  | [], _ :: _, hl, _ => nomatch hl
  | _ :: _, [], hl, _ => nomatch hl
/-- sorted(a dict of strs) -/
theorem sorted_dict {d : Addr} {o : Obj} {kvs : List (Str × Value)} {Q : Value → Shared → Prop} (hh : A.handled = none) (F : Fr h₀ L s.heap m) (N : News h₀ L s.heap news) (hp : (d, o) ∈ news) (hd : o.IsDictOf (PySem.strKind prog w) kvs) (lo : (d == sysModules) = false) (h64 : kvs.length < 64)
    (h : ∀ D ws ss c h' tk, StrsAre ws ss → ss.Perm (kvs.map (·.1)) → Srt sK keyS ss → Fr h₀ L h' m → News h₀ L h' ((D, listOf ws.toArray c) :: news) → (∀ q ∈ news, q.1 < D) → Q (.ref D) { s with heap := h', toks := tk }) :
    wpAny (model prog w) A (call (.builtin "sorted") [.ref d]) Q E s := by
  obtain ⟨ep, ha⟩ := PySem.W.KdkAt.of hd
  refine kdu_sorted (kdl_dict (knd := PySem.strKind prog w) (kvs := kvs) (ep := ep) lo) hh F N (ha.dictAt (N _ hp).1) (by rw [sizeLine_eq]; omega) fun B h' tk vs F' N' l1 hl hv => ?_
  exact lsort_strs F' N' (fun q hq => Nat.ne_of_lt (l1 q hq)) (keys_strs hl hv) (by rw [List.length_map]; exact h64) fun ws ss c h2 a1 a2 a3 F2 N2 => h B ws ss c h2 tk a1 a2 a3 F2 N2 l1
end
end
section
open PySem PySem.W PySem.Calls PyProof.Rows
-- K8
theorem slot_setiter_next : Slot "set_iterator" "__next__" "set_iterator.__next__" :=
  .of (owner := "set_iterator") (n := "__next__") (by rw [typeLookup_type, builtinLookup_eq_fast]; kernel_rfl) (by decide +kernel) (by decide +kernel) (by decide +kernel)
    (by first | exact .inl (by decide +kernel) | exact .inr (by decide +kernel)) (by rw [isSubtype_type]; kernel_rfl)
theorem entry_setiter_next : entryFor table "set_iterator.__next__" = some Builtin.«set_iterator.__next__» := entryFor_of_fast (by kernel_rfl)
theorem args_setiter_next (a : Value) : argsOk "set_iterator.__next__" ⟨[a], []⟩ := by unfold argsOk; kernel_rfl
theorem entry_set_iter : entryFor table "set.__iter__" = some Builtin.«frozenset.__iter__» := entryFor_alias (id' := "frozenset.__iter__") (by kernel_rfl) rfl (by decide +kernel) (by kernel_rfl)
theorem args_set_iter (a : Value) : argsOk "set.__iter__" ⟨[a], []⟩ := by unfold argsOk; kernel_rfl
/-- the world's mark of a set -/
noncomputable def ledW (w : World) : Bool := !w.params.followText "set-order"
/-- a set of strs -/
structure SetIs (prog : Program) (w : World) (o : Obj) (es : Array (Int × Value)) (ep : Nat) (t : SetTable) (ss : List Str) : Prop where
  ex : o.ExactSet
  dat : o.data = .set es ep t
  fit : t.fits es.size = true
  led : t.led = ledW w
  pl : es.size = 0 ∨ t.plain = false
  els : ElemsOf (PySem.strKind prog w) es.toList
  sts : StrsAre (es.toList.map (·.2)) ss
  nod : ss.Nodup
section
variable {prog : Program} {w : World} {A : Around} {E : Value → Shared → Prop} {s : Shared}
theorem wpAny_choose' {M : Model} {src : Source} {n : Nat} {Q : Nat → Shared → Prop} (hn : n ≠ 0) (h : ∀ i, i < n → Q i { s with drawn := s.drawn.bump src }) : wpAny M A (choose src n) Q E s := fun _ _ _ => ⟨hn, h _ (Nat.mod_lt _ (Nat.pos_of_ne_zero hn))⟩
theorem wpAny_drawOrder {M : Model} {α : Type} : ∀ (n : Nat) (xs : List α) (s : Shared) (Q : List α → Shared → Prop), xs.length = n → (∀ ys d, ys.Perm xs → Q ys { s with drawn := d }) → wpAny M A (drawOrder n xs) Q E s
  | 0, xs, s, Q, hl, h => by
    have : xs = [] := List.length_eq_zero_iff.mp hl
    subst this
    exact wpAny_pure (h [] s.drawn (.refl _))
  | n + 1, [], s, Q, hl, h => nomatch hl
  | n + 1, x :: xs, s, Q, hl, h => by
    unfold drawOrder
    refine wpAny_bind (wpAny_choose' (by simp) fun i hi => ?_)
    have hx : (x :: xs)[i]? = some (x :: xs)[i] := List.getElem?_eq_getElem hi
    rw [hx]
    dsimp only
    refine wpAny_bind (wpAny_drawOrder n _ _ _ (by rw [List.length_eraseIdx, if_pos hi, hl]; rfl) fun ys d hp => wpAny_pure (h _ d ?_))
    refine (hp.cons _).trans ?_
    have e1 : (x :: xs).eraseIdx i = (x :: xs).take i ++ (x :: xs).drop (i + 1) := List.eraseIdx_eq_take_drop_succ ..
    have e2 : (x :: xs) = (x :: xs).take i ++ (x :: xs)[i] :: (x :: xs).drop (i + 1) := by rw [← List.drop_eq_getElem_cons hi, List.take_append_drop]
    rw [e1]
    exact List.perm_middle.symm.trans (.of_eq e2.symm)
/-- where a set's iterator stands -/
noncomputable def ItAt (h : Heap) (I S : Addr) (i n ep : Nat) (f : Value) : Prop := ∃ oI, h.get? I = some oI ∧ oI.cls = .type "set_iterator" ∧ oI.data = .fields #[f, .int i 0, .ref S, .int n 0, .int ep 0]
theorem ItAt.typeIs {I S : Addr} {i n ep : Nat} {f : Value} (h : ItAt s.heap I S i n ep f) : s.TypeIs (.ref I) "set_iterator" := let ⟨o, ho, hc, _⟩ := h; ⟨o, ho, hc⟩
/-- iter(a set) -/
theorem set_pyIter {S : Addr} {o : Obj} {es : Array (Int × Value)} {ep : Nat} {t : SetTable} {ss : List Str} {Q : Value → Shared → Prop} (ho : s.heap.get? S = some o) (hs : SetIs prog w o es ep t ss) (hn : es.size ≤ 64)
    (h0 : (w.params.followText "set-order" = true ∨ es.size ≤ 1) → ∀ h', ItAt h' s.heap.objs.size S 0 es.size ep (.int 0 0) → (∀ b o, s.heap.get? b = some o → h'.get? b = some o) → Q (.ref s.heap.objs.size) { s with heap := h' })
    (h1 : w.params.followText "set-order" = false → ∀ h' d T I (order : List Nat), order.Perm (List.range es.size) → ItAt h' I S 0 es.size ep (.ref T) → IsTup h' T (order.map fun i : Nat => rawInt i).toArray → (@LE.le Nat _ s.heap.objs.size I) → (@LE.le Nat _ s.heap.objs.size T) → T ≠ I → (∀ b o, s.heap.get? b = some o → h'.get? b = some o) → Q (.ref I) { s with heap := h', drawn := d }) :
    wpAny (model prog w) A (pyIter (.ref S)) Q E s := by
  obtain ⟨hex, hd, hf, hled, hpl, hel, hst, hnod⟩ := hs
  have hT : s.TypeIs (.ref S) "set" := ⟨o, ho, hex.1⟩
  refine wpAny_pyIter_slot hT F.slot_set_iter (wpAny_call_entry F.slot_set_iter hT entry_set_iter ?_ (args_set_iter _))
  unfold Builtin.«frozenset.__iter__» Builtin.Frozenset.slot0 slotArgs
  simp only [List.isEmpty_nil, Bool.not_true, Bool.false_eq_true, ↓reduceIte, bind_assoc, List.length_nil, bne_self_eq_false]
  unfold Builtin.Frozenset.addrOf Builtin.Frozenset.sizeOf
  refine wpAny_bind (wpAny_pure ?_)
  try dsimp only
  refine wpAny_bind (wpAny_pure ?_)
  refine wpAny_bind (wpAny_bind (wpAny_setEntries_of ho hd hf (wpAny_pure ?_)))
  unfold setDrawn setsByText
  simp only [bind_assoc]
  refine wpAny_bind (wpAny_setState_of ho hd hf ?_)
  try dsimp only
  refine wpAny_bind (wpAny_askSetting ?_)
  try dsimp only
  have e1 : (!(w.params.followText "set-order") && (!t.plain && decide (es.size > 1))) = (!(w.params.followText "set-order") && decide (es.size > 1)) := by
    rcases hpl with h | h
    · rw [h]; simp
    · rw [h]; rfl
  refine wpAny_bind (wpAny_pure ?_)
  refine wpAny_bind (wpAny_pure ?_)
  show wpAny _ _ (if (!(w.params.followText "set-order") && (!t.plain && decide (es.size > 1))) = true then _ else _) _ _ _
  rw [e1]
  cases hb : (!(w.params.followText "set-order") && decide (es.size > 1)) with
  | false =>
    rw [if_neg Bool.false_ne_true]
    refine wpAny_bind (wpAny_pure ?_)
    refine wpAny_bind (wpAny_setEpoch_of ho hd hf ?_)
    refine wpAny_bind (wpAny_newObj_type ?_ (by size_fits))
    refine wpAny_pure ⟨_, rfl, "set_iterator", _, ⟨_, Heap.get?_push_size _ rfl, rfl⟩, slot_setiter_next.lookup, h0 ?_ _ ⟨_, Heap.get?_push_size _ rfl, rfl, rfl⟩ fun b o e => Heap.get?_push_of_some _ e⟩
    cases hw : w.params.followText "set-order" with
    | true => exact .inl rfl
    | false => rw [hw] at hb; exact .inr (by simpa using hb)
  | true =>
    rw [if_pos rfl]
    rw [Bool.and_eq_true] at hb
    refine wpAny_bind (wpAny_drawOrder _ _ _ _ (List.length_range) fun order d hp => ?_)
    refine wpAny_bind (wpAny_newObj_type ?_ ?_)
    · refine wpAny_bind (wpAny_setEpoch_of (Heap.get?_push_of_some _ ho) hd hf ?_)
      refine wpAny_bind (wpAny_newObj_type ?_ (by size_fits))
      refine wpAny_pure ⟨_, rfl, "set_iterator", _, ⟨_, Heap.get?_push_size _ rfl, rfl⟩, slot_setiter_next.lookup, ?_⟩
      have hz : (s.heap.push { cls := .type "tuple", data := .seq (order.map fun i : Nat => rawInt i).toArray }).objs.size = s.heap.objs.size + 1 := by rw [Heap.size_push]
      refine h1 (by simpa using hb.1) _ d s.heap.objs.size _ order hp ⟨_, Heap.get?_push_size _ rfl, rfl, rfl⟩ ⟨_, Heap.get?_push_of_some _ (Heap.get?_push_size _ rfl), rfl, _, rfl⟩ ?_ (Nat.le_refl _) ?_ fun b o e => Heap.get?_push_of_some _ (Heap.get?_push_of_some _ e)
      · rw [hz]; exact Nat.le_succ _
      · rw [hz]; exact Nat.ne_of_lt (Nat.lt_succ_self _)
    · show (order.map fun i : Nat => rawInt i).toArray.size ≤ sizeLine
      rw [List.size_toArray, List.length_map, hp.length_eq, List.length_range, sizeLine_eq]; omega
end
end
section
open PySem PySem.W PySem.Calls PyProof.Rows
-- K9
section
variable {prog : Program} {w : World} {A : Around} {E : Value → Shared → Prop} {s : Shared}
theorem set_next_slot {I S : Addr} {i n ep ep0 slot : Nat} {o : Obj} {es : Array (Int × Value)} {t : SetTable} {r : Option (Value × Nat)} {Q : Option Value → Shared → Prop} (hh : A.handled = none) (hit : ItAt s.heap I S i n ep (.int slot 0)) (ho : s.heap.get? S = some o) (hd : o.data = .set es ep0 t) (hf : t.fits es.size = true) (hn : es.size = n)
    (hnx : ∀ (Q' : Option (Value × Nat) → Shared → Prop) E', Q' r s → wpAny (model prog w) A.in1 (setNext S slot i ep) Q' E' s)
    (hS : ∀ x nx, r = some (x, nx) → ∀ h', ItAt h' I S (i + 1) n ep (.int (nx : Nat) 0) → Heap.ExtBut I s.heap h' → Q (some x) { s with heap := h' }) (hN : r = none → ∀ h', Heap.ExtBut I s.heap h' → Q none { s with heap := h' }) :
    wpAny (model prog w) A (pyNext (.ref I)) Q E s := by
  obtain ⟨oI, hoI, hc, hdI⟩ := id hit
  unfold pyNext
  refine wpAny_bind (wpAny_attempt (wpAny_callSpecial?_slot (name := Str.ofString "__next__") hit.typeIs slot_setiter_next
    (wpAny_call_entry slot_setiter_next hit.typeIs entry_setiter_next ?_ (args_setiter_next _))))
  unfold Builtin.«set_iterator.__next__» slotArgs
  simp only [List.isEmpty_nil, Bool.not_true, Bool.false_eq_true, ↓reduceIte, bind_assoc, List.length_nil, bne_self_eq_false]
  refine wpAny_bind (wpAny_pure ?_)
  refine wpAny_bind (wpAny_fieldsOf hoI hdI ?_)
  dsimp only
  refine wpAny_bind (wpAny_setEntries_of ho hd hf ?_)
  rw [show ((es.size : Int) != (n : Int)) = false by rw [hn]; simp, if_neg Bool.false_ne_true]
  refine wpAny_bind (hnx _ _ ?_)
  cases r with
  | some z =>
    obtain ⟨x, nx⟩ := z
    refine wpAny_bind (wpAny_setField hoI hdI (by simp) ?_)
    have h2 := Heap.get?_update_self _ hoI (Obj.isFreed_of_fields (Obj.data_mapFields hdI (fun xs => xs.setIfInBounds 0 (rawInt nx))))
    refine wpAny_bind (wpAny_setField h2 (Obj.data_mapFields hdI _) (by simp) (wpAny_pure ⟨x, rfl, wpAny_pure (hS x nx rfl _ ?_ ((Heap.SameBut.update ..).extBut.trans (Heap.SameBut.update ..).extBut))⟩))
    refine ⟨_, Heap.get?_update_self _ h2 (Obj.isFreed_of_fields (Obj.data_mapFields (Obj.data_mapFields hdI _) _)), (Obj.cls_mapFields ..).trans ((Obj.cls_mapFields ..).trans hc), ?_⟩
    rw [Obj.data_mapFields (Obj.data_mapFields hdI _)]
    simp [rawInt]
  | none =>
    refine wpAny_bind (wpAny_setField hoI hdI (by simp) ?_)
    show wpAny _ _ (newExc (.type "StopIteration") [] >>= _) _ _ _
    refine wpAny_bind ?_
    simp only [newExc, newTuple]
    refine wpAny_bind (wpAny_newObj_type ?_ (by size_fits))
    refine wpAny_bind (m := firstArgMember _ _) (wpAny_of_eq (a := Value.none) (by first | rfl | (simp only [firstArgMember]; rfl)) ?_)
    refine wpAny_newObj_type ?_ (by size_fits)
    simp only [raiseNew]
    refine wpAny_bind (wpAny_handled ?_)
    rw [show A.in1.handled = none from hh]
    refine wpAny_bind (wpAny_pure (wpAny_throw ?_))
    refine wpAny_bind (wpAny_isInstance (T := "StopIteration") (b := true) ⟨_, Heap.get?_push_size _ rfl, rfl⟩ isSubtype_stop ?_)
    exact wpAny_pure (hN rfl _ (((Heap.SameBut.update ..).extBut.push _).push _))
theorem set_next_drawn {I S T : Addr} {i n ep : Nat} {o : Obj} {es : Array (Int × Value)} {t : SetTable} {order : List Nat} {Q : Option Value → Shared → Prop} (hh : A.handled = none) (hit : ItAt s.heap I S i n ep (.ref T)) (hT : IsTup s.heap T (order.map fun i : Nat => rawInt i).toArray) (ho : s.heap.get? S = some o) (hd : o.data = .set es ep t) (hf : t.fits es.size = true) (hn : es.size = n)
    (hS : ∀ p e, order[i]? = some p → es[p]? = some e → ∀ h', ItAt h' I S (i + 1) n ep (.ref T) → Heap.ExtBut I s.heap h' → Q (some e.2) { s with heap := h' }) (hN : order[i]? = none → ∀ h', Heap.ExtBut I s.heap h' → Q none { s with heap := h' }) (hp : ∀ p, order[i]? = some p → p < es.size) :
    wpAny (model prog w) A (pyNext (.ref I)) Q E s := by
  obtain ⟨oI, hoI, hc, hdI⟩ := id hit
  obtain ⟨oT, hoT, hcT, nT, hdT⟩ := hT
  unfold pyNext
  refine wpAny_bind (wpAny_attempt (wpAny_callSpecial?_slot (name := Str.ofString "__next__") hit.typeIs slot_setiter_next
    (wpAny_call_entry slot_setiter_next hit.typeIs entry_setiter_next ?_ (args_setiter_next _))))
  unfold Builtin.«set_iterator.__next__» slotArgs
  simp only [List.isEmpty_nil, Bool.not_true, Bool.false_eq_true, ↓reduceIte, List.length_nil, bne_self_eq_false]
  refine wpAny_bind (wpAny_pure ?_)
  refine wpAny_bind (wpAny_fieldsOf hoI hdI ?_)
  dsimp only
  refine wpAny_bind (wpAny_setEntries_of ho hd hf ?_)
  rw [show ((es.size : Int) != (n : Int)) = false by rw [hn]; simp, if_neg Bool.false_ne_true]
  show wpAny _ _ (seqItems? (.ref T) >>= _) _ _ s
  refine wpAny_bind (wpAny_seqItems hoT hdT ?_)
  dsimp only
  have hg : (order.map fun i : Nat => rawInt i).toArray[(i : Int).toNat]? = (order[i]?).map fun i : Nat => rawInt i := by simp
  cases hr : order[i]? with
  | some p =>
    have hpl := hp p hr
    rw [hr] at hg
    simp only [hg]
    show wpAny _ _ (setNextDrawn S (p : Int).toNat (ep : Int).toNat >>= _) _ _ s
    unfold setNextDrawn
    refine wpAny_bind (wpAny_bind (wpAny_setState_of ho hd hf ?_))
    dsimp only
    rw [Int.toNat_natCast, Int.toNat_natCast, if_neg (show ¬ (ep != ep) = true by simp)]
    rw [show es[p]? = some es[p] from Array.getElem?_eq_getElem hpl]
    refine wpAny_pure ?_
    refine wpAny_bind (wpAny_setField hoI hdI (by simp) (wpAny_pure ⟨es[p].2, rfl, wpAny_pure (hS p es[p] hr (Array.getElem?_eq_getElem hpl) _ ?_ (Heap.SameBut.update ..).extBut)⟩))
    refine ⟨_, Heap.get?_update_self _ hoI (Obj.isFreed_of_fields (Obj.data_mapFields hdI _)), (Obj.cls_mapFields ..).trans hc, ?_⟩
    rw [Obj.data_mapFields hdI]
    simp [rawInt]
  | none =>
    rw [hr] at hg
    simp only [hg]
    refine wpAny_bind (wpAny_setField hoI hdI (by simp) ?_)
    have h2 := Heap.get?_update_self _ hoI (Obj.isFreed_of_fields (Obj.data_mapFields hdI (fun xs => xs.setIfInBounds 0 (rawInt 0))))
    refine wpAny_bind (wpAny_setField h2 (Obj.data_mapFields hdI _) (by simp) ?_)
    show wpAny _ _ (newExc (.type "StopIteration") [] >>= _) _ _ _
    refine wpAny_bind ?_
    simp only [newExc, newTuple]
    refine wpAny_bind (wpAny_newObj_type ?_ (by size_fits))
    refine wpAny_bind (m := firstArgMember _ _) (wpAny_of_eq (a := Value.none) (by first | rfl | (simp only [firstArgMember]; rfl)) ?_)
    refine wpAny_newObj_type ?_ (by size_fits)
    simp only [raiseNew]
    refine wpAny_bind (wpAny_handled ?_)
    rw [show A.in1.handled = none from hh]
    refine wpAny_bind (wpAny_pure (wpAny_throw ?_))
    refine wpAny_bind (wpAny_isInstance (T := "StopIteration") (b := true) ⟨_, Heap.get?_push_size _ rfl, rfl⟩ isSubtype_stop ?_)
    exact wpAny_pure (hN hr _ ((((Heap.SameBut.update ..).extBut.trans (Heap.SameBut.update ..).extBut).push _).push _))
theorem pickGo_perm {α : Type} (next : Nat → Nat) : ∀ (n k : Nat) (left : List α) (out : Array α), left.length = n → (pickOrder.go next n k left out).toList.Perm (out.toList ++ left)
  | 0, k, left, out, h => by
    rw [List.length_eq_zero_iff.mp h, List.append_nil]
    exact .refl _
  | n + 1, k, left, out, h => by
    unfold pickOrder.go
    have hi : next k % left.length < left.length := Nat.mod_lt _ (by omega)
    rw [List.getElem?_eq_getElem hi]
    refine (pickGo_perm next n (k + 1) _ _ (by rw [List.length_eraseIdx, if_pos hi, h]; rfl)).trans ?_
    rw [Array.toList_push, List.append_assoc]
    refine List.Perm.append_left _ ?_
    have e2 : left = left.take (next k % left.length) ++ left[next k % left.length] :: left.drop (next k % left.length + 1) := by rw [← List.drop_eq_getElem_cons hi, List.take_append_drop]
    rw [List.eraseIdx_eq_take_drop_succ]
    exact (List.perm_middle (l₁ := left.take (next k % left.length))).symm.trans (.of_eq e2.symm)
theorem pick_perm {α : Type} (next : Nat → Nat) (xs : Array α) : (pickOrder next xs).toList.Perm xs.toList := by
  have := pickGo_perm next xs.size 0 xs.toList #[] (by simp)
  simpa [pickOrder] using this
theorem setNext_text {S : Addr} {ep slot i : Nat} {o : Obj} {es : Array (Int × Value)} {t : SetTable} (hw : w.params.followText "set-order" = true) (ho : s.heap.get? S = some o) (hd : o.data = .set es ep t) (hf : t.fits es.size = true) (Q' : Option (Value × Nat) → Shared → Prop)
    (h : Q' (((pickOrder (w.params.setOrder S ep) es)[i]?).map fun e => (e.2, slot)) s) : wpAny (model prog w) A (setNext S slot i ep) Q' E s := by
  unfold setNext setWalk setsByText
  refine wpAny_bind (wpAny_setState_of ho hd hf ?_)
  dsimp only
  refine wpAny_bind (wpAny_bind (wpAny_askSetting (wpAny_pure ?_)))
  show wpAny _ _ (if w.params.followText "set-order" = true then _ else _) _ _ s
  rw [hw, if_pos rfl, if_neg (show ¬ (ep != ep) = true by simp)]
  refine wpAny_bind ?_
  refine wpAny_bind (wpAny_setState_of ho hd hf ?_)
  dsimp only
  refine wpAny_bind (wpAny_bind (wpAny_askSetting (wpAny_pure ?_)))
  show wpAny _ _ (if w.params.followText "set-order" = true then _ else _) _ _ s
  rw [hw, if_pos rfl]
  exact wpAny_bind (wpAny_askSetting (wpAny_pure (wpAny_pure h)))
theorem setNext_led {S : Addr} {ep slot i : Nat} {o : Obj} {es : Array (Int × Value)} {t : SetTable} (hw : w.params.followText "set-order" = false) (hn : es.size ≤ 1) (hl : t.led = true) (ho : s.heap.get? S = some o) (hd : o.data = .set es ep t) (hf : t.fits es.size = true) (Q' : Option (Value × Nat) → Shared → Prop)
    (h : Q' (match es[SetTable.below t.place slot]?, t.place[SetTable.below t.place slot]? with | some (_, x), some j => some (x, j + 1) | _, _ => none) s) : wpAny (model prog w) A (setNext S slot i ep) Q' E s := by
  unfold setNext setsByText
  refine wpAny_bind (wpAny_setState_of ho hd hf ?_)
  dsimp only
  refine wpAny_bind (wpAny_bind (wpAny_askSetting (wpAny_pure ?_)))
  show wpAny _ _ (if w.params.followText "set-order" = true then _ else _) _ _ s
  rw [hw, if_neg Bool.false_ne_true]
  show wpAny _ _ (if (!t.plain && decide (es.size > 1)) = true then _ else _) _ _ s
  rw [decide_eq_false (by omega), Bool.and_false, if_neg Bool.false_ne_true]
  refine wpAny_bind (wpAny_of_eq (a := ()) ?_ (wpAny_pure h))
  show (if (!t.led && !es.isEmpty) = true then _ else _) = _
  rw [hl]
  rfl
theorem below_zero (xs : Array Nat) (h : xs.size ≤ 1) : SetTable.below xs 0 = 0 := by
  match hx : xs.size, h with
  | 0, _ => rw [SetTable.below, hx]; rfl
  | 1, _ => rw [SetTable.below, hx]; simp [SetTable.below.go]
theorem below_one {xs : Array Nat} (h : xs.size = 1) {p : Nat} (hp : xs[0]? = some p) : SetTable.below xs (p + 1) = 1 := by
  rw [SetTable.below, h]
  simp [SetTable.below.go, Array.getD_eq_getD_getElem?, hp]
theorem slot_setiter_iter : Slot "set_iterator" "__iter__" "set_iterator.__iter__" :=
  .of (owner := "set_iterator") (n := "__iter__") (by rw [typeLookup_type, builtinLookup_eq_fast]; kernel_rfl) (by decide +kernel) (by decide +kernel) (by decide +kernel)
    (by first | exact .inl (by decide +kernel) | exact .inr (by decide +kernel)) (by rw [isSubtype_type]; kernel_rfl)
theorem entry_setiter_iter : entryFor table "set_iterator.__iter__" = some Builtin.«dict_keyiterator.__iter__» :=
  entryFor_alias (id' := "dict_keyiterator.__iter__") (by kernel_rfl) rfl (by decide +kernel) (by kernel_rfl)
theorem args_setiter_iter (a : Value) : argsOk "set_iterator.__iter__" ⟨[a], []⟩ := by unfold argsOk; kernel_rfl
theorem mk_walk {I S T : Addr} {n ep : Nat} {its : List Value} {o : Obj} (f : Nat → Value) (Z : Heap → Prop) (hZ : ∀ h h', Z h → (∀ o, h.get? T = some o → h'.get? T = some o) → Z h') (hSI : S ≠ I) (hTI : T ≠ I)
    (item : ∀ i s (Q : Option Value → Shared → Prop) E, i < n → ItAt s.heap I S i n ep (f i) → s.heap.get? S = some o → Z s.heap → (∀ v, its[i]? = some v → ∀ h', ItAt h' I S (i + 1) n ep (f (i + 1)) → Heap.ExtBut I s.heap h' → Q (some v) { s with heap := h' }) → wpAny (model prog w) A (pyNext (.ref I)) Q E s)
    (done : ∀ s (Q : Option Value → Shared → Prop) E, ItAt s.heap I S n n ep (f n) → s.heap.get? S = some o → Z s.heap → (∀ h', Heap.ExtBut I s.heap h' → Q none { s with heap := h' }) → wpAny (model prog w) A (pyNext (.ref I)) Q E s) :
    Walks prog w A I [I, T, S] [I] n (fun j v => its[j]? = some v) (fun i h => ItAt h I S i n ep (f i) ∧ h.get? S = some o ∧ Z h) where
  sub := fun b hb => by rw [List.mem_singleton.mp hb]; exact .head _
  frame := fun _ _ _ st hk => ⟨let ⟨o, ho, x⟩ := st.1; ⟨o, hk _ (.head _) _ ho, x⟩, hk _ (.tail _ (.tail _ (.head _))) _ st.2.1, hZ _ _ st.2.2 fun o e => hk _ (.tail _ (.head _)) _ e⟩
  item := fun i s Q E hi st hQ => item i s Q E hi st.1 st.2.1 st.2.2 fun v hv h' hit hx =>
    hQ v h' s.toks hv ⟨hit, hx _ _ hSI st.2.1, hZ _ _ st.2.2 fun o e => hx _ _ hTI e⟩ fun b o hb e => hx b o (fun q => hb (by rw [q]; exact .head _)) e
  done := fun s Q E st hQ => done s Q E st.1 st.2.1 st.2.2 fun h' hx => hQ h' s.toks fun b o hb e => hx b o (fun q => hb (by rw [q]; exact .head _)) e
  self := fun i s Q E st hQ => by
    refine wpAny_pyIter_slot st.1.typeIs slot_setiter_iter (wpAny_call_entry slot_setiter_iter st.1.typeIs entry_setiter_iter ?_ (args_setiter_iter _))
    show wpAny _ _ (ret (.ref I)) _ _ s
    exact wpAny_pure ⟨_, rfl, "set_iterator", _, st.1.typeIs, slot_setiter_next.lookup, hQ⟩
/-- a walk over a set of strs, in an order of the world's own -/
theorem set_walk {S : Addr} {o : Obj} {es : Array (Int × Value)} {ep : Nat} {t : SetTable} {ss : List Str} {Q : Value → Shared → Prop} {A' : Around} (hh : A'.handled = none) (ho : s.heap.get? S = some o) (hs : SetIs prog w o es ep t ss) (hn : es.size ≤ 64)
    (h : ∀ h' d T I (its : List Value) (St : Nat → Heap → Prop), its.Perm (es.toList.map (·.2)) → Walks prog w A' I [I, T, S] [I] es.size (fun j v => its[j]? = some v) St → St 0 h' → (@LE.le Nat _ s.heap.objs.size I) → ((@LE.le Nat _ s.heap.objs.size T) ∨ T = S) → (∀ b o, s.heap.get? b = some o → h'.get? b = some o) → Q (.ref I) { s with heap := h', drawn := d }) :
    wpAny (model prog w) A (pyIter (.ref S)) Q E s := by
  have hS := hs
  obtain ⟨hex, hd, hf, hled, hpl, hel, hst, hnod⟩ := hs
  have hlt : S < s.heap.objs.size := Heap.lt_size ho
  refine set_pyIter ho hS hn (fun hw h' hit hk => ?_) (fun hw h' d T I order hp hit hT hI hTs hTI hk => ?_)
  · have hSI : S ≠ s.heap.objs.size := Nat.ne_of_lt hlt
    have hoS := hk _ _ ho
    obtain ⟨I, hIe⟩ : ∃ I, I = s.heap.objs.size := ⟨_, rfl⟩
    have hIle : @LE.le Nat _ s.heap.objs.size I := Nat.le_of_eq hIe.symm
    rw [← hIe] at hit hSI ⊢
    cases hb : w.params.followText "set-order" with
    | true =>
      have hpp := pick_perm (w.params.setOrder S ep) es
      have hps : (pickOrder (w.params.setOrder S ep) es).size = es.size := by have := hpp.length_eq; simpa using this
      refine h h' s.drawn S I ((pickOrder (w.params.setOrder S ep) es).toList.map (·.2)) _ (hpp.map _) (mk_walk (fun _ => .int ((0 : Nat) : Int) 0) (fun _ => True) (fun _ _ _ _ => trivial) hSI hSI ?_ ?_) ⟨hit, hoS, trivial⟩ hIle (.inr rfl) hk
      · intro i s1 Q1 E1 hi hit1 ho1 _ hQ
        have hx : (pickOrder (w.params.setOrder S ep) es)[i]? = some (pickOrder (w.params.setOrder S ep) es)[i] := Array.getElem?_eq_getElem (hps ▸ hi)
        refine set_next_slot hh hit1 ho1 hd hf rfl (fun Q' E' q => setNext_text hb ho1 hd hf Q' q) (fun x nx e h2 hit2 hx2 => ?_) (fun e => ?_)
        · rw [hx] at e
          cases e
          exact hQ _ (by simpa using congrArg (Option.map (·.2)) hx) h2 hit2 hx2
        · rw [hx] at e; cases e
      · intro s1 Q1 E1 hit1 ho1 _ hQ
        have hx : (pickOrder (w.params.setOrder S ep) es)[es.size]? = none := by rw [← hps]; simp
        refine set_next_slot hh hit1 ho1 hd hf rfl (fun Q' E' q => setNext_text hb ho1 hd hf Q' q) (fun x nx e => ?_) (fun e h2 hx2 => hQ h2 hx2)
        rw [hx] at e; cases e
    | false =>
      have hn1 : es.size ≤ 1 := hw.elim (fun e => by rw [hb] at e; cases e) id
      have hl : t.led = true := by rw [hled, ledW, hb]; rfl
      have hpz : t.place.size = es.size := by
        simp only [SetTable.fits, Bool.and_eq_true, beq_iff_eq] at hf
        exact hf.1
      refine h h' s.drawn S I (es.toList.map (·.2)) _ (.refl _) (mk_walk (fun i => .int (((if i = 0 then 0 else t.place.getD 0 0 + 1) : Nat) : Int) 0) (fun _ => True) (fun _ _ _ _ => trivial) hSI hSI ?_ ?_) ⟨hit, hoS, trivial⟩ hIle (.inr rfl) hk
      · intro i s1 Q1 E1 hi hit1 ho1 _ hQ
        have hi0 : i = 0 := by omega
        subst hi0
        have e1 : es[0]? = some es[0] := Array.getElem?_eq_getElem hi
        have hip : 0 < t.place.size := hpz ▸ hi
        have e2 : t.place[0]? = some t.place[0] := Array.getElem?_eq_getElem hip
        have e3 : t.place.getD 0 0 = t.place[0] := by rw [Array.getD_eq_getD_getElem?, e2]; rfl
        have e4 : SetTable.below t.place (if 0 = 0 then 0 else t.place.getD 0 0 + 1) = 0 := by rw [if_pos rfl]; exact below_zero _ (hpz ▸ hn1)
        refine set_next_slot (r := some (es[0].2, t.place[0] + 1)) hh hit1 ho1 hd hf rfl (fun Q' E' q => setNext_led hb hn1 hl ho1 hd hf Q' ?_) (fun x nx e h2 hit2 hx2 => ?_) (fun e => nomatch e)
        · rw [e4, e1, e2]; exact q
        · cases e
          refine hQ _ (by simpa using congrArg (Option.map (·.2)) e1) h2 ?_ hx2
          rw [if_neg (by omega), e3]
          exact hit2
      · intro s1 Q1 E1 hit1 ho1 _ hQ
        refine set_next_slot (r := none) hh hit1 ho1 hd hf rfl (fun Q' E' q => setNext_led hb hn1 hl ho1 hd hf Q' ?_) (fun x nx e => nomatch e) (fun e h2 hx2 => hQ h2 hx2)
        have hz : es[SetTable.below t.place (if es.size = 0 then 0 else t.place.getD 0 0 + 1)]? = none := by
          by_cases h0 : es.size = 0
          · simp [h0]
          · have h1 : es.size = 1 := by omega
            have hip : 0 < t.place.size := by omega
            have e2 : t.place[0]? = some t.place[0] := Array.getElem?_eq_getElem hip
            have e3 : t.place.getD 0 0 = t.place[0] := by rw [Array.getD_eq_getD_getElem?, e2]; rfl
            rw [if_neg h0, e3, below_one (by omega) e2]
            simp [h1]
        rw [hz]
        exact q
  · have hSI : S ≠ I := Nat.ne_of_lt (Nat.lt_of_lt_of_le hlt hI)
    have hlo : order.length = es.size := by rw [hp.length_eq, List.length_range]
    have hin : ∀ p ∈ order, p < es.size := fun p q => List.mem_range.mp (hp.mem_iff.mp q)
    refine h h' d T I (order.map fun p => (es[p]?).elim Value.none (·.2)) _ ((hp.map _).trans (.of_eq ?_)) (mk_walk (fun _ => .ref T) (fun h => IsTup h T (order.map fun i : Nat => rawInt i).toArray) (fun _ _ x hk => let ⟨o, ho, r⟩ := x; ⟨o, hk o ho, r⟩) hSI hTI ?_ ?_) ⟨hit, hk _ _ ho, hT⟩ hI (.inl hTs) hk
    · refine List.ext_getElem (by simp) fun i h1 h2 => ?_
      simp at h1 h2
      simp [h1]
    · intro i s1 Q1 E1 hi hit1 ho1 hZ hQ
      have hx : order[i]? = some order[i] := List.getElem?_eq_getElem (hlo ▸ hi)
      refine set_next_drawn hh hit1 hZ ho1 hd hf rfl (fun p e h1 h2 h3 hit3 hx3 => hQ _ ?_ h3 hit3 hx3) (fun e => by rw [hx] at e; cases e) (fun p e => hin p (List.mem_of_getElem? e))
      rw [List.getElem?_map, h1, Option.map_some, h2]
      rfl
    · intro s1 Q1 E1 hit1 ho1 hZ hQ
      have hx : order[es.size]? = none := by rw [← hlo]; simp
      exact set_next_drawn hh hit1 hZ ho1 hd hf rfl (fun p e h1 => by rw [hx] at h1; cases h1) (fun _ h3 hx3 => hQ h3 hx3) (fun p e => by rw [hx] at e; cases e)
end
end
section
open PySem PySem.W PySem.Calls PyProof.Rows PyProof.V PySem.Spec
-- K10
section
variable {prog : Program} {w : World} {A : Around} {E : Value → Shared → Prop} {s : Shared} {S : Addr} {o : Obj} {es : Array (Int × Value)} {ep : Nat} {t : SetTable} {ss : List Str}
theorem hint_set {Q : Bool → Shared → Prop} (hT : s.TypeIs (.ref S) "set") (h : Q false s) : wpAny (model prog w) A (Builtin.List.listLengthHint (.ref S)) Q E s := by
  unfold Builtin.List.listLengthHint
  refine wpAny_bind (wpAny_specialOf hT PySem.F.slot_set_len.lookup ?_)
  generalize hid : ("set.__len__" : String) = id0
  wp_delta
  rw [show splitId id0 = some ("set", "__len__") from by subst hid; decide +kernel]
  subst hid
  refine wpAny_bind (wpAny_isInstance (T := "set") (b := true) hT (by rw [isSubtype_type]; kernel_rfl) ?_)
  refine wpAny_ite_split (fun hab => absurd hab (by decide)) (fun _ => ?_)
  refine wpAny_ite_split (fun _ => ?_) (fun hab => absurd (by decide +kernel) hab)
  refine wpAny_bind (wpAny_typeOf hT ?_)
  exact wpAny_pure h
theorem set_extend {R : Result → Shared → Prop} (hh : A.handled = none) (ho : s.heap.get? S = some o) (hs : SetIs prog w o es ep t ss) (hn : es.size ≤ 64) (D : Addr) (hSr : D ≠ S) (res : Value) (hS : s.heap.get? D = some { cls := .type "list", data := .seq #[] })
    (hR : ∀ h' tk d acc' c' its, (∀ b o, b ≠ D → s.heap.get? b = some o → h'.get? b = some o) → h'.get? D = some { cls := .type "list", dict := none, data := .seq acc' c', slots := #[] } → List.Perm its (es.toList.map (·.2)) → ItemsOf (fun j v => its[j]? = some v) acc' es.size → R (.ok (.ret res)) { s with heap := h', toks := tk, drawn := d }) :
    wpAny (model prog w) A.in1 (Builtin.List.listExtendWith (.ref D) (.ref S) res)
      (fun fin s' => match fin with | .done f => R (.ok f) s' | .again c' => c'.quiet = true ∧ codeAny (model prog w) A c' R s') (fun e s' => R (.error e) s') s := by
  have hT : s.TypeIs (.ref S) "set" := ⟨o, ho, hs.ex.1⟩
  unfold Builtin.List.listExtendWith
  refine wpAny_bind (wpAny_typeOf (T := "set") hT ?_)
  have h1 : Builtin.List.listSameRef (.ref D) (.ref S) = false := by simp [Builtin.List.listSameRef, hSr]
  simp only [h1, show (Value.type "set" == Value.type "list") = false by decide, show (Value.type "set" == Value.type "tuple") = false by decide, Bool.or_false, Bool.false_eq_true, if_false]
  refine wpAny_bind (set_walk (A' := A.in1) hh ho hs hn fun h₁ d T I its St hp W st hI hTI hk => ?_)
  have hDlt := Heap.lt_size hS
  have hDI : D ≠ I := Nat.ne_of_lt (Nat.lt_of_lt_of_le hDlt hI)
  have hDT : D ≠ T := hTI.elim (fun q => Nat.ne_of_lt (Nat.lt_of_lt_of_le hDlt q)) (fun q => q ▸ hSr)
  have hSf : D ∉ [I, T, S] := by simp only [List.mem_cons, List.not_mem_nil, or_false, not_or]; exact ⟨hDI, hDT, hSr⟩
  have hlt : ∀ b o, s.heap.get? b = some o → b ≠ I := fun b o e => Nat.ne_of_lt (Nat.lt_of_lt_of_le (Heap.lt_size e) hI)
  have key : ∀ (h : Heap) (c₁ tk : Nat), St 0 h → (∀ b o, b ≠ D → s.heap.get? b = some o → h.get? b = some o) →
      h.get? D = some { cls := .type "list", data := .seq #[] c₁ } → codeAny (model prog w) A (.builtin "list.extend.loop" ⟨[.ref D, .ref I, res], []⟩) R { s with heap := h, toks := tk, drawn := d } := by
    intro h c₁ tk hst hk hS₁
    refine codeAny_extend_loopS W.toS (by rw [sizeLine_eq]; omega) D hSf res es.size 0 _ #[] c₁ rfl (Nat.zero_le _) hst hS₁ (ItemsOf.nil _) fun s' acc' c' hm hS' hacc => ?_
    rw [Moved.eq_with hm]
    refine hR s'.heap s'.toks d acc' c' its (fun b o hb e => hm.heap b o (fun hmem => ?_) (hk b o hb e)) hS' hp hacc
    rcases List.mem_cons.mp hmem with e' | hmem
    · exact hb e'
    · exact hlt b o e (List.mem_singleton.mp hmem)
  have hS₁ := hk _ _ hS
  refine wpAny_bind (wpAny_holding (hint_set ⟨o, hk _ _ ho, hs.ex.1⟩ ?_))
  refine wpAny_ite_split (fun _ => ?_) (fun _ => wpAny_pure ⟨plainId_quiet PySem.F.plain_extend_loop _, key _ _ _ st (fun b o _ e => hk b o e) hS₁⟩)
  refine wpAny_bind (wpAny_rule ?_)
  refine wpAny_bind ?_
  show wpAny _ _ (updateSeq D (·.push .none) >>= fun _ => updateSeq D (·.pop)) _ _ _
  refine wpAny_bind (wpAny_updateSeq hS₁ rfl ?_)
  have hS₂ := Heap.get?_update_self (Obj.mapSeq (·.push Value.none)) hS₁ rfl
  refine wpAny_updateSeq (hz := by seq_fits) hS₂ rfl ?_
  have hS₃ := Heap.get?_update_self (Obj.mapSeq (·.pop)) hS₂ rfl
  refine wpAny_pure ⟨plainId_quiet PySem.F.plain_extend_loop _, key _ _ _ ?_ (fun b o hb e => ?_) hS₃⟩
  · refine W.frame 0 _ _ st fun b hb o e => ?_
    have hbS : b ≠ D := fun h => hSf (h ▸ hb)
    exact (Heap.get?_update_other _ _ (Ne.symm hbS)).trans ((Heap.get?_update_other _ _ (Ne.symm hbS)).trans e)
  · exact (Heap.get?_update_other _ _ (Ne.symm hb)).trans ((Heap.get?_update_other _ _ (Ne.symm hb)).trans (hk _ _ e))
theorem set_collect {R : List Value → Shared → Prop} (hh : A.handled = none) (ho : s.heap.get? S = some o) (hs : SetIs prog w o es ep t ss) (hn : es.size ≤ 64)
    (h : ∀ (h' : Heap) (tk : Nat) d (acc : Array Value) its, (∀ b o, s.heap.get? b = some o → h'.get? b = some o) → List.Perm its (es.toList.map (·.2)) → ItemsOf (fun j v => its[j]? = some v) acc es.size → R acc.toList { s with heap := h', toks := tk, drawn := d }) :
    wpAny (model prog w) A (collect (.ref S)) R E s := by
  have hlt := Heap.lt_size ho
  unfold collect
  refine wpAny_bind (wpAny_runValue (codeAny_builtin entry_proto_collect' ?_))
  rw [Around.under_plainId PySem.F.plain_proto_collect _]
  show wpAny _ A.in1 (newList [] >>= fun l => again (.builtin "list.__iadd__" ⟨[l, .ref S], []⟩)) _ _ s
  refine wpAny_bind (wpAny_newObj_type ?_)
  refine wpAny_pure ⟨plainId_quiet PySem.F.plain_list_iadd _, codeAny_builtin entry_list_iadd' ?_⟩
  rw [Around.under_plainId PySem.F.plain_list_iadd _]
  have hS₁ : (s.heap.push { cls := .type "list", data := .seq ([] : List Value).toArray }).get? s.heap.objs.size = some { cls := .type "list", data := .seq #[] } := Heap.get?_push_size _ rfl
  show wpAny _ A.in1 (Builtin.List.listExtendWith (.ref s.heap.objs.size) (.ref S) (.ref s.heap.objs.size)) _ _ _
  have key := set_extend (A := A) (s := { s with heap := s.heap.push { cls := .type "list", data := .seq ([] : List Value).toArray } })
    (R := fun (q : Result) (s' : Shared) => ∃ (h' : Heap) (tk : Nat) (d : Drawn) (acc' : Array Value) (c' : Nat) (its : List Value), q = .ok (.ret (.ref s.heap.objs.size)) ∧ s' = { s with heap := h', toks := tk, drawn := d } ∧
      (∀ b o, s.heap.get? b = some o → h'.get? b = some o) ∧ h'.get? s.heap.objs.size = some { cls := .type "list", dict := none, data := .seq acc' c', slots := #[] } ∧ List.Perm its (es.toList.map (·.2)) ∧ ItemsOf (fun j v => its[j]? = some v) acc' es.size)
    hh (Heap.get?_push_of_some _ ho) hs hn s.heap.objs.size (Nat.ne_of_gt hlt) (.ref s.heap.objs.size) hS₁
    (fun h' tk d acc' c' its hk hS' hp hacc => ⟨h', tk, d, acc', c', its, rfl, rfl, fun b o e => hk b o (Nat.ne_of_lt (Heap.lt_size e)) (Heap.get?_push_of_some _ e), hS', hp, hacc⟩)
  refine wpAny_mono key (fun fin s' x => ?_) fun e s' x => ?_
  · cases fin with
    | done f =>
      obtain ⟨h', tk, d, acc', c', its, e, rfl, hk, hS', hp, hacc⟩ := x
      cases e
      show wpAny _ A (load s.heap.objs.size >>= _) _ _ _
      refine wpAny_bind (wpAny_load hS' ?_)
      exact wpAny_pure (h h' tk d acc' its hk hp hacc)
    | again c₁ =>
      refine ⟨x.1, codeAny_mono x.2 fun q s₂ y => ?_⟩
      obtain ⟨h', tk, d, acc', c', its, rfl, rfl, hk, hS', hp, hacc⟩ := y
      show wpAny _ A (load s.heap.objs.size >>= _) _ _ _
      refine wpAny_bind (wpAny_load hS' ?_)
      exact wpAny_pure (h h' tk d acc' its hk hp hacc)
  · obtain ⟨_, _, _, _, _, _, e', _⟩ := x
    cases e'
theorem strs_perm2 {xs ys : List Value} (p : xs.Perm ys) : ∀ {ss : List Str}, StrsAre ys ss → ∃ rs, StrsAre xs rs ∧ rs.Perm ss := by
  induction p with
  | nil => intro ss h; exact ⟨ss, h, .refl _⟩
  | cons x _ ih =>
    intro ss h
    cases h with
    | cons a ta h =>
      obtain ⟨rs, h1, h2⟩ := ih h
      exact ⟨a :: rs, .cons a ta h1, h2.cons a⟩
  | swap x y l =>
    intro ss h
    cases h with
    | cons a ta h =>
      cases h with
      | cons b tb h => exact ⟨_, .cons b tb (.cons a ta h), .swap ..⟩
  | trans _ _ ih1 ih2 =>
    intro ss h
    obtain ⟨r2, h1, h2⟩ := ih2 h
    obtain ⟨r3, h3, h4⟩ := ih1 h1
    exact ⟨r3, h3, h4.trans h2⟩
/-- sorted(a set of strs) -/
theorem set_sorted {h₀ : Heap} {L : Addr} {m : Str → Option Value} {news : List (Addr × Obj)} {Q : Value → Shared → Prop} (hh : A.handled = none) (F : Fr h₀ L s.heap m) (N : News h₀ L s.heap news) (ho : (S, o) ∈ news) (hs : SetIs prog w o es ep t ss) (hn : ss.length ≤ 60)
    (h : ∀ D ws ss' c h' tk d, StrsAre ws ss' → ss'.Perm ss → Srt sK keyS ss' → Fr h₀ L h' m → News h₀ L h' ((D, listOf ws.toArray c) :: news) → (∀ q ∈ news, q.1 < D) → Q (.ref D) { s with heap := h', toks := tk, drawn := d }) :
    wpAny (model prog w) A (call (.builtin "sorted") [.ref S]) Q E s := by
  have hsl : es.size = ss.length := by have := hs.sts.length; simpa using this
  refine call_function_entry kind_sorted plain_sorted entry_sorted (args_sorted1 _) ?_
  unfold Builtin.«sorted»
  refine wpAny_bind (m := checkCount "sorted" 1 1 _) (wpAny_pure ?_)
  refine wpAny_bind (set_collect (A := A.in1) hh (N _ ho).1 hs (by omega) fun h' tk d acc its hk hp hacc => ?_)
  have hl : acc.toList.length = es.size := by rw [Array.length_toList]; exact hacc.1
  have hai : acc.toList = its := by
    refine List.ext_getElem? fun j => ?_
    by_cases hj : j < acc.size
    · have e1 : acc[j]? = some acc[j] := Array.getElem?_eq_getElem hj
      rw [Array.getElem?_toList, e1, hacc.2 j _ e1]
    · have e2 : its.length = es.size := by rw [hp.length_eq, List.length_map, Array.length_toList]
      rw [List.getElem?_eq_none (by rw [hl, ← hacc.1]; omega), List.getElem?_eq_none (by rw [e2, ← hacc.1]; omega)]
  obtain ⟨rs, hrs, hrp⟩ := strs_perm2 (hai ▸ hp) hs.sts
  refine wpAny_bind (wpAny_newList ?_ (by rw [hl, sizeLine_eq]; omega))
  refine wpAny_bind (wpAny_holding (lsort_strs (D := h'.objs.size) (n := 0) (news := news) ((F.keeps hk).push _) (News.push (F.keeps hk) (fun p hp => ⟨hk _ _ (N p hp).1, (N p hp).2⟩) _ rfl) (fun q hq => Nat.ne_of_lt (Heap.lt_size (hk _ _ (N q hq).1))) hrs (by rw [hrp.length_eq]; omega) fun ws ss' c h2 a1 a2 a3 F2 N2 => ?_))
  exact wpAny_pure ⟨_, rfl, h _ ws ss' c h2 tk d a1 (a2.trans hrp) a3 F2 N2 fun q hq => Heap.lt_size (hk _ _ (N q hq).1)⟩
end
end
section
open PySem PySem.W PySem.Calls PyProof.Rows
-- K11
theorem orStandIn_led (t : SetTable) (n : Nat) : (t.orStandIn n).led = t.led := by unfold SetTable.orStandIn; split <;> rfl
theorem orStandIn_plain {t : SetTable} (n : Nat) (hp : t.plain = false) : (t.orStandIn n).plain = false := by
  unfold SetTable.orStandIn
  split
  · exact hp
  · rfl
theorem layNew_led (t : SetTable) (es : Array (Int × Value)) (h : Int) (x : Value) : (layNew t es h x).2.1.led = t.led := by
  unfold layNew
  split
  · exact orStandIn_led _ _
  · rfl
theorem layNew_plain (t : SetTable) (es : Array (Int × Value)) (h : Int) (x : Value) (hp : t.plain = false) : (layNew t es h x).2.1.plain = false := by
  unfold layNew
  split
  · exact orStandIn_plain _ hp
  · rfl
theorem laid_same {mask finger moves : Nat} {led plain : Bool} {hs : Array Int} {t' : SetTable} {order : Array Nat} (h : SetTable.laid mask finger moves led plain hs = some (t', order)) : t'.led = led ∧ t'.plain = plain := by
  unfold SetTable.laid at h
  simp only [bind, Option.bind] at h
  split at h
  · cases h
  · cases h
    exact ⟨rfl, rfl⟩
theorem relayAll_led (t : SetTable) (es : Array (Int × Value)) (n : Nat) : (relayAll t es n).2.1.led = t.led := by
  unfold relayAll
  split
  · rename_i t' order e
    dsimp only
    split
    · exact (laid_same e).1
    · rfl
  · rfl
theorem relayAll_plain (t : SetTable) (es : Array (Int × Value)) (n : Nat) (hp : t.plain = false) : (relayAll t es n).2.1.plain = false := by
  unfold relayAll
  split
  · rename_i t' order e
    dsimp only
    split
    · exact (laid_same e).2.trans hp
    · rfl
  · rfl
section
variable {prog : Program} {w : World} {A : Around} {E : Value → Shared → Prop} {s : Shared} {a : Addr} {o : Obj} {es : Array (Int × Value)} {ep : Nat} {t : SetTable} {ss : List Str}
theorem strs_mem {vs : List Value} {ss : List Str} (h : StrsAre vs ss) (k : Str) : k ∈ ss ↔ ∃ v ∈ vs, (PySem.strKind prog w).is k v = true := by
  induction h with
  | nil => simp
  | @cons x t vs ss _ ih =>
    constructor
    · intro hk
      rcases List.mem_cons.mp hk with rfl | hk
      · exact ⟨_, .head _, strKind_is _ _ _ _⟩
      · obtain ⟨v, hv, e⟩ := ih.mp hk
        exact ⟨v, .tail _ hv, e⟩
    · rintro ⟨v, hv, e⟩
      rcases List.mem_cons.mp hv with rfl | hv
      · have e2 := (PySem.strKind prog w).inj _ _ _ e (strKind_is prog w x t)
        exact e2 ▸ .head _
      · exact .tail _ (ih.mpr ⟨v, hv, e⟩)
theorem strs_app {vs us : List Value} {ss ts : List Str} (h : StrsAre vs ss) (h2 : StrsAre us ts) : StrsAre (vs ++ us) (ss ++ ts) := by
  induction h with
  | nil => exact h2
  | cons x t _ ih => exact .cons x t ih
/-- what a set of strs is after a store -/
theorem is_store {o : Obj} {h : Heap} (ho : h.get? a = some o) (hex : o.ExactSet) (hd : o.data = .set es ep t) {es' : Array (Int × Value)} {t' : SetTable} {ss' : List Str} (hf : t'.fits es'.size = true) (hl : t'.led = ledW w) (hp : t'.plain = false)
    (hel : ElemsOf (PySem.strKind prog w) es'.toList) (hst : StrsAre (es'.toList.map (·.2)) ss') (hn : ss'.Nodup) :
    ∃ o', (h.update a (Obj.putSet es' t')).get? a = some o' ∧ SetIs prog w o' es' (ep + 1) t' ss' := by
  have hg := Heap.get?_update_self (Obj.putSet es' t') ho (by rw [putSet_of es' t' hd]; rfl)
  rw [putSet_of es' t' hd] at hg
  exact ⟨_, hg, ⟨hex, rfl, hf, hl, .inr hp, hel, hst, hn⟩⟩
theorem set_addTail {g : Bool → Sem Unit} (hg : ∀ (b : Bool) (s₁ : Shared) (Q' : Unit → Shared → Prop), Q' () s₁ → wpAny (model prog w) A (g b) Q' E s₁)
    (ho : s.heap.get? a = some o) (hex : o.ExactSet) (hd : o.data = .set es ep t)
    {es1 : Array (Int × Value)} {t2 : SetTable} {ss1 : List Str} (hl : t2.led = ledW w) (hp : t2.plain = false) (hel1 : ElemsOf (PySem.strKind prog w) es1.toList) (hst1 : StrsAre (es1.toList.map (·.2)) ss1) (hn1 : ss1.Nodup)
    (hb1 : es1.size ≤ 64) (hf2 : t2.fits es1.size = true) {wasDummy : Bool} {R : Option Bool → Shared → Prop}
    (h : ∀ h' o' es' ep' t' ss', Heap.SameBut a s.heap h' → h'.get? a = some o' → SetIs prog w o' es' ep' t' ss' → ss'.Perm ss1 → R (some true) { s with heap := h' }) :
    wpAny (model prog w) A (do
        storeSet a es1 t2
        if (!wasDummy && t2.tooFull) = true then do
            g (relayAll t2 es1 (SetTable.grown es1.size)).2.2
            storeSet a (relayAll t2 es1 (SetTable.grown es1.size)).1 (relayAll t2 es1 (SetTable.grown es1.size)).2.1
            pure (some true)
          else pure (some true)) R E s := by
  have hz : ∀ n, n ≤ 64 → n ≤ sizeLine := fun n hn => by rw [sizeLine_eq]; omega
  refine wpAny_bind (wpAny_storeSet_of ho hd ?_ (hz _ hb1))
  obtain ⟨o1, ho1, hS1⟩ := is_store ho hex hd hf2 hl hp hel1 hst1 hn1
  have hsb1 := Heap.SameBut.update s.heap a (Obj.putSet es1 t2)
  split
  · have hpm := relayAll_perm t2 es1 (SetTable.grown es1.size)
    have hfr := relayAll_fits t2 es1 (SetTable.grown es1.size)
    have hle := relayAll_led t2 es1 (SetTable.grown es1.size)
    have hpl := relayAll_plain t2 es1 (SetTable.grown es1.size) hp
    generalize relayAll t2 es1 (SetTable.grown es1.size) = Rl at hpm hfr hle hpl ⊢
    obtain ⟨es2, t3, gave2⟩ := Rl
    dsimp only at hpm hfr hle hpl ⊢
    have hsz : es2.size = es1.size := by rw [← Array.length_toList, hpm.length_eq, Array.length_toList]
    obtain ⟨rs, h1, h2⟩ := strs_perm2 (hpm.map (·.2)) hst1
    refine wpAny_bind (hg _ _ _ ?_)
    refine wpAny_bind (wpAny_storeSet_of ho1 hS1.dat ?_ (hz _ (hsz ▸ hb1)))
    obtain ⟨o2, ho2, hS2⟩ := is_store ho1 hS1.ex hS1.dat hfr (hle.trans hl) hpl (hel1.perm hpm) h1 (h2.nodup_iff.mpr hn1)
    exact wpAny_pure (h _ _ _ _ _ _ (hsb1.trans (Heap.SameBut.update _ a _)) ho2 hS2 h2)
  · exact wpAny_pure (h _ _ _ _ _ _ hsb1 ho1 hS1 (.refl _))
theorem set_add {x : Str} {tk : Tok} {Q : Bool → Shared → Prop} (ho : s.heap.get? a = some o) (hs : SetIs prog w o es ep t ss) (hroom : ss.length < 60)
    (h : ∀ b h' o' es' ep' t' ss', Heap.SameBut a s.heap h' → h'.get? a = some o' → SetIs prog w o' es' ep' t' ss' → (∀ y, y ∈ ss' ↔ y ∈ ss ∨ y = x) → ss'.length ≤ ss.length + 1 → Q b { s with heap := h' }) :
    wpAny (model prog w) A (setAddHashed a (.str x tk) ((PySem.strKind prog w).hash x)) Q E s := by
  have hs0 := hs
  obtain ⟨hex, hd, hf, hled, hpl, hel, hst, hnod⟩ := hs
  have hkey : (PySem.strKind prog w).is x (.str x tk) = true := strKind_is _ _ _ _
  have hsc : (Value.str x tk).scannable = true := rfl
  have hsl : es.size = ss.length := by have := hst.length; simpa using this
  have hb : es.size < scanBound := by rw [hsl]; exact Nat.lt_trans hroom (by decide)
  unfold setAddHashed setAddHashedIn
  refine wpAny_holding (wpAny_bind (wpAny_setState_of ho hd hf ?_))
  dsimp only
  rw [byScan_of hsc hb hel]
  simp only [↓reduceIte]
  unfold setAddByScan
  refine wpAny_bind ?_
  refine wpAny_bind (wpAny_rule ?_)
  refine wpAny_bind (wpAny_setScan_of hkey ho hd hf hel ?_)
  cases hr : es.toList.findIdx? (fun e => (PySem.strKind prog w).is x e.2) with
  | some j =>
    dsimp only
    obtain ⟨hj, hpj, _⟩ := List.findIdx?_eq_some_iff_getElem.mp hr
    have hx : x ∈ ss := (strs_mem (prog := prog) (w := w) hst x).mpr ⟨_, List.mem_map_of_mem (List.getElem_mem hj), hpj⟩
    refine wpAny_pure (wpAny_pure ?_)
    have e : s = { s with heap := s.heap } := by cases s; rfl
    rw [e]
    exact h _ s.heap o es ep t ss (Heap.SameBut.refl a s.heap) ho hs0 (fun y => ⟨.inl, fun q => q.elim id fun e => e ▸ hx⟩) (Nat.le_succ _)
  | none =>
    dsimp only
    have hx : x ∉ ss := fun hx => by
      obtain ⟨v, hv, e⟩ := (strs_mem (prog := prog) (w := w) hst x).mp hx
      obtain ⟨z, hz, rfl⟩ := List.mem_map.mp hv
      have := List.findIdx?_eq_none_iff.mp hr z hz
      rw [e] at this
      cases this
    have hgw : ∀ (b : Bool) {s₁ : Shared} {Q' : Unit → Shared → Prop}, Q' () s₁ → wpAny (model prog w) A (match b with | true => rule "set.scan.the-table-gave-way" | false => pure ()) Q' E s₁ :=
      fun b s₁ Q' hq => by cases b <;> first | exact wpAny_pure hq | exact wpAny_rule hq
    have hperm := layNew_perm t es ((PySem.strKind prog w).hash x) (.str x tk)
    have hfits := layNew_fits t es ((PySem.strKind prog w).hash x) (.str x tk)
    have hlel := layNew_led t es ((PySem.strKind prog w).hash x) (.str x tk)
    have hlep := layNew_plain t es ((PySem.strKind prog w).hash x) (.str x tk)
    generalize layNew t es ((PySem.strKind prog w).hash x) (.str x tk) = Ln at hperm hfits hlel hlep ⊢
    obtain ⟨es1, t1, wasDummy, gave⟩ := Ln
    dsimp only at hperm hfits hlel hlep ⊢
    rw [Array.toList_push] at hperm
    have hel1 := (hel.push hkey hsc).perm hperm
    have hst1 : StrsAre ((es.toList ++ [((PySem.strKind prog w).hash x, Value.str x tk)]).map (·.2)) (ss ++ [x]) := by
      rw [List.map_append]
      exact strs_app hst (.cons x tk .nil)
    obtain ⟨rs, hr1, hr2⟩ := strs_perm2 (hperm.map (·.2)) hst1
    have hrn : rs.Nodup := hr2.nodup_iff.mpr (List.nodup_append.mpr ⟨hnod, List.nodup_cons.mpr ⟨List.not_mem_nil, .nil⟩, fun y hy z hz e => hx (by rw [List.mem_singleton.mp hz] at e; exact e ▸ hy)⟩)
    have hb1 : es1.size ≤ 64 := by
      have := hperm.length_eq
      rw [List.length_append, List.length_singleton, Array.length_toList, Array.length_toList] at this
      omega
    have hend : ∀ h' o' es' ep' t' ss', Heap.SameBut a s.heap h' → h'.get? a = some o' → SetIs prog w o' es' ep' t' ss' → ss'.Perm rs → Q true { s with heap := h' } := fun h' o' es' ep' t' ss' h1 h2 h3 h4 =>
      h true h' o' es' ep' t' ss' h1 h2 h3 (fun y => by rw [(h4.trans hr2).mem_iff, List.mem_append, List.mem_singleton]) (by rw [(h4.trans hr2).length_eq, List.length_append]; exact Nat.le_refl _)
    refine wpAny_bind (hgw _ ?_)
    cases hpv : t1.plain with
    | true =>
      simp only [↓reduceIte]
      refine wpAny_bind ?_
      rw [hashByValue_scannable 8 hsc]
      refine wpAny_pure ?_
      show wpAny _ _ _ _ _ _
      refine set_addTail (t2 := { t1 with plain := false }) ?_ ho hex hd (hlel.trans hled) rfl hel1 hr1 hrn hb1 (SetTable.fits_plain_off hfits) ?_
      · intro b s₁ Q' hq; cases b <;> first | exact wpAny_pure hq | exact wpAny_rule hq
      · intro h' o' es' ep' t' ss' h1 h2 h3 h4; dsimp only; exact wpAny_pure (hend h' o' es' ep' t' ss' h1 h2 h3 h4)
    | false =>
      simp only [Bool.false_eq_true, ↓reduceIte]
      refine wpAny_bind (wpAny_pure ?_)
      simp only [↓reduceIte]
      refine set_addTail (t2 := t1) ?_ ho hex hd (hlel.trans hled) hpv hel1 hr1 hrn hb1 hfits ?_
      · intro b s₁ Q' hq; cases b <;> first | exact wpAny_pure hq | exact wpAny_rule hq
      · intro h' o' es' ep' t' ss' h1 h2 h3 h4; dsimp only; exact wpAny_pure (hend h' o' es' ep' t' ss' h1 h2 h3 h4)
end
end
section
open PySem PySem.W PySem.Calls PyProof.Rows
-- K12
section
variable {prog : Program} {w : World} {A : Around} {E : Value → Shared → Prop} {S I l : Addr} {vs : List Value} {ts : List Str}
theorem set_loop {R : Result → Shared → Prop} (hh : A.handled = none) (hne : l ≠ I) (hSI : S ≠ I) (hSl : S ≠ l) (hv : StrsAre vs ts) :
    ∀ (k i : Nat) (s : Shared) (o : Obj) (es : Array (Int × Value)) (ep : Nat) (t : SetTable) (ss : List Str), ts.length - i = k → i ≤ ts.length → s.heap.IsListIter I l i → s.heap.IsList l vs.toArray → s.heap.get? S = some o → SetIs prog w o es ep t ss → ss.length + k ≤ 60 →
      (∀ h' tk o' es' ep' t' ss', (∀ b o, b ≠ S → b ≠ I → s.heap.get? b = some o → h'.get? b = some o) → h'.get? S = some o' → SetIs prog w o' es' ep' t' ss' → (∀ y, y ∈ ss' ↔ y ∈ ss ∨ y ∈ ts.drop i) → ss'.length ≤ ss.length + k → R (.ok (.ret .none)) { s with heap := h', toks := tk }) →
      codeAny (model prog w) A (.builtin "set.update.loop" ⟨[.ref S, .ref I], []⟩) R s := by
  have W := Walks.list (prog := prog) (w := w) (A := A.in1) hh I l hne vs.toArray
  have hsz : vs.toArray.size = ts.length := by rw [List.size_toArray, hv.length]
  rw [hsz] at W
  intro k
  induction k with
  | zero =>
    intro i s o es ep t ss hk hi hit hl ho hs hb hR
    have hin : i = ts.length := by omega
    subst hin
    refine codeAny_builtin F.entry_set_update_loop ?_
    rw [Around.under_plainId F.plain_set_update_loop _]
    show wpAny _ A.in1 (pyNext (.ref I) >>= _) _ _ s
    refine wpAny_bind (W.done s _ _ ⟨hit, hl⟩ fun h' tk hk => ?_)
    show wpAny _ A.in1 (ret Value.none) _ _ _
    exact wpAny_pure (hR h' tk o es ep t ss (fun b o _ hb e => hk b o (by simpa using hb) e) (hk S o (by simpa using hSI) ho) hs (fun y => by rw [List.drop_length]; simp) (Nat.le_refl _))
  | succ k ih =>
    intro i s o es ep t ss hk hi hit hl ho hs hb hR
    have hlt : i < ts.length := by omega
    refine codeAny_builtin F.entry_set_update_loop ?_
    rw [Around.under_plainId F.plain_set_update_loop _]
    show wpAny _ A.in1 (pyNext (.ref I) >>= _) _ _ s
    refine wpAny_bind (W.item i s _ _ hlt ⟨hit, hl⟩ fun v h₁ tk₁ hP hst₁ hk₁ => ?_)
    obtain ⟨x, tk, rfl, hx⟩ := hv.item i v (by simpa using hP)
    have ho₁ : h₁.get? S = some o := hk₁ S o (by simpa using hSI) ho
    show wpAny _ A.in1 (holding [Value.str x tk] (setAdd S (.str x tk)) >>= _) _ _ _
    refine wpAny_bind (wpAny_holding ?_)
    unfold setAdd
    refine wpAny_holding ?_
    refine wpAny_bind ((PySem.strKind prog w).pyHash (k := x) (strKind_is _ _ _ _) ?_)
    refine set_add ho₁ hs (by omega) fun b h₂ o' es' ep' t' ss' hsb ho₂ hs₂ hm hl₂ => ?_
    refine wpAny_pure ⟨plainId_quiet F.plain_set_update_loop _, ih (i + 1) _ o' es' ep' t' ss' (by omega) hlt (hst₁.1.extBut hsb.extBut hSI.symm) (hst₁.2.extBut hsb.extBut hSl.symm) ho₂ hs₂ (by omega) fun h₃ tk₃ o3 es3 ep3 t3 ss3 hk₃ ho₃ hs₃ hm₃ hl₃ => ?_⟩
    refine hR h₃ tk₃ o3 es3 ep3 t3 ss3 (fun b ob hb hbI e => hk₃ b ob hb hbI (hsb.extBut b ob hb (hk₁ b ob (by simpa using hbI) e))) ho₃ hs₃ (fun y => ?_) (by omega)
    have hd : ts.drop i = x :: ts.drop (i + 1) := by
      rw [List.drop_eq_getElem_cons hlt]
      rw [List.getElem?_eq_getElem hlt] at hx
      rw [Option.some.inj hx]
    rw [hm₃, hm, hd, List.mem_cons, or_assoc]
/-- all.update(a list of strs) -/
theorem set_update {s : Shared} {o : Obj} {es : Array (Int × Value)} {ep : Nat} {t : SetTable} {ss : List Str} {Q : Value → Shared → Prop} (hh : A.handled = none) (hSl : S ≠ l) (hv : StrsAre vs ts) (hl : s.heap.IsList l vs.toArray) (ho : s.heap.get? S = some o) (hs : SetIs prog w o es ep t ss) (hb : ss.length + ts.length ≤ 60)
    (h : ∀ h' tk o' es' ep' t' ss', (∀ b o, b ≠ S → s.heap.get? b = some o → h'.get? b = some o) → h'.get? S = some o' → SetIs prog w o' es' ep' t' ss' → (∀ y, y ∈ ss' ↔ y ∈ ss ∨ y ∈ ts) → ss'.length ≤ ss.length + ts.length → Q .none { s with heap := h', toks := tk }) :
    wpAny (model prog w) A (call (.builtin "set.update") [.ref S, .ref l]) Q E s := by
  have hT : s.TypeIs (.ref S) "set" := ⟨o, ho, hs.ex.1⟩
  refine wpAny_call_entry F.slot_set_update hT F.entry_set_update ?_ (F.args_set_update_2 _ _)
  have hTl := hl.typeIs
  have hsls := F.sub_list_set
  have hslf := F.sub_list_frozenset
  have hnd : (Value.type "list" == Value.type "dict") = false := by decide
  unfold Builtin.«set.update» Builtin.Frozenset.manyOthers Builtin.Frozenset.updateFrom
  generalize hPI : pyIter = PI
  wp_walk
  subst hPI
  have hIlt : @LT.lt Nat _ l s.heap.objs.size := let ⟨_, e, _⟩ := hl; Heap.lt_size e
  have hSlt : @LT.lt Nat _ S s.heap.objs.size := Heap.lt_size ho
  refine wpAny_pyIter_list hl ?_
  refine wpAny_bind (wpAny_runValue (set_loop (A := A.in1) hh (Nat.ne_of_lt hIlt) (Nat.ne_of_lt hSlt) hSl hv ts.length 0 _ o es ep t ss (Nat.sub_zero _) (Nat.zero_le _) ⟨_, Heap.get?_push_size _ rfl, rfl, rfl⟩ (hl.push _) (Heap.get?_push_of_some _ ho) hs hb ?_))
  intro h' tk o' es' ep' t' ss' hk ho' hs' hm hl'
  refine wpAny_pure (wpAny_pure (wpAny_pure ?_))
  show wpAny _ _ (ret Value.none) _ _ _
  refine wpAny_pure ⟨_, rfl, h h' tk o' es' ep' t' ss' (fun b o hb e => hk b o hb (Nat.ne_of_lt (Heap.lt_size e)) (Heap.get?_push_of_some _ e)) ho' hs' (fun y => by rw [hm, List.drop_zero]) hl'⟩
end
end
section
open PySem PyProof.Rows
-- K4
section
variable {prog : Program} {w : World} {A : Around} {E : Value → Shared → Prop} {s : Shared}
/-- an empty set as set() makes it: its mark is the world's -/
noncomputable def newSetO (w : World) : Obj := { cls := .type "set", dict := none, data := .set #[] 0 (.fresh 0 0 (!w.params.followText "set-order")) }
theorem code_set_led {Q₁ : Value → Shared → Prop} (h : Q₁ (.ref s.heap.objs.size) { s with heap := s.heap.push (newSetO w) }) :
    codeAny (model prog w) A (.call (.builtin "set.__new__") ⟨[.type "set"], []⟩) (wants Q₁ E) s := by
  refine codeAny_of_tree ?_
  show wpAny _ A.in1 (do checkBuiltinCall "set.__new__" ⟨[.type "set"], []⟩; again (.builtin "set.__new__" ⟨[.type "set"], []⟩)) _ _ s
  refine wpAny_bind (wpAny_of_eq F.newCall_set_0 (wpAny_pure ⟨plainId_quiet F.plain_set_new _, codeAny_builtin F.entry_set_new ?_⟩))
  rw [Around.under_plainId F.plain_set_new _]
  unfold Builtin.«set.__new__» Builtin.Frozenset.newClass
  have hsub := sub_set_self
  obtain ⟨hp, g, d, tk, os⟩ := s
  dsimp only
  wp_walk
  refine wpAny_askSetting (wpAny_pure ?_)
  dsimp only
  simp only [newObj]
  refine wpAny_bind (wpAny_alloc (wpAny_pure ?_))
  exact wpAny_pure h
theorem call_set_led {Q : Value → Shared → Prop} (h : Q (.ref s.heap.objs.size) { s with heap := s.heap.push (newSetO w) }) : wpAny (model prog w) A (call (.type "set") []) Q E s := by
  obtain ⟨c, tl, hmro⟩ := F.called_set.mro
  have hmade := F.called_set.made
  have hsub := F.called_set.sub
  refine wpAny_call (codeAny_of_tree ?_)
  show wpAny _ _ (callAny (.type "set") _) _ _ _
  refine wpAny_pure ⟨Code.quiet_builtin _ (by decide +kernel), codeAny_builtin F.entry_type_call ?_⟩
  rw [Around.under_plain (weight_type_call_type "set" [] []) rfl]
  have h1 := F.called_set.notType
  have h2 := F.called_set.canCreate
  have hct := F.typeCall_set_0
  repeat (any_goals (first | assumption | wp_step))
  refine codeAny_mono (code_set_led (E := E) (Q₁ := fun obj s₁ => obj = .ref s.heap.objs.size ∧ s₁ = { s with heap := s.heap.push (newSetO w) }) ⟨rfl, rfl⟩) fun r s₁ hr => ?_
  cases r with
  | error e => exact hr
  | ok fl =>
    cases fl with
    | ret obj =>
      obtain ⟨rfl, rfl⟩ := hr
      have hS : (s.heap.push (newSetO w)).get? s.heap.objs.size = some (newSetO w) := Heap.get?_push_size _ rfl
      have hT : Shared.TypeIs { s with heap := s.heap.push (newSetO w) } (.ref s.heap.objs.size) "set" := ⟨_, hS, rfl⟩
      have hli := F.called_set.init.lookup
      have hbi := F.called_set.init.bind (.ref s.heap.objs.size)
      repeat (any_goals (first | assumption | wp_step))
      refine codeAny_mono (codeAny_call_builtin (R := wants (fun r s₂ => r = .none ∧ Q (.ref s.heap.objs.size) s₂) E) F.called_set.init.plain F.entry_set_init (check_set_init hT ?_)) fun r₂ s₂ hr₂ => ?_
      · unfold Builtin.«set.__init__» noKeywords
        wp_walk
        exact ⟨rfl, h⟩
      · cases r₂ with
        | error e => exact hr₂
        | ok fl₂ =>
          cases fl₂ with
          | ret r =>
            obtain ⟨rfl, hq⟩ := hr₂
            repeat (any_goals (first | assumption | wp_step))
          | _ => exact hr₂.elim
    | _ => exact hr.elim
end
end
-- K13
noncomputable def isBoolOf (b : Bool) (v : Value) : Bool := match v with | .bool c => c == b | _ => false
theorem isBool_shape {b : Bool} {v : Value} (h : isBoolOf b v = true) : v = .bool b := by
  cases v <;> simp_all [isBoolOf]
/-- a dict's keys that are bools -/
noncomputable def boolKind (prog : Program) (w : World) : KeyKind prog w Bool where
  is := isBoolOf
  hash := fun b => reduceHash (if b then 1 else 0)
  inj := fun v a b ha hb => by
    have h1 := isBool_shape ha
    rw [h1] at hb
    exact (beq_iff_eq.mp hb)
  byValue := fun k v h => by rw [isBool_shape h]; rfl
  pyHash := fun {A E s k v Q} hv h => by
    rw [isBool_shape hv]
    refine pyHash_slot (T := "bool") rfl F.slot_bool_hash entry_int_hash (args_int_hash _) (beq_builtin_none _) (.inl rfl) ?_
    cases k
    · exact (show wpAny _ _ (do ret (← mkInt 0)) _ _ s from wpAny_bind (wpAny_mkInt (wpAny_pure ⟨_, _, rfl, h⟩)))
    · exact (show wpAny _ _ (do ret (← mkInt 1)) _ _ s from wpAny_bind (wpAny_mkInt (wpAny_pure ⟨_, _, rfl, h⟩)))
  eqBool := fun {A E s a b u v Q} hu hv h => by
    rw [isBool_shape hu, isBool_shape hv]
    refine SeqAt.EqAt.bool_bool a b prog w E Q ?_
    rw [show (a == b) = decide (a = b) by cases a <;> cases b <;> rfl]
    exact h
  «strs» := fun k x t v h => by simp [isBoolOf] at h
theorem boolKind_is (prog : Program) (w : World) (b : Bool) : (boolKind prog w).is b (.bool b) = true := by cases b <;> rfl
section
open PySem PySem.W PySem.Calls PyProof.Rows
-- K14
section
variable {prog : Program} {w : World} {A : Around} {E : Value → Shared → Prop} {s : Shared} {h₀ : Heap} {L kS a : Addr} {m : Str → Option Value} {news : List (Addr × Obj)} {vs ks : List Value}
/-- a sort with a key, of one item at most -/
theorem ke1 {e e1 : Nat} {P : PySem.Fin → Shared → Prop} (hl : ks.length = vs.length) (h1 : vs.length < 2)
    (h : KatFin h₀ L m kS a ks e e1 vs (fun s3 => P (.done (.ret .none)) s3) s) :
    wpAny (model prog w) A (ksk_end a false vs.toArray e1 (.ref kS) (List.toArray ks)) P E s := by
  have hn2 : vs.toArray.size < 2 := by rw [List.size_toArray]; exact h1
  unfold ksk_end
  try dsimp only
  rw [if_neg Bool.false_ne_true, if_pos hn2, if_pos hn2]
  refine wpAny_bind (wpAny_pure ?_)
  refine wpAny_bind (m := (pure () : StateT SortSt Sem Unit).run _) (wpAny_pure ?_)
  refine kat_tail (b := false) (out := vs) ?_ (by omega) (by omega) rfl h
  show Array.map (fun x => x.snd) ((List.toArray ks).zip vs.toArray) = _
  apply Array.toList_inj.mp
  rw [Array.toList_map, Array.toList_zip]
  exact List.map_snd_zip (by show vs.length ≤ ks.length; omega)
theorem kr1 {f : Value} {e1 : Nat} {P : PySem.Fin → Shared → Prop} (hk : s.heap.get? kS = some (seqObj "list" #[] 0)) (h1 : vs.length < 2)
    (h : KatKeys prog w A h₀ L m kS f (fun ks e s' => KatFin h₀ L m kS a ks e e1 vs (fun s4 => P (.done (.ret .none)) s4) s') vs [] 0 s) :
    wpAny (model prog w) A (ksk_rest a f false vs.toArray e1 (.ref kS)) P E s := by
  unfold ksk_rest
  refine wpAny_bind (wpAny_rule ?_)
  first
    | rw [List.forIn_toArray]
    | (rw [← Array.forIn_toList]; simp only [List.toList_toArray])
    | rw [← Array.forIn_toList]
  refine wpAny_bind (wpAny_mono (kat_fold (n := vs.length) (by omega) (fun x ks e s' C hz hx => ?_) vs [] 0 s (by simp) hk h) (fun _ s' hd => ?_) fun _ _ x => x)
  · refine wpAny_bind (wpAny_attempt (wpAny_mono hx (fun k s'' hk => ?_) fun _ _ hF => hF.elim))
    obtain ⟨news', g, F', N', U, c⟩ := hk
    obtain ⟨pre, post, e0, hg, x1, x2⟩ := U.split
    rw [e0] at N'
    have nk := N' (kS, seqObj "list" (List.toArray ks) e) (List.mem_append_right _ (.head _))
    have s1 := Heap.SameBut.update s''.heap kS (Obj.mapSeq (·.push k))
    have ea : (List.toArray ks).push k = List.toArray (ks ++ [k]) := by simp
    obtain ⟨c2, hc2⟩ : ∃ c2, (s''.heap.update kS (Obj.mapSeq (·.push k))).get? kS = some (seqObj "list" (List.toArray (ks ++ [k])) c2) := ⟨_, by rw [← ea]; exact get?_update_seq nk.1 (·.push k)⟩
    try dsimp only
    refine wpAny_bind (listUpdate_at nk.1 rfl ?_ (by rw [List.size_toArray, sizeLine_eq]; omega) (Nat.le_trans (Nat.le_of_eq (Array.size_push ..)) (by rw [List.size_toArray, sizeLine_eq]; omega)))
    exact wpAny_pure ⟨rfl, k, c2, hc2, c _ c2 (kas_fr F' s1 nk.2.1 nk.2.2) (by rw [hg]; exact news_set N' x1 x2 s1 hc2)⟩
  · obtain ⟨ks, e, hk', hl, fin⟩ := hd
    try dsimp only
    refine wpAny_bind (listItems_at hk' rfl ?_)
    exact ke1 hl h1 fin
theorem kk1 {f : Value} {n : Nat} {P : PySem.Fin → Shared → Prop} (F : Fr h₀ L s.heap m) (N : News h₀ L s.heap news) (ho : s.heap.get? a = some (seqObj "list" vs.toArray n)) (haL : a ≠ L) (ha0 : h₀.get? a = none) (hna : ∀ p ∈ news, p.1 ≠ a)
    (h1 : vs.length < 2)
    (h : ∀ kS e1 h', Fr h₀ L h' m → News h₀ L h' ((kS, seqObj "list" #[] 0) :: (a, seqObj "list" #[] e1) :: news) → a < kS → (∀ q ∈ news, q.1 < kS) →
      KatKeys prog w A h₀ L m kS f (fun ks e s' => KatFin h₀ L m kS a ks e e1 vs (fun s4 => P (.done (.ret .none)) s4) s') vs [] 0 { s with heap := h' }) :
    wpAny (model prog w) A (ksk_tree a f false) P E s := by
  have ha : a < s.heap.objs.size := Heap.lt_size ho
  have s1 := Heap.SameBut.update s.heap a (Obj.mapSeq fun _ => (#[] : Array Value))
  obtain ⟨e1, ho1⟩ : ∃ e1, (s.heap.update a (Obj.mapSeq fun _ => (#[] : Array Value))).get? a = some (seqObj "list" #[] e1) := ⟨_, get?_update_seq ho fun _ => #[]⟩
  have F1 := kas_fr F s1 haL ha0
  have N1 := kas_news N s1 hna
  have hkS : ((s.heap.update a (Obj.mapSeq fun _ => (#[] : Array Value))).push (seqObj "tuple" vs.toArray 0)).objs.size = s.heap.objs.size + 1 := by rw [size_push', Heap.size_update]
  have hLk : L < ((s.heap.update a (Obj.mapSeq fun _ => (#[] : Array Value))).push (seqObj "tuple" vs.toArray 0)).objs.size := (F1.push _).ns.lt
  unfold ksk_tree
  refine wpAny_bind (listItems_at ho rfl ?_)
  refine wpAny_bind (listUpdate_at ho rfl ?_ (by rw [List.size_toArray, sizeLine_eq]; omega) (Nat.zero_le _))
  refine wpAny_bind (seqEpoch_at ho1 rfl ?_)
  refine wpAny_bind (wpAny_newTuple ?_ (by show vs.length ≤ _; rw [sizeLine_eq]; omega))
  refine wpAny_bind (wpAny_newList ?_ (Nat.zero_le _))
  refine wpAny_holding ?_
  refine kr1 (s := { s with heap := ((s.heap.update a (Obj.mapSeq fun _ => (#[] : Array Value))).push (seqObj "tuple" vs.toArray 0)).push (seqObj "list" #[] 0) }) (kS := ((s.heap.update a (Obj.mapSeq fun _ => (#[] : Array Value))).push (seqObj "tuple" vs.toArray 0)).objs.size)
    (Heap.get?_push_size _ rfl) h1 (h _ e1 _ ((F1.push _).push _) (fun p hp => ?_) (by rw [hkS]; exact Nat.lt_succ_of_lt ha) fun q hq => by rw [hkS]; exact Nat.lt_succ_of_lt (Heap.lt_size (N q hq).1))
  rcases List.mem_cons.mp hp with rfl | hp
  · exact ⟨Heap.get?_push_size _ rfl, Nat.ne_of_gt hLk, Heap.get?_none_of_le (Nat.le_trans F.above (Nat.le_of_lt hLk))⟩
  · rcases List.mem_cons.mp hp with rfl | hp
    · exact ⟨Heap.get?_push_of_some _ (Heap.get?_push_of_some _ ho1), haL, ha0⟩
    · exact ⟨Heap.get?_push_of_some _ (Heap.get?_push_of_some _ (N1 p hp).1), (N1 p hp).2⟩
/-- sorted(a list, key=f), one item at most -/
theorem ks1 {l q : Addr} {Q : Value → Shared → Prop} (F : Fr h₀ L s.heap m) (N : News h₀ L s.heap news) (hl : s.heap.IsList l vs.toArray) (h1 : vs.length < 2)
    (h : ∀ D kS e1 h', Fr h₀ L h' m → News h₀ L h' ((kS, seqObj "list" #[] 0) :: (D, seqObj "list" #[] e1) :: news) → D < kS → (∀ q ∈ news, q.1 < D) →
      KatKeys prog w A.in1.in1 h₀ L m kS (.ref q) (fun ks e s' => KatFin h₀ L m kS D ks e e1 vs (fun s4 => Q (.ref D) s4) s') vs [] 0 { s with heap := h' }) :
    wpAny (model prog w) A (call (.builtin "sorted") [.ref l] [(Str.ofString "key", .ref q)]) Q E s := by
  refine call_function_entry_kw kind_sorted plain_sorted entry_sorted (ksk_s1 _ _) ?_
  unfold Builtin.«sorted»
  refine wpAny_bind (m := checkCount "sorted" 1 1 _) (wpAny_pure ?_)
  refine wpAny_bind (collect_list hl ?_ (by rw [sizeLine_eq]; omega))
  refine wpAny_bind (wpAny_newList ?_ (by rw [sizeLine_eq]; omega))
  have hsz : ((s.heap.push (seqObj "list" #[] 0)).update s.heap.objs.size (Obj.mapSeq (· ++ vs.toArray))).objs.size = s.heap.objs.size + 1 := by
    rw [Heap.size_update, size_push']
  have hoL : (((s.heap.push (seqObj "list" #[] 0)).update s.heap.objs.size (Obj.mapSeq (· ++ vs.toArray))).push (seqObj "list" vs.toArray 0)).get? (s.heap.objs.size + 1) = some (seqObj "list" vs.toArray 0) := by
    rw [← hsz]; exact Heap.get?_push_size _ rfl
  have keep : ∀ b o, s.heap.get? b = some o → (((s.heap.push (seqObj "list" #[] 0)).update s.heap.objs.size (Obj.mapSeq (· ++ vs.toArray))).push (seqObj "list" vs.toArray 0)).get? b = some o := fun b o q => by
    have hlt : b < s.heap.objs.size := Heap.lt_size q
    rw [Heap.get?_push_ne _ _ _ (by rw [hsz]; exact Nat.ne_of_lt (Nat.lt_succ_of_lt hlt)), Heap.get?_update_ne _ _ _ _ (Nat.ne_of_lt hlt), Heap.get?_push_ne _ _ _ (Nat.ne_of_lt hlt)]
    exact q
  have hL : L < s.heap.objs.size := F.ns.lt
  show wpAny _ _ _ _ _ { s with heap := ((s.heap.push (seqObj "list" #[] 0)).update s.heap.objs.size (Obj.mapSeq (· ++ vs.toArray))).push (seqObj "list" vs.toArray 0) }
  rw [hsz]
  refine wpAny_bind (wpAny_holding (wpAny_call_entry_kw slot_list_sort ⟨_, hoL, rfl⟩ entry_list_sort ?body (ksk_l1 _ _)))
  case body =>
    show wpAny (model prog w) A.in1.in1 (Builtin.«list.sort» ⟨[.ref (s.heap.objs.size + 1)], [(Str.ofString "key", .ref q)]⟩) _ _ _
    rw [ksk_t1]
    refine kk1 (s := { s with heap := ((s.heap.push (seqObj "list" #[] 0)).update s.heap.objs.size (Obj.mapSeq (· ++ vs.toArray))).push (seqObj "list" vs.toArray 0) })
      (F.kept keep) (N.grown keep) hoL (Nat.ne_of_gt (Nat.lt_succ_of_lt hL)) (Heap.get?_none_of_le (Nat.le_trans F.above (Nat.le_succ_of_le (Nat.le_of_lt hL))))
      (fun p hp => Nat.ne_of_lt (Nat.lt_succ_of_lt (Heap.lt_size (N p hp).1))) h1 fun kS e1 h' F' N' l0 l1 => ?_
    refine kat_keys_mono (h _ kS e1 h' F' N' l0 fun q hq => Nat.lt_succ_of_lt (Heap.lt_size (N q hq).1)) fun ks e s' hl' hd => ?_
    exact hd.mono fun s4 hq => ⟨_, rfl, wpAny_pure ⟨_, rfl, hq⟩⟩
end
end
end Mine
namespace Mine
-- A1
noncomputable abbrev PR : Program := PySem.Challenge.rw_je0014_01.row.toRowW.prog
noncomputable abbrev KK (w : World) : Frag := hd.heap_1 w.params
noncomputable abbrev LOO : List Str := looseW vw [Str.ofString "ConsumerProtocolSubscription", Str.ofString "RoundRobinPartitionAssignor"]
noncomputable abbrev handO (S : Addr) (k : Int) (t : Tok) : Obj := listOf #[.ref S, .int k t] 0

local macro_rules | `(tactic| k_all) => `(tactic| assumption)

theorem next_spec {w : World} {mean : ExcName → Option Value} {mg mb : Str → Option Value} {dp un : Nat} {gd : Option (List Code)} {cn : Str} {cs : Scope} {a : Addr} {ccd : Value} {cl : List (Str × Addr)} {outer : List Env} {A₀ : Around} {base h₀ : Heap} {L : Addr} {m : Str → Option Value} {rest : List (Addr × Obj)} {s : Shared} {Q E : Value → Shared → Prop}
  {hand S : Addr} {k many : Int} {t tm : Tok} {vs : List Value} {ns : List Int}
  (B : Below A₀ base outer h₀) (F : Fr h₀ L s.heap m) (X : (hd.heap_1 w.params).In h₀) (N : News h₀ L s.heap ((hand, handO S k t) :: rest)) (T : Top vw LOO mean mg mb h₀) (hck : cs.kind = .function)
  (hoff : ∀ p ∈ rest, p.1 ≠ hand) (hS : base.IsList S vs.toArray) (hI : IntsAre vs ns) (hlen : ¬ ((63 : Int)) < (ns.length : Int)) (hlay : (PyData.list (ns.map PyData.int)).layable0 = true)
  (k0 : 0 ≤ k) (k1 : k < 1000) (m0 : 1 ≤ many) (m1 : many ≤ 64) (hd' : dp + 1 < recursionLimit) (hu : un + 8 < cLine)
  (hret : ∀ r t₁ t₂ h' tk', 0 ≤ r → r < many → Fr h₀ L h' m → News h₀ L h' ((hand, handO S (k + 1) t₂) :: rest) → Q (.int r t₁) { s with heap := h', toks := tk' }) :
  wpAny (model PR w) (ktrTop dp un gd cn cs L a ccd cl outer) (call (.ref 189) [.ref hand, .int many tm]) Q E s := by
  have hfill : (fun (_ : OpenLaw) (_ : Params → Frag) => True) PySem.Challenge.rw_je0014_01 hd.heap_1 := by k_fill; trivial
  clear hfill
  refine wpAny_call ?_
  k_dflt ktr_enter
  rename Below _ _ _ _ => B9
  have hS9 := stays_list B9.stays hS
  k_steps
  · exact hret _ _ _ _ _ (Int.fmod_nonneg_of_pos _ (by omega)) (Int.fmod_lt_of_pos _ (by omega)) (by assumption) (by assumption)
  · exact hret _ _ _ _ _ (Int.fmod_nonneg_of_pos _ (by omega)) (Int.fmod_lt_of_pos _ (by omega)) (by assumption) (by assumption)


theorem news_reorder {h₀ h : Heap} {L : Addr} {l l' : List (Addr × Obj)} (N : News h₀ L h l) (hs : ∀ p ∈ l', p ∈ l) : News h₀ L h l' := fun p hp => N p (hs p hp)
end Mine
namespace Mine
-- A2
section
variable {w : World} {mean : ExcName → Option Value} {mg mb : Str → Option Value} {dp un : Nat} {gd : Option (List Code)} {cn : Str} {cs : Scope} {a : Addr} {ccd : Value} {cl : List (Str × Addr)} {outer : List Env} {A₀ : Around} {base h₀ : Heap} {L : Addr} {m : Str → Option Value} {s : Shared} {Q E : Value → Shared → Prop}

theorem next_U {news : List (Addr × Obj)} {g : Obj → List (Addr × Obj)} {hand S : Addr} {k many : Int} {t tm : Tok} {vs : List Value} {ns : List Int}
  (B : Below A₀ base outer h₀) (F : Fr h₀ L s.heap m) (X : (hd.heap_1 w.params).In h₀) (N : News h₀ L s.heap news) (T : Top vw LOO mean mg mb h₀) (hck : cs.kind = .function)
  (U : UpdF hand (handO S k t) news g) (hS : base.IsList S vs.toArray) (hI : IntsAre vs ns) (hlen : ¬ ((63 : Int)) < (ns.length : Int)) (hlay : (PyData.list (ns.map PyData.int)).layable0 = true)
  (k0 : 0 ≤ k) (k1 : k < 1000) (m0 : 1 ≤ many) (m1 : many ≤ 64) (hd' : dp + 1 < recursionLimit) (hu : un + 8 < cLine)
  (hret : ∀ r t₁ t₂ h' tk', 0 ≤ r → r < many → Fr h₀ L h' m → News h₀ L h' (g (handO S (k + 1) t₂)) → Q (.int r t₁) { s with heap := h', toks := tk' }) :
  wpAny (model PR w) (ktrTop dp un gd cn cs L a ccd cl outer) (call (.ref 189) [.ref hand, .int many tm]) Q E s := by
  obtain ⟨pre, post, e0, hg, x1, x2⟩ := U.split
  subst e0
  refine next_spec (rest := pre ++ post) (t := t) B F X (news_reorder N fun p hp => ?_) T hck (fun p hp => (List.mem_append.mp hp).elim (x1 p) (x2 p)) hS hI hlen hlay k0 k1 m0 m1 hd' hu fun r t₁ t₂ h' tk' r0 r1 F' N' => hret r t₁ t₂ h' tk' r0 r1 F' ?_
  · rcases List.mem_cons.mp hp with rfl | hp
    · exact List.mem_append_right _ (.head _)
    · exact (List.mem_append.mp hp).elim (fun q => List.mem_append_left _ q) fun q => List.mem_append_right _ (.tail _ q)
  · rw [hg]
    refine news_reorder N' fun p hp => ?_
    rcases List.mem_append.mp hp with hp | hp
    · exact .tail _ (List.mem_append_left _ hp)
    · rcases List.mem_cons.mp hp with rfl | hp
      · exact .head _
      · exact .tail _ (List.mem_append_right _ hp)
end
theorem kl_cut_at : ∀ (l : List Value) (k : Nat), k < l.length → ∃ p y q, kl_cut l k = some (p, y, q)
  | [], _, h => absurd h (Nat.not_lt_zero _)
  | x :: r, 0, _ => ⟨[], x, r, rfl⟩
  | x :: r, k + 1, h => by
    obtain ⟨p, y, q, e⟩ := kl_cut_at r k (Nat.lt_of_succ_lt_succ h)
    exact ⟨x :: p, y, q, by simp only [kl_cut, e]⟩


theorem upd_of_updF {d : Addr} {o o' : Obj} : ∀ {l : List (Addr × Obj)} {g : Obj → List (Addr × Obj)}, UpdF d o l g → Upd d o o' l (g o')
  | _, _, .head h => .head h
  | _, _, .tail h r => .tail h (upd_of_updF r)

section
variable {prog : Program} {w : World} {A : Around} {E : Value → Shared → Prop} {s : Shared} {h₀ : Heap} {L : Addr} {m : Str → Option Value} {news : List (Addr × Obj)} {g : Obj → List (Addr × Obj)} {D : Addr} {us : List Value} {n : Nat} {Q : Value → Shared → Prop}
theorem pop_L {i : Int} {u : Tok} (F : Fr h₀ L s.heap m) (N : News h₀ L s.heap news) (U : UpdF D (listOf us.toArray n) news g) (h0 : 0 ≤ i) (h1 : i < (us.length : Int)) (hz : us.length ≤ 60)
    (h : ∀ p y q h', us = p ++ y :: q → Fr h₀ L h' m → News h₀ L h' (g (listOf (p ++ q).toArray (n + 1))) → Q y { s with heap := h' }) :
    wpAny (model prog w) A (call (.builtin "list.pop") [.ref D, .int i u]) Q E s := by
  obtain ⟨k, rfl⟩ := Int.eq_ofNat_of_zero_le h0
  obtain ⟨p, y, q, e⟩ := kl_cut_at us k (by omega)
  have hs := kl_cut_spec e
  refine kl_popAt F N (k := k) ?_ ?_ (by simpa using e) (upd_of_updF U) (by rw [sizeLine_eq]; simp; omega) fun h' F' N' => h p y q h' hs.1 F' N'
  · simp [Builtin.List.listFitsIndex]; omega
  · simp [seqIndex?]; omega
theorem append_L {x : Value} (F : Fr h₀ L s.heap m) (N : News h₀ L s.heap news) (U : UpdF D (listOf us.toArray n) news g) (hz : us.length ≤ 1000)
    (h : ∀ h', Fr h₀ L h' m → News h₀ L h' (g (listOf (us ++ [x]).toArray (n + 1))) → Q .none { s with heap := h' }) :
    wpAny (model prog w) A (call (.builtin "list.append") [.ref D, x]) Q E s := by
  refine append_K F N (upd_of_updF U) (fun h' F' N' => h h' F' ?_) (by rw [sizeLine_eq]; simp; omega)
  simpa using N'
end
section
variable {prog : Program} {w : World} {A : Around} {E : Value → Shared → Prop} {Q : Flow → Shared → Prop} {s : Shared} {env : Env} {h₀ : Heap} {L : Addr} {m : Str → Option Value}
noncomputable def WEnd (h₀ : Heap) (L : Addr) (m : Str → Option Value) (s : Shared) (J : Nat → List (Addr × Obj) → Prop) (n : Nat) (s₃ : Shared) : Prop :=
  ∃ h' tk news' n', s₃ = { s with heap := h', toks := tk } ∧ Fr h₀ L h' m ∧ News h₀ L h' news' ∧ n' < n ∧ J n' news'
noncomputable def WPost (h₀ : Heap) (L : Addr) (m : Str → Option Value) (s : Shared) (J : Nat → List (Addr × Obj) → Prop) (Q : Flow → Shared → Prop) (n : Nat) (f : Flow) (s₃ : Shared) : Prop :=
  match f with
  | .brk => Q .next s₃
  | .ret v => Q (.ret v) s₃
  | _ => WEnd h₀ L m s J n s₃
theorem while_same {test : Expr} {body : List Stmt} {pos : Pos} {news : List (Addr × Obj)} (J : Nat → List (Addr × Obj) → Prop) {n₀ : Nat}
    (F : Fr h₀ L s.heap m) (N : News h₀ L s.heap news) (hJ : J n₀ news)
    (turn : ∀ n news₁ h₁ tk₁, Fr h₀ L h₁ m → News h₀ L h₁ news₁ → J n news₁ →
      wpAny (model prog w) A (isTrue test env (eval test env)) (fun b s₂ =>
        if b = true then wpAny (model prog w) A (execs body env) (WPost h₀ L m s J Q n) E s₂ else Q .next s₂) E { s with heap := h₁, toks := tk₁ })
    (hE : PassesOwn (model prog w) A env E := by passes_own) :
    wpAny (model prog w) A (exec (.While test body [] pos) env) Q E s := by
  refine While_inv2 (fun n m₁ nx => m₁ = m ∧ J n nx) F N ⟨rfl, hJ⟩ ?_ hE
  rintro n m₁ nx h₁ tk₁ F₁ N₁ ⟨rfl, J₁⟩
  refine wpAny_mono (turn n nx h₁ tk₁ F₁ N₁ J₁) (fun b s₂ h₂ => ?_) fun _ _ x => x
  cases b with
  | false => simpa using h₂
  | true =>
    simp only [if_true] at h₂ ⊢
    refine wpAny_mono h₂ (fun f s₃ h₃ => ?_) fun _ _ x => x
    cases f with
    | next => obtain ⟨h', tk, nx', n', e, F', N', hn, hj⟩ := h₃; exact ⟨h', tk, _, nx', n', e, F', N', hn, rfl, hj⟩
    | cont => obtain ⟨h', tk, nx', n', e, F', N', hn, hj⟩ := h₃; exact ⟨h', tk, _, nx', n', e, F', N', hn, rfl, hj⟩
    | brk => exact h₃
    | ret v => exact h₃
theorem wend {s₁ : Shared} {J : Nat → List (Addr × Obj) → Prop} {n n' : Nat} {h' : Heap} {tk : Nat} {news' : List (Addr × Obj)} (F : Fr h₀ L h' m) (N : News h₀ L h' news') (hn : n' < n) (hj : J n' news') :
    WEnd h₀ L m s₁ J n { s₁ with heap := h', toks := tk } := ⟨h', tk, news', n', rfl, F, N, hn, hj⟩
end
local macro_rules | `(tactic| k_all) => `(tactic| assumption)
local macro_rules | `(tactic| walk_at "truthy ref") => `(tactic| (k_here; (with_reducible show wpAny _ _ (truthy (Value.ref _)) _ _ _); k_dflt (refine' kgr_truthy ?N ?m ?c ?d ?f ?_; (case N => k_asm); (case m => k_mem); (case c => exact rfl); (case d => exact rfl); (case f => omega))))
local macro_rules | `(tactic| walk_at "call builtin:len") => `(tactic| (k_here; (with_reducible show wpAny _ _ (call (Value.builtin "len") [Value.ref _]) _ _ _); k_dflt (refine' kst_len ?N ?m ?e ?f ?_; (case N => k_asm); (case m => k_mem); (case e => exact rfl); (case f => omega))))
local macro_rules | `(tactic| walk_at "call ref") => `(tactic| (k_here; (with_reducible show wpAny _ _ (call (Value.ref 189) [Value.ref _, Value.int _ _]) _ _ _); k_dflt (refine' next_U ?kB ?kF ?kX ?kN ?kT ?kc ?kU ?kS ?kI ?kl ?ky ?k0 ?k1 ?m0 ?m1 ?kd ?ku ?_; (case kB => k_asm); (case kF => k_asm); (case kX => k_asm); (case kN => k_asm); (case kT => k_asm); (case kc => first | exact rfl | assumption); (case kU => k_updF); (case kS => assumption); (case kI => assumption); (case kl => assumption); (case ky => assumption); (case k0 => omega); (case k1 => omega); (case m0 => omega); (case m1 => omega); (case kd => ktr_room); (case ku => ktr_units)); intro r9 t9 u9 h9 tk9 r90 r91 F' N'; (try dsimp only at N')))
local macro_rules | `(tactic| walk_at "call builtin:list.pop") => `(tactic| (k_here; (with_reducible show wpAny _ _ (call (Value.builtin "list.pop") [Value.ref _, Value.int _ _]) _ _ _); k_dflt (refine' pop_L ?F ?N ?U ?a ?b ?z ?_; (case F => k_asm); (case N => k_asm); (case U => k_updF); (case a => omega); (case b => omega); (case z => omega)); intro p9 y9 q9 h9 e9 F' N'; (try dsimp only at N')))
local macro_rules | `(tactic| walk_at "call builtin:list.append") => `(tactic| (k_here; (with_reducible show wpAny _ _ (call (Value.builtin "list.append") [Value.ref _, _]) _ _ _); k_dflt (refine' append_L ?F ?N ?U ?z ?_; (case F => k_asm); (case N => k_asm); (case U => k_updF); (case z => omega)); intro h9 F' N'; (try dsimp only at N')))

theorem mixed_spec {w : World} {mean : ExcName → Option Value} {mg mb : Str → Option Value} {dp un : Nat} {gd : Option (List Code)} {cn : Str} {cs : Scope} {a : Addr} {ccd : Value} {cl : List (Str × Addr)} {outer : List Env} {A₀ : Around} {base h₀ : Heap} {L : Addr} {m : Str → Option Value} {s : Shared} {Q E : Value → Shared → Prop}
  {rest : List (Addr × Obj)} {hand S R : Addr} {k : Int} {t : Tok} {vs us : List Value} {ns : List Int} {n : Nat}
  (B : Below A₀ base outer h₀) (F : Fr h₀ L s.heap m) (X : (hd.heap_1 w.params).In h₀) (N : News h₀ L s.heap ((hand, handO S k t) :: (R, listOf us.toArray n) :: rest)) (T : Top vw LOO mean mg mb h₀) (hck : cs.kind = .function)
  (hoff : ∀ p ∈ (R, listOf us.toArray n) :: rest, p.1 ≠ hand) (hS : base.IsList S vs.toArray) (hI : IntsAre vs ns) (hlen : ¬ ((63 : Int)) < (ns.length : Int)) (hlay : (PyData.list (ns.map PyData.int)).layable0 = true)
  (k0 : 0 ≤ k) (k1 : k < 900) (hu60 : us.length ≤ 60) (hd' : dp + 3 < recursionLimit) (hu : un + 30 < cLine)
  (hret : ∀ D (ws : List Value) c t₂ (k' : Int) h' tk', ws.Perm us → k' = k + (us.length : Int) → (∀ p ∈ (hand, handO S k t) :: (R, listOf us.toArray n) :: rest, p.1 < D) → Fr h₀ L h' m → News h₀ L h' ((D, listOf ws.toArray c) :: (hand, handO S k' t₂) :: (R, listOf us.toArray n) :: rest) → Q (.ref D) { s with heap := h', toks := tk' }) :
  wpAny (model PR w) (ktrTop dp un gd cn cs L a ccd cl outer) (call (.ref 196) [.ref hand, .ref R]) Q E s := by
  have hfill : (fun (_ : OpenLaw) (_ : Params → Frag) => True) PySem.Challenge.rw_je0014_01 hd.heap_1 := by k_fill; trivial
  clear hfill
  refine wpAny_call ?_
  k_dflt ktr_enter
  rename Below _ _ _ _ => B9
  have hS9 := stays_list B9.stays hS
  (repeat' ((fail_if_success (first | (with_reducible show wpAny _ _ (exec (Stmt.While _ _ _ _) _) _ _ _) | (with_reducible show wpAny _ _ (exec (Stmt.For _ _ _ _ _) _) _ _ _) | (with_reducible show wpAny _ _ (pyIter _) _ _ _) | (with_reducible show LCg.CompSrc _ _ _ _ _ _ _ _ _ _ _ _ _ _) | (with_reducible show LCt.CompSrcT _ _ _ _ _ _ _ _ _ _ _ _ _ _ _) | (with_reducible show SrcLP _ _ _ _ _ _ _ _ _ _ _ _ _ _ _) | (with_reducible show DSrc _ _ _ _ _ _ _ _ _ _ _ _ _ _ _))); (first | (k_unfold; (try dsimp only)) | (k_unmd; k_unfold; (try dsimp only)) | (k_end; wrow_close) | walk1 | (dsimp only; walk1) | (leave1; (try dsimp only)))))
  rename_i D9 c9 hx1 lD hx2 tkx l9 hx3 lL hx4 F9 N9
  have hRh : R ≠ hand := hoff _ (.head _)
  have hrh : ∀ p ∈ rest, p.1 ≠ hand := fun p hp => hoff p (.tail _ hp)
  obtain ⟨lD1, lD2, lD3⟩ := lD
  obtain ⟨lL0, lL1, lL2, lL3⟩ := lL
  have hrD : ∀ p ∈ rest, p.1 ≠ D9 := fun p hp => Nat.ne_of_lt (kst_ltOf lD3 p hp)
  have hrl : ∀ p ∈ rest, p.1 ≠ l9 := fun p hp => Nat.ne_of_lt (kst_ltOf lL3 p hp)
  refine while_same (fun j nx => ∃ (us' ws : List Value) (c d : Nat) (t' : Tok), nx = (l9, listOf ws.toArray d) :: (D9, listOf us'.toArray c) :: (hand, handO S (k + (ws.length : Int)) t') :: (R, listOf us.toArray n) :: rest ∧ (ws ++ us').Perm us ∧ j = us'.length) F9 N9
    ⟨us, [], c9, 0, t, by simp, by simp, rfl⟩ ?_
  rintro j nx h1 tk1 F1 N1 ⟨us', ws, c, d, t', rfl, hp, rfl⟩
  clear F9 N9
  have hz := hp.length_eq
  rw [List.length_append] at hz
  rcases us' with _ | ⟨v0, vr⟩
  · (repeat' ((fail_if_success (first | (with_reducible show wpAny _ _ (exec (Stmt.While _ _ _ _) _) _ _ _) | (with_reducible show wpAny _ _ (exec (Stmt.For _ _ _ _ _) _) _ _ _) | (with_reducible show wpAny _ _ (pyIter _) _ _ _) | (with_reducible show LCg.CompSrc _ _ _ _ _ _ _ _ _ _ _ _ _ _) | (with_reducible show LCt.CompSrcT _ _ _ _ _ _ _ _ _ _ _ _ _ _ _) | (with_reducible show SrcLP _ _ _ _ _ _ _ _ _ _ _ _ _ _ _) | (with_reducible show DSrc _ _ _ _ _ _ _ _ _ _ _ _ _ _ _))); (first | (k_unfold; (try dsimp only)) | (k_unmd; k_unfold; (try dsimp only)) | (k_end; wrow_close) | walk1 | (dsimp only; walk1) | (leave1; (try dsimp only)))))
    refine hret l9 ws d t' (k + (ws.length : Int)) _ _ (by simpa using hp) (by simp at hz; omega) ?_ (by assumption) ?_
    · intro p hp'
      rcases List.mem_cons.mp hp' with rfl | hp'
      · exact lL1
      · rcases List.mem_cons.mp hp' with rfl | hp'
        · exact lL2
        · exact kst_ltOf lL3 p hp'
    · refine news_reorder (by assumption) fun p hp' => ?_
      rcases List.mem_cons.mp hp' with rfl | hp'
      · exact .head _
      · exact .tail _ (.tail _ hp')
  · have hz1 : (v0 :: vr).length = vr.length + 1 := rfl
    try k_fold
    (repeat' ((fail_if_success (first | (with_reducible show wpAny _ _ (exec (Stmt.While _ _ _ _) _) _ _ _) | (with_reducible show wpAny _ _ (exec (Stmt.For _ _ _ _ _) _) _ _ _) | (with_reducible show wpAny _ _ (pyIter _) _ _ _) | (with_reducible show LCg.CompSrc _ _ _ _ _ _ _ _ _ _ _ _ _ _) | (with_reducible show LCt.CompSrcT _ _ _ _ _ _ _ _ _ _ _ _ _ _ _) | (with_reducible show SrcLP _ _ _ _ _ _ _ _ _ _ _ _ _ _ _) | (with_reducible show DSrc _ _ _ _ _ _ _ _ _ _ _ _ _ _ _))); (first | (k_unfold; (try dsimp only)) | (k_unmd; k_unfold; (try dsimp only)) | (k_end; wrow_close) | walk1 | (dsimp only; walk1) | (leave1; (try dsimp only)))))
    · exact absurd (show (v0 :: vr).isEmpty = true by assumption) (by simp)
    · rename_i p9 y9 q9 h8 e9 F8 N8 h9 F9 N9
      have e : k + (ws.length : Int) + 1 = (k + ((ws ++ [y9]).length : Int)) := by simp; omega
      rw [e] at N9
      refine wend (n' := (p9 ++ q9).length) F9 N9 ?_ ⟨p9 ++ q9, ws ++ [y9], _, _, _, rfl, ?_, rfl⟩
      · rw [e9]; simp
      · refine List.Perm.trans ?_ hp
        rw [e9, List.append_assoc]
        exact List.Perm.append_left ws (show (y9 :: (p9 ++ q9)).Perm (p9 ++ y9 :: q9) from List.perm_middle.symm)
end Mine
namespace Mine
-- A3
theorem mixed_U {w : World} {mean : ExcName → Option Value} {mg mb : Str → Option Value} {dp un : Nat} {gd : Option (List Code)} {cn : Str} {cs : Scope} {a : Addr} {ccd : Value} {cl : List (Str × Addr)} {outer : List Env} {A₀ : Around} {base h₀ : Heap} {L : Addr} {m : Str → Option Value} {s : Shared} {Q E : Value → Shared → Prop}
  {news : List (Addr × Obj)} {g : Obj → List (Addr × Obj)} {hand S R : Addr} {k : Int} {t : Tok} {vs us : List Value} {ns : List Int} {n : Nat}
  (B : Below A₀ base outer h₀) (F : Fr h₀ L s.heap m) (X : (hd.heap_1 w.params).In h₀) (N : News h₀ L s.heap news) (T : Top vw LOO mean mg mb h₀) (hck : cs.kind = .function)
  (U : UpdF hand (handO S k t) news g) (hm : (R, listOf us.toArray n) ∈ news) (hRh : R ≠ hand) (hS : base.IsList S vs.toArray) (hI : IntsAre vs ns) (hlen : ¬ ((63 : Int)) < (ns.length : Int)) (hlay : (PyData.list (ns.map PyData.int)).layable0 = true)
  (k0 : 0 ≤ k) (k1 : k < 900) (hu60 : us.length ≤ 60) (hd' : dp + 3 < recursionLimit) (hu : un + 30 < cLine)
  (hret : ∀ D (ws : List Value) c t₂ (k' : Int) h' tk', ws.Perm us → k' = k + (us.length : Int) → (∀ p ∈ news, p.1 < D) → Fr h₀ L h' m → News h₀ L h' ((D, listOf ws.toArray c) :: g (handO S k' t₂)) → Q (.ref D) { s with heap := h', toks := tk' }) :
  wpAny (model PR w) (ktrTop dp un gd cn cs L a ccd cl outer) (call (.ref 196) [.ref hand, .ref R]) Q E s := by
  obtain ⟨pre, post, e0, hg, x1, x2⟩ := U.split
  subst e0
  refine mixed_spec (rest := pre ++ post) (t := t) (us := us) (n := n) B F X (news_reorder N fun p hp => ?_) T hck (fun p hp => ?_) hS hI hlen hlay k0 k1 hu60 hd' hu fun D ws c t₂ k' h' tk' hp hk' hD F' N' => hret D ws c t₂ k' h' tk' hp hk' (fun p hp => ?_) F' ?_
  · rcases List.mem_cons.mp hp with rfl | hp
    · exact List.mem_append_right _ (.head _)
    · rcases List.mem_cons.mp hp with rfl | hp
      · exact hm
      · exact (List.mem_append.mp hp).elim (fun q => List.mem_append_left _ q) fun q => List.mem_append_right _ (.tail _ q)
  · rcases List.mem_cons.mp hp with rfl | hp
    · exact hRh
    · exact (List.mem_append.mp hp).elim (x1 p) (x2 p)
  · rcases List.mem_append.mp hp with hp | hp
    · exact hD p (.tail _ (.tail _ (List.mem_append_left _ hp)))
    · rcases List.mem_cons.mp hp with rfl | hp
      · exact hD _ (.head _)
      · exact hD p (.tail _ (.tail _ (List.mem_append_right _ hp)))
  · rw [hg]
    refine news_reorder N' fun p hp => ?_
    rcases List.mem_cons.mp hp with rfl | hp
    · exact .head _
    · rcases List.mem_append.mp hp with hp | hp
      · exact .tail _ (.tail _ (.tail _ (List.mem_append_left _ hp)))
      · rcases List.mem_cons.mp hp with rfl | hp
        · exact .tail _ (.head _)
        · exact .tail _ (.tail _ (.tail _ (List.mem_append_right _ hp)))
section
variable {prog : Program} {w : World} {A : Around} {E : Value → Shared → Prop} {s : Shared} {h₀ : Heap} {L l : Addr} {m : Str → Option Value} {news : List (Addr × Obj)} {value slice : PySem.Expr} {us : List Value} {n : Nat} {y : Int} {t : Tok} {Q : Value → Shared → Prop}
theorem slice_upto_L (F : Fr h₀ L s.heap m) (N : News h₀ L s.heap news) (hm : (l, listOf us.toArray n) ∈ news) (h0 : 0 ≤ y) (hz : us.length ≤ 1000)
    (h : ∀ D h', Fr h₀ L h' m → News h₀ L h' ((D, listOf (us.take y.toNat).toArray 0) :: news) → (∀ p ∈ news, p.1 < D) → Q (.ref D) { s with heap := h' })
    (hs : subscripted slice false (.ref l) (.ref s.heap.objs.size) = operate [.ref s.heap.objs.size, .ref l] (getItem (.ref l) (.ref s.heap.objs.size))) (ht : ∀ r, letTemporaryGo value (.ref l) r = pure ()) :
    wpAny (model prog w) A (subscriptTail value slice (.ref l) (.ref s.heap.objs.size)) Q E { s with heap := s.heap.push { cls := .type "slice", data := .fields #[.none, .int y t, .none] } } := by
  have hl : s.heap.IsList l us.toArray := ⟨_, (N _ hm).1, rfl, n, rfl⟩
  refine kmk_slice F N hl .none (.int y t) (fun D h' F' N' l1 => h D h' F' ?_ l1) hs ht (by rw [sizeLine_eq]; simp; omega)
  have e : sliceBounds none (some y) none us.toArray.size = (((0 : Nat) : Int), ((min y.toNat us.toArray.size : Nat) : Int), 1) := by
    simp only [sliceBounds, Option.getD_none, show (1 : Int) > 0 by decide, if_true, if_neg (show ¬ (y < 0) by omega)]
    congr 1
    congr 1
    omega
  rw [kmk_pick_nat _ e, Nat.sub_zero, List.size_toArray] at N'
  have e2 : (us.toArray.toList.drop 0).take (min y.toNat us.length) = us.take y.toNat := by
    show (us.drop 0).take _ = _
    rw [List.drop_zero, kmk_take_min]
  rw [e2] at N'
  exact N'
theorem slice_from_L (F : Fr h₀ L s.heap m) (N : News h₀ L s.heap news) (hm : (l, listOf us.toArray n) ∈ news) (h0 : 0 ≤ y) (hz : us.length ≤ 1000)
    (h : ∀ D h', Fr h₀ L h' m → News h₀ L h' ((D, listOf (us.drop y.toNat).toArray 0) :: news) → (∀ p ∈ news, p.1 < D) → Q (.ref D) { s with heap := h' })
    (hs : subscripted slice false (.ref l) (.ref s.heap.objs.size) = operate [.ref s.heap.objs.size, .ref l] (getItem (.ref l) (.ref s.heap.objs.size))) (ht : ∀ r, letTemporaryGo value (.ref l) r = pure ()) :
    wpAny (model prog w) A (subscriptTail value slice (.ref l) (.ref s.heap.objs.size)) Q E { s with heap := s.heap.push { cls := .type "slice", data := .fields #[.int y t, .none, .none] } } := by
  have hl : s.heap.IsList l us.toArray := ⟨_, (N _ hm).1, rfl, n, rfl⟩
  refine kmk_slice F N hl (.int y t) .none (fun D h' F' N' l1 => h D h' F' ?_ l1) hs ht (by rw [sizeLine_eq]; simp; omega)
  have e : sliceBounds (some y) none none us.toArray.size = (((min y.toNat us.toArray.size : Nat) : Int), ((us.toArray.size : Nat) : Int), 1) := by
    simp only [sliceBounds, Option.getD_none, show (1 : Int) > 0 by decide, if_true, if_neg (show ¬ (y < 0) by omega)]
    congr 1
    omega
  rw [kmk_pick_nat _ e, List.size_toArray] at N'
  have e2 : (us.toArray.toList.drop (min y.toNat us.length)).take (us.length - min y.toNat us.length) = us.drop y.toNat := by
    show (us.drop _).take _ = _
    rw [kmk_drop_min, List.take_of_length_le]
    rw [List.length_drop]; omega
  rw [e2] at N'
  exact N'
end
section
variable {prog : Program} {w : World} {A : Around} {E : Value → Shared → Prop} {Q : Value → Shared → Prop} {s : Shared} {h₀ : Heap} {L : Addr} {news : List (Addr × Obj)} {value slice : PySem.Expr} {l : Addr} {us : List Value} {n : Nat} {i : Int} {u : Tok} {ss : List Str}
theorem item_V (N : News h₀ L s.heap news) (hm : (l, listOf us.toArray n) ∈ news) (h0 : 0 ≤ i) (h1 : i < (us.length : Int)) (hz : us.length ≤ 1000)
    (h : ∀ v, us[i.toNat]? = some v → Q v s)
    (hs : subscripted slice false (.ref l) (.int i u) = operate [.ref l, .int i u] (getItem (.ref l) (.int i u)) := by with_unfolding_all rfl) (hg : ∀ r, letTemporaryGo value (.ref l) r = pure () := by intro _; with_unfolding_all rfl) :
    wpAny (model prog w) A (subscriptTail value slice (.ref l) (.int i u)) Q E s := by
  have hlt : i.toNat < us.length := by omega
  exact item_listL ⟨_, (N _ hm).1, rfl, n, rfl⟩ h0 (by omega) (x := us[i.toNat]) (by simp [hlt]) (h _ (by simp [hlt])) hs hg
theorem item_S (N : News h₀ L s.heap news) (hm : (l, listOf us.toArray n) ∈ news) (hS : StrsAre us ss) (h0 : 0 ≤ i) (h1 : i < (ss.length : Int)) (hz : ss.length ≤ 1000)
    (h : ∀ x t, ss[i.toNat]? = some x → Q (.str x t) s)
    (hs : subscripted slice false (.ref l) (.int i u) = operate [.ref l, .int i u] (getItem (.ref l) (.int i u)) := by with_unfolding_all rfl) (hg : ∀ r, letTemporaryGo value (.ref l) r = pure () := by intro _; with_unfolding_all rfl) :
    wpAny (model prog w) A (subscriptTail value slice (.ref l) (.int i u)) Q E s := by
  have hl := hS.length
  refine item_V N hm h0 (by omega) (by omega) (fun v hv => ?_) hs hg
  obtain ⟨x, t, rfl, hx⟩ := hS.item _ v hv
  exact h x t hx
end
theorem getD_len {nms : List Str} (hz : ∀ y ∈ nms, y.length ≤ 2) (j : Nat) : (nms.getD j Str.empty).length ≤ 2 := by
  rw [List.getD_eq_getElem?_getD]
  cases e : nms[j]? with
  | none => exact Nat.zero_le _
  | some y => exact hz _ (List.mem_of_getElem? e)
theorem add_getD {prog : Program} {w : World} {A : Around} {E : Value → Shared → Prop} {s : Shared} {Q : Value → Shared → Prop} {x : Str} {t u : Tok} {nms : List Str} {j : Nat} (hz : ∀ y ∈ nms, y.length ≤ 2) (hx : x.length ≤ 8)
    (h : ∀ t' tk, Q (.str (x ++ nms.getD j Str.empty) t') { s with toks := tk }) : wpAny (model prog w) A (binaryOp .Add (.str x t) (.str (nms.getD j Str.empty) u)) Q E s :=
  add_str h (Nat.le_trans (Nat.add_le_add hx (getD_len hz j)) (by rw [sizeLine_eq]; exact Nat.le_of_ble_eq_true rfl))
-- B1
noncomputable abbrev Led := List (Addr × Obj)
theorem own_off {T : Led} {as : List Addr} {b : Addr} (h : OwnOff T as) (hb : b ∈ as) : ∀ p ∈ T, p.1 ≠ b := fun p hp => h p hp b hb
theorem allLt_ne {d : Addr} {l : Led} (h : AllLt d l) : ∀ p ∈ l, p.1 ≠ d := fun p hp => Nat.ne_of_lt (kst_ltOf h p hp)
noncomputable def FEnd (h₀ : Heap) (L : Addr) (x : Str) (stored : List Str) (m₀ : Str → Option Value) (adrs : List Addr) (T tl : Led) (J : Led → Led → Prop) (s₁ s₂ : Shared) : Prop :=
  ∃ h' tk m' news' E' new, s₂ = { s₁ with heap := h', toks := tk } ∧ Fr h₀ L h' m' ∧ News h₀ L h' news' ∧ (∀ p ∈ E' ++ (new ++ T), p ∈ news') ∧ E'.map (·.1) = adrs ∧ (∀ q ∈ new, (∀ p ∈ T, p.1 ≠ q.1) ∧ ∀ b ∈ adrs, q.1 ≠ b) ∧
    (∀ y, y ≠ x → stored.contains y = false → m' y = m₀ y) ∧ J E' (new ++ tl)
noncomputable def FPost (h₀ : Heap) (L : Addr) (x : Str) (stored : List Str) (m₀ : Str → Option Value) (adrs : List Addr) (T tl : Led) (J : Led → Led → Prop) (s₁ : Shared) (Q : Flow → Shared → Prop) (f : Flow) (s₂ : Shared) : Prop :=
  match f with
  | .ret v => Q (.ret v) s₂
  | .brk => Q .next s₂
  | _ => FEnd h₀ L x stored m₀ adrs T tl J s₁ s₂
theorem fend {h₀ : Heap} {L : Addr} {x : Str} {stored : List Str} {m₀ m' : Str → Option Value} {adrs : List Addr} {T tl news' : Led} {J : Led → Led → Prop} {s₁ : Shared} {h' : Heap} {tk : Nat} (E' new : Led)
    (F : Fr h₀ L h' m') (N : News h₀ L h' news') (hs : ∀ p ∈ E' ++ (new ++ T), p ∈ news') (ha : E'.map (·.1) = adrs) (hn : ∀ q ∈ new, (∀ p ∈ T, p.1 ≠ q.1) ∧ ∀ b ∈ adrs, q.1 ≠ b)
    (hm : ∀ y, y ≠ x → stored.contains y = false → m' y = m₀ y) (hj : J E' (new ++ tl)) : FEnd h₀ L x stored m₀ adrs T tl J s₁ { s₁ with heap := h', toks := tk } :=
  ⟨h', tk, m', news', E', new, rfl, F, N, hs, ha, hn, hm, hj⟩
theorem fr_eq {h₀ h : Heap} {L : Addr} {m m' : Str → Option Value} (F : Fr h₀ L h m) (e : ∀ y, m' y = m y) : Fr h₀ L h m' := by
  have : m' = m := funext e
  rw [this]; exact F
theorem fpost_next {h₀ : Heap} {L : Addr} {x : Str} {stored : List Str} {m₀ : Str → Option Value} {adrs : List Addr} {T tl : Led} {J : Led → Led → Prop} {s₁ s₂ : Shared} {Q : Flow → Shared → Prop} (h : FEnd h₀ L x stored m₀ adrs T tl J s₁ s₂) : FPost h₀ L x stored m₀ adrs T tl J s₁ Q .next s₂ := h
theorem fpost_cont {h₀ : Heap} {L : Addr} {x : Str} {stored : List Str} {m₀ : Str → Option Value} {adrs : List Addr} {T tl : Led} {J : Led → Led → Prop} {s₁ s₂ : Shared} {Q : Flow → Shared → Prop} (h : FEnd h₀ L x stored m₀ adrs T tl J s₁ s₂) : FPost h₀ L x stored m₀ adrs T tl J s₁ Q .cont s₂ := h
theorem fr_stored {h₀ h : Heap} {L : Addr} {x : Str} {stored : List Str} {m₀ m₁ : Str → Option Value} {v : Value} (F : Fr h₀ L h (fun y => if y = x then some v else m₁ y)) (hm : ∀ y, y ≠ x → stored.contains y = false → m₁ y = m₀ y) :
    Fr h₀ L h (fun y => if y = x then some v else if stored.contains y then m₁ y else m₀ y) := by
  have e : (fun y => if y = x then some v else m₁ y) = fun y => if y = x then some v else if stored.contains y then m₁ y else m₀ y := by
    funext y
    by_cases h1 : y = x
    · simp [h1]
    · simp only [if_neg h1]
      cases h2 : stored.contains y with
      | true => simp
      | false => simp only [Bool.false_eq_true, if_false]; exact hm y h1 h2
  rw [← e]; exact F
theorem fr_stored' {h₀ h : Heap} {L : Addr} {x : Str} {stored : List Str} {m₀ m₁ : Str → Option Value} (F : Fr h₀ L h m₁) (hm : ∀ y, y ≠ x → stored.contains y = false → m₁ y = m₀ y) :
    Fr h₀ L h (fun y => if y = x then m₁ y else if stored.contains y then m₁ y else m₀ y) := by
  have e : m₁ = fun y => if y = x then m₁ y else if stored.contains y then m₁ y else m₀ y := by
    funext y
    by_cases h1 : y = x
    · simp [h1]
    · simp only [if_neg h1]
      cases h2 : stored.contains y with
      | true => simp
      | false => simp only [Bool.false_eq_true, if_false]; exact hm y h1 h2
  rw [← e]; exact F
section
variable {prog : Program} {w : World} {A : Around} {E : Value → Shared → Prop} {s : Shared} {env : Env} {h₀ : Heap} {x : Str} {body : List Stmt} {Q : Flow → Shared → Prop} {m₀ : Str → Option Value} {E₀ tl₀ : Led} {adrs : List Addr}
theorem turn_end {stored : List Str} {J : Nat → Led → Led → Prop} {i : Nat} {tl own : Led} {s₁ s₂ : Shared} {f : Flow} {G : (Str → Option Value) → Led → Prop}
    (hoT : OwnOff (tl ++ own) adrs) (hon : OwnOff own (tl.map (·.1))) (hG : ∀ m' E' new, E'.map (·.1) = adrs → OwnOff (new ++ tl) adrs → (∀ y, y ≠ x → stored.contains y = false → m' y = m₀ y) → J (i + 1) E' (new ++ tl) → G m' (E' ++ (new ++ tl)))
    (h : FPost h₀ env.locals x stored m₀ adrs (tl ++ own) tl (J (i + 1)) s₁ Q f s₂) : InvPostG h₀ env.locals G own s₁ Q f s₂ := by
  have key : FEnd h₀ env.locals x stored m₀ adrs (tl ++ own) tl (J (i + 1)) s₁ s₂ → InvEndG h₀ env.locals G own s₁ s₂ := by
    rintro ⟨h', tk, m', news', E', new, rfl, F', N', hs, ha, hn, hm, hj⟩
    refine ⟨h', tk, m', news', E' ++ (new ++ tl), rfl, F', N', fun p hp => hs p ?_, fun p hp => hs p ?_, ?_, hG m' E' new ha ?_ hm hj⟩
    · rcases List.mem_append.mp hp with hp | hp
      · exact List.mem_append_left _ hp
      · rcases List.mem_append.mp hp with hp | hp
        · exact List.mem_append_right _ (List.mem_append_left _ hp)
        · exact List.mem_append_right _ (List.mem_append_right _ (List.mem_append_left _ hp))
    · exact List.mem_append_right _ (List.mem_append_right _ (List.mem_append_right _ hp))
    · intro p hp b hb
      obtain ⟨q, hq, rfl⟩ := List.mem_map.mp hb
      rcases List.mem_append.mp hq with hq | hq
      · exact hoT p (List.mem_append_right _ hp) q.1 (ha ▸ List.mem_map_of_mem hq)
      · rcases List.mem_append.mp hq with hq | hq
        · exact (hn q hq).1 p (List.mem_append_right _ hp)
        · exact hon p hp q.1 (List.mem_map_of_mem hq)
    · intro p hp b hb
      rcases List.mem_append.mp hp with hp | hp
      · exact (hn p hp).2 b hb
      · exact hoT p (List.mem_append_left _ hp) b hb
  cases f with
  | ret v => exact h
  | brk => exact h
  | next => exact key h
  | cont => exact key h
theorem for_J {l : Addr} {vs : List Value} {nn : Nat} (stored : List Str) (J : Nat → Led → Led → Prop)
    (hh : A.handled = none) (F : Fr h₀ env.locals s.heap m₀) (N : News h₀ env.locals s.heap (E₀ ++ tl₀)) (ha : E₀.map (·.1) = adrs) (hoff : OwnOff tl₀ adrs) (hj : J 0 E₀ tl₀)
    (hl : ∀ i E tl, J i E tl → (l, listOf vs.toArray nn) ∈ E ++ tl)
    (turn : ∀ i v (u : Str → Option Value) E₁ tl T h tk, vs[i]? = some v → E₁.map (·.1) = adrs → J i E₁ tl → (∀ p ∈ tl, p ∈ T) → OwnOff T adrs → Fr h₀ env.locals h (fun y => if y = x then some v else if stored.contains y then u y else m₀ y) → News h₀ env.locals h (E₁ ++ T) →
      wpAny (model prog w) A (execs body env) (FPost h₀ env.locals x stored m₀ adrs T tl (J (i + 1)) { s with heap := h, toks := tk } Q) E { s with heap := h, toks := tk })
    (done : ∀ (u : Str → Option Value) E₁ tl h tk, E₁.map (·.1) = adrs → OwnOff tl adrs → J vs.length E₁ tl → Fr h₀ env.locals h (fun y => if y = x then u y else if stored.contains y then u y else m₀ y) → News h₀ env.locals h (E₁ ++ tl) → Q .next { s with heap := h, toks := tk }) :
    wpAny (model prog w) A (pyIter (.ref l)) (fun it s₂ => LoopAtV prog w A h₀ env x body Q E it s₂) E s := by
  refine kdl_iter (vs := vs) (nn := nn) (news := E₀ ++ tl₀) (fun i m₁ nx => ∃ E₁ tl, nx = E₁ ++ tl ∧ E₁.map (·.1) = adrs ∧ OwnOff tl adrs ∧ (∀ y, y ≠ x → stored.contains y = false → m₁ y = m₀ y) ∧ J i E₁ tl) hh (hl 0 E₀ tl₀ hj) F N ⟨E₀, tl₀, rfl, ha, hoff, fun _ _ _ => rfl, hj⟩ ?_ ?_
  · rintro i v m₁ nx h tk own hv hown _ ⟨E₁, tl, rfl, ha₁, ho₁, hm₁, hj₁⟩ F₁ N₁
    rw [List.append_assoc] at N₁
    have hoT : OwnOff (tl ++ own) adrs := by
      intro p hp b hb
      rcases List.mem_append.mp hp with hp | hp
      · exact ho₁ p hp b hb
      · rw [← ha₁] at hb
        exact hown p hp b (by rw [List.map_append]; exact List.mem_append_left _ hb)
    have hon : OwnOff own (tl.map (·.1)) := fun p hp b hb => hown p hp b (by rw [List.map_append]; exact List.mem_append_right _ hb)
    refine wpAny_mono (turn i v m₁ E₁ tl (tl ++ own) h tk hv ha₁ hj₁ (fun p hp => List.mem_append_left _ hp) hoT (fr_stored F₁ hm₁) N₁) (fun f s₂ hf => ?_) fun _ _ x => x
    exact turn_end hoT hon (fun m' E' new ha' ho' hm' hj' => ⟨hl _ _ _ hj', E', new ++ tl, rfl, ha', ho', hm', hj'⟩) hf
  · rintro m₁ nx h tk ⟨E₁, tl, rfl, ha₁, ho₁, hm₁, hj₁⟩ F₁ N₁
    exact done m₁ E₁ tl h tk ha₁ ho₁ hj₁ (fr_stored' F₁ hm₁) N₁
theorem range_J {r : Addr} {b₀ : Int} {t₀ u₀ v₀ : Tok} {n : Nat} (stored : List Str) (J : Nat → Led → Led → Prop)
    (hh : A.handled = none) (hr : IsRange s.heap r 0 b₀ 1 t₀ u₀ v₀) (hsmall : Builtin.Range.small 0 b₀ 1 = true) (hsz : Builtin.Range.rangeSize 0 b₀ 1 = (n : Int)) (F : Fr h₀ env.locals s.heap m₀) (N : News h₀ env.locals s.heap (E₀ ++ tl₀)) (ha : E₀.map (·.1) = adrs) (hoff : OwnOff tl₀ adrs) (hj : J 0 E₀ tl₀)
    (turn : ∀ (i : Nat) (t : Tok) (u : Str → Option Value) E₁ tl T h tk, i < n → E₁.map (·.1) = adrs → J i E₁ tl → (∀ p ∈ tl, p ∈ T) → OwnOff T adrs → Fr h₀ env.locals h (fun y => if y = x then some (.int (i : Int) t) else if stored.contains y then u y else m₀ y) → News h₀ env.locals h (E₁ ++ T) →
      wpAny (model prog w) A (execs body env) (FPost h₀ env.locals x stored m₀ adrs T tl (J (i + 1)) { s with heap := h, toks := tk } Q) E { s with heap := h, toks := tk })
    (done : ∀ (u : Str → Option Value) E₁ tl h tk, E₁.map (·.1) = adrs → OwnOff tl adrs → J n E₁ tl → Fr h₀ env.locals h (fun y => if y = x then u y else if stored.contains y then u y else m₀ y) → News h₀ env.locals h (E₁ ++ tl) → Q .next { s with heap := h, toks := tk }) :
    wpAny (model prog w) A (pyIter (.ref r)) (fun it s₂ => LoopAtV prog w A h₀ env x body Q E it s₂) E s := by
  refine wpAny_pyIter_range hr hsmall ?_
  have W : Walks prog w A s.heap.objs.size [s.heap.objs.size] [s.heap.objs.size] n (fun i v => i < n ∧ ∃ t, v = .int (0 + i * 1) t)
      (fun i h => IsRangeIter h s.heap.objs.size (0 + (i : Nat) * 1) ((n : Int) - (i : Nat)) 1) := (Walks.range hh _ 0 1 n).bound
  refine kdr_loop (fun i m₁ nx => ∃ E₁ tl, nx = E₁ ++ tl ∧ E₁.map (·.1) = adrs ∧ OwnOff tl adrs ∧ (∀ y, y ≠ x → stored.contains y = false → m₁ y = m₀ y) ∧ J i E₁ tl) W (fun _ h => h) (fun _ h => h) ?_ ?_ ?_ ?_ (by show IsRangeIter _ _ _ _ _; rw [hsz]; simpa using Heap.get?_push_size _ rfl) (F.push _) (fun p hp => ⟨Heap.get?_push_of_some _ (N p hp).1, (N p hp).2⟩) ⟨E₀, tl₀, rfl, ha, hoff, fun _ _ _ => rfl, hj⟩ ?_ ?_
  · intro i h hi b hb
    rw [List.mem_singleton.mp hb]
    exact ⟨_, hi⟩
  · intro hm
    exact absurd F.ns.lt ((List.mem_singleton.mp hm) ▸ Nat.lt_irrefl _)
  · intro b hb
    rw [List.mem_singleton.mp hb]
    exact next_is_new F
  · intro p hp hI
    exact absurd (Heap.lt_size (N p hp).1) ((List.mem_singleton.mp hI) ▸ Nat.lt_irrefl _)
  · rintro i v m₁ nx h tk own hi ⟨_, t, rfl⟩ hown ⟨E₁, tl, rfl, ha₁, ho₁, hm₁, hj₁⟩ F₁ N₁
    have e1 : (0 : Int) + (i : Int) * 1 = (i : Int) := by omega
    rw [e1] at F₁
    rw [List.append_assoc] at N₁
    have hoT : OwnOff (tl ++ own) adrs := by
      intro p hp b hb
      rcases List.mem_append.mp hp with hp | hp
      · exact ho₁ p hp b hb
      · rw [← ha₁] at hb
        exact hown p hp b (by rw [List.map_append]; exact List.mem_append_left _ hb)
    have hon : OwnOff own (tl.map (·.1)) := fun p hp b hb => hown p hp b (by rw [List.map_append]; exact List.mem_append_right _ hb)
    refine wpAny_mono (turn i t m₁ E₁ tl (tl ++ own) h tk hi ha₁ hj₁ (fun p hp => List.mem_append_left _ hp) hoT (fr_stored F₁ hm₁) N₁) (fun f s₂ hf => ?_) fun _ _ x => x
    exact turn_end hoT hon (fun m' E' new ha' ho' hm' hj' => ⟨E', new ++ tl, rfl, ha', ho', hm', hj'⟩) hf
  · rintro m₁ nx h tk ⟨E₁, tl, rfl, ha₁, ho₁, hm₁, hj₁⟩ F₁ N₁
    exact done m₁ E₁ tl h tk ha₁ ho₁ hj₁ (fr_stored' F₁ hm₁) N₁
end
theorem off3_iff {I C D : Addr} {l : Led} : LCg.Off3 I C D l ↔ ∀ p ∈ l, p.1 ≠ I ∧ p.1 ≠ C ∧ p.1 ≠ D := ⟨fun h => LCg.Off3.mem h, LCg.Off3.of⟩
section
variable {prog : Program} {w : World} {A : Around} {s : Shared} {env : Env} {h₀ : Heap} {L : Addr} {m : Str → Option Value} {elt : PySem.Expr} {x : Str} {scope : Scope} {cl : List (Str × Addr)} {S : Led → Prop} {P : Nat → Value → Prop} {Fin : List Value → Led → Prop} {E₀ tl₀ : Led} {adrs : List Addr}
/-- where a comprehension's element ends -/
noncomputable def CNext (adrs : List Addr) (tl : Led) (J : List Value → Led → Led → Prop) (ys : List Value) (y : Value) (news' : Led) : Prop :=
  ∃ E' new, news' = E' ++ (new ++ tl) ∧ E'.map (·.1) = adrs ∧ (∀ q ∈ new, ∀ b ∈ adrs, q.1 ≠ b) ∧ J (ys ++ [y]) E' (new ++ tl)
noncomputable def CStay (adrs : List Addr) (tl : Led) (J : List Value → Led → Led → Prop) (ys : List Value) (_y : Value) (news' : Led) : Prop :=
  ∃ E' new, news' = E' ++ (new ++ tl) ∧ E'.map (·.1) = adrs ∧ (∀ q ∈ new, ∀ b ∈ adrs, q.1 ≠ b) ∧ J ys E' (new ++ tl)
theorem comp_J {n : Nat} (J : Nat → List Value → Led → Led → Prop) (ha : E₀.map (·.1) = adrs) (hoff : OwnOff tl₀ adrs) (hj : J 0 [] E₀ tl₀)
    (turn : ∀ i v ys E₁ tl I oI C oC D m₂ h tk (E' : Value → Shared → Prop), i < n → P i v → J i ys E₁ tl → E₁.map (·.1) = adrs → OwnOff tl adrs → LCg.NsObj oC m₂ → m₂ x = some v → Fr h₀ L h m → News h₀ L h ((I, oI) :: (C, oC) :: (D, LCg.lst ys) :: (E₁ ++ tl)) → LCg.Off3 I C D (E₁ ++ tl) → ((@Ne Nat I C) ∧ (@Ne Nat I D) ∧ (@Ne Nat C D)) →
      wpAny (model prog w) A (eval elt (compEnvC scope cl C env)) (LCg.CompEnd h₀ L m { s with heap := h, toks := tk } I oI C oC D (LCg.lst ys) S (CNext adrs tl (J (i + 1)) ys)) E' { s with heap := h, toks := tk })
    (fin : ∀ ys E₁ tl, E₁.map (·.1) = adrs → OwnOff tl adrs → J n ys E₁ tl → Fin ys (E₁ ++ tl)) : LCg.CompRest prog w A h₀ L m env elt x scope cl s S P Fin n 0 [] (E₀ ++ tl₀) := by
  have key : ∀ (j i : Nat) (ys : List Value) (E₁ tl : Led), i + j = n → E₁.map (·.1) = adrs → OwnOff tl adrs → J i ys E₁ tl → LCg.CompRest prog w A h₀ L m env elt x scope cl s S P Fin j i ys (E₁ ++ tl) := by
    intro j
    induction j with
    | zero =>
      intro i ys E₁ tl hi ha₁ ho₁ hj₁
      have e : i = n := by omega
      subst e
      exact LCg.CompRest.zero (fin ys E₁ tl ha₁ ho₁ hj₁)
    | succ j ih =>
      intro i ys E₁ tl hi ha₁ ho₁ hj₁
      refine LCg.CompRest.succ fun v I oI C oC D m₂ h tk E' hv hC hx F N off ne => ?_
      refine wpAny_mono (turn i v ys E₁ tl I oI C oC D m₂ h tk E' (by omega) hv hj₁ ha₁ ho₁ hC hx F N off ne) (fun y s₂ hq => ?_) fun _ _ e => e
      obtain ⟨h', tk', nw, e, F', N', off', hS, E', new, rfl, ha', hn', hj'⟩ := hq
      refine ⟨h', tk', _, e, F', N', off', hS, ih (i + 1) _ E' (new ++ tl) (by omega) ha' ?_ hj'⟩
      intro p hp b hb
      rcases List.mem_append.mp hp with hp | hp
      · exact hn' p hp b hb
      · exact ho₁ p hp b hb
  exact key n 0 [] E₀ tl₀ (by omega) ha hoff hj
theorem compT_J {ct : PySem.Expr} {n : Nat} (J : Nat → List Value → Led → Led → Prop) (ha : E₀.map (·.1) = adrs) (hoff : OwnOff tl₀ adrs) (hj : J 0 [] E₀ tl₀)
    (turn : ∀ i v ys E₁ tl I oI C oC D m₂ h tk (E' : Value → Shared → Prop), i < n → P i v → J i ys E₁ tl → E₁.map (·.1) = adrs → OwnOff tl adrs → LCg.NsObj oC m₂ → m₂ x = some v → Fr h₀ L h m → News h₀ L h ((I, oI) :: (C, oC) :: (D, LCg.lst ys) :: (E₁ ++ tl)) → LCg.Off3 I C D (E₁ ++ tl) → ((@Ne Nat I C) ∧ (@Ne Nat I D) ∧ (@Ne Nat C D)) →
      wpAny (model prog w) A (isTrue ct (compEnvC scope cl C env) (eval ct (compEnvC scope cl C env))) (fun ok s' => if ok = true then
        wpAny (model prog w) A (eval elt (compEnvC scope cl C env)) (LCg.CompEnd h₀ L m { s with heap := h, toks := tk } I oI C oC D (LCg.lst ys) S (CNext adrs tl (J (i + 1)) ys)) E' s'
        else LCg.CompEnd h₀ L m { s with heap := h, toks := tk } I oI C oC D (LCg.lst ys) S (CStay adrs tl (J (i + 1)) ys) Value.none s') E' { s with heap := h, toks := tk })
    (fin : ∀ ys E₁ tl, E₁.map (·.1) = adrs → OwnOff tl adrs → J n ys E₁ tl → Fin ys (E₁ ++ tl)) : LCt.CompRestT prog w A h₀ L m env ct elt x scope cl s S P Fin n 0 [] (E₀ ++ tl₀) := by
  have key : ∀ (j i : Nat) (ys : List Value) (E₁ tl : Led), i + j = n → E₁.map (·.1) = adrs → OwnOff tl adrs → J i ys E₁ tl → LCt.CompRestT prog w A h₀ L m env ct elt x scope cl s S P Fin j i ys (E₁ ++ tl) := by
    intro j
    induction j with
    | zero =>
      intro i ys E₁ tl hi ha₁ ho₁ hj₁
      have e : i = n := by omega
      subst e
      exact LCt.CompRestT.zero (fin ys E₁ tl ha₁ ho₁ hj₁)
    | succ j ih =>
      intro i ys E₁ tl hi ha₁ ho₁ hj₁
      refine LCt.CompRestT.succ fun v I oI C oC D m₂ h tk E' hv hC hx F N off ne => ?_
      refine wpAny_mono (turn i v ys E₁ tl I oI C oC D m₂ h tk E' (by omega) hv hj₁ ha₁ ho₁ hC hx F N off ne) (fun b s₂ hq => ?_) fun _ _ e => e
      cases b with
      | true =>
        simp only [if_true] at hq ⊢
        refine wpAny_mono hq (fun y s₃ hr => ?_) fun _ _ e => e
        obtain ⟨h', tk', nw, e, F', N', off', hS, E', new, rfl, ha', hn', hj'⟩ := hr
        refine ⟨h', tk', _, e, F', N', off', hS, ih (i + 1) _ E' (new ++ tl) (by omega) ha' ?_ hj'⟩
        intro p hp b hb
        rcases List.mem_append.mp hp with hp | hp
        · exact hn' p hp b hb
        · exact ho₁ p hp b hb
      | false =>
        simp only [Bool.false_eq_true, if_false] at hq ⊢
        obtain ⟨h', tk', nw, e, F', N', off', hS, E', new, rfl, ha', hn', hj'⟩ := hq
        refine ⟨h', tk', _, e, F', N', off', hS, ih (i + 1) _ E' (new ++ tl) (by omega) ha' ?_ hj'⟩
        intro p hp b hb
        rcases List.mem_append.mp hp with hp | hp
        · exact hn' p hp b hb
        · exact ho₁ p hp b hb
  exact key n 0 [] E₀ tl₀ (by omega) ha hoff hj
/-- the end of an element, at the walk's own ledger -/
theorem cend {R : Value → Led → Prop} {all : Led} {s₁ : Shared} {I C D : Addr} {oI oC : Obj} {ys : List Value} {E₁ tl E' new : Led} {y : Value} {h' : Heap} {tk : Nat}
    (F : Fr h₀ L h' m) (N : News h₀ L h' all) (sub : ∀ p ∈ (I, oI) :: (C, oC) :: (D, LCg.lst ys) :: (E' ++ (new ++ tl)), p ∈ all) (off : LCg.Off3 I C D (E₁ ++ tl)) (ha : E'.map (·.1) = E₁.map (·.1))
    (hn : ∀ q ∈ new, q.1 ≠ I ∧ q.1 ≠ C ∧ q.1 ≠ D) (hS : S (E' ++ (new ++ tl))) (r : R y (E' ++ (new ++ tl))) :
    LCg.CompEnd h₀ L m s₁ I oI C oC D (LCg.lst ys) S R y { s₁ with heap := h', toks := tk } := by
  refine LCg.CompEnd.intro F N _ sub (off3_iff.mpr fun p hp => ?_) hS r
  have off' := off3_iff.mp off
  rcases List.mem_append.mp hp with hp | hp
  · have : p.1 ∈ E₁.map (·.1) := ha ▸ List.mem_map_of_mem hp
    obtain ⟨q, hq, e⟩ := List.mem_map.mp this
    rw [← e]
    exact off' q (List.mem_append_left _ hq)
  · rcases List.mem_append.mp hp with hp | hp
    · exact hn p hp
    · exact off' p (List.mem_append_right _ hp)
end
-- D0
theorem allLt_trans {d e : Addr} (hd : @LT.lt Nat _ d e) : ∀ {l : Led}, AllLt d l → AllLt e l
  | [], _ => trivial
  | _ :: _, h => ⟨Nat.lt_trans h.1 hd, allLt_trans hd h.2⟩
/-- the cluster's lists, by topic -/
noncomputable def ClusE (tl : Led) : List (Str × Value) → List (Str × List Int) → Prop
  | [], [] => True
  | (k, v) :: r, (k', ns) :: r' => k = k' ∧ (∃ a n vs, v = .ref a ∧ (a, listOf vs.toArray n) ∈ tl ∧ IntsAre vs ns ∧ ns.length ≤ 6) ∧ ClusE tl r r'
  | _, _ => False
noncomputable def ClusIs (w : World) (od : Obj) (cl : List (Str × List Int)) (tl : Led) : Prop := ∃ kvs : List (Str × Value), od.IsDictOf (strKind PR w) kvs ∧ ClusE tl kvs cl
theorem ClusE.keys {tl : Led} : ∀ {kvs : List (Str × Value)} {cl : List (Str × List Int)}, ClusE tl kvs cl → kvs.map (·.1) = cl.map (·.1)
  | [], [], _ => rfl
  | (k, v) :: r, (k', ns) :: r', ⟨e, _, h⟩ => by rw [List.map_cons, List.map_cons, h.keys, e]
  | [], _ :: _, h => h.elim
  | _ :: _, [], h => h.elim
theorem ClusE.mono {tl tl' : Led} (hs : ∀ p ∈ tl, p ∈ tl') : ∀ {kvs : List (Str × Value)} {cl : List (Str × List Int)}, ClusE tl kvs cl → ClusE tl' kvs cl
  | [], [], _ => trivial
  | (k, v) :: r, (k', ns) :: r', ⟨e, ⟨a, n, vs, e1, hm, hi, hl⟩, h⟩ => ⟨e, ⟨a, n, vs, e1, hs _ hm, hi, hl⟩, h.mono hs⟩
  | [], _ :: _, h => h.elim
  | _ :: _, [], h => h.elim
theorem ClusE.snoc {tl : Led} {x : Str} {a : Addr} {n : Nat} {vs : List Value} {ns : List Int} (hm : (a, listOf vs.toArray n) ∈ tl) (hi : IntsAre vs ns) (hl : ns.length ≤ 6) : ∀ {kvs : List (Str × Value)} {cl : List (Str × List Int)}, ClusE tl kvs cl → ClusE tl (kvs ++ [(x, .ref a)]) (cl ++ [(x, ns)])
  | [], [], _ => ⟨rfl, ⟨a, n, vs, rfl, hm, hi, hl⟩, trivial⟩
  | (k, v) :: r, (k', ns') :: r', ⟨e, h1, h⟩ => ⟨e, h1, h.snoc hm hi hl⟩
  | [], _ :: _, h => h.elim
  | _ :: _, [], h => h.elim
theorem ClusE.item {tl : Led} : ∀ {kvs : List (Str × Value)} {cl : List (Str × List Int)}, ClusE tl kvs cl → ∀ (i : Nat) (k : Str) (y : Value), kvs[i]? = some (k, y) →
    ∃ a n vs ns, y = .ref a ∧ (a, listOf vs.toArray n) ∈ tl ∧ IntsAre vs ns ∧ ns.length ≤ 6 ∧ cl[i]? = some (k, ns)
  | [], [], _, i, k, y, h => by simp at h
  | (k', v) :: r, (k2, ns) :: r', ⟨e, ⟨a, n, vs, e1, hm, hi, hl⟩, _⟩, 0, k, y, h => by
    rw [List.getElem?_cons_zero] at h
    cases h
    exact ⟨a, n, vs, ns, e1, hm, hi, hl, by rw [e]; rfl⟩
  | _ :: _, _ :: _, ⟨_, _, h2⟩, i + 1, k, y, h => by
    rw [List.getElem?_cons_succ] at h
    rw [List.getElem?_cons_succ]
    exact h2.item i k y h
  | [], _ :: _, h, _, _, _, _ => h.elim
  | _ :: _, [], h, _, _, _, _ => h.elim
theorem ClusE.length {tl : Led} {kvs : List (Str × Value)} {cl : List (Str × List Int)} (h : ClusE tl kvs cl) : kvs.length = cl.length := by
  have := congrArg List.length h.keys
  simpa using this
theorem not_modules {d : Addr} (h : @LT.lt Nat _ 1 d) : (d == sysModules) = false := by
  have : d ≠ sysModules := Nat.ne_of_gt h
  simpa using this
theorem sk_inv {prog : Program} {w : World} {k : Str} {v : Value} (h : (PySem.strKind prog w).is k v = true) : ∃ t, v = .str k t := Value.isStrOf_shape h
theorem dict_nodup {prog : Program} {w : World} {o : Obj} {kvs : List (Str × Value)} (h : o.IsDictOf (PySem.strKind prog w) kvs) : (kvs.map (·.1)).Nodup := by
  obtain ⟨_, _, _, _, _, _, hn⟩ := h
  exact hn
theorem ints_perm {vs ws : List Value} {ns : List Int} (hi : IntsAre vs ns) (hp : ws.Perm vs) : ∃ ns', IntsAre ws ns' ∧ ns'.length = ns.length := by
  have h := intsAre_map ws fun v hv => hi.all v (hp.mem_iff.mp hv)
  exact ⟨_, h, by rw [List.length_map, hp.length_eq, hi.length]⟩
theorem not_mem_take {α : Type} {l : List α} (hn : l.Nodup) {i : Nat} {x : α} (hx : l[i]? = some x) : x ∉ l.take i := by
  intro hm
  obtain ⟨j, hj, e⟩ := List.mem_iff_getElem.mp hm
  rw [List.length_take] at hj
  rw [List.getElem_take] at e
  obtain ⟨hi, e2⟩ := List.getElem?_eq_some_iff.mp hx
  exact (List.pairwise_iff_getElem.mp hn j i (by omega) hi (by omega)) (e.trans e2.symm)
/-- how many members: hidden from omega, else the walk splits it -/
noncomputable def Mny (many : Int) : Prop := 1 ≤ many ∧ many ≤ 5
noncomputable def NAMES : List Str := [Str.ofString "a", Str.ofString "ab", Str.ofString "b", Str.ofString "ba", Str.ofString "c"]
noncomputable def WTOPS : List Str := [Str.ofString "u", Str.ofString "none", Str.ofString "t", Str.ofString "tt", Str.ofString "s"]
noncomputable def TOPS : List Str := [Str.ofString "t", Str.ofString "u", Str.ofString "s", Str.ofString "tt"]
theorem strs_perm {vs ws : List Value} (hp : ws.Perm vs) : ∀ (ss : List Str), StrsAre vs ss → ∃ ss', StrsAre ws ss' ∧ ss'.Perm ss := by
  induction hp with
  | nil => exact fun _ h => ⟨_, h, .refl _⟩
  | cons x p ih =>
    intro ss h
    cases h with
    | cons s t h =>
      obtain ⟨q, h1, h2⟩ := ih _ h
      exact ⟨_, .cons s t h1, h2.cons _⟩
  | swap x y l =>
    intro ss h
    cases h with
    | cons s t h =>
      cases h with
      | cons s' t' h => exact ⟨_, .cons _ _ (.cons _ _ h), List.Perm.swap _ _ _⟩
  | trans p q ih1 ih2 =>
    intro ss h
    obtain ⟨s1, h1, p1⟩ := ih2 _ h
    obtain ⟨s2, h2, p2⟩ := ih1 _ h1
    exact ⟨s2, h2, p2.trans p1⟩
noncomputable def gidOf (nms : List Str) (many st : Int) (j : Nat) : Option Str := if (j : Int) < st then some (Str.ofString "g" ++ nms.getD (many - 1 - (j : Int)).toNat Str.empty) else none
/-- the law's own block and its names, out of the program's term -/
noncomputable def lawBody : List Stmt := match PySem.Challenge.pw_je0014_01.main.body.getLast? with | some (.FunctionDef _ _ b _ _ _ _ _ _ _) => b | _ => []
noncomputable def lawScope : Scope := match PySem.Challenge.pw_je0014_01.main.body.getLast? with | some (.FunctionDef _ _ _ _ _ _ sc _ _ _) => sc | _ => default
-- B2
section
variable {prog : Program} {w : World} {A : Around} {s : Shared} {env : Env} {h₀ : Heap} {L : Addr} {m : Str → Option Value} {kx vx : PySem.Expr} {x : Str} {scope : Scope} {cl : List (Str × Addr)} {S : Led → Prop} {P : Nat → Value → Prop} {Fin : List (Str × Value) → Led → Prop} {E₀ tl₀ : Led} {adrs : List Addr}
/-- where an entry of a dict comprehension ends -/
noncomputable def DNext (prog : Program) (w : World) (adrs : List Addr) (tl : Led) (J : List (Str × Value) → Led → Led → Prop) (kvs : List (Str × Value)) (key : Value) (y : Value) (news' : Led) : Prop :=
  ∃ kk E' new, (SK prog w).is kk key = true ∧ news' = E' ++ (new ++ tl) ∧ E'.map (·.1) = adrs ∧ (∀ q ∈ new, ∀ b ∈ adrs, q.1 ≠ b) ∧ J (stored kvs kk y) E' (new ++ tl)
theorem dcomp_J {n : Nat} (J : Nat → List (Str × Value) → Led → Led → Prop) (ha : E₀.map (·.1) = adrs) (hoff : OwnOff tl₀ adrs) (hj : J 0 [] E₀ tl₀)
    (turn : ∀ i v kvs E₁ tl I oI C oC D oD m₂ h tk (E' : Value → Shared → Prop), i < n → P i v → J i kvs E₁ tl → E₁.map (·.1) = adrs → OwnOff tl adrs → oD.IsDictOf (SK prog w) kvs → LCg.NsObj oC m₂ → m₂ x = some v → Fr h₀ L h m → News h₀ L h ((I, oI) :: (C, oC) :: (D, oD) :: (E₁ ++ tl)) → LCg.Off3 I C D (E₁ ++ tl) → ((@Ne Nat I C) ∧ (@Ne Nat I D) ∧ (@Ne Nat C D)) →
      wpAny (model prog w) A (eval kx (compEnvC scope cl C env)) (fun key s' => wpAny (model prog w) A (eval vx (compEnvC scope cl C env))
        (LCg.CompEnd h₀ L m { s with heap := h, toks := tk } I oI C oC D oD S (DNext prog w adrs tl (J (i + 1)) kvs key)) E' s') E' { s with heap := h, toks := tk })
    (fin : ∀ kvs E₁ tl, E₁.map (·.1) = adrs → OwnOff tl adrs → J n kvs E₁ tl → Fin kvs (E₁ ++ tl)) : DRest prog w A h₀ L m env kx vx x scope cl s S P Fin n 0 [] (E₀ ++ tl₀) := by
  have key : ∀ (j i : Nat) (kvs : List (Str × Value)) (E₁ tl : Led), i + j = n → E₁.map (·.1) = adrs → OwnOff tl adrs → J i kvs E₁ tl → DRest prog w A h₀ L m env kx vx x scope cl s S P Fin j i kvs (E₁ ++ tl) := by
    intro j
    induction j with
    | zero =>
      intro i kvs E₁ tl hi ha₁ ho₁ hj₁
      have e : i = n := by omega
      subst e
      exact fin kvs E₁ tl ha₁ ho₁ hj₁
    | succ j ih =>
      intro i kvs E₁ tl hi ha₁ ho₁ hj₁ v I oI C oC D oD m₂ h tk E' hv hD hC hx F N off ne
      refine wpAny_mono (turn i v kvs E₁ tl I oI C oC D oD m₂ h tk E' (by omega) hv hj₁ ha₁ ho₁ hD hC hx F N off ne) (fun key s₂ hk => wpAny_mono hk (fun y s₃ hq => ?_) fun _ _ e => e) fun _ _ e => e
      obtain ⟨h', tk', nw, e, F', N', off', hS, kk, E', new, hkk, rfl, ha', hn', hj'⟩ := hq
      refine ⟨h', tk', _, e, F', N', off', hS, kk, hkk, ih (i + 1) _ E' (new ++ tl) (by omega) ha' ?_ hj'⟩
      intro p hp b hb
      rcases List.mem_append.mp hp with hp | hp
      · exact hn' p hp b hb
      · exact ho₁ p hp b hb
  exact key n 0 [] E₀ tl₀ (by omega) ha hoff hj
/-- the end of an entry, at the walk's own ledger -/
theorem dcend {R : Value → Led → Prop} {all : Led} {s₁ : Shared} {I C D : Addr} {oI oC oD : Obj} {E₁ tl E' new : Led} {y : Value} {h' : Heap} {tk : Nat}
    (F : Fr h₀ L h' m) (N : News h₀ L h' all) (sub : ∀ p ∈ (I, oI) :: (C, oC) :: (D, oD) :: (E' ++ (new ++ tl)), p ∈ all) (off : LCg.Off3 I C D (E₁ ++ tl)) (ha : E'.map (·.1) = E₁.map (·.1))
    (hn : ∀ q ∈ new, q.1 ≠ I ∧ q.1 ≠ C ∧ q.1 ≠ D) (hS : S (E' ++ (new ++ tl))) (r : R y (E' ++ (new ++ tl))) :
    LCg.CompEnd h₀ L m s₁ I oI C oC D oD S R y { s₁ with heap := h', toks := tk } := by
  refine LCg.CompEnd.intro F N _ sub (off3_iff.mpr fun p hp => ?_) hS r
  have off' := off3_iff.mp off
  rcases List.mem_append.mp hp with hp | hp
  · have : p.1 ∈ E₁.map (·.1) := ha ▸ List.mem_map_of_mem hp
    obtain ⟨q, hq, e⟩ := List.mem_map.mp this
    rw [← e]
    exact off' q (List.mem_append_left _ hq)
  · rcases List.mem_append.mp hp with hp | hp
    · exact hn p hp
    · exact off' p (List.mem_append_right _ hp)
end
-- D1
theorem stored_new {kvs : List (Str × Value)} {k : Str} {v : Value} (h : k ∉ kvs.map (·.1)) : stored kvs k v = kvs ++ [(k, v)] := stored_absent (valueAt_none_of_not_mem h) v
/-- the i-th key is not among the first i -/
theorem clus_fresh {cl : List (Str × List Int)} {n i : Nat} {k : Str} {ns : List Int} (hck : cl.map (·.1) = TOPS.take n) (h : cl[i]? = some (k, ns)) : k ∉ (cl.take i).map (·.1) := by
  rw [List.map_take]
  have h1 : (cl.map (·.1))[i]? = some k := by rw [List.getElem?_map, h]; rfl
  have h2 : (cl.map (·.1)).Nodup := by
    rw [hck]
    exact List.Nodup.sublist (List.take_sublist _ _) (by decide)
  exact not_mem_take h2 h1
-- D2
/-- what stands all through the law's call -/
structure LCtx (w : World) (mean : ExcName → Option Value) (mg mb : Str → Option Value) (h₀ : Heap) : Prop where
  B : Below callerA h₀ [] h₀
  X : (hd.heap_1 w.params).In h₀
  T : Top vw LOO mean mg mb h₀
  GL : Glob 0 mg mb (List.map itemOf (recsOf vw)) (scalarsOf [] ++ constsW vw) [] (namesW vw [Str.ofString "ConsumerProtocolSubscription", Str.ofString "RoundRobinPartitionAssignor"]) h₀
/-- the script -/
structure Scr (h₀ : Heap) (S : Addr) (vs : List Value) (ns : List Int) : Prop where
  hS : h₀.IsList S vs.toArray
  hI : IntsAre vs ns
  hlen : ¬ ((63 : Int)) < (ns.length : Int)
  hlay : (PyData.list (ns.map PyData.int)).layable0 = true
noncomputable abbrev NE : Value → Shared → Prop := fun _ _ => False
noncomputable abbrev lawEnv (h₀ : Heap) (fa : Addr) (cd : Value) : Env := envOfC (Str.ofString "law") lawScope h₀.objs.size fa cd
noncomputable abbrev lawA (h₀ : Heap) (fa : Addr) (cd : Value) : Around := Around.deeper callerA (lawEnv h₀ fa cd)
noncomputable abbrev lawWp (w : World) (h₀ : Heap) (fa : Addr) (cd : Value) (st : Stmt) (Q : Flow → Shared → Prop) (s : Shared) : Prop := wpAny (model PR w) (lawA h₀ fa cd) (exec st (lawEnv h₀ fa cd)) Q NE s
noncomputable abbrev lawWs (w : World) (h₀ : Heap) (fa : Addr) (cd : Value) (sts : List Stmt) (Q : Flow → Shared → Prop) (s : Shared) : Prop := wpAny (model PR w) (lawA h₀ fa cd) (execs sts (lawEnv h₀ fa cd)) Q NE s
noncomputable abbrev pos0 : Pos := ⟨0, 0, 0, 0⟩
noncomputable def stAt (l : List Stmt) (k : Nat) : Stmt := l.getD k (.Pass pos0)
noncomputable def forBody : Stmt → List Stmt | .For _ _ b _ _ => b | _ => []
noncomputable def forIter : Stmt → PySem.Expr | .For _ i _ _ _ => i | _ => .Name Str.empty pos0
noncomputable def forPx : Stmt → Pos | .For (.Name _ p) _ _ _ _ => p | _ => pos0
noncomputable def stPos : Stmt → Pos | .For _ _ _ _ p => p | _ => pos0
/-- a for over a name -/
noncomputable def IsFor (x : Str) (st : Stmt) : Prop := st = .For (.Name x (forPx st)) (forIter st) (forBody st) [] (stPos st)
section
variable {prog : Program} {w : World} {A : Around} {env : Env} {Q : Flow → Shared → Prop} {E : Value → Shared → Prop} {s : Shared}
theorem execs_at {body : List Stmt} {k : Nat} (hk : k < body.length)
    (h : wpAny (model prog w) A (exec (stAt body k) env) (fun f s' => match f with | .next => wpAny (model prog w) A (execs (body.drop (k + 1)) env) Q E s' | f => Q f s') E s) :
    wpAny (model prog w) A (execs (body.drop k) env) Q E s := by
  have e : body.drop k = stAt body k :: body.drop (k + 1) := by
    rw [List.drop_eq_getElem_cons hk, stAt, List.getD_eq_getElem?_getD, List.getElem?_eq_getElem hk]
    rfl
  rw [e]
  exact wpAny_execs_cons h
theorem execs_end {body : List Stmt} {k : Nat} (hk : body.length ≤ k) (h : Q .next s) : wpAny (model prog w) A (execs (body.drop k) env) Q E s := by
  rw [List.drop_eq_nil_of_le hk]
  exact wpAny_execs_nil h
theorem for_at {x : Str} {st : Stmt} (h₀ : Heap) (hf : IsFor x st) (hx : env.kindOf x = some .local)
    (hp : (env.scope.kind == .class || (env.scope.kind == .module && env.locals != env.globals)) = false)
    (hs : ∀ x, foldedSetIterable (forIter st) env x = pure x)
    (h : wpAny (model prog w) A (eval (forIter st) env) (fun xv s₁ => wpAny (model prog w) A (pyIter xv) (fun it s₂ => LoopAtV prog w A h₀ env x (forBody st) Q NE it s₂) NE s₁) NE s) :
    wpAny (model prog w) A (exec st env) Q NE s := by
  rw [hf]
  exact For_invV h₀ hx hp h hs PassesOwn.never
end
theorem lawBody_len : lawBody.length = 19 := by kernel_rfl
/-- all that is made in a call lies above what the program's table holds -/
theorem big_of {w : World} {h₀ h : Heap} {L : Addr} {m : Str → Option Value} (X : (hd.heap_1 w.params).In h₀) (F : Fr h₀ L h m) : @LT.lt Nat _ 1 L := by
  have e : ∃ o, (hd.heap_1 w.params).lookup 2 = some o := ⟨_, rfl⟩
  obtain ⟨o, e⟩ := e
  exact Nat.lt_of_lt_of_le (Nat.lt_of_lt_of_le (by decide : 1 < 2) (Nat.le_of_lt (Heap.lt_size (X _ _ e)))) F.above
noncomputable abbrev AddrsL (h₀ : Heap) (i : Nat) : Addr := h₀.objs.size + i
theorem news_front {h₀ h : Heap} {L : Addr} {l : Led} {a : Addr} {o : Obj} (N : News h₀ L h l) (hm : (a, o) ∈ l) : News h₀ L h ((a, o) :: l.filter fun p => p.1 != a) := fun p hp => by
  rcases List.mem_cons.mp hp with rfl | hp
  · exact N _ hm
  · exact N p (List.mem_filter.mp hp).1
theorem front_off {l : Led} {a : Addr} : ∀ p ∈ l.filter (fun p => p.1 != a), p.1 ≠ a := fun p hp => by simpa using (List.mem_filter.mp hp).2
theorem front_in {l : Led} {a : Addr} {p : Addr × Obj} (hp : p ∈ l) (h : p.1 ≠ a) : p ∈ l.filter (fun p => p.1 != a) := List.mem_filter.mpr ⟨hp, by simpa using h⟩
/-- two addresses of a ledger whose objects differ -/
theorem news_ne {h₀ h : Heap} {L : Addr} {l : Led} {a b : Addr} {o o' : Obj} (N : News h₀ L h l) (ha : (a, o) ∈ l) (hb : (b, o') ∈ l) (hd : o.data ≠ o'.data) : a ≠ b := by
  rintro rfl
  have h1 : h.get? a = some o := (N _ ha).1
  have h2 : h.get? a = some o' := (N _ hb).1
  rw [h1] at h2
  exact hd (by rw [Option.some.inj h2])
theorem lt_ne {D a : Addr} {o : Obj} {l : Led} (h : ∀ p ∈ l, p.1 < D) (hm : (a, o) ∈ l) : a ≠ D := Nat.ne_of_lt (h _ hm)
theorem off_ne {D a : Addr} {o : Obj} {l : Led} (h : ∀ p ∈ l, p.1 ≠ D) (hm : (a, o) ∈ l) : a ≠ D := h _ hm
theorem lt_off {D : Addr} {l l' : Led} (h : ∀ p ∈ l, p.1 < D) (hs : ∀ p ∈ l', p ∈ l) : ∀ p ∈ l', p.1 ≠ D := fun p hp => Nat.ne_of_lt (h p (hs p hp))
theorem offc {a x : Addr} {o : Obj} {l : Led} (h : a ≠ x) (ho : ∀ p ∈ l, p.1 ≠ x) : ∀ p ∈ (a, o) :: l, p.1 ≠ x := List.forall_mem_cons.mpr ⟨h, ho⟩
theorem own_of {T : Led} {as : List Addr} (h : ∀ a ∈ as, ∀ p ∈ T, p.1 ≠ a) : OwnOff T as := fun p hp b hb => h b hb p hp
theorem off1_mem {D : Addr} : ∀ {l : Led}, LCg.Off1 D l → ∀ p ∈ l, p.1 ≠ D
  | [], _, _, hp => nomatch hp
  | _ :: _, h, p, hp => by
    rcases List.mem_cons.mp hp with rfl | hp
    · exact h.1
    · exact off1_mem h.2 p hp
-- E1
section
variable {prog : Program} {w : World} {A : Around} {s : Shared} {env : Env} {h₀ : Heap} {x : Str} {body : List Stmt} {Q : Flow → Shared → Prop} {m₀ : Str → Option Value}
/-- a for over a list whose target is a cell -/
theorem for_cell {st : Stmt} {l c : Addr} {vs : List Value} {nn : Nat} {nx₀ : Led} (J : Nat → (Str → Option Value) → Led → Prop) (hf : IsFor x st) (hx : env.kindOf x = some .cell) (hk : env.scope.kind = .function) (hcl : env.cells.lookup x = some c)
    (hs : ∀ y, foldedSetIterable (forIter st) env y = pure y)
    (hi : ∀ (Q' : Value → Shared → Prop), Q' (.ref l) s → wpAny (model prog w) A (eval (forIter st) env) Q' NE s)
    (hh : A.handled = none) (hl : ∀ i m nx, J i m nx → (l, listOf vs.toArray nn) ∈ nx) (hc : ∀ i m nx, J i m nx → ∃ o x0, (c, o) ∈ nx ∧ o.data = .cell x0) (F : Fr h₀ env.locals s.heap m₀) (N : News h₀ env.locals s.heap nx₀) (hj : J 0 m₀ nx₀)
    (turn : ∀ i v m₁ nx h tk own o', vs[i]? = some v → OwnOff own (nx.map (·.1)) → J i m₁ nx → o'.data = .cell (some v) → Fr h₀ env.locals h m₁ → News h₀ env.locals h ((c, o') :: (nx.filter (fun p => p.1 != c) ++ own)) →
      wpAny (model prog w) A (execs (forBody st) env) (InvPostG h₀ env.locals (J (i + 1)) own { s with heap := h, toks := tk } Q) NE { s with heap := h, toks := tk })
    (done : ∀ m₁ nx h tk, J vs.length m₁ nx → Fr h₀ env.locals h m₁ → News h₀ env.locals h nx → Q .next { s with heap := h, toks := tk }) :
    wpAny (model prog w) A (exec st env) Q NE s := by
  rw [hf]
  refine wpAny_For (hi _ ?_) hs
  have hol : s.heap.get? l = some (listOf vs.toArray nn) := (N _ (hl _ _ _ hj)).1
  have hls : s.heap.IsList l vs.toArray := ⟨_, hol, rfl, nn, rfl⟩
  have hne : l ≠ s.heap.objs.size := Nat.ne_of_lt (Heap.lt_size hol)
  refine wpAny_pyIter_list hls ?_
  have W := Walks.list (prog := prog) (w := w) hh s.heap.objs.size l hne vs.toArray
  have hlen : vs.toArray.size = vs.length := List.size_toArray ..
  rw [hlen] at W
  have hI0 : h₀.get? s.heap.objs.size = none := next_is_new F
  have hIL : s.heap.objs.size ≠ env.locals := Nat.ne_of_gt F.ns.lt
  have hIf : ∀ p ∈ nx₀, p.1 ≠ s.heap.objs.size := fun p hp => Nat.ne_of_lt (Heap.lt_size (N p hp).1)
  refine codeAny_forLoop (fun k s' => ∃ h' tk m' nx i, s' = { s with heap := h', toks := tk } ∧ h'.IsListIter s.heap.objs.size l i ∧ Fr h₀ env.locals h' m' ∧ News h₀ env.locals h' nx ∧ (∀ p ∈ nx, p.1 ≠ s.heap.objs.size) ∧ J i m' nx ∧ i ≤ vs.length ∧ k = vs.length + 1 - i) ?_ (vs.length + 1)
    ⟨_, s.toks, m₀, nx₀, 0, rfl, ⟨_, Heap.get?_push_size _ rfl, rfl, rfl⟩, F.push _, (fun p hp => ⟨Heap.get?_push_of_some _ (N p hp).1, (N p hp).2⟩), hIf, hj, Nat.zero_le _, rfl⟩
  generalize s.heap.objs.size = I at W hI0 hIL hne
  rintro k s' ⟨h', tk, m', nx, i, rfl, hit, F', N', hnw, hJ, hi', rfl⟩
  have hls' : h'.IsList l vs.toArray := ⟨_, (N' _ (hl _ _ _ hJ)).1, rfl, nn, rfl⟩
  have next : ∀ h₁ : Heap, (∀ b o, b ∉ [I] → h'.get? b = some o → h₁.get? b = some o) → Fr h₀ env.locals h₁ m' ∧ News h₀ env.locals h₁ nx := fun h₁ hk₁ =>
    ⟨⟨F'.ns.at' fun o e => hk₁ _ o (fun q => hIL (List.mem_singleton.mp q).symm) e, fun b o e => hk₁ b o (fun q => by rw [List.mem_singleton.mp q, hI0] at e; cases e) (F'.keep b o e), F'.above⟩, fun p hp => ⟨hk₁ _ _ (fun q => hnw p hp (List.mem_singleton.mp q)) (N' p hp).1, (N' p hp).2⟩⟩
  by_cases hlt : i < vs.length
  · refine W.item i _ _ _ hlt ⟨hit, hls'⟩ fun v h₁ tk₁ hP hst₁ hk₁ => ?_
    obtain ⟨F₁, N₁⟩ := next h₁ hk₁
    obtain ⟨o, x0, hcm, hd⟩ := hc i m' nx hJ
    have hc1 := N₁ _ hcm
    have hIc : I ≠ c := (hnw _ hcm).symm
    refine wpAny_assign_Name (wpAny_storeName_cell hk hx hcl ⟨o, hc1.1, hd⟩ fun h₂ hv hs₂ => ?_)
    obtain ⟨o', ho', hd'⟩ := hv
    have hit₂ : h₂.IsListIter I l (i + 1) := hst₁.1.at fun ob e => (hs₂.2 I hIc).trans e
    obtain ⟨oI, hoI, hoI2⟩ := id hit₂
    have F₂ : Fr h₀ env.locals h₂ m' := ⟨F₁.ns.sameBut hs₂ (Ne.symm hc1.2.1), fun b ob e => (hs₂.2 b (fun q => by rw [q, hc1.2.2] at e; cases e)).trans (F₁.keep b ob e), F₁.above⟩
    have N₂ : News h₀ env.locals h₂ ((c, o') :: (nx.filter (fun p => p.1 != c) ++ [(I, oI)])) := fun p hp => by
      rcases List.mem_cons.mp hp with rfl | hp
      · exact ⟨ho', hc1.2⟩
      · rcases List.mem_append.mp hp with hp | hp
        · have hp2 := List.mem_filter.mp hp
          have h1 : p.1 ≠ c := by simpa using hp2.2
          exact ⟨(hs₂.2 _ h1).trans (N₁ p hp2.1).1, (N₁ p hp2.1).2⟩
        · rw [List.mem_singleton.mp hp]
          exact ⟨hoI, hIL, hI0⟩
    refine wpAny_mono (turn i v m' nx h₂ tk₁ [(I, oI)] o' (by simpa using hP) (fun p hp b hb e => ?_) hJ hd' F₂ N₂) (fun f s₃ h₃ => ?_) fun _ _ e => e.elim
    · obtain ⟨q, hq, rfl⟩ := List.mem_map.mp hb
      rw [List.mem_singleton.mp hp] at e
      exact hnw q hq e.symm
    · have key : InvEndG h₀ env.locals (J (i + 1)) [(I, oI)] { s with heap := h₂, toks := tk₁ } s₃ → ∃ mm, mm < vs.length + 1 - i ∧ ∃ h' tk m' nx j, s₃ = { s with heap := h', toks := tk } ∧ h'.IsListIter I l j ∧ Fr h₀ env.locals h' m' ∧ News h₀ env.locals h' nx ∧ (∀ p ∈ nx, p.1 ≠ I) ∧ J j m' nx ∧ j ≤ vs.length ∧ mm = vs.length + 1 - j := by
        rintro ⟨h3, tk3, m3, news', nx', rfl, F3, N3, hn, ho, ha, hj3⟩
        exact ⟨_, by omega, h3, tk3, m3, nx', i + 1, rfl, hit₂.at fun ob e => by rw [hoI] at e; rw [← e]; exact (N3 _ (ho _ (.head _))).1, F3, fun p hp => N3 p (hn p hp), fun p hp e => ha _ (.head _) p.1 (List.mem_map_of_mem hp) e.symm, hj3, hlt, rfl⟩
      cases f with
      | ret v => exact h₃
      | brk => exact h₃
      | next => exact key h₃
      | cont => exact key h₃
  · have hin : i = vs.length := by omega
    subst hin
    refine W.done _ _ _ ⟨hit, hls'⟩ fun h₁ tk₁ hk₁ => wpAny_execs_nil ?_
    obtain ⟨F₁, N₁⟩ := next h₁ hk₁
    exact done m' nx h₁ tk₁ hJ F₁ N₁
end
end Mine
namespace Mine
local macro_rules | `(tactic| k_all) => `(tactic| first | with_reducible assumption | exact List.forall_mem_nil _ | exact lt_off (by with_reducible assumption) (by first | exact fun _ q => q | exact fun _ q => .tail _ (q) | exact fun _ q => .tail _ (.tail _ (q)) | exact fun _ q => .tail _ (.tail _ (.tail _ (q))) | exact fun _ q => .tail _ (.tail _ (.tail _ (.tail _ (q)))) | exact fun _ q => .tail _ (.tail _ (.tail _ (.tail _ (.tail _ (q))))) | exact fun _ q => .tail _ (.tail _ (.tail _ (.tail _ (.tail _ (.tail _ (q)))))) | exact fun _ q => .tail _ (.tail _ (.tail _ (.tail _ (.tail _ (.tail _ (.tail _ (q))))))) | exact fun _ q => .tail _ (.tail _ (.tail _ (.tail _ (.tail _ (.tail _ (.tail _ (.tail _ (q))))))))) | exact List.forall_mem_cons.mpr ⟨by k_ne, by k_all⟩ | exact own_off (by with_reducible assumption) (by k_mem))
local macro_rules | `(tactic| k_lt $h:ident) => `(tactic| skip)
local macro_rules | `(tactic| k_ne) => `(tactic| first | with_reducible assumption | exact Ne.symm (by with_reducible assumption) | exact Nat.ne_of_lt (by with_reducible assumption) | exact Nat.ne_of_gt (by with_reducible assumption) | exact lt_ne (by with_reducible assumption) (by k_mem) | exact (lt_ne (by with_reducible assumption) (by k_mem)).symm | exact off_ne (by with_reducible assumption) (by k_mem) | exact (off_ne (by with_reducible assumption) (by k_mem)).symm | (refine neN ?_; (try dsimp only); omega))
local macro_rules | `(tactic| k_mem) => `(tactic| first | with_reducible assumption | exact List.mem_cons_self .. | (refine List.mem_cons_of_mem _ ?_; k_mem))
-- C1
/-- an entry of an object's dict -/
noncomputable def ent (w : World) (k : String) (t : Tok) (v : Value) : DictEntry := { hash := PyData.keyHash w.params (Str.ofString k), key := .str (Str.ofString k) t, val := v }
noncomputable def memD (w : World) (nm : Value) (gv : Value) (su : Addr) (t1 t3 t5 : Tok) : Obj := dictOf [ent w "member_id" t1 nm, ent w "group_instance_id" t3 gv, ent w "metadata" t5 (.ref su)] 3
noncomputable def subD (w : World) (wl : Addr) (t6 t7 t8 t9 t10 t11 t12 t13 : Tok) : Obj := dictOf [ent w "version" t6 (.int 0 t7), ent w "topics" t8 (.ref wl), ent w "user_data" t9 (.bytes #[] t10), ent w "owned_partitions" t11 (.ref 29), ent w "generation_id" t12 (.int (-1) t13)] 5
noncomputable def asgD (w : World) (l : Addr) (t1 t2 t3 t4 t5 : Tok) : Obj := dictOf [ent w "version" t1 (.int 0 t2), ent w "assigned_partitions" t3 (.ref l), ent w "user_data" t4 (.bytes #[] t5)] 3
noncomputable def cluD (w : World) (l : Addr) (t1 : Tok) : Obj := dictOf [ent w "_partitions" t1 (.ref l)] 1
theorem mk_mem {w : World} {mean : ExcName → Option Value} {mg mb : Str → Option Value} {dp un : Nat} {gd : Option (List Code)} {cn : Str} {cs : Scope} {a : Addr} {ccd : Value} {cl : List (Str × Addr)} {outer : List Env} {A₀ : Around} {base h₀ : Heap} {L : Addr} {m : Str → Option Value} {s : Shared} {Q E : Value → Shared → Prop} (B : Below A₀ base outer h₀) (F : Fr h₀ L s.heap m) (X : (hd.heap_1 w.params).In h₀) (T : Top vw LOO mean mg mb h₀) (hck : cs.kind = .function) {news : Led} {nm : Str} {t1 : Tok} {gv : Value} {su : Addr}
  (N : News h₀ L s.heap news) (hg : handedIn gv = true) (hd' : dp + 2 < recursionLimit) (hu : un + 16 < cLine)
  (h : ∀ x d u1 u2 u3 h' tk', (∀ p ∈ news, p.1 < d) → @LT.lt Nat _ d x → (∀ p ∈ news, p.1 < x) → Fr h₀ L h' m → News h₀ L h' ((x, instObj 87 d) :: (d, memD w (.str nm t1) gv su u1 u2 u3) :: news) → Q (.ref x) { s with heap := h', toks := tk' }) :
  wpAny (model PR w) (ktrTop dp un gd cn cs L a ccd cl outer) (call (.ref 87) [.str nm t1, gv, .ref su]) Q E s := by
  have hfill : (fun (_ : OpenLaw) (_ : Params → Frag) => True) PySem.Challenge.rw_je0014_01 hd.heap_1 := by k_fill; trivial
  clear hfill
  k_dflt (refine' call_cls ?k1 ?k2 ?k3 ?k4 ?k5 ?k6 ?_; (case k1 => k_asm); (case k2 => k_asm); (case k3 => k_asm); (case k4 => k_is); (case k5 => k_is); (case k6 => k_is); k_whole)
  intro x8 d8 h8 F8 N8 l1 l2
  k_sweep
  (k_dflt (refine' code_def ?k1 ?k2 ?k3 ?k4 ?k5 ?kA ?kF ?kK ?k6 ?k7 ?k8 ?k9 ?kB ?_ ?c2 ?c3 ?c4 ?c5; (case kA => exact rfl); (case kF => exact rfl); (case kK => first | exact rfl | assumption); (case k1 => k_asm); (case k2 => k_asm); (case k3 => k_asm); (case k4 => k_asm); (case k5 => k_asm); (case k6 => k_is); (case k7 => k_is); (case k8 => ktr_room); (case k9 => first | exact BindsTo.of_eq rfl | exact binds_K (by k_in) rfl (by k_is) rfl rfl rfl); (case c5 => decide); (case kB => exact locs rfl); (case c2 => exact rfl); (case c3 => exact rfl); (case c4 => exact rfl); k_whole; intro g' L' h' FG' F' N' B' X' T'); (try dsimp only); (try k_fold))
  (repeat' ((fail_if_success (first | (with_reducible show wpAny _ _ (exec (Stmt.While _ _ _ _) _) _ _ _) | (with_reducible show wpAny _ _ (exec (Stmt.For _ _ _ _ _) _) _ _ _) | (with_reducible show wpAny _ _ (pyIter _) _ _ _) | (with_reducible show LCg.CompSrc _ _ _ _ _ _ _ _ _ _ _ _ _ _) | (with_reducible show LCt.CompSrcT _ _ _ _ _ _ _ _ _ _ _ _ _ _ _) | (with_reducible show SrcLP _ _ _ _ _ _ _ _ _ _ _ _ _ _ _) | (with_reducible show DSrc _ _ _ _ _ _ _ _ _ _ _ _ _ _ _) | (with_reducible show Src2 _ _ _ _ _ _ _))); (first | (k_unfold; (try dsimp only)) | (k_unmd; k_unfold; (try dsimp only)) | (k_end; wrow_close) | walk1 | (dsimp only; walk1) | (leave1; (try dsimp only)))))
  rename_i kF kN _ _
  exact h _ _ _ _ _ _ _ l1 l2 (fun p hp => Nat.lt_trans (l1 p hp) l2) kF kN
theorem mk_sub {w : World} {mean : ExcName → Option Value} {mg mb : Str → Option Value} {dp un : Nat} {gd : Option (List Code)} {cn : Str} {cs : Scope} {a : Addr} {ccd : Value} {cl : List (Str × Addr)} {outer : List Env} {A₀ : Around} {base h₀ : Heap} {L : Addr} {m : Str → Option Value} {s : Shared} {Q E : Value → Shared → Prop} (B : Below A₀ base outer h₀) (F : Fr h₀ L s.heap m) (X : (hd.heap_1 w.params).In h₀) (T : Top vw LOO mean mg mb h₀) (hck : cs.kind = .function) {news : Led} {t1 t2 : Tok} {wl : Addr}
  (N : News h₀ L s.heap news) (hd' : dp + 2 < recursionLimit) (hu : un + 16 < cLine)
  (h : ∀ x d u1 u2 u3 u4 u5 u6 u7 u8 h' tk', (∀ p ∈ news, p.1 < d) → @LT.lt Nat _ d x → (∀ p ∈ news, p.1 < x) → Fr h₀ L h' m → News h₀ L h' ((x, instObj 40 d) :: (d, subD w wl u1 u2 u3 u4 u5 u6 u7 u8) :: news) → Q (.ref x) { s with heap := h', toks := tk' }) :
  wpAny (model PR w) (ktrTop dp un gd cn cs L a ccd cl outer) (call (.ref 40) [.int 0 t1, .ref wl, .bytes #[] t2]) Q E s := by
  have hfill : (fun (_ : OpenLaw) (_ : Params → Frag) => True) PySem.Challenge.rw_je0014_01 hd.heap_1 := by k_fill; trivial
  clear hfill
  k_dflt (refine' call_cls ?k1 ?k2 ?k3 ?k4 ?k5 ?k6 ?_; (case k1 => k_asm); (case k2 => k_asm); (case k3 => k_asm); (case k4 => k_is); (case k5 => k_is); (case k6 => k_is); k_whole)
  intro x8 d8 h8 F8 N8 l1 l2
  k_sweep
  (k_dflt (refine' code_def ?k1 ?k2 ?k3 ?k4 ?k5 ?kA ?kF ?kK ?k6 ?k7 ?k8 ?k9 ?kB ?_ ?c2 ?c3 ?c4 ?c5; (case kA => exact rfl); (case kF => exact rfl); (case kK => first | exact rfl | assumption); (case k1 => k_asm); (case k2 => k_asm); (case k3 => k_asm); (case k4 => k_asm); (case k5 => k_asm); (case k6 => k_is); (case k7 => k_is); (case k8 => ktr_room); (case k9 => first | exact BindsTo.of_eq rfl | exact binds_K (by k_in) rfl (by k_is) rfl rfl rfl); (case c5 => decide); (case kB => exact locs rfl); (case c2 => exact rfl); (case c3 => exact rfl); (case c4 => exact rfl); k_whole; intro g' L' h' FG' F' N' B' X' T'); (try dsimp only); (try k_fold))
  (repeat' ((fail_if_success (first | (with_reducible show wpAny _ _ (exec (Stmt.While _ _ _ _) _) _ _ _) | (with_reducible show wpAny _ _ (exec (Stmt.For _ _ _ _ _) _) _ _ _) | (with_reducible show wpAny _ _ (pyIter _) _ _ _) | (with_reducible show LCg.CompSrc _ _ _ _ _ _ _ _ _ _ _ _ _ _) | (with_reducible show LCt.CompSrcT _ _ _ _ _ _ _ _ _ _ _ _ _ _ _) | (with_reducible show SrcLP _ _ _ _ _ _ _ _ _ _ _ _ _ _ _) | (with_reducible show DSrc _ _ _ _ _ _ _ _ _ _ _ _ _ _ _) | (with_reducible show Src2 _ _ _ _ _ _ _))); (first | (k_unfold; (try dsimp only)) | (k_unmd; k_unfold; (try dsimp only)) | (k_end; wrow_close) | walk1 | (dsimp only; walk1) | (leave1; (try dsimp only)))))
  rename_i kF kN _ _
  exact h _ _ _ _ _ _ _ _ _ _ _ _ l1 l2 (fun p hp => Nat.lt_trans (l1 p hp) l2) kF kN
theorem mk_asg {w : World} {mean : ExcName → Option Value} {mg mb : Str → Option Value} {dp un : Nat} {gd : Option (List Code)} {cn : Str} {cs : Scope} {a : Addr} {ccd : Value} {cl : List (Str × Addr)} {outer : List Env} {A₀ : Around} {base h₀ : Heap} {L : Addr} {m : Str → Option Value} {s : Shared} {Q E : Value → Shared → Prop} (B : Below A₀ base outer h₀) (F : Fr h₀ L s.heap m) (X : (hd.heap_1 w.params).In h₀) (T : Top vw LOO mean mg mb h₀) (hck : cs.kind = .function) {news : Led} {t1 t2 : Tok} {wl : Addr}
  (N : News h₀ L s.heap news) (hd' : dp + 2 < recursionLimit) (hu : un + 16 < cLine)
  (h : ∀ x d u1 u2 u3 u4 u5 h' tk', (∀ p ∈ news, p.1 < d) → @LT.lt Nat _ d x → (∀ p ∈ news, p.1 < x) → Fr h₀ L h' m → News h₀ L h' ((x, instObj 66 d) :: (d, asgD w wl u1 u2 u3 u4 u5) :: news) → Q (.ref x) { s with heap := h', toks := tk' }) :
  wpAny (model PR w) (ktrTop dp un gd cn cs L a ccd cl outer) (call (.ref 66) [.int 0 t1, .ref wl, .bytes #[] t2]) Q E s := by
  have hfill : (fun (_ : OpenLaw) (_ : Params → Frag) => True) PySem.Challenge.rw_je0014_01 hd.heap_1 := by k_fill; trivial
  clear hfill
  k_dflt (refine' call_cls ?k1 ?k2 ?k3 ?k4 ?k5 ?k6 ?_; (case k1 => k_asm); (case k2 => k_asm); (case k3 => k_asm); (case k4 => k_is); (case k5 => k_is); (case k6 => k_is); k_whole)
  intro x8 d8 h8 F8 N8 l1 l2
  k_sweep
  (k_dflt (refine' code_def ?k1 ?k2 ?k3 ?k4 ?k5 ?kA ?kF ?kK ?k6 ?k7 ?k8 ?k9 ?kB ?_ ?c2 ?c3 ?c4 ?c5; (case kA => exact rfl); (case kF => exact rfl); (case kK => first | exact rfl | assumption); (case k1 => k_asm); (case k2 => k_asm); (case k3 => k_asm); (case k4 => k_asm); (case k5 => k_asm); (case k6 => k_is); (case k7 => k_is); (case k8 => ktr_room); (case k9 => first | exact BindsTo.of_eq rfl | exact binds_K (by k_in) rfl (by k_is) rfl rfl rfl); (case c5 => decide); (case kB => exact locs rfl); (case c2 => exact rfl); (case c3 => exact rfl); (case c4 => exact rfl); k_whole; intro g' L' h' FG' F' N' B' X' T'); (try dsimp only); (try k_fold))
  (repeat' ((fail_if_success (first | (with_reducible show wpAny _ _ (exec (Stmt.While _ _ _ _) _) _ _ _) | (with_reducible show wpAny _ _ (exec (Stmt.For _ _ _ _ _) _) _ _ _) | (with_reducible show wpAny _ _ (pyIter _) _ _ _) | (with_reducible show LCg.CompSrc _ _ _ _ _ _ _ _ _ _ _ _ _ _) | (with_reducible show LCt.CompSrcT _ _ _ _ _ _ _ _ _ _ _ _ _ _ _) | (with_reducible show SrcLP _ _ _ _ _ _ _ _ _ _ _ _ _ _ _) | (with_reducible show DSrc _ _ _ _ _ _ _ _ _ _ _ _ _ _ _) | (with_reducible show Src2 _ _ _ _ _ _ _))); (first | (k_unfold; (try dsimp only)) | (k_unmd; k_unfold; (try dsimp only)) | (k_end; wrow_close) | walk1 | (dsimp only; walk1) | (leave1; (try dsimp only)))))
  rename_i kF kN _ _
  exact h _ _ _ _ _ _ _ _ _ l1 l2 (fun p hp => Nat.lt_trans (l1 p hp) l2) kF kN
theorem mk_clu {w : World} {mean : ExcName → Option Value} {mg mb : Str → Option Value} {dp un : Nat} {gd : Option (List Code)} {cn : Str} {cs : Scope} {a : Addr} {ccd : Value} {cl : List (Str × Addr)} {outer : List Env} {A₀ : Around} {base h₀ : Heap} {L : Addr} {m : Str → Option Value} {s : Shared} {Q E : Value → Shared → Prop} (B : Below A₀ base outer h₀) (F : Fr h₀ L s.heap m) (X : (hd.heap_1 w.params).In h₀) (T : Top vw LOO mean mg mb h₀) (hck : cs.kind = .function) {news : Led} {wl : Addr}
  (N : News h₀ L s.heap news) (hd' : dp + 2 < recursionLimit) (hu : un + 16 < cLine)
  (h : ∀ x d u1 h' tk', (∀ p ∈ news, p.1 < d) → @LT.lt Nat _ d x → (∀ p ∈ news, p.1 < x) → Fr h₀ L h' m → News h₀ L h' ((x, instObj 122 d) :: (d, cluD w wl u1) :: news) → Q (.ref x) { s with heap := h', toks := tk' }) :
  wpAny (model PR w) (ktrTop dp un gd cn cs L a ccd cl outer) (call (.ref 122) [.ref wl]) Q E s := by
  have hfill : (fun (_ : OpenLaw) (_ : Params → Frag) => True) PySem.Challenge.rw_je0014_01 hd.heap_1 := by k_fill; trivial
  clear hfill
  k_dflt (refine' call_cls ?k1 ?k2 ?k3 ?k4 ?k5 ?k6 ?_; (case k1 => k_asm); (case k2 => k_asm); (case k3 => k_asm); (case k4 => k_is); (case k5 => k_is); (case k6 => k_is); k_whole)
  intro x8 d8 h8 F8 N8 l1 l2
  k_sweep
  (k_dflt (refine' code_def ?k1 ?k2 ?k3 ?k4 ?k5 ?kA ?kF ?kK ?k6 ?k7 ?k8 ?k9 ?kB ?_ ?c2 ?c3 ?c4 ?c5; (case kA => exact rfl); (case kF => exact rfl); (case kK => first | exact rfl | assumption); (case k1 => k_asm); (case k2 => k_asm); (case k3 => k_asm); (case k4 => k_asm); (case k5 => k_asm); (case k6 => k_is); (case k7 => k_is); (case k8 => ktr_room); (case k9 => first | exact BindsTo.of_eq rfl | exact binds_K (by k_in) rfl (by k_is) rfl rfl rfl); (case c5 => decide); (case kB => exact locs rfl); (case c2 => exact rfl); (case c3 => exact rfl); (case c4 => exact rfl); k_whole; intro g' L' h' FG' F' N' B' X' T'); (try dsimp only); (try k_fold))
  (repeat' ((fail_if_success (first | (with_reducible show wpAny _ _ (exec (Stmt.While _ _ _ _) _) _ _ _) | (with_reducible show wpAny _ _ (exec (Stmt.For _ _ _ _ _) _) _ _ _) | (with_reducible show wpAny _ _ (pyIter _) _ _ _) | (with_reducible show LCg.CompSrc _ _ _ _ _ _ _ _ _ _ _ _ _ _) | (with_reducible show LCt.CompSrcT _ _ _ _ _ _ _ _ _ _ _ _ _ _ _) | (with_reducible show SrcLP _ _ _ _ _ _ _ _ _ _ _ _ _ _ _) | (with_reducible show DSrc _ _ _ _ _ _ _ _ _ _ _ _ _ _ _) | (with_reducible show Src2 _ _ _ _ _ _ _))); (first | (k_unfold; (try dsimp only)) | (k_unmd; k_unfold; (try dsimp only)) | (k_end; wrow_close) | walk1 | (dsimp only; walk1) | (leave1; (try dsimp only)))))
  rename_i kF kN _ _
  exact h _ _ _ _ _ l1 l2 (fun p hp => Nat.lt_trans (l1 p hp) l2) kF kN
-- D3
/-- a member: its id, its static name, its topics -/
noncomputable def gidV (g : Option Str) (t : Tok) : Value := match g with | some x => .str x t | none => .none
theorem handed_gid (g : Option Str) (t : Tok) : handedIn (gidV g t) = true := by cases g <;> rfl
noncomputable abbrev Mem := Str × Option Str × List Str
inductive MemE (w : World) (tl : Led) : Value → Mem → Prop
  | mk {x d su e wl : Addr} {wv : List Value} {c : Nat} {nm : Str} {g : Option Str} {ts : List Str} {t0 t1 t2 t3 t5 t6 t7 t8 t9 t10 t11 t12 t13 : Tok} (hw : StrsAre wv ts) (hx : (x, instObj 87 d) ∈ tl) (hd : (d, memD w (.str nm t0) (gidV g t2) su t1 t3 t5) ∈ tl)
    (hs : (su, instObj 40 e) ∈ tl) (he : (e, subD w wl t6 t7 t8 t9 t10 t11 t12 t13) ∈ tl) (hl : (wl, listOf wv.toArray c) ∈ tl) : MemE w tl (.ref x) (nm, g, ts)
theorem MemE.mono {w : World} {tl tl' : Led} (hs : ∀ p ∈ tl, p ∈ tl') {v : Value} {m : Mem} (h : MemE w tl v m) : MemE w tl' v m := by
  cases h with
  | mk hw hx hd h1 he hl => exact .mk hw (hs _ hx) (hs _ hd) (hs _ h1) (hs _ he) (hs _ hl)
noncomputable def MemsE (w : World) (tl : Led) : List Value → List Mem → Prop
  | [], [] => True
  | v :: r, m :: r' => MemE w tl v m ∧ MemsE w tl r r'
  | _, _ => False
theorem MemsE.mono {w : World} {tl tl' : Led} (hs : ∀ p ∈ tl, p ∈ tl') : ∀ {vs : List Value} {ms : List Mem}, MemsE w tl vs ms → MemsE w tl' vs ms
  | [], [], _ => trivial
  | _ :: _, _ :: _, ⟨h1, h2⟩ => ⟨h1.mono hs, h2.mono hs⟩
  | [], _ :: _, h => h.elim
  | _ :: _, [], h => h.elim
theorem MemsE.snoc {w : World} {tl : Led} {v : Value} {m : Mem} (hv : MemE w tl v m) : ∀ {vs : List Value} {ms : List Mem}, MemsE w tl vs ms → MemsE w tl (vs ++ [v]) (ms ++ [m])
  | [], [], _ => ⟨hv, trivial⟩
  | _ :: _, _ :: _, ⟨h1, h2⟩ => ⟨h1, h2.snoc hv⟩
  | [], _ :: _, h => h.elim
  | _ :: _, [], h => h.elim
theorem MemsE.length {w : World} {tl : Led} : ∀ {vs : List Value} {ms : List Mem}, MemsE w tl vs ms → vs.length = ms.length
  | [], [], _ => rfl
  | _ :: _, _ :: _, ⟨_, h2⟩ => congrArg (· + 1) h2.length
  | [], _ :: _, h => h.elim
  | _ :: _, [], h => h.elim
theorem MemsE.item {w : World} {tl : Led} : ∀ {vs : List Value} {ms : List Mem}, MemsE w tl vs ms → ∀ (i : Nat) (v : Value), vs[i]? = some v → ∃ m, ms[i]? = some m ∧ MemE w tl v m
  | [], [], _, _, _, h => nomatch h
  | _ :: _, m' :: _, ⟨h1, _⟩, 0, _, h => ⟨m', rfl, Option.some.inj h ▸ h1⟩
  | _ :: _, _ :: _, ⟨_, h2⟩, i + 1, v, h => h2.item i v h
  | [], _ :: _, h, _, _, _ => h.elim
  | _ :: _, [], h, _, _, _ => h.elim
theorem add_name {prog : Program} {w : World} {A : Around} {E : Value → Shared → Prop} {s : Shared} {Q : Value → Shared → Prop} {x y : Str} {t u : Tok} {nms : List Str} {j : Nat} (hx : nms[j]? = some y) (hz : ∀ y ∈ nms, y.length ≤ 2) (ha : x.length ≤ 8)
    (h : ∀ t' tk, Q (.str (x ++ y) t') { s with toks := tk }) : wpAny (model prog w) A (binaryOp .Add (.str x t) (.str y u)) Q E s :=
  add_str h (Nat.le_trans (Nat.add_le_add ha (hz _ (List.mem_of_getElem? hx))) (by rw [sizeLine_eq]; exact Nat.le_of_ble_eq_true rfl))
theorem getD_of {nms : List Str} {j : Nat} {y : Str} (h : nms[j]? = some y) : nms.getD j Str.empty = y := by rw [List.getD_eq_getElem?_getD, h]; rfl
-- L0
/-- hand = [script, 0] -/
theorem s0 {w : World} {mean : ExcName → Option Value} {mg mb : Str → Option Value} {fa : Addr} {cd : Value} {h₀ : Heap} {m : Str → Option Value} {s : Shared} {Q : Flow → Shared → Prop} (C : LCtx w mean mg mb h₀) (F : Fr h₀ h₀.objs.size s.heap m) {S : Addr} {o1 : Obj} {x1 : Option Value} {news : Led} (N : News h₀ h₀.objs.size s.heap (((h₀.objs.size + 1), o1) :: news)) (ho1 : ∀ p ∈ news, p.1 ≠ (h₀.objs.size + 1)) (d1 : o1.data = .cell x1) (ms : m (Str.ofString "script") = some (.ref S))
  (h : ∀ hnd o1' t h' tk', (∀ p ∈ ((h₀.objs.size + 1), o1) :: news, p.1 < hnd) → o1'.data = .cell (some (.ref hnd)) → Fr h₀ h₀.objs.size h' m → News h₀ h₀.objs.size h' ((hnd, handO S 0 t) :: ((h₀.objs.size + 1), o1') :: news) → Q .next { s with heap := h', toks := tk' }) :
  lawWp w h₀ fa cd (stAt lawBody 0) Q s := by
  have hfill : (fun (_ : OpenLaw) (_ : Params → Frag) => True) PySem.Challenge.rw_je0014_01 hd.heap_1 := by k_fill; trivial
  clear hfill
  obtain ⟨B, X, T, GL⟩ := C
  conv in (stAt lawBody _) => whnf
  (repeat' ((fail_if_success (first | (with_reducible show wpAny _ _ (exec (Stmt.While _ _ _ _) _) _ _ _) | (with_reducible show wpAny _ _ (exec (Stmt.For _ _ _ _ _) _) _ _ _) | (with_reducible show wpAny _ _ (pyIter _) _ _ _) | (with_reducible show LCg.CompSrc _ _ _ _ _ _ _ _ _ _ _ _ _ _) | (with_reducible show LCt.CompSrcT _ _ _ _ _ _ _ _ _ _ _ _ _ _ _) | (with_reducible show SrcLP _ _ _ _ _ _ _ _ _ _ _ _ _ _ _) | (with_reducible show DSrc _ _ _ _ _ _ _ _ _ _ _ _ _ _ _) | (with_reducible show Src2 _ _ _ _ _ _ _))); (first | (k_unfold; (try dsimp only)) | (k_unmd; k_unfold; (try dsimp only)) | (k_end; wrow_close) | (k_here; (with_reducible show wpAny _ _ (eval (PySem.Expr.Name _ _) _) _ _ _); k_dflt (refine' nameX_L ?jF ?jv ?_ ?ja ?jb; (case ja => rfl); (case jb => rfl); (case jF => k_asm); (case jv => with_reducible assumption))) | walk1 | (dsimp only; walk1) | (leave1; (try dsimp only)))))
  rename_i z8 z7 z6 z5 z4 z3 z2 z1
  exact h _ _ _ _ _ z6 z1 z3 z2
/-- many -/
theorem s1 {w : World} {mean : ExcName → Option Value} {mg mb : Str → Option Value} {fa : Addr} {cd : Value} {h₀ : Heap} {m : Str → Option Value} {s : Shared} {Q : Flow → Shared → Prop} (C : LCtx w mean mg mb h₀) (F : Fr h₀ h₀.objs.size s.heap m) {S hnd : Addr} {vs : List Value} {ns : List Int} (Z : Scr h₀ S vs ns) {t : Tok} {k : Int} {o1 o2 : Obj} {news : Led} {x2 : Option Value}
  (N : News h₀ h₀.objs.size s.heap ((hnd, handO S k t) :: ((h₀.objs.size + 1 + 1), o2) :: news)) (hoh : ∀ p ∈ news, p.1 ≠ hnd) (ho2 : ∀ p ∈ news, p.1 ≠ (h₀.objs.size + 1 + 1)) (h2 : hnd ≠ (h₀.objs.size + 1 + 1))
  (m1 : ((h₀.objs.size + 1), o1) ∈ news) (d1 : o1.data = .cell (some (.ref hnd))) (d2 : o2.data = .cell x2) (k0 : 0 ≤ k) (k1 : k < 900)
  (h : ∀ r t' u o2' h' tk', 0 ≤ r → r < 5 → o2'.data = .cell (some (.int (1 + r) u)) → Fr h₀ h₀.objs.size h' m → News h₀ h₀.objs.size h' ((hnd, handO S (k + 1) t') :: ((h₀.objs.size + 1 + 1), o2') :: news) → Q .next { s with heap := h', toks := tk' }) :
  lawWp w h₀ fa cd (stAt lawBody 1) Q s := by
  have hfill : (fun (_ : OpenLaw) (_ : Params → Frag) => True) PySem.Challenge.rw_je0014_01 hd.heap_1 := by k_fill; trivial
  clear hfill
  obtain ⟨B, X, T, GL⟩ := C
  obtain ⟨hS, hI, hlen, hlay⟩ := Z
  conv in (stAt lawBody _) => whnf
  (repeat' ((fail_if_success (first | (with_reducible show wpAny _ _ (exec (Stmt.While _ _ _ _) _) _ _ _) | (with_reducible show wpAny _ _ (exec (Stmt.For _ _ _ _ _) _) _ _ _) | (with_reducible show wpAny _ _ (pyIter _) _ _ _) | (with_reducible show LCg.CompSrc _ _ _ _ _ _ _ _ _ _ _ _ _ _) | (with_reducible show LCt.CompSrcT _ _ _ _ _ _ _ _ _ _ _ _ _ _ _) | (with_reducible show SrcLP _ _ _ _ _ _ _ _ _ _ _ _ _ _ _) | (with_reducible show DSrc _ _ _ _ _ _ _ _ _ _ _ _ _ _ _) | (with_reducible show Src2 _ _ _ _ _ _ _))); (first | (k_unfold; (try dsimp only)) | (k_unmd; k_unfold; (try dsimp only)) | (k_end; wrow_close) | (k_here; (with_reducible show wpAny _ _ (call (Value.ref 189) [Value.ref _, Value.int _ _]) _ _ _); k_dflt (refine' next_U ?jkB ?jkF ?jkX ?jkN ?jkT ?jkc ?jkU ?jkS ?jkI ?jkl ?jky ?jk0 ?jk1 ?jm0 ?jm1 ?jkd ?jku ?_; (case jkB => k_asm); (case jkF => k_asm); (case jkX => k_asm); (case jkN => k_asm); (case jkT => k_asm); (case jkc => first | exact rfl | assumption); (case jkU => k_updF); (case jkS => assumption); (case jkI => assumption); (case jkl => assumption); (case jky => assumption); (case jk0 => omega); (case jk1 => omega); (case jm0 => omega); (case jm1 => omega); (case jkd => ktr_room); (case jku => ktr_units)); intro r9 t9 u9 h9 tk9 r90 r91 F' N'; (try dsimp only at N')) | walk1 | (dsimp only; walk1) | (leave1; (try dsimp only)))))
  rename_i z5 z4 z3 z2 z1
  exact h _ _ _ _ _ _ r90 r91 z1 z3 z2
/-- static -/
theorem s2 {w : World} {mean : ExcName → Option Value} {mg mb : Str → Option Value} {fa : Addr} {cd : Value} {h₀ : Heap} {m : Str → Option Value} {s : Shared} {Q : Flow → Shared → Prop} (C : LCtx w mean mg mb h₀) (F : Fr h₀ h₀.objs.size s.heap m) {S hnd : Addr} {vs : List Value} {ns : List Int} (Z : Scr h₀ S vs ns) {t tm : Tok} {k many : Int} {o1 o2 : Obj} {news : Led}
  (N : News h₀ h₀.objs.size s.heap ((hnd, handO S k t) :: news)) (hoh : ∀ p ∈ news, p.1 ≠ hnd)
  (m1 : ((h₀.objs.size + 1), o1) ∈ news) (d1 : o1.data = .cell (some (.ref hnd))) (m2 : ((h₀.objs.size + 1 + 1), o2) ∈ news) (d2 : o2.data = .cell (some (.int many tm))) (hmany : 1 ≤ many ∧ many ≤ 5) (k0 : 0 ≤ k) (k1 : k < 900)
  (h : ∀ st t' ts h' tk', 0 ≤ st → st ≤ many → Fr h₀ h₀.objs.size h' (fun y => if y = Str.ofString "static" then some (.int st ts) else m y) → News h₀ h₀.objs.size h' ((hnd, handO S (k + 1) t') :: news) → Q .next { s with heap := h', toks := tk' }) :
  lawWp w h₀ fa cd (stAt lawBody 2) Q s := by
  have hfill : (fun (_ : OpenLaw) (_ : Params → Frag) => True) PySem.Challenge.rw_je0014_01 hd.heap_1 := by k_fill; trivial
  clear hfill
  obtain ⟨B, X, T, GL⟩ := C
  obtain ⟨hS, hI, hlen, hlay⟩ := Z
  conv in (stAt lawBody _) => whnf
  (repeat' ((fail_if_success (first | (with_reducible show wpAny _ _ (exec (Stmt.While _ _ _ _) _) _ _ _) | (with_reducible show wpAny _ _ (exec (Stmt.For _ _ _ _ _) _) _ _ _) | (with_reducible show wpAny _ _ (pyIter _) _ _ _) | (with_reducible show LCg.CompSrc _ _ _ _ _ _ _ _ _ _ _ _ _ _) | (with_reducible show LCt.CompSrcT _ _ _ _ _ _ _ _ _ _ _ _ _ _ _) | (with_reducible show SrcLP _ _ _ _ _ _ _ _ _ _ _ _ _ _ _) | (with_reducible show DSrc _ _ _ _ _ _ _ _ _ _ _ _ _ _ _) | (with_reducible show Src2 _ _ _ _ _ _ _))); (first | (k_unfold; (try dsimp only)) | (k_unmd; k_unfold; (try dsimp only)) | (k_end; wrow_close) | (k_here; (with_reducible show wpAny _ _ (call (Value.ref 189) [Value.ref _, Value.int _ _]) _ _ _); k_dflt (refine' next_U ?jkB ?jkF ?jkX ?jkN ?jkT ?jkc ?jkU ?jkS ?jkI ?jkl ?jky ?jk0 ?jk1 ?jm0 ?jm1 ?jkd ?jku ?_; (case jkB => k_asm); (case jkF => k_asm); (case jkX => k_asm); (case jkN => k_asm); (case jkT => k_asm); (case jkc => first | exact rfl | assumption); (case jkU => k_updF); (case jkS => assumption); (case jkI => assumption); (case jkl => assumption); (case jky => assumption); (case jk0 => omega); (case jk1 => omega); (case jm0 => omega); (case jm1 => omega); (case jkd => ktr_room); (case jku => ktr_units)); intro r9 t9 u9 h9 tk9 r90 r91 F' N'; (try dsimp only at N')) | walk1 | (dsimp only; walk1) | (leave1; (try dsimp only)))))
  rename_i z3 z2 z1
  exact h _ _ _ _ _ r90 (by omega) z2 z1
/-- names -/
theorem s3 {w : World} {mean : ExcName → Option Value} {mg mb : Str → Option Value} {fa : Addr} {cd : Value} {h₀ : Heap} {m : Str → Option Value} {s : Shared} {Q : Flow → Shared → Prop} (C : LCtx w mean mg mb h₀) (F : Fr h₀ h₀.objs.size s.heap m) {S hnd : Addr} {vs : List Value} {ns : List Int} (Z : Scr h₀ S vs ns) {t tm : Tok} {k many : Int} {o1 o2 o3 : Obj} {news : Led} {x3 : Option Value}
  (N : News h₀ h₀.objs.size s.heap ((hnd, handO S k t) :: ((h₀.objs.size + 1 + 1 + 1), o3) :: news)) (hoh : ∀ p ∈ news, p.1 ≠ hnd) (ho3 : ∀ p ∈ news, p.1 ≠ (h₀.objs.size + 1 + 1 + 1)) (h3 : hnd ≠ (h₀.objs.size + 1 + 1 + 1))
  (m1 : ((h₀.objs.size + 1), o1) ∈ news) (d1 : o1.data = .cell (some (.ref hnd))) (m2 : ((h₀.objs.size + 1 + 1), o2) ∈ news) (d2 : o2.data = .cell (some (.int many tm))) (d3 : o3.data = .cell x3) (hmany : 1 ≤ many ∧ many ≤ 5) (k0 : 0 ≤ k) (k1 : k < 800)
  (h : ∀ nm nv nms o3' k' t' h' tk', StrsAre nv nms → (nms.length : Int) = many → nms.Nodup → (∀ x ∈ nms, x ∈ NAMES) → 0 ≤ k' → k' ≤ k + 5 → o3'.data = .cell (some (.ref nm)) → (∀ p ∈ (hnd, handO S k' t') :: ((h₀.objs.size + 1 + 1 + 1), o3') :: news, p.1 < nm) → Fr h₀ h₀.objs.size h' m → News h₀ h₀.objs.size h' ((nm, listOf nv.toArray 0) :: (hnd, handO S k' t') :: ((h₀.objs.size + 1 + 1 + 1), o3') :: news) → Q .next { s with heap := h', toks := tk' }) :
  lawWp w h₀ fa cd (stAt lawBody 3) Q s := by
  have hfill : (fun (_ : OpenLaw) (_ : Params → Frag) => True) PySem.Challenge.rw_je0014_01 hd.heap_1 := by k_fill; trivial
  clear hfill
  obtain ⟨B, X, T, GL⟩ := C
  obtain ⟨hS, hI, hlen, hlay⟩ := Z
  conv in (stAt lawBody _) => whnf
  (repeat' ((fail_if_success (first | (with_reducible show wpAny _ _ (exec (Stmt.While _ _ _ _) _) _ _ _) | (with_reducible show wpAny _ _ (exec (Stmt.For _ _ _ _ _) _) _ _ _) | (with_reducible show wpAny _ _ (pyIter _) _ _ _) | (with_reducible show wpAny _ _ (subscriptTail _ _ _ _) _ _ _) | (with_reducible show LCg.CompSrc _ _ _ _ _ _ _ _ _ _ _ _ _ _) | (with_reducible show LCt.CompSrcT _ _ _ _ _ _ _ _ _ _ _ _ _ _ _) | (with_reducible show SrcLP _ _ _ _ _ _ _ _ _ _ _ _ _ _ _) | (with_reducible show DSrc _ _ _ _ _ _ _ _ _ _ _ _ _ _ _) | (with_reducible show Src2 _ _ _ _ _ _ _))); (first | (k_unfold; (try dsimp only)) | (k_unmd; k_unfold; (try dsimp only)) | (k_end; wrow_close) | (k_here; (with_reducible show wpAny _ _ (call (Value.ref 189) [Value.ref _, Value.int _ _]) _ _ _); k_dflt (refine' next_U ?jkB ?jkF ?jkX ?jkN ?jkT ?jkc ?jkU ?jkS ?jkI ?jkl ?jky ?jk0 ?jk1 ?jm0 ?jm1 ?jkd ?jku ?_; (case jkB => k_asm); (case jkF => k_asm); (case jkX => k_asm); (case jkN => k_asm); (case jkT => k_asm); (case jkc => first | exact rfl | assumption); (case jkU => k_updF); (case jkS => assumption); (case jkI => assumption); (case jkl => assumption); (case jky => assumption); (case jk0 => omega); (case jk1 => omega); (case jm0 => omega); (case jm1 => omega); (case jkd => ktr_room); (case jku => ktr_units)); intro r9 t9 u9 h9 tk9 r90 r91 F' N'; (try dsimp only at N')) | (k_here; (with_reducible show wpAny _ _ (call (Value.ref 196) [Value.ref _, Value.ref _]) _ _ _); k_dflt (refine' mixed_U ?jkB ?jkF ?jkX ?jkN ?jkT ?jkc ?jkU ?jkm ?jkR ?jkS ?jkI ?jkl ?jky ?jk0 ?jk1 ?jku6 ?jkd ?jku ?_; (case jkB => k_asm); (case jkF => k_asm); (case jkX => k_asm); (case jkN => k_asm); (case jkT => k_asm); (case jkc => first | exact rfl | assumption); (case jkU => k_updF); (case jkm => k_mem); (case jkR => k_ne); (case jkS => assumption); (case jkI => assumption); (case jkl => assumption); (case jky => assumption); (case jk0 => omega); (case jk1 => omega); (case jku6 => first | exact Nat.le_of_ble_eq_true rfl | omega); (case jkd => ktr_room); (case jku => ktr_units)); intro D9 ws9 c9 u9 k9 h9 tk9 p9 e9 l9 F' N'; (try k_lt l9); (try dsimp only at N')) | (k_here; (with_reducible show wpAny _ _ (subscriptTail _ (PySem.Expr.Slice _ _ none _) (Value.ref _) (Value.ref _)) _ _ _); (fail_if_success (with_reducible show wpAny _ _ (subscriptTail (PySem.Expr.Name _ _) _ _ _) _ _ _)); k_dflt (refine kba_turn (value' := PySem.Expr.Name (PySem.Str.ofString "_") ⟨0, 0, 0, 0⟩) (fun _ => rfl) ?_)) | walk1 | (dsimp only; walk1) | (leave1; (try dsimp only)))))
  have hw5 : ws9.length = 5 := p9.length_eq
  have hw6 : ws9.length ≤ 1000 := by omega
  have e9' : k9 = k + 5 := e9
  obtain ⟨nms, hn1, hn2⟩ := strs_perm p9 NAMES (.cons _ _ (.cons _ _ (.cons _ _ (.cons _ _ (.cons _ _ .nil)))))
  clear p9 e9
  (repeat' ((fail_if_success (first | (with_reducible show wpAny _ _ (exec (Stmt.While _ _ _ _) _) _ _ _) | (with_reducible show wpAny _ _ (exec (Stmt.For _ _ _ _ _) _) _ _ _) | (with_reducible show wpAny _ _ (pyIter _) _ _ _) | (with_reducible show LCg.CompSrc _ _ _ _ _ _ _ _ _ _ _ _ _ _) | (with_reducible show LCt.CompSrcT _ _ _ _ _ _ _ _ _ _ _ _ _ _ _) | (with_reducible show SrcLP _ _ _ _ _ _ _ _ _ _ _ _ _ _ _) | (with_reducible show DSrc _ _ _ _ _ _ _ _ _ _ _ _ _ _ _) | (with_reducible show Src2 _ _ _ _ _ _ _))); (first | (k_unfold; (try dsimp only)) | (k_unmd; k_unfold; (try dsimp only)) | (k_end; wrow_close) | (k_here; (with_reducible show wpAny _ _ (subscriptTail _ (PySem.Expr.Slice _ _ none _) (Value.ref _) (Value.ref _)) _ _ _); (fail_if_success (with_reducible show wpAny _ _ (subscriptTail (PySem.Expr.Name _ _) _ _ _) _ _ _)); k_dflt (refine kba_turn (value' := PySem.Expr.Name (PySem.Str.ofString "_") ⟨0, 0, 0, 0⟩) (fun _ => rfl) ?_)) | (k_here; (with_reducible show wpAny _ _ (subscriptTail _ (PySem.Expr.Slice _ _ none _) (Value.ref _) (Value.ref _)) _ _ _); k_dflt (refine' slice_upto_L ?jF ?jN ?jm ?ja ?jz ?_ ?js ?jt; (case jF => k_asm); (case jN => k_asm); (case jm => k_mem); (case ja => omega); (case jz => first | omega | exact Nat.le_of_ble_eq_true rfl); (case js => with_unfolding_all rfl); (case jt => kmk_pure)); intro D' h' F' N' l1; (try k_lt l1); (try k_sweep)) | walk1 | (dsimp only; walk1) | (leave1; (try dsimp only)))))
  rename_i z8 z7 z6 z5 z4 z3 z2 z1
  have hnl : nms.length = 5 := hn2.length_eq
  refine h D' (ws9.take many.toNat) (nms.take many.toNat) _ k9 u9 _ _ (hn1.take' _) ?_ ?_ ?_ (by omega) (by omega) z1 ?_ z3 (news_reorder z2 (List.forall_mem_cons.mpr ⟨.head _, List.forall_mem_cons.mpr ⟨.tail _ (.tail _ (.tail _ (.head _))), List.forall_mem_cons.mpr ⟨.tail _ (.tail _ (.tail _ (.tail _ (.head _)))), fun p hp => .tail _ (.tail _ (.tail _ (.tail _ (.tail _ hp))))⟩⟩⟩))
  · rw [List.length_take]; omega
  · exact List.Nodup.sublist (List.take_sublist _ _) (hn2.nodup_iff.mpr (by decide))
  · exact fun x hx => hn2.mem_iff.mp (List.mem_of_mem_take hx)
  · exact List.forall_mem_cons.mpr ⟨l1 _ (.tail _ (.tail _ (.head _))), List.forall_mem_cons.mpr ⟨l1 (_, o3) (.tail _ (.tail _ (.tail _ (.head _)))), fun p hp => l1 p (.tail _ (.tail _ (.tail _ (.tail _ hp))))⟩⟩
/-- cluster = {} -/
theorem s4 {w : World} {mean : ExcName → Option Value} {mg mb : Str → Option Value} {fa : Addr} {cd : Value} {h₀ : Heap} {m : Str → Option Value} {s : Shared} {Q : Flow → Shared → Prop} (C : LCtx w mean mg mb h₀) (F : Fr h₀ h₀.objs.size s.heap m) {o4 : Obj} {x4 : Option Value} {news : Led} (N : News h₀ h₀.objs.size s.heap (((h₀.objs.size + 1 + 1 + 1 + 1), o4) :: news)) (ho4 : ∀ p ∈ news, p.1 ≠ (h₀.objs.size + 1 + 1 + 1 + 1)) (d4 : o4.data = .cell x4)
  (h : ∀ d od o4' h' tk', (∀ p ∈ ((h₀.objs.size + 1 + 1 + 1 + 1), o4) :: news, p.1 < d) → o4'.data = .cell (some (.ref d)) → od.IsDictOf (PySem.strKind PR w) [] → Fr h₀ h₀.objs.size h' m → News h₀ h₀.objs.size h' ((d, od) :: ((h₀.objs.size + 1 + 1 + 1 + 1), o4') :: news) → Q .next { s with heap := h', toks := tk' }) :
  lawWp w h₀ fa cd (stAt lawBody 4) Q s := by
  have hfill : (fun (_ : OpenLaw) (_ : Params → Frag) => True) PySem.Challenge.rw_je0014_01 hd.heap_1 := by k_fill; trivial
  clear hfill
  obtain ⟨B, X, T, GL⟩ := C
  conv in (stAt lawBody _) => whnf
  (repeat' ((fail_if_success (first | (with_reducible show wpAny _ _ (exec (Stmt.While _ _ _ _) _) _ _ _) | (with_reducible show wpAny _ _ (exec (Stmt.For _ _ _ _ _) _) _ _ _) | (with_reducible show wpAny _ _ (pyIter _) _ _ _) | (with_reducible show LCg.CompSrc _ _ _ _ _ _ _ _ _ _ _ _ _ _) | (with_reducible show LCt.CompSrcT _ _ _ _ _ _ _ _ _ _ _ _ _ _ _) | (with_reducible show SrcLP _ _ _ _ _ _ _ _ _ _ _ _ _ _ _) | (with_reducible show DSrc _ _ _ _ _ _ _ _ _ _ _ _ _ _ _) | (with_reducible show Src2 _ _ _ _ _ _ _))); (first | (k_unfold; (try dsimp only)) | (k_unmd; k_unfold; (try dsimp only)) | (k_end; wrow_close) | walk1 | (dsimp only; walk1) | (leave1; (try dsimp only)))))
  rename_i z14 z13 z12 z11 z10 z9 z8 z7 z6 z5 z4 z3 z2 z1
  exact h _ _ _ _ _ z11 z1 z9 z3 z2
-- P3
/-- own -/
theorem p3_own {w : World} {mean : ExcName → Option Value} {mg mb : Str → Option Value} {fa : Addr} {cd : Value} {h₀ : Heap} {m : Str → Option Value} {s : Shared} {Q : Flow → Shared → Prop} (C : LCtx w mean mg mb h₀) (F : Fr h₀ h₀.objs.size s.heap m) {news : Led} {o2 o3 : Obj} {nm : Addr} {nv : List Value} {nms : List Str} {many st : Int} {i : Nat} {ti ts tm : Tok}
  (N : News h₀ h₀.objs.size s.heap news) (m2 : ((h₀.objs.size + 1 + 1), o2) ∈ news) (d2 : o2.data = .cell (some (.int many tm))) (m3 : ((h₀.objs.size + 1 + 1 + 1), o3) ∈ news) (d3 : o3.data = .cell (some (.ref nm)))
  (mn : (nm, listOf nv.toArray 0) ∈ news) (hnv : StrsAre nv nms) (hnl : (nms.length : Int) = many) (hnz : ∀ y ∈ nms, y.length ≤ 2) (hmany : 1 ≤ many ∧ many ≤ 5) (hi : (i : Int) < many) 
  (mk : m (Str.ofString "k") = some (.int i ti)) (ms : m (Str.ofString "static") = some (.int st ts))
  (h : ∀ t h' tk', Fr h₀ h₀.objs.size h' (fun y => if y = Str.ofString "own" then some (gidV (gidOf nms many st i) t) else m y) → News h₀ h₀.objs.size h' news → Q .next { s with heap := h', toks := tk' }) :
  lawWp w h₀ fa cd (stAt (forBody (stAt lawBody 8)) 0) Q s := by
  have hfill : (fun (_ : OpenLaw) (_ : Params → Frag) => True) PySem.Challenge.rw_je0014_01 hd.heap_1 := by k_fill; trivial
  clear hfill
  obtain ⟨B, X, T, GL⟩ := C
  conv in (stAt (forBody _) _) => whnf
  (repeat' ((fail_if_success (first | (with_reducible show wpAny _ _ (exec (Stmt.While _ _ _ _) _) _ _ _) | (with_reducible show wpAny _ _ (exec (Stmt.For _ _ _ _ _) _) _ _ _) | (with_reducible show wpAny _ _ (pyIter _) _ _ _) | (with_reducible show LCg.CompSrc _ _ _ _ _ _ _ _ _ _ _ _ _ _) | (with_reducible show LCt.CompSrcT _ _ _ _ _ _ _ _ _ _ _ _ _ _ _) | (with_reducible show SrcLP _ _ _ _ _ _ _ _ _ _ _ _ _ _ _) | (with_reducible show DSrc _ _ _ _ _ _ _ _ _ _ _ _ _ _ _) | (with_reducible show Src2 _ _ _ _ _ _ _))); (first | (k_unfold; (try dsimp only)) | (k_unmd; k_unfold; (try dsimp only)) | (k_end; wrow_close) | (k_here; (with_reducible show wpAny _ _ (eval (PySem.Expr.Name _ _) _) _ _ _); k_dflt (refine' nameX_L ?jF ?jv ?_ ?ja ?jb; (case ja => rfl); (case jb => rfl); (case jF => k_asm); (case jv => with_reducible assumption))) | (k_here; (with_reducible show wpAny _ _ (subscriptTail _ _ (Value.ref _) (Value.int _ _)) _ _ _); k_dflt (refine' item_S ?jN ?jm ?jS ?ja ?jb ?jz ?_; (case jN => k_asm); (case jm => k_mem); (case jS => with_reducible assumption); (case ja => omega); (case jb => omega); (case jz => omega)); intro x9 t9 hx9) | (k_here; (with_reducible show wpAny _ _ (binaryOp _ (Value.str _ _) (Value.str _ _)) _ _ _); k_dflt (refine' add_name ?jx ?jz ?ja ?_; (case jx => with_reducible assumption); (case jz => with_reducible assumption); (case ja => exact Nat.le_of_ble_eq_true rfl)); intro t9 tk9) | walk1 | (dsimp only; walk1) | (leave1; (try dsimp only)))))
  · rename_i z5 z4 z3 z2 z1
    refine h t9 _ _ ?_ z1
    rw [gidOf, if_pos z5, getD_of hx9]
    exact z2
  · rename_i z4 z3 z2 z1
    refine h 0 _ _ ?_ z1
    rw [gidOf, if_neg z4]
    exact z2
/-- a member more -/
theorem p3_app {w : World} {mean : ExcName → Option Value} {mg mb : Str → Option Value} {fa : Addr} {cd : Value} {h₀ : Heap} {m : Str → Option Value} {s : Shared} {Q : Flow → Shared → Prop} (C : LCtx w mean mg mb h₀) (F : Fr h₀ h₀.objs.size s.heap m) {S hnd : Addr} {vs : List Value} {ns : List Int} (Z : Scr h₀ S vs ns) {news : Led} {o1 o3 : Obj} {nm lm W : Addr} {nv mvs ys : List Value} {nms ss : List Str} {i nW : Nat} {k : Int} {t ti tg : Tok} {g : Option Str} 
  (N : News h₀ h₀.objs.size s.heap ((lm, listOf mvs.toArray i) :: (hnd, handO S k t) :: news)) (hoh : ∀ p ∈ news, p.1 ≠ hnd) (hol : ∀ p ∈ news, p.1 ≠ lm) (hne : lm ≠ hnd)
  (m1 : ((h₀.objs.size + 1), o1) ∈ news) (d1 : o1.data = .cell (some (.ref hnd))) (m3 : ((h₀.objs.size + 1 + 1 + 1), o3) ∈ news) (d3 : o3.data = .cell (some (.ref nm)))
  (mn : (nm, listOf nv.toArray 0) ∈ news) (hnv : StrsAre nv nms) (hnl : nms.length ≤ 5) (hi : i < nms.length) (mW : (W, listOf ys.toArray nW) ∈ news) (hys : StrsAre ys ss) (hss : ss.length ≤ 5)
  (mk : m (Str.ofString "k") = some (.int i ti)) (mo : m (Str.ofString "own") = some (gidV g tg)) (mw : m (Str.ofString "wanted") = some (.ref W)) (ml : m (Str.ofString "members") = some (.ref lm)) (hml : mvs.length = i) (k0 : 0 ≤ k) (k1 : k < 800)
  (h : ∀ x x9 new ss' k' t' h' tk', nms[i]? = some x9 → MemE w new (.ref x) (x9, g, ss') → ss'.Perm ss → (∀ q ∈ new, (∀ p ∈ news, p.1 ≠ q.1) ∧ q.1 ≠ lm ∧ q.1 ≠ hnd) → 0 ≤ k' → k' ≤ k + 5 → Fr h₀ h₀.objs.size h' m →
    News h₀ h₀.objs.size h' ((lm, listOf (mvs ++ [Value.ref x]).toArray (i + 1)) :: (hnd, handO S k' t') :: (new ++ news)) → Q .next { s with heap := h', toks := tk' }) :
  lawWp w h₀ fa cd (stAt (forBody (stAt lawBody 8)) 1) Q s := by
  have hfill : (fun (_ : OpenLaw) (_ : Params → Frag) => True) PySem.Challenge.rw_je0014_01 hd.heap_1 := by k_fill; trivial
  clear hfill
  obtain ⟨B, X, T, GL⟩ := C
  obtain ⟨hS, hI, hlen, hlay⟩ := Z
  have hyl := hys.length
  conv in (stAt (forBody _) _) => whnf
  (repeat' ((fail_if_success (first | (with_reducible show wpAny _ _ (exec (Stmt.While _ _ _ _) _) _ _ _) | (with_reducible show wpAny _ _ (exec (Stmt.For _ _ _ _ _) _) _ _ _) | (with_reducible show wpAny _ _ (pyIter _) _ _ _) | (with_reducible show LCg.CompSrc _ _ _ _ _ _ _ _ _ _ _ _ _ _) | (with_reducible show LCt.CompSrcT _ _ _ _ _ _ _ _ _ _ _ _ _ _ _) | (with_reducible show SrcLP _ _ _ _ _ _ _ _ _ _ _ _ _ _ _) | (with_reducible show DSrc _ _ _ _ _ _ _ _ _ _ _ _ _ _ _) | (with_reducible show Src2 _ _ _ _ _ _ _))); (first | (k_unfold; (try dsimp only)) | (k_unmd; k_unfold; (try dsimp only)) | (k_end; wrow_close) | (k_here; (with_reducible show wpAny _ _ (eval (PySem.Expr.Name _ _) _) _ _ _); k_dflt (refine' nameX_L ?jF ?jv ?_ ?ja ?jb; (case ja => rfl); (case jb => rfl); (case jF => k_asm); (case jv => with_reducible assumption))) | (k_here; (with_reducible show wpAny _ _ (subscriptTail _ _ (Value.ref _) (Value.int _ _)) _ _ _); k_dflt (refine' item_S ?jN ?jm ?jS ?ja ?jb ?jz ?_; (case jN => k_asm); (case jm => k_mem); (case jS => with_reducible assumption); (case ja => omega); (case jb => omega); (case jz => omega)); intro x9 t9 hx9) | (k_here; (with_reducible show wpAny _ _ (call (Value.ref 196) [Value.ref _, Value.ref _]) _ _ _); k_dflt (refine' mixed_U ?jkB ?jkF ?jkX ?jkN ?jkT ?jkc ?jkU ?jkm ?jkR ?jkS ?jkI ?jkl ?jky ?jk0 ?jk1 ?jku6 ?jkd ?jku ?_; (case jkB => k_asm); (case jkF => k_asm); (case jkX => k_asm); (case jkN => k_asm); (case jkT => k_asm); (case jkc => first | exact rfl | assumption); (case jkU => k_updF); (case jkm => k_mem); (case jkR => k_ne); (case jkS => assumption); (case jkI => assumption); (case jkl => assumption); (case jky => assumption); (case jk0 => omega); (case jk1 => omega); (case jku6 => first | exact Nat.le_of_ble_eq_true rfl | omega); (case jkd => ktr_room); (case jku => ktr_units)); intro D9 ws9 c9 u9 k9 h9 tk9 p9 e9 l9 F' N'; (try k_lt l9); (try dsimp only at N')) | (k_here; (with_reducible show wpAny _ _ (call (Value.ref 87) _) _ _ _); k_dflt (refine' mk_mem ?jB ?jF ?jX ?jT ?jc ?jN ?jg ?jd ?ju ?_; (case jB => k_asm); (case jF => k_asm); (case jX => k_asm); (case jT => k_asm); (case jc => first | exact rfl | assumption); (case jN => k_asm); (case jg => exact handed_gid _ _); (case jd => ktr_room); (case ju => ktr_units)); intro x7 d7 u71 u72 u73 h7 tk7 l71 l72 l73 F' N'; (try dsimp only at N')) | (k_here; (with_reducible show wpAny _ _ (call (Value.ref 40) _) _ _ _); k_dflt (refine' mk_sub ?jB ?jF ?jX ?jT ?jc ?jN ?jd ?ju ?_; (case jB => k_asm); (case jF => k_asm); (case jX => k_asm); (case jT => k_asm); (case jc => first | exact rfl | assumption); (case jN => k_asm); (case jd => ktr_room); (case ju => ktr_units)); intro x8 d8 u81 u82 u83 u84 u85 u86 u87 u88 h8 tk8 l81 l82 l83 F' N'; (try dsimp only at N')) | (k_here; (with_reducible show wpAny _ _ (call (Value.builtin "list.append") [Value.ref _, _]) _ _ _); k_dflt (refine' append_L ?jF ?jN ?jU ?jz ?_; (case jF => k_asm); (case jN => k_asm); (case jU => k_updF); (case jz => first | omega | exact Nat.le_of_ble_eq_true rfl)); intro h9 F' N'; (try dsimp only at N')) | walk1 | (dsimp only; walk1) | (leave1; (try dsimp only)))))
  obtain ⟨ss9, hs9, hp9⟩ := strs_perm p9 _ hys
  refine h x7 x9 [(x7, instObj 87 d7), (d7, _), (x8, instObj 40 d8), (d8, _), (D9, listOf ws9.toArray c9)] ss9 k9 u9 _ _ hx9 (.mk hs9 (.head _) (.tail _ (.head _)) (.tail _ (.tail _ (.head _))) (.tail _ (.tail _ (.tail _ (.head _)))) (.tail _ (.tail _ (.tail _ (.tail _ (.head _)))))) hp9 ?_ (by omega) (by omega) F' (news_reorder N' (by ((try simp only [List.cons_append, List.nil_append, List.append_nil]); (repeat' (first | exact List.forall_mem_nil _ | refine' List.forall_mem_cons.mpr ⟨by (first | k_mem | (repeat' (first | assumption | refine' List.Mem.tail _ ?_))), ?_⟩ | (intro p9 hp9; (repeat' (first | exact hp9 | refine' List.Mem.tail _ ?_))))))))
  repeat' (first | exact List.forall_mem_nil _ | (refine List.forall_mem_cons.mpr ⟨?_, ?_⟩) | (refine ⟨by dsimp only; k_all, by dsimp only; k_ne, by dsimp only; k_ne⟩))
theorem fb8_len : (forBody (stAt lawBody 8)).length = 2 := by kernel_rfl
inductive J3 (w : World) (S hnd lm : Addr) (k : Int) (nms : List Str) (many st : Int) (ss : List Str) (news : Led) (i : Nat) : Led → Led → Prop
  | mk {k' : Int} {t' : Tok} {mvs : List Value} {mems : List Mem} {tl : Led} (hml : mvs.length = i) (hme : MemsE w tl mvs mems) (hmm : mems.map (fun m => (m.1, m.2.1)) = (List.range i).map fun j => (nms.getD j Str.empty, gidOf nms many st j))
    (hmp : ∀ m ∈ mems, m.2.2.Perm ss) (hn : ∀ p ∈ news, p ∈ tl) (k0 : 0 ≤ k') (k1 : k' ≤ k + 5 * i) : J3 w S hnd lm k nms many st ss news i [(lm, listOf mvs.toArray i), (hnd, handO S k' t')] tl
theorem p3_nil {w : World} {mean : ExcName → Option Value} {mg mb : Str → Option Value} {fa : Addr} {cd : Value} {h₀ : Heap} {m : Str → Option Value} {s : Shared} {Q : Flow → Shared → Prop} (C : LCtx w mean mg mb h₀) (F : Fr h₀ h₀.objs.size s.heap m) {news : Led} (N : News h₀ h₀.objs.size s.heap news)
  (h : ∀ lm h' tk', (∀ p ∈ news, p.1 < lm) → Fr h₀ h₀.objs.size h' (fun y => if y = Str.ofString "members" then some (.ref lm) else m y) → News h₀ h₀.objs.size h' ((lm, listOf #[] 0) :: news) → Q .next { s with heap := h', toks := tk' }) :
  lawWp w h₀ fa cd (stAt lawBody 7) Q s := by
  have hfill : (fun (_ : OpenLaw) (_ : Params → Frag) => True) PySem.Challenge.rw_je0014_01 hd.heap_1 := by k_fill; trivial
  clear hfill
  obtain ⟨B, X, T, GL⟩ := C
  conv in (stAt lawBody _) => whnf
  (repeat' ((fail_if_success (first | (with_reducible show wpAny _ _ (exec (Stmt.While _ _ _ _) _) _ _ _) | (with_reducible show wpAny _ _ (exec (Stmt.For _ _ _ _ _) _) _ _ _) | (with_reducible show wpAny _ _ (pyIter _) _ _ _) | (with_reducible show LCg.CompSrc _ _ _ _ _ _ _ _ _ _ _ _ _ _) | (with_reducible show LCt.CompSrcT _ _ _ _ _ _ _ _ _ _ _ _ _ _ _) | (with_reducible show SrcLP _ _ _ _ _ _ _ _ _ _ _ _ _ _ _) | (with_reducible show DSrc _ _ _ _ _ _ _ _ _ _ _ _ _ _ _) | (with_reducible show Src2 _ _ _ _ _ _ _))); (first | (k_unfold; (try dsimp only)) | (k_unmd; k_unfold; (try dsimp only)) | (k_end; wrow_close) | walk1 | (dsimp only; walk1) | (leave1; (try dsimp only)))))
  rename_i l1 h8 F8 N8
  exact h _ _ _ l1 F8 N8
/-- the members -/
theorem p3 {w : World} {mean : ExcName → Option Value} {mg mb : Str → Option Value} {fa : Addr} {cd : Value} {h₀ : Heap} {m : Str → Option Value} {s : Shared} {Q : Flow → Shared → Prop} (C : LCtx w mean mg mb h₀) (F : Fr h₀ h₀.objs.size s.heap m) {S hnd : Addr} {vs : List Value} {ns : List Int} (Z : Scr h₀ S vs ns) {news : Led} {o1 o2 o3 : Obj} {nm W : Addr} {nv ys : List Value} {nms ss : List Str} {nW : Nat} {k many st : Int} {t ts tm : Tok}
  (N : News h₀ h₀.objs.size s.heap ((hnd, handO S k t) :: news)) (hoh : ∀ p ∈ news, p.1 ≠ hnd)
  (m1 : ((h₀.objs.size + 1), o1) ∈ news) (d1 : o1.data = .cell (some (.ref hnd))) (m2 : ((h₀.objs.size + 1 + 1), o2) ∈ news) (d2 : o2.data = .cell (some (.int many tm))) (m3 : ((h₀.objs.size + 1 + 1 + 1), o3) ∈ news) (d3 : o3.data = .cell (some (.ref nm)))
  (mn : (nm, listOf nv.toArray 0) ∈ news) (hnv : StrsAre nv nms) (hnl : (nms.length : Int) = many) (hmany : 1 ≤ many ∧ many ≤ 5) (hnz : ∀ y ∈ nms, y.length ≤ 2) (mW : (W, listOf ys.toArray nW) ∈ news) (hys : StrsAre ys ss) (hss : ss.length ≤ 5)
  (mw : m (Str.ofString "wanted") = some (.ref W)) (ms : m (Str.ofString "static") = some (.int st ts)) (k0 : 0 ≤ k) (k1 : k < 400)
  (h : ∀ lm mvs mems m' tl h' tk', MemsE w tl mvs mems → mems.map (fun m => (m.1, m.2.1)) = (List.range nms.length).map (fun j => (nms.getD j Str.empty, gidOf nms many st j)) → (∀ m ∈ mems, m.2.2.Perm ss) → (∀ p ∈ news, p ∈ tl) → (lm, listOf mvs.toArray nms.length) ∈ tl →
    m' (Str.ofString "members") = some (.ref lm) → (∀ y, y ≠ Str.ofString "k" → y ≠ Str.ofString "own" → y ≠ Str.ofString "members" → m' y = m y) → Fr h₀ h₀.objs.size h' m' → News h₀ h₀.objs.size h' tl → lawWs w h₀ fa cd (lawBody.drop 9) Q { s with heap := h', toks := tk' }) :
  lawWs w h₀ fa cd (lawBody.drop 7) Q s := by
  refine execs_at (by rw [lawBody_len]; decide) ?_
  refine p3_nil C F N ?_
  clear F N
  intro lm h1 tk1 hlm F1 N1
  refine execs_at (k := 8) (by rw [lawBody_len]; decide) ?_
  have C' := C
  have hfill : (fun (_ : OpenLaw) (_ : Params → Frag) => True) PySem.Challenge.rw_je0014_01 hd.heap_1 := by k_fill; trivial
  clear hfill
  obtain ⟨B, X, T, GL⟩ := C
  refine for_at (x := Str.ofString "k") h₀ (by unfold IsFor; kernel_rfl) (by kernel_rfl) (by kernel_rfl) (by intro _; rfl) ?_
  conv in (forIter _) => whnf
  (repeat' ((fail_if_success (first | (with_reducible show wpAny _ _ (exec (Stmt.While _ _ _ _) _) _ _ _) | (with_reducible show wpAny _ _ (exec (Stmt.For _ _ _ _ _) _) _ _ _) | (with_reducible show wpAny _ _ (pyIter _) _ _ _) | (with_reducible show LCg.CompSrc _ _ _ _ _ _ _ _ _ _ _ _ _ _) | (with_reducible show LCt.CompSrcT _ _ _ _ _ _ _ _ _ _ _ _ _ _ _) | (with_reducible show SrcLP _ _ _ _ _ _ _ _ _ _ _ _ _ _ _) | (with_reducible show DSrc _ _ _ _ _ _ _ _ _ _ _ _ _ _ _) | (with_reducible show Src2 _ _ _ _ _ _ _))); (first | (k_unfold; (try dsimp only)) | (k_unmd; k_unfold; (try dsimp only)) | (k_end; wrow_close) | walk1 | (dsimp only; walk1) | (leave1; (try dsimp only)))))
  rename_i z9 z8 z7 z6 z5 hr8 F8 N8 keep8
  have Z' := Z
  clear keep8
  refine range_J (n := many.toNat) (E₀ := [(lm, listOf [].toArray 0), (hnd, handO S k t)]) (tl₀ := news) [Str.ofString "own"] (J3 w S hnd lm k nms many st ss news) rfl hr8 (small_one (by omega) (by omega) (by omega) (by omega)) (by rw [rangeSize_nat]; simp) F8 N8 rfl
    (own_of (List.forall_mem_cons.mpr ⟨lt_off hlm fun p hp => .tail _ hp, List.forall_mem_cons.mpr ⟨hoh, List.forall_mem_nil _⟩⟩)) (.mk rfl (mvs := []) (mems := []) trivial rfl (fun _ h => nomatch h) (fun _ h => h) k0 (by omega)) ?_ ?_
  · rintro i ti u E₁ tl T h2 tk2 hi - J hsub hoT F2 N2
    cases J with | @mk k' t' mvs mems _ hml hme hmm hmp hn hk0 hk1 =>
    have hT : ∀ p ∈ news, p ∈ T := fun p hp => hsub p (hn p hp)
    have f1 : ∀ p ∈ T, p.1 ≠ lm := fun p hp => hoT p hp _ (.head _)
    have f2 : ∀ p ∈ T, p.1 ≠ hnd := fun p hp => hoT p hp _ (.tail _ (.head _))
    have hlh : lm ≠ hnd := (lt_ne hlm (.head _)).symm
    have hi5 : (i : Int) < many := by omega
    have hin : i < nms.length := by omega
    have hk9 : k' < 800 := by omega
    clear hr8 F8 N8 h
    refine execs_at (body := forBody (stAt lawBody 8)) (k := 0) (by rw [fb8_len]; decide) ?_
    refine p3_own C' F2 (news := (lm, listOf mvs.toArray i) :: (hnd, handO S k' t') :: T) N2 (.tail _ (.tail _ (hT _ m2))) d2 (.tail _ (.tail _ (hT _ m3))) d3 (.tail _ (.tail _ (hT _ mn))) hnv hnl hnz hmany hi5 rfl ms ?_
    intro tg h3 tk3 F3 N3
    refine execs_at (body := forBody (stAt lawBody 8)) (k := 1) (by rw [fb8_len]; decide) ?_
    refine p3_app C' F3 Z' N3 f2 f1 hlh (hT _ m1) d1 (hT _ m3) d3 (hT _ mn) hnv (by omega) hin (hT _ mW) hys hss rfl rfl mw rfl hml hk0 hk9 ?_
    intro x x9 new ss' k2 t2 h4 tk4 hx9 hM hp9 hnew hk20 hk21 F4 N4
    refine execs_end (body := forBody (stAt lawBody 8)) (by rw [fb8_len]; decide) ?_
    refine fpost_next (fend [(lm, listOf (mvs ++ [Value.ref x]).toArray (i + 1)), (hnd, handO S k2 t2)] new F4 N4 (fun _ h => h) rfl ?_ ?_ (.mk (mvs := mvs ++ [Value.ref x]) (mems := mems ++ [(x9, gidOf nms many st i, ss')]) ?_ ?_ ?_ ?_ ?_ ?_ ?_))
    · intro q hq
      obtain ⟨a1, a2, a3⟩ := hnew q hq
      exact ⟨a1, List.forall_mem_cons.mpr ⟨a2, List.forall_mem_cons.mpr ⟨a3, List.forall_mem_nil _⟩⟩⟩
    · intro y hy hs
      have h2 : y ≠ Str.ofString "own" := fun e => absurd hs (by rw [e]; decide)
      rw [if_neg h2, if_neg hy, hs]
      rfl
    · rw [List.length_append, hml]; rfl
    · exact (hme.mono fun p hp => List.mem_append_right _ hp).snoc (hM.mono fun p hp => List.mem_append_left _ hp)
    · rw [List.map_append, hmm, List.range_succ, List.map_append, List.map_cons, List.map_cons, getD_of hx9]
      rfl
    · intro q hq
      rcases List.mem_append.mp hq with hq | hq
      · exact hmp q hq
      · rw [List.mem_singleton.mp hq]; exact hp9
    · exact fun p hp => List.mem_append_right _ (hn p hp)
    · exact hk20
    · omega
  · rintro u E₁ tl h2 tk2 - hoff J F2 N2
    cases J with | @mk k' t' mvs mems _ hml hme hmm hmp hn hk0 hk1 =>
    have e : many.toNat = nms.length := by omega
    rw [e] at hmm N2
    refine h lm mvs mems _ ((lm, listOf mvs.toArray nms.length) :: tl) h2 tk2 (hme.mono fun p hp => .tail _ hp) hmm hmp (fun p hp => .tail _ (hn p hp)) (.head _) ?_ ?_ F2 (news_reorder N2 (List.forall_mem_cons.mpr ⟨.head _, fun p hp => .tail _ (.tail _ hp)⟩))
    · rfl
    · intro y h1 h2 h3
      rw [if_neg h1]
      have : [Str.ofString "own"].contains y = false := by simpa using h2
      rw [this, if_neg h3]
      rfl
-- D4
inductive AsgE (w : World) (tl : Led) : Value → Rows1 → Prop
  | mk {x d l : Addr} {vs : List Value} {n : Nat} {rows : Rows1} {t1 t2 t3 t4 t5 : Tok} (hx : (x, instObj 66 d) ∈ tl) (hd : (d, asgD w l t1 t2 t3 t4 t5) ∈ tl) (hl : (l, listOf vs.toArray n) ∈ tl) (hr : DatAll tl vs (rows.map rowD)) : AsgE w tl (.ref x) rows
theorem AsgE.mono {w : World} {tl tl' : Led} (hs : ∀ p ∈ tl, p ∈ tl') {v : Value} {r : Rows1} (h : AsgE w tl v r) : AsgE w tl' v r := by
  cases h with
  | mk hx hd hl hr => exact .mk (hs _ hx) (hs _ hd) (hs _ hl) (hr.mono hs)
/-- what the call of assign is given -/
structure AsgPre (w : World) (news : Led) (ci lm : Addr) (cl : List (Str × List Int)) (mems : List Mem) (ss : List Str) : Prop where
  clu : ∃ cd D oD u, (@LT.lt Nat _ 1 D) ∧ (ci, instObj 122 cd) ∈ news ∧ (cd, cluD w D u) ∈ news ∧ (D, oD) ∈ news ∧ ClusIs w oD cl news
  mem : ∃ mvs n, (lm, listOf mvs.toArray n) ∈ news ∧ MemsE w news mvs mems
  cl4 : cl.length ≤ 4
  m1 : 1 ≤ mems.length
  m5 : mems.length ≤ 5
  nod : (mems.map (·.1)).Nodup
  sts : ∃ st : Nat, ∀ (j : Nat) (m : Mem), mems[j]? = some m → (m.2.1.isSome = true ↔ j < st)
  tops : ∀ m ∈ mems, m.2.2.Perm ss
  ssn : ss.Nodup
  ss5 : ss.length ≤ 5
  ssk : ∀ x ∈ ss, x ∈ WTOPS
/-- what it gives back -/
structure AsgPost (w : World) (new : Led) (R : Addr) (cl : List (Str × List Int)) (mems : List Mem) (ss : List Str) (seq : List (Str × Int)) (order : List Str) (kvs : List (Str × Value)) : Prop where
  big : @LT.lt Nat _ 1 R
  dict : ∃ oR, (R, oR) ∈ new ∧ oR.IsDictOf (PySem.strKind PR w) kvs
  seqs : SeqOf cl ss seq
  ord : OrderOf (mems.map fun m : Mem => (m.2.1, m.1)) order
  keys : kvs.map (·.1) = mems.map (·.1)
  vals : ∀ k v, (k, v) ∈ kvs → ∃ rows, AsgE w new v rows ∧ RowsOf (rowOf (dealN order seq [] seq.length) k) rows
-- C5
/-- member_of(ids) -/
theorem mof_spec {w : World} {mean : ExcName → Option Value} {mg mb : Str → Option Value} {dp un : Nat} {gd : Option (List Code)} {cn : Str} {cs : Scope} {a : Addr} {ccd : Value} {cl : List (Str × Addr)} {outer : List Env} {A₀ : Around} {base h₀ : Heap} {L : Addr} {m : Str → Option Value} {s : Shared} {Q E : Value → Shared → Prop} (B : Below A₀ base outer h₀) (F : Fr h₀ L s.heap m) (X : (hd.heap_1 w.params).In h₀) (T : Top vw LOO mean mg mb h₀) (hck : cs.kind = .function) {news : Led} {T : Addr} {n : Nat} {v1 : Value} {x : Str} {t : Tok} (N : News h₀ L s.heap news) (mT : (T, ({ cls := .type "tuple", data := .seq #[v1, .str x t] n } : Obj)) ∈ news)
  (hd' : dp + 2 < recursionLimit) (hu : un + 16 < cLine)
  (h : ∀ h' tk', Fr h₀ L h' m → News h₀ L h' news → Q (.str x t) { s with heap := h', toks := tk' }) :
  wpAny (model PR w) (ktrTop dp un gd cn cs L a ccd cl outer) (call (.ref 140) [.ref T]) Q E s := by
  have hfill : (fun (_ : OpenLaw) (_ : Params → Frag) => True) PySem.Challenge.rw_je0014_01 hd.heap_1 := by k_fill; trivial
  clear hfill
  refine wpAny_call ?_
  (k_dflt (refine' code_def ?k1 ?k2 ?k3 ?k4 ?k5 ?kA ?kF ?kK ?k6 ?k7 ?k8 ?k9 ?kB ?_ ?c2 ?c3 ?c4 ?c5; (case kA => exact rfl); (case kF => exact rfl); (case kK => first | exact rfl | assumption); (case k1 => k_asm); (case k2 => k_asm); (case k3 => k_asm); (case k4 => k_asm); (case k5 => k_asm); (case k6 => k_is); (case k7 => k_is); (case k8 => ktr_room); (case k9 => first | exact BindsTo.of_eq rfl | exact binds_K (by k_in) rfl (by k_is) rfl rfl rfl); (case c5 => decide); (case kB => exact locs rfl); (case c2 => exact rfl); (case c3 => exact rfl); (case c4 => exact rfl); k_whole; intro g' L' h' FG' F' N' B' X' T'); (try dsimp only); (try k_fold))
  (repeat' ((fail_if_success (first | (with_reducible show wpAny _ _ (exec (Stmt.While _ _ _ _) _) _ _ _) | (with_reducible show wpAny _ _ (exec (Stmt.For _ _ _ _ _) _) _ _ _) | (with_reducible show wpAny _ _ (pyIter _) _ _ _) | (with_reducible show LCg.CompSrc _ _ _ _ _ _ _ _ _ _ _ _ _ _) | (with_reducible show LCt.CompSrcT _ _ _ _ _ _ _ _ _ _ _ _ _ _ _) | (with_reducible show SrcLP _ _ _ _ _ _ _ _ _ _ _ _ _ _ _) | (with_reducible show DSrc _ _ _ _ _ _ _ _ _ _ _ _ _ _ _) | (with_reducible show Src2 _ _ _ _ _ _ _))); (first | (k_unfold; (try dsimp only)) | (k_unmd; k_unfold; (try dsimp only)) | (k_end; wrow_close) | (k_here; (with_reducible show wpAny _ _ (eval (PySem.Expr.Name _ _) _) _ _ _); k_dflt (refine' nameX_L ?jF ?jv ?_ ?ja ?jb; (case ja => rfl); (case jb => rfl); (case jF => k_asm); (case jv => with_reducible assumption))) | walk1 | (dsimp only; walk1) | (leave1; (try dsimp only)))))
  rename_i z5 z4 z3 z2 z1
  exact h _ _ z4 z3
-- C2
/-- one.partitions() -/
theorem parts_spec {w : World} {mean : ExcName → Option Value} {mg mb : Str → Option Value} {dp un : Nat} {gd : Option (List Code)} {cn : Str} {cs : Scope} {a : Addr} {ccd : Value} {cl : List (Str × Addr)} {outer : List Env} {A₀ : Around} {base h₀ : Heap} {L : Addr} {m : Str → Option Value} {s : Shared} {Q E : Value → Shared → Prop} (B : Below A₀ base outer h₀) (F : Fr h₀ L s.heap m) (X : (hd.heap_1 w.params).In h₀) (T : Top vw LOO mean mg mb h₀) (hck : cs.kind = .function) {news : Led} {x dx l : Addr} {vs : List Value} {n : Nat} {rows : Rows1} {t1 t2 t3 t4 t5 : Tok} (N : News h₀ L s.heap news)
  (hx : (x, instObj 66 dx) ∈ news) (hdx : (dx, asgD w l t1 t2 t3 t4 t5) ∈ news) (hl : (l, listOf vs.toArray n) ∈ news) (hr : DatAll news vs (rows.map rowD)) (hrl : rows.length ≤ 30) (hr2 : ∀ r ∈ rows, r.2.length ≤ 30)
  (hd' : dp + 2 < recursionLimit) (hu : un + 16 < cLine)
  (h : ∀ D ys nw h' tk', (∀ p ∈ news, p ∈ nw) → (∀ p ∈ nw, p.1 ≠ D) → DatAll nw ys (rows.flatMap fun r => pairT r.1 r.2) → Fr h₀ L h' m → News h₀ L h' ((D, LCg.lst ys) :: nw) → Q (.ref D) { s with heap := h', toks := tk' }) :
  wpAny (model PR w) (ktrTop dp un gd cn cs L a ccd cl outer) (call (.ref 63) [.ref x]) Q E s := by
  have hfill : (fun (_ : OpenLaw) (_ : Params → Frag) => True) PySem.Challenge.rw_je0014_01 hd.heap_1 := by k_fill; trivial
  clear hfill
  refine wpAny_call ?_
  (k_dflt (refine' code_def ?k1 ?k2 ?k3 ?k4 ?k5 ?kA ?kF ?kK ?k6 ?k7 ?k8 ?k9 ?kB ?_ ?c2 ?c3 ?c4 ?c5; (case kA => exact rfl); (case kF => exact rfl); (case kK => first | exact rfl | assumption); (case k1 => k_asm); (case k2 => k_asm); (case k3 => k_asm); (case k4 => k_asm); (case k5 => k_asm); (case k6 => k_is); (case k7 => k_is); (case k8 => ktr_room); (case k9 => first | exact BindsTo.of_eq rfl | exact binds_K (by k_in) rfl (by k_is) rfl rfl rfl); (case c5 => decide); (case kB => exact locs rfl); (case c2 => exact rfl); (case c3 => exact rfl); (case c4 => exact rfl); k_whole; intro g' L' h' FG' F' N' B' X' T'); (try dsimp only); (try k_fold))
  (repeat' ((fail_if_success (first | (with_reducible show wpAny _ _ (exec (Stmt.While _ _ _ _) _) _ _ _) | (with_reducible show wpAny _ _ (exec (Stmt.For _ _ _ _ _) _) _ _ _) | (with_reducible show wpAny _ _ (pyIter _) _ _ _) | (with_reducible show LCg.CompSrc _ _ _ _ _ _ _ _ _ _ _ _ _ _) | (with_reducible show LCt.CompSrcT _ _ _ _ _ _ _ _ _ _ _ _ _ _ _) | (with_reducible show SrcLP _ _ _ _ _ _ _ _ _ _ _ _ _ _ _) | (with_reducible show DSrc _ _ _ _ _ _ _ _ _ _ _ _ _ _ _) | (with_reducible show Src2 _ _ _ _ _ _ _))); (first | (k_unfold; (try dsimp only)) | (k_unmd; k_unfold; (try dsimp only)) | (k_end; wrow_close) | (k_here; (with_reducible show wpAny _ _ (eval (PySem.Expr.ListComp _ [_, _] _ _) _) _ _ _); k_dflt (refine comp2 (F₀ := by k_asm) (by with_unfolding_all rfl) (by decide) (by rfl) (by decide) (by rfl) (by rfl) (by rfl) (by decide) (by decide) (by decide) (by decide) (by decide) (by intro _ _; rfl) (by intro _; rfl) ?_)) | walk1 | (dsimp only; walk1) | (leave1; (try dsimp only)))))
  refine ⟨l, vs, n, rows, news, rfl, rfl, F', N', hl, hr, hrl, hr2, ?_⟩
  intro D h8 tk8 ys nw F8 N8 o8 hs8 hd8
  clear F' N'
  try dsimp only
  (repeat' ((fail_if_success (first | (with_reducible show wpAny _ _ (exec (Stmt.While _ _ _ _) _) _ _ _) | (with_reducible show wpAny _ _ (exec (Stmt.For _ _ _ _ _) _) _ _ _) | (with_reducible show wpAny _ _ (pyIter _) _ _ _) | (with_reducible show LCg.CompSrc _ _ _ _ _ _ _ _ _ _ _ _ _ _) | (with_reducible show LCt.CompSrcT _ _ _ _ _ _ _ _ _ _ _ _ _ _ _) | (with_reducible show SrcLP _ _ _ _ _ _ _ _ _ _ _ _ _ _ _) | (with_reducible show DSrc _ _ _ _ _ _ _ _ _ _ _ _ _ _ _) | (with_reducible show Src2 _ _ _ _ _ _ _))); (first | (k_unfold; (try dsimp only)) | (k_unmd; k_unfold; (try dsimp only)) | (k_end; wrow_close) | walk1 | (dsimp only; walk1) | (leave1; (try dsimp only)))))
  rename_i z4 z3 z2 z1
  exact h D ys nw _ _ hs8 o8 hd8 z4 z3
-- P5
noncomputable def gidAt (nms : List Str) (many : Int) (j : Nat) : Str := Str.ofString "g" ++ nms.getD (many - 1 - (j : Int)).toNat Str.empty
/-- first -/
theorem p5 {w : World} {mean : ExcName → Option Value} {mg mb : Str → Option Value} {fa : Addr} {cd : Value} {h₀ : Heap} {m : Str → Option Value} {s : Shared} {Q : Flow → Shared → Prop} (C : LCtx w mean mg mb h₀) (F : Fr h₀ h₀.objs.size s.heap m) {news : Led} {o2 o3 : Obj} {nm : Addr} {nv : List Value} {nms : List Str} {many st : Int} {ts tm : Tok} (N : News h₀ h₀.objs.size s.heap news)
  (m2 : ((h₀.objs.size + 1 + 1), o2) ∈ news) (d2 : o2.data = .cell (some (.int many tm))) (m3 : ((h₀.objs.size + 1 + 1 + 1), o3) ∈ news) (d3 : o3.data = .cell (some (.ref nm)))
  (mn : (nm, listOf nv.toArray 0) ∈ news) (hnv : StrsAre nv nms) (hnl : (nms.length : Int) = many) (hnz : ∀ y ∈ nms, y.length ≤ 2) (hmany : 1 ≤ many ∧ many ≤ 5) (st0 : 0 ≤ st) (st1 : st ≤ many)
  (ms : m (Str.ofString "static") = some (.int st ts))
  (h : ∀ D ws ps c tl h' tk', ps.Perm ((List.range st.toNat).map fun j => (gidAt nms many j, nms.getD j Str.empty)) → Srt (pairK sK sK) keyG ps → DatAll tl ws (ps.map (encP Dat.str)) → (∀ p ∈ news, p ∈ tl) → (D, listOf ws.toArray c) ∈ tl →
    Fr h₀ h₀.objs.size h' (fun y => if y = Str.ofString "first" then some (.ref D) else m y) → News h₀ h₀.objs.size h' tl → Q .next { s with heap := h', toks := tk' }) :
  lawWp w h₀ fa cd (stAt lawBody 10) Q s := by
  have hfill : (fun (_ : OpenLaw) (_ : Params → Frag) => True) PySem.Challenge.rw_je0014_01 hd.heap_1 := by k_fill; trivial
  clear hfill
  obtain ⟨B, X, T, GL⟩ := C
  conv in (stAt lawBody _) => whnf
  (repeat' ((fail_if_success (first | (with_reducible show wpAny _ _ (exec (Stmt.While _ _ _ _) _) _ _ _) | (with_reducible show wpAny _ _ (exec (Stmt.For _ _ _ _ _) _) _ _ _) | (with_reducible show wpAny _ _ (pyIter _) _ _ _) | (with_reducible show LCg.CompSrc _ _ _ _ _ _ _ _ _ _ _ _ _ _) | (with_reducible show LCt.CompSrcT _ _ _ _ _ _ _ _ _ _ _ _ _ _ _) | (with_reducible show SrcLP _ _ _ _ _ _ _ _ _ _ _ _ _ _ _) | (with_reducible show DSrc _ _ _ _ _ _ _ _ _ _ _ _ _ _ _) | (with_reducible show Src2 _ _ _ _ _ _ _))); (first | (k_unfold; (try dsimp only)) | (k_unmd; k_unfold; (try dsimp only)) | (k_end; wrow_close) | (k_here; (with_reducible show wpAny _ _ (eval (PySem.Expr.Name _ _) _) _ _ _); k_dflt (refine' nameX_L ?jF ?jv ?_ ?ja ?jb; (case ja => rfl); (case jb => rfl); (case jF => k_asm); (case jv => with_reducible assumption))) | (k_here; (with_reducible show wpAny _ _ (eval (PySem.Expr.ListComp _ _ _ _) _) _ _ _); k_dflt (refine LCg.ListComp_U (F₀ := by k_asm) (by with_unfolding_all rfl) (by decide) (by rfl) (by decide) (by rfl) ?_)) | walk1 | (dsimp only; walk1) | (leave1; (try dsimp only)))))
  rename_i z9 z8 z7 z6 z5 hr8 F8 N8 keep8
  clear keep8
  refine LCg.CompSrc.range (n := st.toNat) rfl F8 N8 hr8 (small_one (by omega) (by omega) (by omega) (by omega)) (by rw [rangeSize_nat]; simp) (by rw [sizeLine_eq]; omega) ?_
  intro g9
  refine comp_J (E₀ := []) (tl₀ := news) (fun i ys E tl => E = [] ∧ (∀ p ∈ news, p ∈ tl) ∧ DatAll tl ys (((List.range i).map fun j => (gidAt nms many j, nms.getD j Str.empty)).map (encP Dat.str))) rfl (fun _ _ _ h => nomatch h) ⟨rfl, fun _ h => h, .nil⟩ ?_ ?_
  · rintro j v ys E₁ tl I oI Cc oC D m₂ h2 tk2 E' hj9 ⟨tv, rfl⟩ ⟨rfl, hn, hys⟩ - - hC hx F2 N2 off ne
    have hj7 : (j : Int) < st := by omega
    have q2 := hn _ m2
    have q3 := hn _ m3
    have qn := hn _ mn
    clear F8 N8 hr8 h
    rw [List.nil_append] at N2
    try k_fold
    (repeat' ((fail_if_success (first | (with_reducible show wpAny _ _ (exec (Stmt.While _ _ _ _) _) _ _ _) | (with_reducible show wpAny _ _ (exec (Stmt.For _ _ _ _ _) _) _ _ _) | (with_reducible show wpAny _ _ (pyIter _) _ _ _) | (with_reducible show LCg.CompSrc _ _ _ _ _ _ _ _ _ _ _ _ _ _) | (with_reducible show LCt.CompSrcT _ _ _ _ _ _ _ _ _ _ _ _ _ _ _) | (with_reducible show SrcLP _ _ _ _ _ _ _ _ _ _ _ _ _ _ _) | (with_reducible show DSrc _ _ _ _ _ _ _ _ _ _ _ _ _ _ _) | (with_reducible show Src2 _ _ _ _ _ _ _))); (first | (k_unfold; (try dsimp only)) | (k_unmd; k_unfold; (try dsimp only)) | (k_end; wrow_close) | (k_here; (with_reducible show wpAny _ _ (eval (PySem.Expr.Name _ _) _) _ _ _); k_dflt (refine' nameX_L ?jF ?jv ?_ ?ja ?jb; (case ja => rfl); (case jb => rfl); (case jF => k_asm); (case jv => with_reducible assumption))) | (k_here; (with_reducible show wpAny _ _ (subscriptTail _ _ (Value.ref _) (Value.int _ _)) _ _ _); k_dflt (refine' item_S ?jN ?jm ?jS ?ja ?jb ?jz ?_; (case jN => k_asm); (case jm => k_mem); (case jS => with_reducible assumption); (case ja => omega); (case jb => omega); (case jz => omega)); intro x9 t9 hx9) | (k_here; (with_reducible show wpAny _ _ (binaryOp _ (Value.str _ _) (Value.str _ _)) _ _ _); k_dflt (refine' add_name ?jx ?jz ?ja ?_; (case jx => with_reducible assumption); (case jz => with_reducible assumption); (case ja => exact Nat.le_of_ble_eq_true rfl)); intro t9 tk9) | walk1 | (dsimp only; walk1) | (leave1; (try dsimp only)))))
    rename_i z9 z8 z7 z6 z5 z4 z3 z2 z1
    have e0 : (0 : Int) + (j : Int) = (j : Int) := Int.zero_add _
    rw [e0] at z7 hx9
    refine cend (E₁ := []) (E' := []) (new := [(z5, _)]) z3 z2 (by ((try simp only [List.cons_append, List.nil_append, List.append_nil]); (repeat' (first | exact List.forall_mem_nil _ | refine' List.forall_mem_cons.mpr ⟨by (first | k_mem | (repeat' (first | assumption | refine' List.Mem.tail _ ?_))), ?_⟩ | (intro p9 hp9; (repeat' (first | exact hp9 | refine' List.Mem.tail _ ?_))))))) off rfl ?_ trivial ⟨_, [(z5, _)], rfl, rfl, (fun _ _ _ h => nomatch h), rfl, fun p hp => .tail _ (hn p hp), ?_⟩
    · exact List.forall_mem_cons.mpr ⟨⟨(lt_ne z1 (.head _)).symm, (lt_ne z1 (.tail _ (.head _))).symm, (lt_ne z1 (.tail _ (.tail _ (.head _)))).symm⟩, List.forall_mem_nil _⟩
    · rw [List.range_succ, List.map_append, List.map_append]
      refine (hys.mono fun p hp => .tail _ hp).append (.one ?_)
      have e1 : gidAt nms many j = Str.ofString "g" ++ z9 := by rw [gidAt, getD_of z7]
      have e2 : nms.getD j Str.empty = x9 := getD_of hx9
      show DatIn _ _ (encP Dat.str (gidAt nms many j, nms.getD j Str.empty))
      rw [e1, e2]
      exact .tuple (vs := [_, _]) (.head _) (.cons (.str _ _) (.cons (.str _ _) .nil))
  · rintro ys E₁ tl - - ⟨rfl, hn, hys⟩
    unfold LCg.FinE
    intro D8 h8 tk8 F9 N9 o8
    rw [List.nil_append] at N9
    clear F8 N8 hr8
    try dsimp only
    try k_fold
    (repeat' ((fail_if_success (first | (with_reducible show wpAny _ _ (exec (Stmt.While _ _ _ _) _) _ _ _) | (with_reducible show wpAny _ _ (exec (Stmt.For _ _ _ _ _) _) _ _ _) | (with_reducible show wpAny _ _ (pyIter _) _ _ _) | (with_reducible show wpAny _ _ (call (Value.builtin "sorted") _) _ _ _) | (with_reducible show LCg.CompSrc _ _ _ _ _ _ _ _ _ _ _ _ _ _) | (with_reducible show LCt.CompSrcT _ _ _ _ _ _ _ _ _ _ _ _ _ _ _) | (with_reducible show SrcLP _ _ _ _ _ _ _ _ _ _ _ _ _ _ _) | (with_reducible show DSrc _ _ _ _ _ _ _ _ _ _ _ _ _ _ _) | (with_reducible show Src2 _ _ _ _ _ _ _))); (first | (k_unfold; (try dsimp only)) | (k_unmd; k_unfold; (try dsimp only)) | (k_end; wrow_close) | walk1 | (dsimp only; walk1) | (leave1; (try dsimp only)))))
    refine sorted_pairs cmp_str Str.empty F9 N9 (.head _) (fun p hp => .tail _ hp) hys (by rw [List.length_map, List.length_range]; omega) ?_
    intro D ws ps c h7 hp hsr hdd F7 N7 l7
    clear F9 N9
    try dsimp only
    (repeat' ((fail_if_success (first | (with_reducible show wpAny _ _ (exec (Stmt.While _ _ _ _) _) _ _ _) | (with_reducible show wpAny _ _ (exec (Stmt.For _ _ _ _ _) _) _ _ _) | (with_reducible show wpAny _ _ (pyIter _) _ _ _) | (with_reducible show LCg.CompSrc _ _ _ _ _ _ _ _ _ _ _ _ _ _) | (with_reducible show LCt.CompSrcT _ _ _ _ _ _ _ _ _ _ _ _ _ _ _) | (with_reducible show SrcLP _ _ _ _ _ _ _ _ _ _ _ _ _ _ _) | (with_reducible show DSrc _ _ _ _ _ _ _ _ _ _ _ _ _ _ _) | (with_reducible show Src2 _ _ _ _ _ _ _))); (first | (k_unfold; (try dsimp only)) | (k_unmd; k_unfold; (try dsimp only)) | (k_end; wrow_close) | walk1 | (dsimp only; walk1) | (leave1; (try dsimp only)))))
    rename_i h6 F6 N6
    exact h D ws ps c _ _ _ hp hsr (hdd.mono fun p hp => .tail _ (.tail _ hp)) (fun p hp => .tail _ (.tail _ (hn p hp))) (.head _) F6 N6
-- P6
theorem dat_pair {β : Type} {enc : β → Dat} {news : Led} {vs : List Value} {ps : List (Str × β)} (h : DatAll news vs (ps.map (encP enc))) {i : Nat} {v : Value} (hv : vs[i]? = some v) :
    ∃ p a t v2 n, ps[i]? = some p ∧ v = .ref a ∧ (a, ({ cls := .type "tuple", data := .seq #[.str p.1 t, v2] n } : Obj)) ∈ news ∧ DatIn news v2 (enc p.2) := by
  have hl : vs.length = ps.length := by have := h.length; rwa [List.length_map] at this
  obtain ⟨hi, -⟩ := List.getElem?_eq_some_iff.mp hv
  obtain ⟨w, hw, hd⟩ := h.get (k := i) (by rw [List.length_map]; omega)
  rw [hv] at hw
  cases hw
  rw [List.getElem_map] at hd
  obtain ⟨a, us, n, rfl, ma, ha⟩ := datIn_tuple hd
  obtain ⟨v1, v2, rfl, h1, h2⟩ := datAll_two ha
  cases h1
  exact ⟨ps[i], a, _, v2, n, List.getElem?_eq_getElem (by omega), rfl, ma, h2⟩
/-- order -/
theorem p6 {w : World} {mean : ExcName → Option Value} {mg mb : Str → Option Value} {fa : Addr} {cd : Value} {h₀ : Heap} {m : Str → Option Value} {s : Shared} {Q : Flow → Shared → Prop} (C : LCtx w mean mg mb h₀) (F : Fr h₀ h₀.objs.size s.heap m) {news : Led} {o3 : Obj} {nm Fs : Addr} {nv ws : List Value} {c : Nat} {nms : List Str} {ps : List (Str × Str)} {st : Int} {ts : Tok} (N : News h₀ h₀.objs.size s.heap news)
  (m3 : ((h₀.objs.size + 1 + 1 + 1), o3) ∈ news) (d3 : o3.data = .cell (some (.ref nm))) (mn : (nm, listOf nv.toArray 0) ∈ news) (hnv : StrsAre nv nms) (hnl : nms.length ≤ 5) (st0 : 0 ≤ st)
  (mF : (Fs, listOf ws.toArray c) ∈ news) (hdt : DatAll news ws (ps.map (encP Dat.str))) (hp5 : ps.length ≤ 5)
  (ms : m (Str.ofString "static") = some (.int st ts)) (mf : m (Str.ofString "first") = some (.ref Fs))
  (h : ∀ D ov bs c' tl h' tk', StrsAre ov (ps.map (·.2) ++ bs) → bs.Perm (nms.drop st.toNat) → Srt sK keyS bs → (∀ p ∈ news, p ∈ tl) → (D, listOf ov.toArray c') ∈ tl →
    Fr h₀ h₀.objs.size h' (fun y => if y = Str.ofString "order" then some (.ref D) else m y) → News h₀ h₀.objs.size h' tl → Q .next { s with heap := h', toks := tk' }) :
  lawWp w h₀ fa cd (stAt lawBody 11) Q s := by
  have hfill : (fun (_ : OpenLaw) (_ : Params → Frag) => True) PySem.Challenge.rw_je0014_01 hd.heap_1 := by k_fill; trivial
  clear hfill
  obtain ⟨B, X, T, GL⟩ := C
  conv in (stAt lawBody _) => whnf
  have hwl : ws.length = ps.length := by have := hdt.length; rwa [List.length_map] at this
  have hws : ws.toArray.size = ws.length := List.size_toArray ..
  (repeat' ((fail_if_success (first | (with_reducible show wpAny _ _ (exec (Stmt.While _ _ _ _) _) _ _ _) | (with_reducible show wpAny _ _ (exec (Stmt.For _ _ _ _ _) _) _ _ _) | (with_reducible show wpAny _ _ (pyIter _) _ _ _) | (with_reducible show LCg.CompSrc _ _ _ _ _ _ _ _ _ _ _ _ _ _) | (with_reducible show LCt.CompSrcT _ _ _ _ _ _ _ _ _ _ _ _ _ _ _) | (with_reducible show SrcLP _ _ _ _ _ _ _ _ _ _ _ _ _ _ _) | (with_reducible show DSrc _ _ _ _ _ _ _ _ _ _ _ _ _ _ _) | (with_reducible show Src2 _ _ _ _ _ _ _))); (first | (k_unfold; (try dsimp only)) | (k_unmd; k_unfold; (try dsimp only)) | (k_end; wrow_close) | (k_here; (with_reducible show wpAny _ _ (eval (PySem.Expr.Name _ _) _) _ _ _); k_dflt (refine' nameX_L ?jF ?jv ?_ ?ja ?jb; (case ja => rfl); (case jb => rfl); (case jF => k_asm); (case jv => with_reducible assumption))) | (k_here; (with_reducible show wpAny _ _ (eval (PySem.Expr.ListComp _ _ _ _) _) _ _ _); k_dflt (refine LCg.ListComp_U (F₀ := by k_asm) (by with_unfolding_all rfl) (by decide) (by rfl) (by decide) (by rfl) ?_)) | walk1 | (dsimp only; walk1) | (leave1; (try dsimp only)))))
  refine LCg.CompSrc.ledger (its := ws.toArray) (k := c) rfl F N mF (by rw [hws, sizeLine_eq]; exact Nat.le_trans (Nat.le_of_eq hwl) (Nat.le_trans hp5 (Nat.le_of_ble_eq_true rfl))) ?_
  intro g9
  rw [hws]
  refine comp_J (E₀ := []) (tl₀ := news) (fun i ys E tl => E = [] ∧ tl = news ∧ StrsAre ys ((ps.take i).map (·.2))) rfl (fun _ _ _ h => nomatch h) ⟨rfl, rfl, by rw [List.take_zero]; exact .nil⟩ ?_ ?_
  · rintro j v ys E₁ tl I oI Cc oC D m₂ h2 tk2 E' hj9 hv ⟨rfl, rfl, hys⟩ - - hC hx F2 N2 off ne
    obtain ⟨p, a, t, v2, n, hp, rfl, hm, hd2⟩ := dat_pair hdt (i := j) (v := v) (by simpa using hv)
    cases hd2
    clear h
    rw [List.nil_append] at N2
    try k_fold
    (repeat' ((fail_if_success (first | (with_reducible show wpAny _ _ (exec (Stmt.While _ _ _ _) _) _ _ _) | (with_reducible show wpAny _ _ (exec (Stmt.For _ _ _ _ _) _) _ _ _) | (with_reducible show wpAny _ _ (pyIter _) _ _ _) | (with_reducible show LCg.CompSrc _ _ _ _ _ _ _ _ _ _ _ _ _ _) | (with_reducible show LCt.CompSrcT _ _ _ _ _ _ _ _ _ _ _ _ _ _ _) | (with_reducible show SrcLP _ _ _ _ _ _ _ _ _ _ _ _ _ _ _) | (with_reducible show DSrc _ _ _ _ _ _ _ _ _ _ _ _ _ _ _) | (with_reducible show Src2 _ _ _ _ _ _ _))); (first | (k_unfold; (try dsimp only)) | (k_unmd; k_unfold; (try dsimp only)) | (k_end; wrow_close) | (k_here; (with_reducible show wpAny _ _ (eval (PySem.Expr.Name _ _) _) _ _ _); k_dflt (refine' nameX_L ?jF ?jv ?_ ?ja ?jb; (case ja => rfl); (case jb => rfl); (case jF => k_asm); (case jv => with_reducible assumption))) | walk1 | (dsimp only; walk1) | (leave1; (try dsimp only)))))
    refine cend (E₁ := []) (E' := []) (new := []) F2 N2 (fun _ h => h) off rfl (fun _ h => nomatch h) (.inr ⟨_, mF, rfl, _, rfl⟩) ⟨_, [], rfl, rfl, (fun _ h => nomatch h), rfl, rfl, ?_⟩
    rw [List.take_add_one, hp, List.map_append]
    exact hys.append' (.cons _ _ .nil)
  · rintro ys E₁ tl - - ⟨rfl, rfl, hys⟩
    unfold LCg.FinE
    intro D8 h8 tk8 F9 N9 o8
    rw [List.nil_append] at N9
    try dsimp only
    try k_fold
    have hnvl := hnv.length
    rw [hwl, List.take_length] at hys
    (repeat' ((fail_if_success (first | (with_reducible show wpAny _ _ (exec (Stmt.While _ _ _ _) _) _ _ _) | (with_reducible show wpAny _ _ (exec (Stmt.For _ _ _ _ _) _) _ _ _) | (with_reducible show wpAny _ _ (pyIter _) _ _ _) | (with_reducible show wpAny _ _ (call (Value.builtin "sorted") _) _ _ _) | (with_reducible show LCg.CompSrc _ _ _ _ _ _ _ _ _ _ _ _ _ _) | (with_reducible show LCt.CompSrcT _ _ _ _ _ _ _ _ _ _ _ _ _ _ _) | (with_reducible show SrcLP _ _ _ _ _ _ _ _ _ _ _ _ _ _ _) | (with_reducible show DSrc _ _ _ _ _ _ _ _ _ _ _ _ _ _ _) | (with_reducible show Src2 _ _ _ _ _ _ _))); (first | (k_unfold; (try dsimp only)) | (k_unmd; k_unfold; (try dsimp only)) | (k_end; wrow_close) | (k_here; (with_reducible show wpAny _ _ (eval (PySem.Expr.Name _ _) _) _ _ _); k_dflt (refine' nameX_L ?jF ?jv ?_ ?ja ?jb; (case ja => rfl); (case jb => rfl); (case jF => k_asm); (case jv => with_reducible assumption))) | (k_here; (with_reducible show wpAny _ _ (subscriptTail _ (PySem.Expr.Slice _ _ none _) (Value.ref _) (Value.ref _)) _ _ _); k_dflt (refine' slice_from_L ?jF ?jN ?jm ?ja ?jz ?_ ?js ?jt; (case jF => k_asm); (case jN => k_asm); (case jm => k_mem); (case ja => omega); (case jz => first | omega | exact Nat.le_of_ble_eq_true rfl); (case js => with_unfolding_all rfl); (case jt => kmk_pure)); intro D' h' F' N' l1; (try k_lt l1); (try k_sweep)) | walk1 | (dsimp only; walk1) | (leave1; (try dsimp only)))))
    refine sorted_N_str F' N' ⟨_, N'.get (.head _), rfl, 0, rfl⟩ (hnv.drop' _) (by rw [List.length_drop]; omega) ?_
    intro h6 vs6 bs e6 F6 N6 hb hbp hbs
    have l6 : ∀ p ∈ (D8, LCg.lst ys) :: tl, p.1 < h'.objs.size + 1 := fun p hp => Nat.lt_succ_of_lt (Heap.lt_size (N' p (.tail _ hp)).1)
    clear F' N'
    try dsimp only
    have hb6 := hb.length
    have hbl : bs.length ≤ 5 := by rw [hbp.length_eq, List.length_drop]; omega
    have hyl := hys.length
    rw [List.length_map] at hyl
    refine add_lists (vs := ys) (ws := vs6) F6 N6 (News.isList N6 (.tail _ (.tail _ (.head _)))) (News.isList N6 (.head _)) ?_ (by rw [sizeLine_eq]; omega)
    intro h5 F5 N5
    clear F6 N6
    try dsimp only
    (repeat' ((fail_if_success (first | (with_reducible show wpAny _ _ (exec (Stmt.While _ _ _ _) _) _ _ _) | (with_reducible show wpAny _ _ (exec (Stmt.For _ _ _ _ _) _) _ _ _) | (with_reducible show wpAny _ _ (pyIter _) _ _ _) | (with_reducible show LCg.CompSrc _ _ _ _ _ _ _ _ _ _ _ _ _ _) | (with_reducible show LCt.CompSrcT _ _ _ _ _ _ _ _ _ _ _ _ _ _ _) | (with_reducible show SrcLP _ _ _ _ _ _ _ _ _ _ _ _ _ _ _) | (with_reducible show DSrc _ _ _ _ _ _ _ _ _ _ _ _ _ _ _) | (with_reducible show Src2 _ _ _ _ _ _ _))); (first | (k_unfold; (try dsimp only)) | (k_unmd; k_unfold; (try dsimp only)) | (k_end; wrow_close) | walk1 | (dsimp only; walk1) | (leave1; (try dsimp only)))))
    rename_i h4 F4 N4
    exact h _ (ys ++ vs6) bs _ _ _ _ (hys.append' hb) hbp (srt_of_sortedS hbs) (fun p hp => .tail _ (.tail _ (.tail _ (.tail _ hp)))) (.head _) F4 N4
-- D5
/-! what has been dealt: names, each with its topics, each with its numbers; where it lies -/
noncomputable abbrev DRow := Str × Addr × List (Str × Addr × List Int)
noncomputable def addrsT (T : List DRow) : List Addr := T.flatMap fun r => r.2.1 :: r.2.2.map (·.2.1)
noncomputable def topKv (T : List DRow) : List (Str × Value) := T.map fun r => (r.1, Value.ref r.2.1)
noncomputable def rowKv (ls : List (Str × Addr × List Int)) : List (Str × Value) := ls.map fun q => (q.1, Value.ref q.2.1)
noncomputable def absR (ls : List (Str × Addr × List Int)) : Rows1 := ls.map fun q => (q.1, q.2.2)
noncomputable def absT (T : List DRow) : List (Str × Rows1) := T.map fun r => (r.1, absR r.2.2)
structure HoldR (w : World) (nx : Led) (r : DRow) : Prop where
  big : @LT.lt Nat _ 1 r.2.1
  dict : ∃ o, (r.2.1, o) ∈ nx ∧ o.IsDictOf (PySem.strKind PR w) (rowKv r.2.2)
  lst : ∀ q ∈ r.2.2, ∃ vs n, (q.2.1, listOf vs.toArray n) ∈ nx ∧ IntsAre vs q.2.2
structure HoldT (w : World) (nx : Led) (A : Addr) (T : List DRow) : Prop where
  top : ∃ oA, (A, oA) ∈ nx ∧ oA.IsDictOf (PySem.strKind PR w) (topKv T)
  row : ∀ r ∈ T, HoldR w nx r
  nod : (A :: addrsT T).Nodup
theorem HoldR.mono {w : World} {nx nx' : Led} {r : DRow} (h : HoldR w nx r) (hs : ∀ a ∈ r.2.1 :: r.2.2.map (·.2.1), ∀ o, (a, o) ∈ nx → (a, o) ∈ nx') : HoldR w nx' r := by
  obtain ⟨hb, ⟨o, ho, hd⟩, hl⟩ := h
  refine ⟨hb, ⟨o, hs _ (.head _) o ho, hd⟩, fun q hq => ?_⟩
  obtain ⟨vs, n, hm, hi⟩ := hl q hq
  exact ⟨vs, n, hs _ (.tail _ (List.mem_map_of_mem hq)) _ hm, hi⟩
theorem HoldT.mono {w : World} {nx nx' : Led} {A : Addr} {T : List DRow} (h : HoldT w nx A T) (hs : ∀ p ∈ nx, p ∈ nx') : HoldT w nx' A T := by
  obtain ⟨⟨oA, ha, hd⟩, hr, hn⟩ := h
  exact ⟨⟨oA, hs _ ha, hd⟩, fun r hm => (hr r hm).mono fun a _ o q => hs _ q, hn⟩
theorem addrsT_app (P S : List DRow) (r : DRow) : addrsT (P ++ r :: S) = addrsT P ++ ((r.2.1 :: r.2.2.map (·.2.1)) ++ addrsT S) := by
  rw [addrsT, List.flatMap_append, List.flatMap_cons]; rfl
theorem mem_addrsT {T : List DRow} {r : DRow} (h : r ∈ T) {a : Addr} (ha : a ∈ r.2.1 :: r.2.2.map (·.2.1)) : a ∈ addrsT T := List.mem_flatMap.mpr ⟨r, h, ha⟩
/-- one row is changed: all that lies elsewhere stands -/
theorem hold_upd {w : World} {nx nx' : Led} {A : Addr} {P S : List DRow} {r r' : DRow} (h : HoldT w nx A (P ++ r :: S)) (ha : r'.2.1 = r.2.1) (hk : r'.1 = r.1) (hr : HoldR w nx' r')
    (hs : ∀ p ∈ nx, p.1 ∉ r.2.1 :: r.2.2.map (·.2.1) → p ∈ nx') (hn : ∀ a ∈ r'.2.2.map (·.2.1), a ∈ r.2.2.map (·.2.1) ∨ a ∉ A :: addrsT (P ++ r :: S)) (hn2 : (r'.2.2.map (·.2.1)).Nodup) : HoldT w nx' A (P ++ r' :: S) := by
  obtain ⟨⟨oA, hA, hd⟩, hrow, hnod⟩ := h
  have hA' := List.nodup_cons.mp hnod
  have hx := hA'.2
  rw [addrsT_app, List.nodup_append] at hx
  obtain ⟨hP, hx, hPx⟩ := hx
  rw [List.nodup_append] at hx
  obtain ⟨hR, hS, hRS⟩ := hx
  have hmem : ∀ a, a ∈ A :: addrsT (P ++ r :: S) ↔ a = A ∨ a ∈ addrsT P ∨ a ∈ r.2.1 :: r.2.2.map (·.2.1) ∨ a ∈ addrsT S := fun a => by
    rw [addrsT_app, List.mem_cons, List.mem_append, List.mem_append]
  have hAr : A ∉ r.2.1 :: r.2.2.map (·.2.1) := fun e => hA'.1 (by rw [addrsT_app]; exact List.mem_append_right _ (List.mem_append_left _ e))
  refine ⟨⟨oA, hs _ hA hAr, ?_⟩, ?_, ?_⟩
  · have e : topKv (P ++ r' :: S) = topKv (P ++ r :: S) := by
      rw [topKv, topKv, List.map_append, List.map_append, List.map_cons, List.map_cons, ha, hk]
    rw [e]; exact hd
  · intro x hxm
    rcases List.mem_append.mp hxm with hp | hp
    · refine (hrow x (List.mem_append_left _ hp)).mono fun a hax o q => hs _ q fun e => ?_
      exact hPx a (mem_addrsT hp hax) a (List.mem_append_left _ e) rfl
    · rcases List.mem_cons.mp hp with rfl | hp
      · exact hr
      · refine (hrow x (List.mem_append_right _ (.tail _ hp))).mono fun a hax o q => hs _ q fun e => ?_
        exact hRS a e a (mem_addrsT hp hax) rfl
  · have hr' : ∀ a ∈ r'.2.1 :: r'.2.2.map (·.2.1), a ∈ r.2.1 :: r.2.2.map (·.2.1) ∨ a ∉ A :: addrsT (P ++ r :: S) := fun a hm => by
      rcases List.mem_cons.mp hm with rfl | hm
      · exact .inl (by rw [ha]; exact .head _)
      · exact (hn a hm).imp (fun q => .tail _ q) id
    have hcons : (r'.2.1 :: r'.2.2.map (·.2.1)).Nodup := by
      refine List.nodup_cons.mpr ⟨fun e => ?_, hn2⟩
      rcases hn _ e with q | q
      · rw [ha] at q; exact (List.nodup_cons.mp hR).1 q
      · exact q ((hmem _).mpr (.inr (.inr (.inl (by rw [ha]; exact .head _)))))
    rw [addrsT_app, List.nodup_cons, List.nodup_append, List.nodup_append]
    refine ⟨fun e => ?_, hP, ⟨hcons, hS, fun a ha1 b hb e => ?_⟩, fun a ha1 b hb e => ?_⟩
    · rcases List.mem_append.mp e with q | q
      · exact hA'.1 (by rw [addrsT_app]; exact List.mem_append_left _ q)
      · rcases List.mem_append.mp q with q | q
        · rcases hr' _ q with z | z
          · exact hAr z
          · exact z (.head _)
        · exact hA'.1 (by rw [addrsT_app]; exact List.mem_append_right _ (List.mem_append_right _ q))
    · subst e
      rcases hr' _ ha1 with z | z
      · exact hRS _ z _ hb rfl
      · exact z ((hmem _).mpr (.inr (.inr (.inr hb))))
    · subst e
      rcases List.mem_append.mp hb with q | q
      · rcases hr' _ q with z | z
        · exact hPx _ ha1 _ (List.mem_append_left _ z) rfl
        · exact z ((hmem _).mpr (.inr (.inl ha1)))
      · exact hPx _ ha1 _ (List.mem_append_right _ q) rfl
theorem give_at {P S : List (Str × Rows1)} {nm : Str} {g : Rows1} (t : Str) (n : Int) (h : nm ∉ P.map (·.1)) : giveTo (P ++ (nm, g) :: S) nm t n = P ++ (nm, addTo g t n) :: S := by
  induction P with
  | nil => rw [List.nil_append, giveTo, if_pos rfl]; rfl
  | cons c r ih =>
    obtain ⟨u, x⟩ := c
    rw [List.map_cons, List.mem_cons, not_or] at h
    rw [List.cons_append, giveTo, if_neg (Ne.symm h.1), ih h.2]; rfl
theorem give_new {P : List (Str × Rows1)} {nm : Str} (t : Str) (n : Int) (h : nm ∉ P.map (·.1)) : giveTo P nm t n = P ++ [(nm, [(t, [n])])] := by
  induction P with
  | nil => rfl
  | cons c r ih =>
    obtain ⟨u, x⟩ := c
    rw [List.map_cons, List.mem_cons, not_or] at h
    rw [giveTo, if_neg (Ne.symm h.1), ih h.2]; rfl
theorem add_at {P S : Rows1} {t : Str} {l : List Int} (n : Int) (h : t ∉ P.map (·.1)) : addTo (P ++ (t, l) :: S) t n = P ++ (t, l ++ [n]) :: S := by
  induction P with
  | nil => rw [List.nil_append, addTo, if_pos rfl]; rfl
  | cons c r ih =>
    obtain ⟨u, x⟩ := c
    rw [List.map_cons, List.mem_cons, not_or] at h
    rw [List.cons_append, addTo, if_neg (Ne.symm h.1), ih h.2]; rfl
theorem add_new {P : Rows1} {t : Str} (n : Int) (h : t ∉ P.map (·.1)) : addTo P t n = P ++ [(t, [n])] := by
  induction P with
  | nil => rfl
  | cons c r ih =>
    obtain ⟨u, x⟩ := c
    rw [List.map_cons, List.mem_cons, not_or] at h
    rw [addTo, if_neg (Ne.symm h.1), ih h.2]; rfl
-- D6
theorem hold_filter {w : World} {nx own : Led} {A : Addr} {T : List DRow} (h : HoldT w nx A T) (ho : ∀ p ∈ own, p.1 ∉ A :: addrsT T) : HoldT w (nx.filter fun p => own.all fun q => q.1 != p.1) A T := by
  have key : ∀ a ∈ A :: addrsT T, ∀ o, (a, o) ∈ nx → (a, o) ∈ nx.filter fun p => own.all fun q => q.1 != p.1 := fun a ha o hm => List.mem_filter.mpr ⟨hm, List.all_eq_true.mpr fun q hq => by
    simp only [bne_iff_ne, ne_eq]
    exact fun e => ho q hq (e ▸ ha)⟩
  obtain ⟨⟨oA, hA, hd⟩, hr, hn⟩ := h
  exact ⟨⟨oA, key _ (.head _) _ hA, hd⟩, fun r hm => (hr r hm).mono fun a ha o q => key a (.tail _ (mem_addrsT hm ha)) o q, hn⟩
theorem hold_in {w : World} {nx : Led} {A : Addr} {T : List DRow} (H : HoldT w nx A T) : ∀ a ∈ A :: addrsT T, ∃ p ∈ nx, p.1 = a := by
  obtain ⟨⟨oA, hA, -⟩, hr, -⟩ := H
  intro a ha
  rcases List.mem_cons.mp ha with rfl | ha
  · exact ⟨_, hA, rfl⟩
  · obtain ⟨r, hrm, ha⟩ := List.mem_flatMap.mp ha
    rcases List.mem_cons.mp ha with rfl | ha
    · obtain ⟨o, hm, -⟩ := (hr r hrm).dict
      exact ⟨_, hm, rfl⟩
    · obtain ⟨q, hq, rfl⟩ := List.mem_map.mp ha
      obtain ⟨us, n, hm, -⟩ := (hr r hrm).lst q hq
      exact ⟨_, hm, rfl⟩
/-- a turn's end of a loop that deals -/
inductive DEnd (w : World) (h₀ : Heap) (L A : Addr) (cst : Led) (P : (Str → Option Value) → List DRow → Prop) (s₁ : Shared) : Shared → Prop
  | mk {h' : Heap} {tk : Nat} {m' : Str → Option Value} {nx : Led} {T : List DRow} (F : Fr h₀ L h' m') (N : News h₀ L h' nx) (H : HoldT w nx A T) (hc : ∀ p ∈ cst, p ∈ nx ∧ p.1 ∉ A :: addrsT T) (hP : P m' T) : DEnd w h₀ L A cst P s₁ { s₁ with heap := h', toks := tk }
noncomputable def DPost (w : World) (h₀ : Heap) (L A : Addr) (cst : Led) (P : (Str → Option Value) → List DRow → Prop) (s₁ : Shared) (Q : Flow → Shared → Prop) (f : Flow) (s₂ : Shared) : Prop :=
  match f with
  | .ret v => Q (.ret v) s₂
  | .brk => Q .next s₂
  | _ => DEnd w h₀ L A cst P s₁ s₂
section
variable {prog : Program} {w : World} {A : Around} {E : Value → Shared → Prop} {s : Shared} {env : Env} {h₀ : Heap} {x : Str} {body : List Stmt} {Q : Flow → Shared → Prop} {m₀ : Str → Option Value}
theorem for_D {l D : Addr} {vs : List Value} {nn : Nat} {cst nx₀ : Led} {T₀ : List DRow} (P : Nat → (Str → Option Value) → List DRow → Prop)
    (hh : A.handled = none) (hl : (l, listOf vs.toArray nn) ∈ cst) (F : Fr h₀ env.locals s.heap m₀) (N : News h₀ env.locals s.heap nx₀) (H : HoldT w nx₀ D T₀) (hc : ∀ p ∈ cst, p ∈ nx₀ ∧ p.1 ∉ D :: addrsT T₀) (hP : P 0 m₀ T₀)
    (turn : ∀ i v m₁ T nx h tk cst', vs[i]? = some v → (∀ p ∈ cst, p ∈ cst') → P i m₁ T → HoldT w nx D T → (∀ p ∈ cst', p ∈ nx ∧ p.1 ∉ D :: addrsT T) → Fr h₀ env.locals h (fun y => if y = x then some v else m₁ y) → News h₀ env.locals h nx →
      wpAny (model prog w) A (execs body env) (DPost w h₀ env.locals D cst' (P (i + 1)) { s with heap := h, toks := tk } Q) E { s with heap := h, toks := tk })
    (done : ∀ m₁ T nx h tk, P vs.length m₁ T → HoldT w nx D T → (∀ p ∈ cst, p ∈ nx ∧ p.1 ∉ D :: addrsT T) → Fr h₀ env.locals h m₁ → News h₀ env.locals h nx → Q .next { s with heap := h, toks := tk }) :
    wpAny (model prog w) A (pyIter (.ref l)) (fun it s₂ => LoopAtV prog w A h₀ env x body Q E it s₂) E s := by
  refine kdl_iter (vs := vs) (nn := nn) (news := nx₀) (fun i m₁ nx => ∃ T, P i m₁ T ∧ HoldT w nx D T ∧ ∀ p ∈ cst, p ∈ nx ∧ p.1 ∉ D :: addrsT T) hh (hc _ hl).1 F N ⟨T₀, hP, H, hc⟩ ?_ ?_
  · rintro i v m₁ nx h tk own hv hown - ⟨T, hP₁, H₁, hc₁⟩ F₁ N₁
    have ho₁ : ∀ p ∈ own, p.1 ∉ D :: addrsT T := fun p hp e => by
      obtain ⟨z, hz, e2⟩ := hold_in H₁ _ e
      exact hown p hp _ (List.mem_map_of_mem hz) e2.symm
    refine wpAny_mono (turn i v m₁ T (nx ++ own) h tk (cst ++ own) hv (fun p hp => List.mem_append_left _ hp) hP₁ (H₁.mono fun p hp => List.mem_append_left _ hp) (fun p hp => ?_) F₁ N₁) (fun f s₂ hf => ?_) fun _ _ x => x
    · rcases List.mem_append.mp hp with hp | hp
      · exact ⟨List.mem_append_left _ (hc₁ p hp).1, (hc₁ p hp).2⟩
      · exact ⟨List.mem_append_right _ hp, ho₁ p hp⟩
    · have key : DEnd w h₀ env.locals D (cst ++ own) (P (i + 1)) { s with heap := h, toks := tk } s₂ → InvEndG h₀ env.locals (fun m' nx => (l, listOf vs.toArray nn) ∈ nx ∧ ∃ T, P (i + 1) m' T ∧ HoldT w nx D T ∧ ∀ p ∈ cst, p ∈ nx ∧ p.1 ∉ D :: addrsT T) own { s with heap := h, toks := tk } s₂ := by
        rintro ⟨F', N', H', hc', hP'⟩
        rename_i h' tk' m' nx' T'
        have hcf : ∀ p ∈ cst, p ∈ nx'.filter fun p => own.all fun q => q.1 != p.1 := fun p hp => List.mem_filter.mpr ⟨(hc' p (List.mem_append_left _ hp)).1, List.all_eq_true.mpr fun q hq => by
          simp only [bne_iff_ne, ne_eq]
          exact hown q hq _ (List.mem_map_of_mem (hc₁ p hp).1)⟩
        refine ⟨h', tk', m', nx', nx'.filter fun p => own.all fun q => q.1 != p.1, rfl, F', N', fun p hp => (List.mem_filter.mp hp).1, fun p hp => (hc' p (List.mem_append_right _ hp)).1, ?_, hcf _ hl, T', hP', hold_filter H' fun p hp => (hc' p (List.mem_append_right _ hp)).2, fun p hp => ⟨hcf p hp, (hc' p (List.mem_append_left _ hp)).2⟩⟩
        intro p hp b hb
        obtain ⟨q, hq, rfl⟩ := List.mem_map.mp hb
        have := List.all_eq_true.mp (List.mem_filter.mp hq).2 p hp
        simpa using this
      cases f with
      | ret v => exact hf
      | brk => exact hf
      | next => exact key hf
      | cont => exact key hf
  · rintro m₁ nx h tk ⟨T, hP₁, H₁, hc₁⟩ F₁ N₁
    exact done m₁ T nx h tk hP₁ H₁ hc₁ F₁ N₁
end
-- P7
noncomputable abbrev st14 : Stmt := stAt (forBody (stAt lawBody 14)) 0
noncomputable def ifBody : Stmt → List Stmt | .If _ b _ _ => b | _ => []
noncomputable abbrev for14 : Stmt := stAt (ifBody st14) 0
theorem p7_old {w : World} {mean : ExcName → Option Value} {mg mb : Str → Option Value} {fa : Addr} {cd : Value} {h₀ : Heap} {m : Str → Option Value} {s : Shared} {Q : Flow → Shared → Prop} (C : LCtx w mean mg mb h₀) (F : Fr h₀ h₀.objs.size s.heap m) {news : Led} {t : Str} {tt tn tat tm : Tok} {k : Int} {i : Nat} {many : Int} {o2 o7 oA o : Obj} {A a Od : Addr} {ov : List Value} {cO : Nat} {order : List Str} {kvA kv : List (Str × Value)}
  (mt : m (Str.ofString "topic") = some (.str t tt)) (mn : m (Str.ofString "number") = some (.int k tn)) (mat : m (Str.ofString "at") = some (.int i tat)) (mo : m (Str.ofString "order") = some (.ref Od))
  (m2 : ((h₀.objs.size + 1 + 1), o2) ∈ news) (d2 : o2.data = .cell (some (.int many tm))) (m7 : ((h₀.objs.size + 1 + 1 + 1 + 1 + 1 + 1 + 1), o7) ∈ news) (d7 : o7.data = .cell (some (.ref A))) (mO : (Od, listOf ov.toArray cO) ∈ news) (hov : StrsAre ov order) (hol : (order.length : Int) = many) (hmany : 1 ≤ many ∧ many ≤ 5) (hi : i ≤ 1000)
  (mA : (A, oA) ∈ news) (hdA : oA.IsDictOf (PySem.strKind PR w) kvA) (hvA : ∀ x, order[(Int.fmod (i : Int) many).toNat]? = some x → valueAt kvA x = some (.ref a))
  (hda : o.IsDictOf (PySem.strKind PR w) kv) (hsa : kv.length ≤ sizeLine) (hma : (a == sysModules) = false) {l : Addr} {us : List Value} {n : Nat} (hvl : valueAt kv t = some (.ref l)) (hul : us.length ≤ 1000)
  (N : News h₀ h₀.objs.size s.heap ((a, o) :: (l, listOf us.toArray n) :: news)) (hol2 : ∀ p ∈ news, p.1 ≠ l) (hal : a ≠ l)
  (h : ∀ h' tk' tn, Fr h₀ h₀.objs.size h' m → News h₀ h₀.objs.size h' ((a, o) :: (l, listOf (us ++ [Value.int k tn]).toArray (n + 1)) :: news) → Q .next { s with heap := h', toks := tk' }) :
  lawWp w h₀ fa cd (stAt (forBody for14) 0) Q s := by
  have hfill : (fun (_ : OpenLaw) (_ : Params → Frag) => True) PySem.Challenge.rw_je0014_01 hd.heap_1 := by k_fill; trivial
  clear hfill
  obtain ⟨B, X, T, GL⟩ := C
  have f0 : 0 ≤ Int.fmod (i : Int) many := Int.fmod_nonneg_of_pos _ (by omega)
  have f1 : Int.fmod (i : Int) many < many := Int.fmod_lt_of_pos _ (by omega)
  conv in (stAt (forBody _) _) => whnf
  (repeat' ((fail_if_success (first | (with_reducible show wpAny _ _ (exec (Stmt.While _ _ _ _) _) _ _ _) | (with_reducible show wpAny _ _ (exec (Stmt.For _ _ _ _ _) _) _ _ _) | (with_reducible show wpAny _ _ (pyIter _) _ _ _) | (with_reducible show LCg.CompSrc _ _ _ _ _ _ _ _ _ _ _ _ _ _) | (with_reducible show LCt.CompSrcT _ _ _ _ _ _ _ _ _ _ _ _ _ _ _) | (with_reducible show SrcLP _ _ _ _ _ _ _ _ _ _ _ _ _ _ _) | (with_reducible show DSrc _ _ _ _ _ _ _ _ _ _ _ _ _ _ _) | (with_reducible show Src2 _ _ _ _ _ _ _))); (first | (k_unfold; (try dsimp only)) | (k_unmd; k_unfold; (try dsimp only)) | (k_end; wrow_close) | (k_here; (with_reducible show wpAny _ _ (eval (PySem.Expr.Name _ _) _) _ _ _); k_dflt (refine' nameX_L ?jF ?jv ?_ ?ja ?jb; (case ja => rfl); (case jb => rfl); (case jF => k_asm); (case jv => with_reducible assumption))) | (k_here; (with_reducible show wpAny _ _ (subscriptTail _ _ (Value.ref _) (Value.int _ _)) _ _ _); k_dflt (refine' item_S ?jN ?jm ?jS ?ja ?jb ?jz ?_; (case jN => k_asm); (case jm => k_mem); (case jS => with_reducible assumption); (case ja => omega); (case jb => omega); (case jz => omega)); intro x9 t9 hx9) | (k_here; (with_reducible show wpAny _ _ (subscriptTail _ _ (Value.ref _) (Value.str _ _)) _ _ _); k_dflt (refine' kda_item (knd := PySem.strKind _ _) ?jN ?jm ?jd (strKind_is _ _ _ _) ?jv ?_; (case jN => k_asm); (case jm => k_mem); (case jd => with_reducible assumption); (case jv => exact hvA _ (by with_reducible assumption)))) | (k_here; (with_reducible show wpAny _ _ (call (Value.builtin "dict.setdefault") [Value.ref _, Value.str _ _, Value.ref _]) _ _ _); k_dflt (refine' kob_setdef_there (knd := PySem.strKind _ _) ?jN ?jm ?jd ?jl (strKind_is _ _ _ _) (PySem.F.args_dict_setdefault_3 _ _ _) ?jv ?jz ?_; (case jN => k_asm); (case jm => k_mem); (case jd => with_reducible assumption); (case jl => with_reducible assumption); (case jv => with_reducible assumption); (case jz => with_reducible assumption))) | (k_here; (with_reducible show wpAny _ _ (call (Value.builtin "list.append") [Value.ref _, _]) _ _ _); k_dflt (refine' append_L ?jF ?jN ?jU ?jz ?_; (case jF => k_asm); (case jN => k_asm); (case jU => k_updF); (case jz => first | with_reducible assumption | exact Nat.le_of_ble_eq_true rfl)); intro h5 F' N'; (try dsimp only at N')) | walk1 | (dsimp only; walk1) | (leave1; (try dsimp only)))))
  exact h _ _ _ F' (news_reorder N' fun p hp => .tail _ hp)
theorem p7_new {w : World} {mean : ExcName → Option Value} {mg mb : Str → Option Value} {fa : Addr} {cd : Value} {h₀ : Heap} {m : Str → Option Value} {s : Shared} {Q : Flow → Shared → Prop} (C : LCtx w mean mg mb h₀) (F : Fr h₀ h₀.objs.size s.heap m) {news : Led} {t : Str} {tt tn tat tm : Tok} {k : Int} {i : Nat} {many : Int} {o2 o7 oA o : Obj} {A a Od : Addr} {ov : List Value} {cO : Nat} {order : List Str} {kvA kv : List (Str × Value)}
  (mt : m (Str.ofString "topic") = some (.str t tt)) (mn : m (Str.ofString "number") = some (.int k tn)) (mat : m (Str.ofString "at") = some (.int i tat)) (mo : m (Str.ofString "order") = some (.ref Od))
  (m2 : ((h₀.objs.size + 1 + 1), o2) ∈ news) (d2 : o2.data = .cell (some (.int many tm))) (m7 : ((h₀.objs.size + 1 + 1 + 1 + 1 + 1 + 1 + 1), o7) ∈ news) (d7 : o7.data = .cell (some (.ref A))) (mO : (Od, listOf ov.toArray cO) ∈ news) (hov : StrsAre ov order) (hol : (order.length : Int) = many) (hmany : 1 ≤ many ∧ many ≤ 5) (hi : i ≤ 1000)
  (mA : (A, oA) ∈ news) (hdA : oA.IsDictOf (PySem.strKind PR w) kvA) (hvA : ∀ x, order[(Int.fmod (i : Int) many).toNat]? = some x → valueAt kvA x = some (.ref a))
  (hda : o.IsDictOf (PySem.strKind PR w) kv) (hsa : kv.length ≤ sizeLine) (hma : (a == sysModules) = false) (hvl : valueAt kv t = none)
  (N : News h₀ h₀.objs.size s.heap ((a, o) :: news)) (hoa : ∀ p ∈ news, p.1 ≠ a)
  (h : ∀ l o' tn h' tk', o'.IsDictOf (PySem.strKind PR w) (stored kv t (.ref l)) → (∀ p ∈ (a, o) :: news, p.1 < l) → Fr h₀ h₀.objs.size h' m → News h₀ h₀.objs.size h' ((l, listOf [Value.int k tn].toArray 1) :: (a, o') :: news) → Q .next { s with heap := h', toks := tk' }) :
  lawWp w h₀ fa cd (stAt (forBody for14) 0) Q s := by
  have hfill : (fun (_ : OpenLaw) (_ : Params → Frag) => True) PySem.Challenge.rw_je0014_01 hd.heap_1 := by k_fill; trivial
  clear hfill
  obtain ⟨B, X, T, GL⟩ := C
  have f0 : 0 ≤ Int.fmod (i : Int) many := Int.fmod_nonneg_of_pos _ (by omega)
  have f1 : Int.fmod (i : Int) many < many := Int.fmod_lt_of_pos _ (by omega)
  conv in (stAt (forBody _) _) => whnf
  (repeat' ((fail_if_success (first | (with_reducible show wpAny _ _ (exec (Stmt.While _ _ _ _) _) _ _ _) | (with_reducible show wpAny _ _ (exec (Stmt.For _ _ _ _ _) _) _ _ _) | (with_reducible show wpAny _ _ (pyIter _) _ _ _) | (with_reducible show LCg.CompSrc _ _ _ _ _ _ _ _ _ _ _ _ _ _) | (with_reducible show LCt.CompSrcT _ _ _ _ _ _ _ _ _ _ _ _ _ _ _) | (with_reducible show SrcLP _ _ _ _ _ _ _ _ _ _ _ _ _ _ _) | (with_reducible show DSrc _ _ _ _ _ _ _ _ _ _ _ _ _ _ _) | (with_reducible show Src2 _ _ _ _ _ _ _))); (first | (k_unfold; (try dsimp only)) | (k_unmd; k_unfold; (try dsimp only)) | (k_end; wrow_close) | (k_here; (with_reducible show wpAny _ _ (eval (PySem.Expr.Name _ _) _) _ _ _); k_dflt (refine' nameX_L ?jF ?jv ?_ ?ja ?jb; (case ja => rfl); (case jb => rfl); (case jF => k_asm); (case jv => with_reducible assumption))) | (k_here; (with_reducible show wpAny _ _ (subscriptTail _ _ (Value.ref _) (Value.int _ _)) _ _ _); k_dflt (refine' item_S ?jN ?jm ?jS ?ja ?jb ?jz ?_; (case jN => k_asm); (case jm => k_mem); (case jS => with_reducible assumption); (case ja => omega); (case jb => omega); (case jz => omega)); intro x9 t9 hx9) | (k_here; (with_reducible show wpAny _ _ (subscriptTail _ _ (Value.ref _) (Value.str _ _)) _ _ _); k_dflt (refine' kda_item (knd := PySem.strKind _ _) ?jN ?jm ?jd (strKind_is _ _ _ _) ?jv ?_; (case jN => k_asm); (case jm => k_mem); (case jd => with_reducible assumption); (case jv => exact hvA _ (by with_reducible assumption)))) | (k_here; (with_reducible show wpAny _ _ (call (Value.builtin "dict.setdefault") [Value.ref _, Value.str _ _, Value.ref _]) _ _ _); k_dflt (refine' kob_setdef_new (knd := PySem.strKind _ _) ?jF ?jN ?jU ?jd ?jl (strKind_is _ _ _ _) (PySem.F.args_dict_setdefault_3 _ _ _) ?jv ?jz ?_; (case jF => k_asm); (case jN => k_asm); (case jU => k_updF); (case jd => with_reducible assumption); (case jl => with_reducible assumption); (case jv => with_reducible assumption); (case jz => with_reducible assumption)); intro h6 o6 F' N' hd6; (try dsimp only at N')) | (k_here; (with_reducible show wpAny _ _ (call (Value.builtin "list.append") [Value.ref _, _]) _ _ _); k_dflt (refine' append_L ?jF ?jN ?jU ?jz ?_; (case jF => k_asm); (case jN => k_asm); (case jU => k_updF); (case jz => first | with_reducible assumption | exact Nat.le_of_ble_eq_true rfl)); intro h5 F' N'; (try dsimp only at N')) | walk1 | (dsimp only; walk1) | (leave1; (try dsimp only)))))
  rename_i z7 z6 z5 z4 z3 z2 z1
  exact h _ _ _ _ _ hd6 z3 F' N'
theorem p7_at {w : World} {mean : ExcName → Option Value} {mg mb : Str → Option Value} {fa : Addr} {cd : Value} {h₀ : Heap} {m : Str → Option Value} {s : Shared} {Q : Flow → Shared → Prop} (C : LCtx w mean mg mb h₀) (F : Fr h₀ h₀.objs.size s.heap m) {news : Led} {i : Nat} {tat : Tok} (N : News h₀ h₀.objs.size s.heap news) (mat : m (Str.ofString "at") = some (.int i tat)) (hi : i ≤ 1000)
  (h : ∀ t h' tk', Fr h₀ h₀.objs.size h' (fun y => if y = Str.ofString "at" then some (.int ((i + 1 : Nat) : Int) t) else m y) → News h₀ h₀.objs.size h' news → Q .next { s with heap := h', toks := tk' }) :
  lawWp w h₀ fa cd (stAt (forBody for14) 1) Q s := by
  have hfill : (fun (_ : OpenLaw) (_ : Params → Frag) => True) PySem.Challenge.rw_je0014_01 hd.heap_1 := by k_fill; trivial
  clear hfill
  obtain ⟨B, X, T, GL⟩ := C
  conv in (stAt (forBody _) _) => whnf
  (repeat' ((fail_if_success (first | (with_reducible show wpAny _ _ (exec (Stmt.While _ _ _ _) _) _ _ _) | (with_reducible show wpAny _ _ (exec (Stmt.For _ _ _ _ _) _) _ _ _) | (with_reducible show wpAny _ _ (pyIter _) _ _ _) | (with_reducible show LCg.CompSrc _ _ _ _ _ _ _ _ _ _ _ _ _ _) | (with_reducible show LCt.CompSrcT _ _ _ _ _ _ _ _ _ _ _ _ _ _ _) | (with_reducible show SrcLP _ _ _ _ _ _ _ _ _ _ _ _ _ _ _) | (with_reducible show DSrc _ _ _ _ _ _ _ _ _ _ _ _ _ _ _) | (with_reducible show Src2 _ _ _ _ _ _ _))); (first | (k_unfold; (try dsimp only)) | (k_unmd; k_unfold; (try dsimp only)) | (k_end; wrow_close) | (k_here; (with_reducible show wpAny _ _ (eval (PySem.Expr.Name _ _) _) _ _ _); k_dflt (refine' nameX_L ?jF ?jv ?_ ?ja ?jb; (case ja => rfl); (case jb => rfl); (case jF => k_asm); (case jv => with_reducible assumption))) | walk1 | (dsimp only; walk1) | (leave1; (try dsimp only)))))
  rename_i z3 z2 z1
  exact h _ _ _ z2 z1
-- D7
section
variable {w : World} {nx nx' : Led} {A : Addr} {P S : List DRow} {nm t : Str} {a l : Addr} {k : Int} {tk : Tok}
theorem hold_keys {T : List DRow} (H : HoldT w nx A T) : (T.map (·.1)).Nodup := by
  obtain ⟨oA, -, hd⟩ := H.top
  have := dict_nodup hd
  rwa [topKv, List.map_map] at this
theorem absT_keys (T : List DRow) : (absT T).map (·.1) = T.map (·.1) := by rw [absT, List.map_map]; rfl
theorem hold_split {T : List DRow} (H : HoldT w nx A (P ++ (nm, a, ls) :: S)) : nm ∉ (absT P).map (·.1) := by
  have := hold_keys H
  rw [List.map_append, List.map_cons, List.nodup_append] at this
  rw [absT_keys]
  exact fun h => this.2.2 nm h nm (.head _) rfl
theorem give_old {p q : List (Str × Addr × List Int)} {us : List Value} {ns : List Int} {n' : Nat} (H : HoldT w nx A (P ++ (nm, a, p ++ (t, l, ns) :: q) :: S)) (hi : IntsAre us ns)
    (hl' : (l, listOf (us ++ [Value.int k tk]).toArray n') ∈ nx') (hs : ∀ p ∈ nx, p.1 ≠ l → p ∈ nx') :
    HoldT w nx' A (P ++ (nm, a, p ++ (t, l, ns ++ [k]) :: q) :: S) ∧ absT (P ++ (nm, a, p ++ (t, l, ns ++ [k]) :: q) :: S) = giveTo (absT (P ++ (nm, a, p ++ (t, l, ns) :: q) :: S)) nm t k := by
  have hr := H.row (nm, a, p ++ (t, l, ns) :: q) (List.mem_append_right _ (.head _))
  have hnod := (List.nodup_cons.mp H.nod).2
  rw [addrsT_app, List.nodup_append, List.nodup_append] at hnod
  have hrn := hnod.2.1.1
  rw [List.map_append, List.map_cons, List.nodup_cons] at hrn
  have hal : a ≠ l := fun e => hrn.1 (e ▸ List.mem_append_right _ (.head _))
  have hln := List.nodup_append.mp hrn.2
  have hlq := List.nodup_cons.mp hln.2.1
  obtain ⟨hb, ⟨o, ho, hd⟩, hlst⟩ := hr
  constructor
  · refine hold_upd H (r' := (nm, a, p ++ (t, l, ns ++ [k]) :: q)) rfl rfl ⟨hb, ⟨o, hs _ ho hal, ?_⟩, fun z hz => ?_⟩ (fun z hz hm => hs z hz fun e => hm ?_) (fun z hz => .inl ?_) ?_
    · have e : rowKv (p ++ (t, l, ns ++ [k]) :: q) = rowKv (p ++ (t, l, ns) :: q) := by rw [rowKv, rowKv, List.map_append, List.map_append]; rfl
      show Obj.IsDictOf _ _ (rowKv (p ++ (t, l, ns ++ [k]) :: q))
      rw [e]; exact hd
    · rcases List.mem_append.mp hz with hz | hz
      · obtain ⟨vs, m, hm, hi2⟩ := hlst z (List.mem_append_left _ hz)
        exact ⟨vs, m, hs _ hm fun e => hln.2.2 _ (List.mem_map_of_mem hz) _ (.head _) e, hi2⟩
      · rcases List.mem_cons.mp hz with rfl | hz
        · exact ⟨_, _, hl', hi.append (.cons _ _ .nil)⟩
        · obtain ⟨vs, m, hm, hi2⟩ := hlst z (List.mem_append_right _ (.tail _ hz))
          exact ⟨vs, m, hs _ hm fun e => hlq.1 (List.mem_map.mpr ⟨z, hz, e⟩), hi2⟩
    · rw [e]
      exact .tail _ (by rw [List.map_append]; exact List.mem_append_right _ (.head _))
    · rw [List.map_append] at hz ⊢
      exact hz
    · rw [List.map_append]
      exact hrn.2
  · have h1 := hold_split (T := []) H
    have h2 : t ∉ (absR p).map (·.1) := by
      have := dict_nodup hd
      rw [rowKv, List.map_map, List.map_append, List.map_cons, List.nodup_append] at this
      rw [absR, List.map_map]
      exact fun h => this.2.2 t h t (.head _) rfl
    rw [absT, absT, List.map_append, List.map_append, List.map_cons, List.map_cons]
    show _ = giveTo (absT P ++ (nm, absR (p ++ (t, l, ns) :: q)) :: absT S) nm t k
    rw [give_at t k h1, absR, absR, List.map_append, List.map_append, List.map_cons, List.map_cons]
    show _ = absT P ++ (nm, addTo (absR p ++ (t, ns) :: absR q) t k) :: absT S
    rw [add_at k h2]
    rfl
theorem give_top {ls : List (Str × Addr × List Int)} {o' : Obj} (H : HoldT w nx A (P ++ (nm, a, ls) :: S)) (ht : t ∉ ls.map (·.1)) (ha' : (a, o') ∈ nx') (hd' : o'.IsDictOf (PySem.strKind PR w) (stored (rowKv ls) t (.ref l)))
    (hl' : (l, listOf [Value.int k tk].toArray 1) ∈ nx') (hf : l ∉ A :: addrsT (P ++ (nm, a, ls) :: S)) (hs : ∀ p ∈ nx, p.1 ≠ a → p ∈ nx') :
    HoldT w nx' A (P ++ (nm, a, ls ++ [(t, l, [k])]) :: S) ∧ absT (P ++ (nm, a, ls ++ [(t, l, [k])]) :: S) = giveTo (absT (P ++ (nm, a, ls) :: S)) nm t k := by
  have hr := H.row (nm, a, ls) (List.mem_append_right _ (.head _))
  have hnod := (List.nodup_cons.mp H.nod).2
  rw [addrsT_app, List.nodup_append, List.nodup_append] at hnod
  have hrn := List.nodup_cons.mp hnod.2.1.1
  obtain ⟨hb, -, hlst⟩ := hr
  have hlr : l ∉ ls.map (·.2.1) := fun e => hf (.tail _ (by rw [addrsT_app]; exact List.mem_append_right _ (List.mem_append_left _ (.tail _ e))))
  constructor
  · refine hold_upd H (r' := (nm, a, ls ++ [(t, l, [k])])) rfl rfl ⟨hb, ⟨o', ha', ?_⟩, fun z hz => ?_⟩ (fun z hz hm => hs z hz fun e => hm (e ▸ .head _)) (fun z hz => ?_) ?_
    · have e : stored (rowKv ls) t (.ref l) = rowKv (ls ++ [(t, l, [k])]) := by
        rw [stored_absent (valueAt_none_of_not_mem (by rw [rowKv, List.map_map]; exact ht)), rowKv, rowKv, List.map_append]; rfl
      rw [e] at hd'
      exact hd'
    · rcases List.mem_append.mp hz with hz | hz
      · obtain ⟨vs, m, hm, hi2⟩ := hlst z hz
        exact ⟨vs, m, hs _ hm fun e => hrn.1 (e ▸ List.mem_map_of_mem hz), hi2⟩
      · rw [List.mem_singleton.mp hz]
        exact ⟨_, _, hl', .cons _ _ .nil⟩
    · rw [List.map_append] at hz
      rcases List.mem_append.mp hz with hz | hz
      · exact .inl hz
      · rw [List.mem_singleton.mp hz]; exact .inr hf
    · rw [List.map_append, List.nodup_append]
      exact ⟨hrn.2, List.nodup_cons.mpr ⟨List.not_mem_nil, .nil⟩, fun x hx y hy e => hlr (by rw [List.mem_singleton.mp hy] at e; have e2 : x = l := e; exact e2 ▸ hx)⟩
  · have h1 := hold_split (T := []) H
    rw [absT, absT, List.map_append, List.map_append, List.map_cons, List.map_cons]
    show _ = giveTo (absT P ++ (nm, absR ls) :: absT S) nm t k
    rw [give_at t k h1, add_new k (by rw [absR, List.map_map]; exact ht), absR, absR, List.map_append]
    rfl
end
noncomputable def BoundT (T : List DRow) (i : Nat) : Prop := ∀ r ∈ T, r.2.2.length ≤ i ∧ ∀ q ∈ r.2.2, q.2.2.length ≤ i
theorem bound_upd {P S : List DRow} {r r' : DRow} {i : Nat} (h : BoundT (P ++ r :: S) i) (h1 : r'.2.2.length ≤ i + 1) (h2 : ∀ q ∈ r'.2.2, q.2.2.length ≤ i + 1) : BoundT (P ++ r' :: S) (i + 1) := by
  intro x hx
  rcases List.mem_append.mp hx with hx | hx
  · have := h x (List.mem_append_left _ hx)
    exact ⟨Nat.le_succ_of_le this.1, fun q hq => Nat.le_succ_of_le (this.2 q hq)⟩
  · rcases List.mem_cons.mp hx with rfl | hx
    · exact ⟨h1, h2⟩
    · have := h x (List.mem_append_right _ (.tail _ hx))
      exact ⟨Nat.le_succ_of_le this.1, fun q hq => Nat.le_succ_of_le (this.2 q hq)⟩
theorem bound_old {P S : List DRow} {nm t : Str} {a l : Addr} {k : Int} {ns : List Int} {p q : List (Str × Addr × List Int)} {i : Nat} (h : BoundT (P ++ (nm, a, p ++ (t, l, ns) :: q) :: S) i) : BoundT (P ++ (nm, a, p ++ (t, l, ns ++ [k]) :: q) :: S) (i + 1) := by
  obtain ⟨h1, h2⟩ := h (nm, a, p ++ (t, l, ns) :: q) (List.mem_append_right _ (.head _))
  refine bound_upd h ?_ ?_
  · rw [List.length_append] at h1 ⊢; exact Nat.le_succ_of_le h1
  · intro z hz
    rcases List.mem_append.mp hz with hz | hz
    · exact Nat.le_succ_of_le (h2 z (List.mem_append_left _ hz))
    · rcases List.mem_cons.mp hz with rfl | hz
      · have h3 : ns.length ≤ i := h2 (t, l, ns) (List.mem_append_right _ (.head _))
        show (ns ++ [k]).length ≤ i + 1
        rw [List.length_append]; exact Nat.succ_le_succ h3
      · exact Nat.le_succ_of_le (h2 z (List.mem_append_right _ (.tail _ hz)))
theorem bound_top {P S : List DRow} {nm t : Str} {a l : Addr} {k : Int} {ls : List (Str × Addr × List Int)} {i : Nat} (h : BoundT (P ++ (nm, a, ls) :: S) i) : BoundT (P ++ (nm, a, ls ++ [(t, l, [k])]) :: S) (i + 1) := by
  obtain ⟨h1, h2⟩ := h (nm, a, ls) (List.mem_append_right _ (.head _))
  refine bound_upd h ?_ ?_
  · show (ls ++ [(t, l, [k])]).length ≤ i + 1
    rw [List.length_append]; exact Nat.succ_le_succ h1
  · intro z hz
    rcases List.mem_append.mp hz with hz | hz
    · exact Nat.le_succ_of_le (h2 z hz)
    · rw [List.mem_singleton.mp hz]; exact Nat.succ_le_succ (Nat.zero_le _)
theorem split_keys {T : List DRow} {nm : Str} (h : nm ∈ T.map (·.1)) : ∃ P S a ls, T = P ++ (nm, a, ls) :: S := by
  obtain ⟨r, hr, rfl⟩ := List.mem_map.mp h
  obtain ⟨P, S, e⟩ := List.append_of_mem hr
  exact ⟨P, S, r.2.1, r.2.2, e⟩
theorem valueAt_split {P S : List (Str × Value)} {x : Str} {v : Value} (h : ((P ++ (x, v) :: S).map (·.1)).Nodup) : valueAt (P ++ (x, v) :: S) x = some v :=
  valueAt_of_get (i := P.length) h (by simp)
theorem top_at {w : World} {nx : Led} {A a : Addr} {P S : List DRow} {nm : Str} {ls : List (Str × Addr × List Int)} (H : HoldT w nx A (P ++ (nm, a, ls) :: S)) : valueAt (topKv (P ++ (nm, a, ls) :: S)) nm = some (.ref a) := by
  obtain ⟨oA, -, hd⟩ := H.top
  have := dict_nodup hd
  rw [topKv, List.map_append, List.map_cons] at this ⊢
  exact valueAt_split this
theorem row_cases {w : World} {o : Obj} {ls : List (Str × Addr × List Int)} (hd : o.IsDictOf (PySem.strKind PR w) (rowKv ls)) (t : Str) :
    (∃ p q l ns, ls = p ++ (t, l, ns) :: q ∧ valueAt (rowKv ls) t = some (.ref l)) ∨ (t ∉ ls.map (·.1) ∧ valueAt (rowKv ls) t = none) := by
  by_cases h : t ∈ ls.map (·.1)
  · obtain ⟨r, hr, rfl⟩ := List.mem_map.mp h
    obtain ⟨p, q, rfl⟩ := List.append_of_mem hr
    refine .inl ⟨p, q, r.2.1, r.2.2, rfl, ?_⟩
    have := dict_nodup hd
    rw [rowKv, List.map_append, List.map_cons] at this ⊢
    exact valueAt_split this
  · exact .inr ⟨h, valueAt_none_of_not_mem (by rw [rowKv, List.map_map]; exact h)⟩
-- P9
inductive J12 (w : World) (nms : List Str) (base : Led) (i : Nat) (tl : Led) : List (Str × Value) → Prop
  | mk {R : List DRow} (hs : ∀ p ∈ base, p ∈ tl) (hT : ∀ r ∈ R, HoldR w tl r) (hab : absT R = (nms.take i).map (fun y => (y, ([] : Rows1)))) (hB : BoundT R 0) (hnd : (addrsT R).Nodup) (hat : ∀ a ∈ addrsT R, ∃ p ∈ tl, p.1 = a)
    (hof : ∀ p ∈ base, p.1 ∉ addrsT R) : J12 w nms base i tl (topKv R)
theorem J12.start {w : World} {nms : List Str} {base : Led} : J12 w nms base 0 base [] := .mk (R := []) (fun _ h => h) (fun _ h => nomatch h) rfl (fun _ h => nomatch h) .nil (fun _ h => nomatch h) (fun _ _ h => nomatch h)
theorem J12.step {w : World} {nms : List Str} {base : Led} {i : Nat} {tl : Led} {kvs : List (Str × Value)} (h : J12 w nms base i tl kvs) {x : Str} (hx : nms[i]? = some x) (hn : nms.Nodup) {d : Addr} {o : Obj} (hd : o.IsDictOf (PySem.strKind PR w) [])
    (hlt : ∀ p ∈ tl, p.1 < d) (hb : @LT.lt Nat _ 1 d) : J12 w nms base (i + 1) ((d, o) :: tl) (stored kvs x (.ref d)) := by
  cases h with
  | @mk R hs hT hab hB hnd hat hof =>
  have hk : x ∉ (topKv R).map (·.1) := by
    have e : (topKv R).map (·.1) = (absT R).map (·.1) := by rw [topKv, absT, List.map_map, List.map_map]; rfl
    rw [e, hab, List.map_map]
    have e2 : (nms.take i).map ((fun x => x.1) ∘ fun y => (y, ([] : Rows1))) = nms.take i := List.map_id _
    rw [e2]
    exact not_mem_take hn hx
  have e : stored (topKv R) x (.ref d) = topKv (R ++ [(x, d, [])]) := by rw [stored_new hk, topKv, topKv, List.map_append]; rfl
  have ea : addrsT (R ++ [(x, d, [])]) = addrsT R ++ [d] := by rw [addrsT_app]; rfl
  have hnd' : d ∉ addrsT R := fun m => by
    obtain ⟨p, hp, e3⟩ := hat d m
    exact Nat.lt_irrefl _ (e3 ▸ hlt p hp)
  rw [e]
  refine .mk (fun p hp => .tail _ (hs p hp)) (fun r hr => ?_) ?_ (fun r hr => ?_) ?_ (fun a ha => ?_) (fun p hp ha => ?_)
  · rcases List.mem_append.mp hr with hr | hr
    · exact (hT r hr).mono fun a _ o q => .tail _ q
    · rw [List.mem_singleton.mp hr]
      exact ⟨hb, ⟨o, .head _, hd⟩, fun _ h => nomatch h⟩
  · rw [absT, List.map_append]
    show absT R ++ _ = _
    rw [hab, List.take_add_one, hx, List.map_append]; rfl
  · rcases List.mem_append.mp hr with hr | hr
    · exact hB r hr
    · rw [List.mem_singleton.mp hr]
      exact ⟨Nat.le_refl _, fun _ h => nomatch h⟩
  · rw [ea, List.nodup_append]
    exact ⟨hnd, List.nodup_cons.mpr ⟨List.not_mem_nil, .nil⟩, fun a ha b hb e => hnd' (by rw [List.mem_singleton.mp hb] at e; exact e ▸ ha)⟩
  · rw [ea] at ha
    rcases List.mem_append.mp ha with ha | ha
    · obtain ⟨p, hp, e⟩ := hat a ha
      exact ⟨p, .tail _ hp, e⟩
    · exact ⟨_, .head _, (List.mem_singleton.mp ha).symm⟩
  · rw [ea] at ha
    rcases List.mem_append.mp ha with ha | ha
    · exact hof p hp ha
    · exact Nat.lt_irrefl _ (List.mem_singleton.mp ha ▸ hlt p (hs p hp))
/-- dealt -/
theorem p12 {w : World} {mean : ExcName → Option Value} {mg mb : Str → Option Value} {fa : Addr} {cd : Value} {h₀ : Heap} {m : Str → Option Value} {s : Shared} {Q : Flow → Shared → Prop} (C : LCtx w mean mg mb h₀) (F : Fr h₀ h₀.objs.size s.heap m) {news : Led} {o3 o7 : Obj} {nm : Addr} {nv : List Value} {nms : List Str} {x7 : Option Value} (N : News h₀ h₀.objs.size s.heap (((h₀.objs.size + 1 + 1 + 1 + 1 + 1 + 1 + 1), o7) :: news)) (ho7 : ∀ p ∈ news, p.1 ≠ (h₀.objs.size + 1 + 1 + 1 + 1 + 1 + 1 + 1))
  (m3 : ((h₀.objs.size + 1 + 1 + 1), o3) ∈ news) (d3 : o3.data = .cell (some (.ref nm))) (d7 : o7.data = .cell x7) (mn : (nm, listOf nv.toArray 0) ∈ news) (hnv : StrsAre nv nms) (hnl : nms.length ≤ 5) (hnn : nms.Nodup)
  (h : ∀ A T tl o7' h' tk', HoldT w tl A T → absT T = nms.map (fun y => (y, ([] : Rows1))) → BoundT T 0 → o7'.data = .cell (some (.ref A)) → (∀ p ∈ ((h₀.objs.size + 1 + 1 + 1 + 1 + 1 + 1 + 1), o7') :: news, p ∈ tl ∧ p.1 ∉ A :: addrsT T) → Fr h₀ h₀.objs.size h' m → News h₀ h₀.objs.size h' tl → Q .next { s with heap := h', toks := tk' }) :
  lawWp w h₀ fa cd (stAt lawBody 12) Q s := by
  have hfill : (fun (_ : OpenLaw) (_ : Params → Frag) => True) PySem.Challenge.rw_je0014_01 hd.heap_1 := by k_fill; trivial
  clear hfill
  obtain ⟨B, X, T, GL⟩ := C
  conv in (stAt lawBody _) => whnf
  (repeat' ((fail_if_success (first | (with_reducible show wpAny _ _ (exec (Stmt.While _ _ _ _) _) _ _ _) | (with_reducible show wpAny _ _ (exec (Stmt.For _ _ _ _ _) _) _ _ _) | (with_reducible show wpAny _ _ (pyIter _) _ _ _) | (with_reducible show LCg.CompSrc _ _ _ _ _ _ _ _ _ _ _ _ _ _) | (with_reducible show LCt.CompSrcT _ _ _ _ _ _ _ _ _ _ _ _ _ _ _) | (with_reducible show SrcLP _ _ _ _ _ _ _ _ _ _ _ _ _ _ _) | (with_reducible show DSrc _ _ _ _ _ _ _ _ _ _ _ _ _ _ _) | (with_reducible show Src2 _ _ _ _ _ _ _))); (first | (k_unfold; (try dsimp only)) | (k_unmd; k_unfold; (try dsimp only)) | (k_end; wrow_close) | (k_here; (with_reducible show wpAny _ _ (eval (PySem.Expr.Name _ _) _) _ _ _); k_dflt (refine' nameX_L ?jF ?jv ?_ ?ja ?jb; (case ja => rfl); (case jb => rfl); (case jF => k_asm); (case jv => with_reducible assumption))) | (k_here; (with_reducible show wpAny _ _ (eval (PySem.Expr.DictComp _ _ _ _ _) _) _ _ _); k_dflt (refine DictComp_U (F₀ := by k_asm) (by with_unfolding_all rfl) (by decide) (by rfl) (by decide) (by rfl) ?_)) | walk1 | (dsimp only; walk1) | (leave1; (try dsimp only)))))
  have hnvl := hnv.length
  have hws : nv.toArray.size = nv.length := List.size_toArray ..
  refine DSrc.ledger (its := nv.toArray) (k := 0) rfl F N (.tail _ mn) (by rw [hws, sizeLine_eq]; omega) ?_
  intro g9
  rw [hws]
  refine dcomp_J (E₀ := []) (tl₀ := ((h₀.objs.size + 1 + 1 + 1 + 1 + 1 + 1 + 1), o7) :: news) (fun i kvs' E tl' => E = [] ∧ J12 w nms (((h₀.objs.size + 1 + 1 + 1 + 1 + 1 + 1 + 1), o7) :: news) i tl' kvs') rfl (fun _ _ _ h => nomatch h) ⟨rfl, .start⟩ ?_ ?_
  · rintro i v kvs' E₁ tl' I oI Cc oC D oD m₂ h2 tk2 E' hi hv ⟨rfl, J⟩ - hoT hoD hC hx F2 N2 off ne
    obtain ⟨x, tx, rfl, hxw⟩ := hnv.item i v (by simpa using hv)
    have hsn : ∀ p ∈ ((h₀.objs.size + 1 + 1 + 1 + 1 + 1 + 1 + 1), o7) :: news, p ∈ tl' := by cases J; assumption
    rw [List.nil_append] at N2
    clear N F h
    try k_fold
    (repeat' ((fail_if_success (first | (with_reducible show wpAny _ _ (exec (Stmt.While _ _ _ _) _) _ _ _) | (with_reducible show wpAny _ _ (exec (Stmt.For _ _ _ _ _) _) _ _ _) | (with_reducible show wpAny _ _ (pyIter _) _ _ _) | (with_reducible show LCg.CompSrc _ _ _ _ _ _ _ _ _ _ _ _ _ _) | (with_reducible show LCt.CompSrcT _ _ _ _ _ _ _ _ _ _ _ _ _ _ _) | (with_reducible show SrcLP _ _ _ _ _ _ _ _ _ _ _ _ _ _ _) | (with_reducible show DSrc _ _ _ _ _ _ _ _ _ _ _ _ _ _ _) | (with_reducible show Src2 _ _ _ _ _ _ _))); (first | (k_unfold; (try dsimp only)) | (k_unmd; k_unfold; (try dsimp only)) | (k_end; wrow_close) | (k_here; (with_reducible show wpAny _ _ (eval (PySem.Expr.Name _ _) _) _ _ _); k_dflt (refine' nameX_L ?jF ?jv ?_ ?ja ?jb; (case ja => rfl); (case jb => rfl); (case jF => k_asm); (case jv => with_reducible assumption))) | walk1 | (dsimp only; walk1) | (leave1; (try dsimp only)))))
    rename_i d8 h8 o8 F8 N8 l8 lo8 hd8 _ _ _
    have hb8 : @LT.lt Nat _ 1 d8 := Nat.lt_of_le_of_lt (Nat.le_add_left _ _) (l8 _ (.tail _ (.tail _ (.tail _ (hsn _ (.head _))))))
    have l9 : ∀ p ∈ tl', p.1 < d8 := fun p hp => l8 p (.tail _ (.tail _ (.tail _ hp)))
    refine dcend (E₁ := []) (E' := []) (new := [(d8, o8)]) F8 N8 (by ((try simp only [List.cons_append, List.nil_append, List.append_nil]); (repeat' (first | exact List.forall_mem_nil _ | refine' List.forall_mem_cons.mpr ⟨by (first | k_mem | (repeat' (first | assumption | refine' List.Mem.tail _ ?_))), ?_⟩ | (intro p9 hp9; (repeat' (first | exact hp9 | refine' List.Mem.tail _ ?_))))))) off rfl ?_ (.inr ⟨_, .tail _ (hsn _ (.tail _ mn)), rfl, _, rfl⟩) ⟨x, [], [(d8, o8)], strKind_is _ _ _ _, rfl, rfl, (fun _ _ _ h => nomatch h), rfl, J.step hxw hnn hd8 l9 hb8⟩
    exact List.forall_mem_cons.mpr ⟨⟨(lt_ne l8 (.head _)).symm, (lt_ne l8 (.tail _ (.head _))).symm, (lt_ne l8 (.tail _ (.tail _ (.head _)))).symm⟩, List.forall_mem_nil _⟩
  · rintro kvs' E₁ tl' - hoff' ⟨rfl, J⟩
    cases J with | @mk R hs hT hab hB hnd hat hof =>
    unfold DFinE
    intro A9 oA9 h8 tk8 hA9 F8 N8 o8 lA9
    rw [List.nil_append] at N8 o8
    have hmo := hs _ (.head _)
    have o9 := off1_mem o8
    have N9 := news_front N8 (.tail _ hmo)
    have hf9 : ∀ p ∈ List.filter (fun p => p.1 != (h₀.objs.size + 1 + 1 + 1 + 1 + 1 + 1 + 1)) ((A9, oA9) :: tl'), p.1 ≠ (h₀.objs.size + 1 + 1 + 1 + 1 + 1 + 1 + 1) := front_off
    rw [hnvl, List.take_length] at hab
    clear F N N8 o8
    generalize hr9 : List.filter (fun p => p.1 != (h₀.objs.size + 1 + 1 + 1 + 1 + 1 + 1 + 1)) ((A9, oA9) :: tl') = rest at N9 hf9
    try dsimp only
    try k_fold
    (repeat' ((fail_if_success (first | (with_reducible show wpAny _ _ (exec (Stmt.While _ _ _ _) _) _ _ _) | (with_reducible show wpAny _ _ (exec (Stmt.For _ _ _ _ _) _) _ _ _) | (with_reducible show wpAny _ _ (pyIter _) _ _ _) | (with_reducible show LCg.CompSrc _ _ _ _ _ _ _ _ _ _ _ _ _ _) | (with_reducible show LCt.CompSrcT _ _ _ _ _ _ _ _ _ _ _ _ _ _ _) | (with_reducible show SrcLP _ _ _ _ _ _ _ _ _ _ _ _ _ _ _) | (with_reducible show DSrc _ _ _ _ _ _ _ _ _ _ _ _ _ _ _) | (with_reducible show Src2 _ _ _ _ _ _ _))); (first | (k_unfold; (try dsimp only)) | (k_unmd; k_unfold; (try dsimp only)) | (k_end; wrow_close) | walk1 | (dsimp only; walk1) | (leave1; (try dsimp only)))))
    rename_i h6 o6 F6 N6 d6
    have hcA : (h₀.objs.size + 1 + 1 + 1 + 1 + 1 + 1 + 1) ≠ A9 := o9 _ hmo
    have hAR : A9 ∉ addrsT R := fun e => by
      obtain ⟨p, hp, e2⟩ := hat _ e
      exact o9 p hp e2
    have hc7R : (h₀.objs.size + 1 + 1 + 1 + 1 + 1 + 1 + 1) ∉ addrsT R := hof ((h₀.objs.size + 1 + 1 + 1 + 1 + 1 + 1 + 1), o7) (.head _)
    have hin : ∀ p ∈ (A9, oA9) :: tl', p.1 ≠ (h₀.objs.size + 1 + 1 + 1 + 1 + 1 + 1 + 1) → p ∈ ((h₀.objs.size + 1 + 1 + 1 + 1 + 1 + 1 + 1), o6) :: rest := fun p hp h1 => .tail _ (hr9 ▸ front_in hp h1)
    refine h A9 R _ o6 _ _ ⟨⟨oA9, hin _ (.head _) hcA.symm, hA9⟩, fun r hr => (hT r hr).mono fun a ha o q => hin _ (.tail _ q) fun e => hc7R (e ▸ mem_addrsT hr ha), List.nodup_cons.mpr ⟨hAR, hnd⟩⟩ hab hB d6 (fun p hp => ?_) F6 N6
    rcases List.mem_cons.mp hp with rfl | hp
    · exact ⟨.head _, fun e => (List.mem_cons.mp e).elim hcA hc7R⟩
    · exact ⟨hin p (.tail _ (hs p (.tail _ hp))) (ho7 p hp), fun e => (List.mem_cons.mp e).elim (o9 p (hs p (.tail _ hp))) (hof p (.tail _ hp))⟩
theorem p13 {w : World} {mean : ExcName → Option Value} {mg mb : Str → Option Value} {fa : Addr} {cd : Value} {h₀ : Heap} {m : Str → Option Value} {s : Shared} {Q : Flow → Shared → Prop} (C : LCtx w mean mg mb h₀) (F : Fr h₀ h₀.objs.size s.heap m) {news : Led} (N : News h₀ h₀.objs.size s.heap news)
  (h : ∀ t h' tk', Fr h₀ h₀.objs.size h' (fun y => if y = Str.ofString "at" then some (.int ((0 : Nat) : Int) t) else m y) → News h₀ h₀.objs.size h' news → Q .next { s with heap := h', toks := tk' }) :
  lawWp w h₀ fa cd (stAt lawBody 13) Q s := by
  have hfill : (fun (_ : OpenLaw) (_ : Params → Frag) => True) PySem.Challenge.rw_je0014_01 hd.heap_1 := by k_fill; trivial
  clear hfill
  obtain ⟨B, X, T, GL⟩ := C
  conv in (stAt lawBody _) => whnf
  (repeat' ((fail_if_success (first | (with_reducible show wpAny _ _ (exec (Stmt.While _ _ _ _) _) _ _ _) | (with_reducible show wpAny _ _ (exec (Stmt.For _ _ _ _ _) _) _ _ _) | (with_reducible show wpAny _ _ (pyIter _) _ _ _) | (with_reducible show LCg.CompSrc _ _ _ _ _ _ _ _ _ _ _ _ _ _) | (with_reducible show LCt.CompSrcT _ _ _ _ _ _ _ _ _ _ _ _ _ _ _) | (with_reducible show SrcLP _ _ _ _ _ _ _ _ _ _ _ _ _ _ _) | (with_reducible show DSrc _ _ _ _ _ _ _ _ _ _ _ _ _ _ _) | (with_reducible show Src2 _ _ _ _ _ _ _))); (first | (k_unfold; (try dsimp only)) | (k_unmd; k_unfold; (try dsimp only)) | (k_end; wrow_close) | walk1 | (dsimp only; walk1) | (leave1; (try dsimp only)))))
  rename_i z3 z2 z1
  exact h _ _ _ z2 z1
-- P8
theorem fb14_len : (forBody for14).length = 2 := by kernel_rfl
theorem fmod_toNat {i : Nat} {many : Int} {n : Nat} (h : (n : Int) = many) : (Int.fmod (i : Int) many).toNat = i % n := by
  subst h
  rw [Int.fmod_eq_emod_of_nonneg _ (Int.natCast_nonneg n)]
  rfl
/-- a deal of the law's -/
theorem p8_turn {w : World} {mean : ExcName → Option Value} {mg mb : Str → Option Value} {fa : Addr} {cd : Value} {h₀ : Heap} {m : Str → Option Value} {s : Shared} {Q : Flow → Shared → Prop} (C : LCtx w mean mg mb h₀) (F : Fr h₀ h₀.objs.size s.heap m) {nx cst : Led} {T : List DRow} {t : Str} {tt tn tat tm : Tok} {k : Int} {i : Nat} {many : Int} {o2 o7 : Obj} {A Od : Addr} {ov : List Value} {cO : Nat} {order : List Str}
  (N : News h₀ h₀.objs.size s.heap nx) (H : HoldT w nx A T) (hc : ∀ p ∈ cst, p ∈ nx ∧ p.1 ∉ A :: addrsT T) (hB : BoundT T i) (hks : ∀ x ∈ order, x ∈ T.map (·.1))
  (mt : m (Str.ofString "topic") = some (.str t tt)) (mn : m (Str.ofString "number") = some (.int k tn)) (mat : m (Str.ofString "at") = some (.int i tat)) (mo : m (Str.ofString "order") = some (.ref Od))
  (m2 : ((h₀.objs.size + 1 + 1), o2) ∈ cst) (d2 : o2.data = .cell (some (.int many tm))) (m7 : ((h₀.objs.size + 1 + 1 + 1 + 1 + 1 + 1 + 1), o7) ∈ cst) (d7 : o7.data = .cell (some (.ref A))) (mO : (Od, listOf ov.toArray cO) ∈ cst) (hov : StrsAre ov order) (hol : (order.length : Int) = many) (hmany : 1 ≤ many ∧ many ≤ 5) (hi : i ≤ 900)
  (h : ∀ T' nx' u h' tk', HoldT w nx' A T' → (∀ p ∈ cst, p ∈ nx' ∧ p.1 ∉ A :: addrsT T') → absT T' = giveTo (absT T) (nthOf order i) t k → BoundT T' (i + 1) →
    Fr h₀ h₀.objs.size h' (fun y => if y = Str.ofString "at" then some (.int ((i + 1 : Nat) : Int) u) else m y) → News h₀ h₀.objs.size h' nx' → Q .next { s with heap := h', toks := tk' }) :
  lawWs w h₀ fa cd (forBody for14) Q s := by
  have hl0 : 0 < order.length := by omega
  have hlt : i % order.length < order.length := Nat.mod_lt _ hl0
  have hnm : order[i % order.length]? = some (nthOf order i) := by
    rw [nthOf, List.getD_eq_getElem?_getD, List.getElem?_eq_getElem hlt]; rfl
  obtain ⟨P, S, a, ls, rfl⟩ := split_keys (hks _ (List.mem_of_getElem? hnm))
  obtain ⟨oA, hA, hdA⟩ := H.top
  obtain ⟨hbig, ⟨o, ho, hd⟩, hlst⟩ := H.row (nthOf order i, a, ls) (List.mem_append_right _ (.head _))
  have hvA : ∀ x, order[(Int.fmod (i : Int) many).toNat]? = some x → valueAt (topKv (P ++ (nthOf order i, a, ls) :: S)) x = some (.ref a) := fun x hx => by
    rw [fmod_toNat hol, hnm] at hx
    cases hx
    exact top_at H
  obtain ⟨hb1, hb2⟩ := hB (nthOf order i, a, ls) (List.mem_append_right _ (.head _))
  have hsa : (rowKv ls).length ≤ sizeLine := by
    rw [rowKv, List.length_map]
    exact Nat.le_trans hb1 (Nat.le_trans hi (by rw [sizeLine_eq]; exact Nat.le_of_ble_eq_true rfl))
  have hma : (a == sysModules) = false := not_modules hbig
  have haA : a ∈ A :: addrsT (P ++ (nthOf order i, a, ls) :: S) := .tail _ (mem_addrsT (List.mem_append_right _ (.head _)) (.head _))
  have hAa : A ≠ a := fun e => (List.nodup_cons.mp H.nod).1 (e ▸ mem_addrsT (List.mem_append_right _ (.head _)) (.head _))
  have hca : ∀ p ∈ cst, p.1 ≠ a := fun p hp e => (hc p hp).2 (e ▸ haA)
  refine execs_at (body := forBody for14) (k := 0) (by rw [fb14_len]; decide) ?_
  rcases row_cases hd t with ⟨p, q, l, ns, rfl, hvl⟩ | ⟨ht, hvl⟩
  · obtain ⟨us, n, hlm, hi2⟩ := hlst (t, l, ns) (List.mem_append_right _ (.head _))
    have hlA : l ∈ A :: addrsT (P ++ (nthOf order i, a, p ++ (t, l, ns) :: q) :: S) := .tail _ (mem_addrsT (List.mem_append_right _ (.head _)) (.tail _ (by rw [List.map_append]; exact List.mem_append_right _ (.head _))))
    have hAl : A ≠ l := fun e => (List.nodup_cons.mp H.nod).1 (e ▸ mem_addrsT (List.mem_append_right _ (.head _)) (.tail _ (by rw [List.map_append]; exact List.mem_append_right _ (.head _))))
    have hcl : ∀ p ∈ cst, p.1 ≠ l := fun p hp e => (hc p hp).2 (e ▸ hlA)
    have hal : a ≠ l := fun e => news_ne N ho hlm (by obtain ⟨_, _, _, e1, _⟩ := hd; rw [e1]; exact fun h => nomatch h) e
    have hul : us.length ≤ 1000 := by
      have h4 : us.length = ns.length := hi2.length
      have h3 : ns.length ≤ i := hb2 (t, l, ns) (List.mem_append_right _ (.head _))
      rw [h4]
      exact Nat.le_trans h3 (Nat.le_trans hi (Nat.le_of_ble_eq_true rfl))
    have hin : ∀ p ∈ nx, p.1 ≠ a → p.1 ≠ l → p ∈ nx.filter fun p => p.1 != a && p.1 != l := fun p hp h1 h2 => List.mem_filter.mpr ⟨hp, by simp [h1, h2]⟩
    refine p7_old (n := n) C F (news := nx.filter fun p => p.1 != a && p.1 != l) mt mn mat mo (hin _ (hc _ m2).1 (hca _ m2) (hcl _ m2)) d2 (hin _ (hc _ m7).1 (hca _ m7) (hcl _ m7)) d7 (hin _ (hc _ mO).1 (hca _ mO) (hcl _ mO)) hov hol hmany (by omega) (hin _ hA hAa hAl) hdA hvA hd hsa hma hvl hul
      (fun p hp => ?_) (fun p hp => ?_) hal ?_
    · rcases List.mem_cons.mp hp with rfl | hp
      · exact N _ ho
      · rcases List.mem_cons.mp hp with rfl | hp
        · exact N _ hlm
        · exact N _ (List.mem_filter.mp hp).1
    · have := (List.mem_filter.mp hp).2
      simp only [Bool.and_eq_true, bne_iff_ne] at this
      exact this.2
    intro h1 tk1 tn1 F1 N1
    have hs : ∀ p ∈ nx, p.1 ≠ l → p ∈ (a, o) :: (l, listOf (us ++ [Value.int k tn1]).toArray (n + 1)) :: nx.filter fun p => p.1 != a && p.1 != l := fun p hp h2 => by
      by_cases h3 : p.1 = a
      · have : p = (a, o) := by
          have e1 := (N p hp).1
          rw [h3, (N _ ho).1] at e1
          exact Prod.ext h3 (Option.some.inj e1).symm
        rw [this]; exact .head _
      · exact .tail _ (.tail _ (hin p hp h3 h2))
    obtain ⟨H', e'⟩ := give_old (k := k) (tk := tn1) H hi2 (.tail _ (.head _)) hs
    refine execs_at (body := forBody for14) (k := 1) (by rw [fb14_len]; decide) ?_
    refine p7_at C F1 N1 mat (by omega) ?_
    intro u h2 tk2 F2 N2
    refine execs_end (body := forBody for14) (by rw [fb14_len]; decide) ?_
    exact h _ _ u _ _ H' (fun p hp => ⟨hs p (hc p hp).1 (hcl p hp), fun e => (hc p hp).2 (by rw [addrsT_app, List.map_append] at e ⊢; exact e)⟩) e' (bound_old hB) F2 N2
  · have hin : ∀ p ∈ nx, p.1 ≠ a → p ∈ nx.filter fun p => p.1 != a := fun p hp h1 => front_in hp h1
    refine p7_new C F (news := nx.filter fun p => p.1 != a) mt mn mat mo (hin _ (hc _ m2).1 (hca _ m2)) d2 (hin _ (hc _ m7).1 (hca _ m7)) d7 (hin _ (hc _ mO).1 (hca _ mO)) hov hol hmany (by omega) (hin _ hA hAa) hdA hvA hd hsa hma hvl (news_front N ho) front_off ?_
    intro l o' tn1 h1 tk1 hd' hlt1 F1 N1
    have hlt2 : ∀ p ∈ nx, p.1 < l := fun p hp => by
      by_cases h3 : p.1 = a
      · rw [h3]; exact hlt1 _ (.head _)
      · exact hlt1 _ (.tail _ (hin p hp h3))
    have hf : l ∉ A :: addrsT (P ++ (nthOf order i, a, ls) :: S) := fun e => by
      obtain ⟨z, hz, e2⟩ := hold_in H _ e
      exact Nat.lt_irrefl _ (e2 ▸ hlt2 z hz)
    have hs : ∀ p ∈ nx, p.1 ≠ a → p ∈ (l, listOf [Value.int k tn1].toArray 1) :: (a, o') :: nx.filter fun p => p.1 != a := fun p hp h2 => .tail _ (.tail _ (hin p hp h2))
    obtain ⟨H', e'⟩ := give_top (k := k) (tk := tn1) H ht (.tail _ (.head _)) hd' (.head _) hf hs
    refine execs_at (body := forBody for14) (k := 1) (by rw [fb14_len]; decide) ?_
    refine p7_at C F1 N1 mat (by omega) ?_
    intro u h2 tk2 F2 N2
    refine execs_end (body := forBody for14) (by rw [fb14_len]; decide) ?_
    refine h _ _ u _ _ H' (fun p hp => ⟨hs p (hc p hp).1 (hca p hp), fun e => ?_⟩) e' (bound_top hB) F2 N2
    have hpl : p.1 ≠ l := Nat.ne_of_lt (hlt2 p (hc p hp).1)
    refine (hc p hp).2 ?_
    rw [addrsT_app, List.mem_cons, List.mem_append, List.mem_append] at e ⊢
    rw [List.map_append] at e
    rcases e with e | e | e | e
    · exact .inl e
    · exact .inr (.inl e)
    · refine .inr (.inr (.inl ?_))
      rcases List.mem_cons.mp e with e | e
      · rw [e]; exact .head _
      · rcases List.mem_append.mp e with e | e
        · exact .tail _ e
        · exact absurd (List.mem_singleton.mp e) hpl
    · exact .inr (.inr (.inr e))
-- P10
noncomputable def ifTest : Stmt → PySem.Expr | .If t _ _ _ => t | _ => .Name Str.empty pos0
noncomputable def ifPos : Stmt → Pos | .If _ _ _ p => p | _ => pos0
/-- what stands of the map while it is dealt -/
structure MapOk (m₀ m₁ : Str → Option Value) (i : Nat) : Prop where
  keep : ∀ y, y ≠ Str.ofString "number" → y ≠ Str.ofString "at" → y ≠ Str.ofString "topic" → m₁ y = m₀ y
  at_ : ∃ u, m₁ (Str.ofString "at") = some (.int (i : Int) u)
theorem give_keys : ∀ (D : List (Str × Rows1)) (nm t : Str) (n : Int), ∀ x ∈ D.map (·.1), x ∈ (giveTo D nm t n).map (·.1)
  | (u, g) :: r, nm, t, n, x, hx => by
    rw [giveTo]
    split
    · exact hx
    · rcases List.mem_cons.mp hx with rfl | hx
      · exact .head _
      · exact .tail _ (give_keys r nm t n x hx)
theorem deal_keys {order : List Str} {D₀ : List (Str × Rows1)} {x : Str} (h : x ∈ D₀.map (·.1)) (l : List (Str × Int)) : ∀ i, x ∈ (dealN order l D₀ i).map (·.1)
  | 0 => h
  | i + 1 => by
    rw [dealN]
    split
    · exact give_keys _ _ _ _ _ (deal_keys h l i)
    · exact deal_keys h l i
noncomputable def blk (done : List (Str × Int)) (t : Str) (ns : List Int) : List (Str × Int) := done ++ ns.map fun k => (t, k)
structure J14 (m : Str → Option Value) (order : List Str) (D₀ : List (Str × Rows1)) (done : List (Str × Int)) (t : Str) (tt : Tok) (ns : List Int) (j : Nat) (m₁ : Str → Option Value) (T : List DRow) : Prop where
  ab : absT T = dealL order D₀ (blk done t (ns.take j))
  bd : BoundT T (done.length + j)
  mp : MapOk m m₁ (done.length + j)
  tp : m₁ (Str.ofString "topic") = some (.str t tt)
/-- one topic's numbers -/
theorem p10_nums {w : World} {mean : ExcName → Option Value} {mg mb : Str → Option Value} {fa : Addr} {cd : Value} {h₀ : Heap} {m : Str → Option Value} {s : Shared} {Q : Flow → Shared → Prop} (C : LCtx w mean mg mb h₀) (F : Fr h₀ h₀.objs.size s.heap m) {nx cst : Led} {T : List DRow} {D₀ : List (Str × Rows1)} {done : List (Str × Int)} {t : Str} {tt : Tok} {a : Addr} {us : List Value} {n : Nat} {ms : List Int} {o2 o4 o7 od : Obj} {A Od d W : Addr} {ov ys : List Value} {cO nW : Nat} {order ss : List Str} {many : Int} {tm : Tok} {kvs : List (Str × Value)} {cl : List (Str × List Int)}
  (m2 : ((h₀.objs.size + 1 + 1), o2) ∈ cst) (d2 : o2.data = .cell (some (.int many tm))) (m4 : ((h₀.objs.size + 1 + 1 + 1 + 1), o4) ∈ cst) (d4 : o4.data = .cell (some (.ref d))) (md : (d, od) ∈ cst) (hkv : od.IsDictOf (PySem.strKind PR w) kvs) (hce : ClusE cst kvs cl) (hd1 : 1 < d)
  (m7 : ((h₀.objs.size + 1 + 1 + 1 + 1 + 1 + 1 + 1), o7) ∈ cst) (d7 : o7.data = .cell (some (.ref A))) (mO : (Od, listOf ov.toArray cO) ∈ cst) (hov : StrsAre ov order) (hol : (order.length : Int) = many) (hmany : 1 ≤ many ∧ many ≤ 5)
  (mW : (W, listOf ys.toArray nW) ∈ cst) (hys : StrsAre ys ss) (hsk : ∀ x ∈ ss, x ∈ WTOPS) (hck : ∀ x ∈ cl.map (·.1), x ∈ TOPS) (hks : ∀ x ∈ order, x ∈ D₀.map (·.1))
  (N : News h₀ h₀.objs.size s.heap nx) (H : HoldT w nx A T) (hc : ∀ p ∈ cst, p ∈ nx ∧ p.1 ∉ A :: addrsT T) (hB : BoundT T done.length) (hab : absT T = dealL order D₀ done)
  (mt : m (Str.ofString "topic") = some (.str t tt)) (mat : ∃ u, m (Str.ofString "at") = some (.int (done.length : Int) u)) (mo : m (Str.ofString "order") = some (.ref Od))
  (hvt : valueAt kvs t = some (.ref a)) (ma : (a, listOf us.toArray n) ∈ cst) (hms : IntsAre us ms) (hm6 : ms.length ≤ 6) (hdl : done.length ≤ 100)
  (h : ∀ (ns' : List Int) T' nx' m' h' tk', ns'.Perm ms → ns'.Pairwise (· ≤ ·) → HoldT w nx' A T' → (∀ p ∈ cst, p ∈ nx' ∧ p.1 ∉ A :: addrsT T') → BoundT T' (blk done t ns').length → absT T' = dealL order D₀ (blk done t ns') →
    MapOk m m' (blk done t ns').length → Fr h₀ h₀.objs.size h' m' → News h₀ h₀.objs.size h' nx' → Q .next { s with heap := h', toks := tk' }) :
  lawWp w h₀ fa cd for14 Q s := by
  have C' := C
  have hfill : (fun (_ : OpenLaw) (_ : Params → Frag) => True) PySem.Challenge.rw_je0014_01 hd.heap_1 := by k_fill; trivial
  clear hfill
  obtain ⟨B, X, T, GL⟩ := C
  refine for_at (x := Str.ofString "number") h₀ (by unfold IsFor; kernel_rfl) (by kernel_rfl) (by kernel_rfl) (by intro _; rfl) ?_
  have q4 := (hc _ m4).1
  have qd := (hc _ md).1
  have qa := (hc _ ma).1
  conv in (forIter _) => whnf
  (repeat' ((fail_if_success (first | (with_reducible show wpAny _ _ (exec (Stmt.While _ _ _ _) _) _ _ _) | (with_reducible show wpAny _ _ (exec (Stmt.For _ _ _ _ _) _) _ _ _) | (with_reducible show wpAny _ _ (pyIter _) _ _ _) | (with_reducible show wpAny _ _ (call (Value.builtin "sorted") _) _ _ _) | (with_reducible show LCg.CompSrc _ _ _ _ _ _ _ _ _ _ _ _ _ _) | (with_reducible show LCt.CompSrcT _ _ _ _ _ _ _ _ _ _ _ _ _ _ _) | (with_reducible show SrcLP _ _ _ _ _ _ _ _ _ _ _ _ _ _ _) | (with_reducible show DSrc _ _ _ _ _ _ _ _ _ _ _ _ _ _ _) | (with_reducible show Src2 _ _ _ _ _ _ _))); (first | (k_unfold; (try dsimp only)) | (k_unmd; k_unfold; (try dsimp only)) | (k_end; wrow_close) | (k_here; (with_reducible show wpAny _ _ (eval (PySem.Expr.Name _ _) _) _ _ _); k_dflt (refine' nameX_L ?jF ?jv ?_ ?ja ?jb; (case ja => rfl); (case jb => rfl); (case jF => k_asm); (case jv => with_reducible assumption))) | (k_here; (with_reducible show wpAny _ _ (subscriptTail _ _ (Value.ref _) (Value.str _ _)) _ _ _); k_dflt (refine' kda_item (knd := PySem.strKind _ _) ?jN ?jm ?jd (strKind_is _ _ _ _) ?jv ?_; (case jN => k_asm); (case jm => k_mem); (case jd => with_reducible assumption); (case jv => with_reducible assumption))) | walk1 | (dsimp only; walk1) | (leave1; (try dsimp only)))))
  rename_i T9
  have hul : us.length = ms.length := hms.length
  refine sorted_N F N ⟨_, N.get qa, rfl, n, rfl⟩ hms (by omega) ?_
  intro h1 vs1 ns1 e1 F1 N1 hi1 hp1 hs1
  have hlt : ∀ p ∈ nx, p.1 < s.heap.objs.size + 1 := fun p hp => Nat.lt_succ_of_lt (Heap.lt_size (N p hp).1)
  clear F N
  dsimp only at N1
  have hnl : ns1.length ≤ 6 := by rw [hp1.length_eq]; exact hm6
  have hv1 : vs1.length = ns1.length := hi1.length
  have hf : s.heap.objs.size + 1 ∉ A :: addrsT T9 := fun e => by
    obtain ⟨z, hz, e2⟩ := hold_in H _ e
    exact Nat.lt_irrefl _ (e2 ▸ hlt z hz)
  generalize s.heap.objs.size + 1 = B9 at N1 hlt hf
  refine for_D (cst := (B9, listOf vs1.toArray e1) :: cst) (T₀ := T9) (J14 m order D₀ done t tt ns1) rfl (.head _) F1 N1 (H.mono fun p hp => .tail _ hp) (List.forall_mem_cons.mpr ⟨⟨.head _, hf⟩, fun p hp => ⟨.tail _ (hc p hp).1, (hc p hp).2⟩⟩)
    ⟨by rw [hab, List.take_zero, blk, List.map_nil, List.append_nil], hB, ⟨fun _ _ _ _ => rfl, mat⟩, mt⟩ ?_ ?_
  · intro j v m1 T1 nx1 h2 tk2 cst2 hv hcs J H1 hc1 F2 N2
    obtain ⟨hab1, hB1, ⟨hkeep, u, hat⟩, htp⟩ := J
    obtain ⟨tk9, rfl⟩ := hi1.int_at j v hv
    have hj : j < ns1.length := by have := (List.getElem?_eq_some_iff.mp hv).1; omega
    have hk : ns1[j]? = some (ns1.getD j 0) := by rw [List.getD_eq_getElem?_getD, List.getElem?_eq_getElem hj]; rfl
    generalize ns1.getD j 0 = kk at hk F2
    have hlen : (blk done t (ns1.take j)).length = done.length + j := by rw [blk, List.length_append, List.length_map, List.length_take, Nat.min_eq_left (Nat.le_of_lt hj)]
    have hks1 : ∀ x ∈ order, x ∈ T1.map (·.1) := fun x hx => by
      rw [← absT_keys, hab1]
      exact deal_keys (hks x hx) _ _
    clear F1 N1 h
    refine p8_turn C' F2 N2 H1 hc1 hB1 hks1 (t := t) (k := kk) htp rfl hat ((hkeep _ (by decide) (by decide) (by decide)).trans mo) (hcs _ (.tail _ m2)) d2 (hcs _ (.tail _ m7)) d7 (hcs _ (.tail _ mO)) hov hol hmany (by omega) ?_
    intro T2 nx2 u2 h3 tk3 H2 hc2 hab2 hB2 F3 N3
    refine DEnd.mk F3 N3 H2 hc2 ⟨?_, hB2, ⟨fun y h1 h2 h3 => ?_, u2, rfl⟩, htp⟩
    · rw [hab2, hab1, ← hlen, ← deal_snoc, blk, blk, List.append_assoc, List.take_add_one, hk, List.map_append]
      rfl
    · rw [if_neg h2, if_neg h1]
      exact hkeep y h1 h2 h3
  · intro m1 T1 nx1 h2 tk2 J H1 hc1 F2 N2
    obtain ⟨hab1, hB1, hmp, htp⟩ := J
    have hlen : done.length + vs1.length = (blk done t ns1).length := by rw [blk, List.length_append, List.length_map, hv1]
    rw [hv1, List.take_length] at hab1
    rw [hlen] at hB1 hmp
    exact h ns1 T1 nx1 m1 h2 tk2 hp1 hs1 H1 (fun p hp => hc1 p (.tail _ hp)) hB1 hab1 hmp F2 N2
open Classical in
theorem in_strs {prog : Program} {w : World} {A : Around} {E : Value → Shared → Prop} {s : Shared} {h₀ : Heap} {L W : Addr} {news : Led} {ys : List Value} {ss : List Str} {n : Nat} {t : Str} {tk : Tok} {b : Bool} {Q : Value → Shared → Prop} (N : News h₀ L s.heap news) (hm : (W, listOf ys.toArray n) ∈ news) (hys : StrsAre ys ss)
    (hok : ∀ x ∈ ss, PyData.strOk x = true) (ht : PyData.strOk t = true) (hu : A.units + 64 < cLine) (hb : b = true ↔ t ∈ ss) (h : Q (.bool b) s) : wpAny (model prog w) A (compareOp .In (.str t tk) (.ref W)) Q E s := by
  refine kqd_isIn (n₂ := []) (d := .str t) N hm rfl rfl (strs_dat hys) (fun _ h => nomatch h) (.str t tk) (fun _ h => nomatch h) (fun e he => ?_) ?_ hu ?_
  · obtain ⟨x, hx, rfl⟩ := List.mem_map.mp he
    simpa [kqdOk] using hok x hx
  · simpa [kqdOk] using ht
  · have e : decide (Dat.str t ∈ ss.map Dat.str) = b := by
      by_cases hq : t ∈ ss
      · rw [hb.mpr hq]
        exact decide_eq_true (List.mem_map_of_mem hq)
      · have e2 : b = false := by
          cases b with
          | true => exact absurd (hb.mp rfl) hq
          | false => rfl
        rw [e2]
        refine decide_eq_false fun q => hq ?_
        obtain ⟨x, hx, e⟩ := List.mem_map.mp q
        cases e
        exact hx
    rw [e]; exact h
theorem strOk_w : ∀ x ∈ WTOPS, PyData.strOk x = true := by decide +kernel
theorem strOk_t : ∀ x ∈ TOPS, PyData.strOk x = true := by decide +kernel
theorem ifb_len : (ifBody st14).length = 1 := by kernel_rfl
/-- one topic -/
theorem p10_row {w : World} {mean : ExcName → Option Value} {mg mb : Str → Option Value} {fa : Addr} {cd : Value} {h₀ : Heap} {m : Str → Option Value} {s : Shared} {Q : Flow → Shared → Prop} (C : LCtx w mean mg mb h₀) (F : Fr h₀ h₀.objs.size s.heap m) {nx cst : Led} {T : List DRow} {D₀ : List (Str × Rows1)} {done : List (Str × Int)} {t : Str} {tt : Tok} {a : Addr} {us : List Value} {n : Nat} {ms : List Int} {o2 o4 o7 od : Obj} {A Od d W : Addr} {ov ys : List Value} {cO nW : Nat} {order ss : List Str} {many : Int} {tm : Tok} {kvs : List (Str × Value)} {cl : List (Str × List Int)}
  (m2 : ((h₀.objs.size + 1 + 1), o2) ∈ cst) (d2 : o2.data = .cell (some (.int many tm))) (m4 : ((h₀.objs.size + 1 + 1 + 1 + 1), o4) ∈ cst) (d4 : o4.data = .cell (some (.ref d))) (md : (d, od) ∈ cst) (hkv : od.IsDictOf (PySem.strKind PR w) kvs) (hce : ClusE cst kvs cl) (hd1 : 1 < d)
  (m7 : ((h₀.objs.size + 1 + 1 + 1 + 1 + 1 + 1 + 1), o7) ∈ cst) (d7 : o7.data = .cell (some (.ref A))) (mO : (Od, listOf ov.toArray cO) ∈ cst) (hov : StrsAre ov order) (hol : (order.length : Int) = many) (hmany : 1 ≤ many ∧ many ≤ 5)
  (mW : (W, listOf ys.toArray nW) ∈ cst) (hys : StrsAre ys ss) (hsk : ∀ x ∈ ss, x ∈ WTOPS) (hck : ∀ x ∈ cl.map (·.1), x ∈ TOPS) (hks : ∀ x ∈ order, x ∈ D₀.map (·.1))
  (N : News h₀ h₀.objs.size s.heap nx) (H : HoldT w nx A T) (hc : ∀ p ∈ cst, p ∈ nx ∧ p.1 ∉ A :: addrsT T) (hB : BoundT T done.length) (hab : absT T = dealL order D₀ done)
  (mt : m (Str.ofString "topic") = some (.str t tt)) (mat : ∃ u, m (Str.ofString "at") = some (.int (done.length : Int) u)) (mo : m (Str.ofString "order") = some (.ref Od)) (mw : m (Str.ofString "wanted") = some (.ref W))
  (hvt : valueAt kvs t = some (.ref a)) (ma : (a, listOf us.toArray n) ∈ cst) (hms : IntsAre us ms) (hm6 : ms.length ≤ 6) (hdl : done.length ≤ 100) (htT : t ∈ TOPS)
  (h : ∀ done' T' nx' m' h' tk', ((t ∉ ss ∧ done' = done) ∨ (t ∈ ss ∧ ∃ ns', ns'.Perm ms ∧ ns'.Pairwise (· ≤ ·) ∧ done' = blk done t ns')) → HoldT w nx' A T' → (∀ p ∈ cst, p ∈ nx' ∧ p.1 ∉ A :: addrsT T') → BoundT T' done'.length → absT T' = dealL order D₀ done' →
    MapOk m m' done'.length → Fr h₀ h₀.objs.size h' m' → News h₀ h₀.objs.size h' nx' → Q .next { s with heap := h', toks := tk' }) :
  lawWp w h₀ fa cd st14 Q s := by
  have C' := C
  have hfill : (fun (_ : OpenLaw) (_ : Params → Frag) => True) PySem.Challenge.rw_je0014_01 hd.heap_1 := by k_fill; trivial
  clear hfill
  obtain ⟨B, X, T, GL⟩ := C
  have qW := (hc _ mW).1
  have hok1 : ∀ x ∈ ss, PyData.strOk x = true := fun x hx => strOk_w x (hsk x hx)
  have hok2 := strOk_t t htT
  have e14 : st14 = .If (ifTest st14) (ifBody st14) [] (ifPos st14) := by kernel_rfl
  by_cases hts : t ∈ ss
  · have hb : (true = true) ↔ t ∈ ss := ⟨fun _ => hts, fun _ => rfl⟩
    rw [lawWp, e14]
    refine wpAny_If ?_
    conv in (ifTest _) => whnf
    (repeat' ((fail_if_success (first | (with_reducible show wpAny _ _ (exec (Stmt.While _ _ _ _) _) _ _ _) | (with_reducible show wpAny _ _ (exec (Stmt.For _ _ _ _ _) _) _ _ _) | (with_reducible show wpAny _ _ (pyIter _) _ _ _) | (with_reducible show wpAny _ _ (execs _ _) _ _ _) | (with_reducible show LCg.CompSrc _ _ _ _ _ _ _ _ _ _ _ _ _ _) | (with_reducible show LCt.CompSrcT _ _ _ _ _ _ _ _ _ _ _ _ _ _ _) | (with_reducible show SrcLP _ _ _ _ _ _ _ _ _ _ _ _ _ _ _) | (with_reducible show DSrc _ _ _ _ _ _ _ _ _ _ _ _ _ _ _) | (with_reducible show Src2 _ _ _ _ _ _ _))); (first | (k_unfold; (try dsimp only)) | (k_unmd; k_unfold; (try dsimp only)) | (k_end; wrow_close) | (k_here; (with_reducible show wpAny _ _ (eval (PySem.Expr.Name _ _) _) _ _ _); k_dflt (refine' nameX_L ?jF ?jv ?_ ?ja ?jb; (case ja => rfl); (case jb => rfl); (case jF => k_asm); (case jv => with_reducible assumption))) | (k_here; (with_reducible show wpAny _ _ (compareOp CmpOp.In (Value.str _ _) (Value.ref _)) _ _ _); k_dflt (refine' in_strs ?jN ?jm ?jS ?jo ?jt ?ju ?jb ?_; (case jN => k_asm); (case jm => k_mem); (case jS => with_reducible assumption); (case jo => with_reducible assumption); (case jt => with_reducible assumption); (case ju => ktr_units); (case jb => with_reducible assumption))) | walk1 | (dsimp only; walk1) | (leave1; (try dsimp only)))))
    refine execs_at (body := ifBody st14) (k := 0) (by rw [ifb_len]; decide) ?_
    refine p10_nums (D₀ := D₀) (done := done) (t := t) (a := a) (us := us) (n := n) (ms := ms) C' F m2 d2 m4 d4 md hkv hce hd1 m7 d7 mO hov hol hmany mW hys hsk hck hks N H hc hB hab mt mat mo hvt ma hms hm6 hdl ?_
    intro ns1 T1 nx1 m1 h1 tk1 hp1 hs1 H1 hc1 hB1 hab1 hmp F1 N1
    exact execs_end (body := ifBody st14) (by rw [ifb_len]; decide) (h _ T1 nx1 m1 _ _ (.inr ⟨hts, ns1, hp1, hs1, rfl⟩) H1 hc1 hB1 hab1 hmp F1 N1)
  · have hb : (false = true) ↔ t ∈ ss := ⟨fun e => Bool.noConfusion e, fun e => absurd e hts⟩
    rw [lawWp, e14]
    refine wpAny_If ?_
    conv in (ifTest _) => whnf
    (repeat' ((fail_if_success (first | (with_reducible show wpAny _ _ (exec (Stmt.While _ _ _ _) _) _ _ _) | (with_reducible show wpAny _ _ (exec (Stmt.For _ _ _ _ _) _) _ _ _) | (with_reducible show wpAny _ _ (pyIter _) _ _ _) | (with_reducible show wpAny _ _ (execs _ _) _ _ _) | (with_reducible show LCg.CompSrc _ _ _ _ _ _ _ _ _ _ _ _ _ _) | (with_reducible show LCt.CompSrcT _ _ _ _ _ _ _ _ _ _ _ _ _ _ _) | (with_reducible show SrcLP _ _ _ _ _ _ _ _ _ _ _ _ _ _ _) | (with_reducible show DSrc _ _ _ _ _ _ _ _ _ _ _ _ _ _ _) | (with_reducible show Src2 _ _ _ _ _ _ _))); (first | (k_unfold; (try dsimp only)) | (k_unmd; k_unfold; (try dsimp only)) | (k_end; wrow_close) | (k_here; (with_reducible show wpAny _ _ (eval (PySem.Expr.Name _ _) _) _ _ _); k_dflt (refine' nameX_L ?jF ?jv ?_ ?ja ?jb; (case ja => rfl); (case jb => rfl); (case jF => k_asm); (case jv => with_reducible assumption))) | (k_here; (with_reducible show wpAny _ _ (compareOp CmpOp.In (Value.str _ _) (Value.ref _)) _ _ _); k_dflt (refine' in_strs ?jN ?jm ?jS ?jo ?jt ?ju ?jb ?_; (case jN => k_asm); (case jm => k_mem); (case jS => with_reducible assumption); (case jo => with_reducible assumption); (case jt => with_reducible assumption); (case ju => ktr_units); (case jb => with_reducible assumption))) | walk1 | (dsimp only; walk1) | (leave1; (try dsimp only)))))
    refine wpAny_execs_nil ?_
    exact h done _ nx m _ _ (.inl ⟨hts, rfl⟩) H hc hB hab ⟨fun _ _ _ _ => rfl, mat⟩ F N
-- P11
structure J15 (m : Str → Option Value) (cl : List (Str × List Int)) (ss order : List Str) (D₀ : List (Str × Rows1)) (ks : List Str) (j : Nat) (m₁ : Str → Option Value) (T : List DRow) : Prop where
  ex : ∃ done, Blocks cl ss (ks.take j) done ∧ absT T = dealL order D₀ done ∧ BoundT T done.length ∧ MapOk m m₁ done.length ∧ done.length ≤ 6 * j
theorem clus_find {tl : Led} {kvs : List (Str × Value)} {cl : List (Str × List Int)} (h : ClusE tl kvs cl) (hn : (kvs.map (·.1)).Nodup) {t : Str} (ht : t ∈ kvs.map (·.1)) : ∃ a n vs ns, valueAt kvs t = some (.ref a) ∧ (a, listOf vs.toArray n) ∈ tl ∧ IntsAre vs ns ∧ ns.length ≤ 6 ∧ (t, ns) ∈ cl := by
  obtain ⟨p, hp, rfl⟩ := List.mem_map.mp ht
  obtain ⟨i, hi, e⟩ := List.mem_iff_getElem.mp hp
  have hk : kvs[i]? = some (p.1, p.2) := by rw [List.getElem?_eq_getElem hi, e]
  obtain ⟨a, n, vs, ns, e1, hm, hints, hl6, hc⟩ := h.item i _ _ hk
  exact ⟨a, n, vs, ns, by rw [← e1]; exact valueAt_of_get hn hk, hm, hints, hl6, List.mem_of_getElem? hc⟩
theorem fb14o_len : (forBody (stAt lawBody 14)).length = 1 := by kernel_rfl
/-- all is dealt -/
theorem p14 {w : World} {mean : ExcName → Option Value} {mg mb : Str → Option Value} {fa : Addr} {cd : Value} {h₀ : Heap} {m : Str → Option Value} {s : Shared} {Q : Flow → Shared → Prop} (C : LCtx w mean mg mb h₀) (F : Fr h₀ h₀.objs.size s.heap m) {nx cst : Led} {T : List DRow} {D₀ : List (Str × Rows1)} {o2 o4 o7 od : Obj} {A Od d W : Addr} {ov ys : List Value} {cO nW : Nat} {order ss : List Str} {many : Int} {tm : Tok} {kvs : List (Str × Value)} {cl : List (Str × List Int)}
  (m2 : ((h₀.objs.size + 1 + 1), o2) ∈ cst) (d2 : o2.data = .cell (some (.int many tm))) (m4 : ((h₀.objs.size + 1 + 1 + 1 + 1), o4) ∈ cst) (d4 : o4.data = .cell (some (.ref d))) (md : (d, od) ∈ cst) (hkv : od.IsDictOf (PySem.strKind PR w) kvs) (hce : ClusE cst kvs cl) (hd1 : 1 < d)
  (m7 : ((h₀.objs.size + 1 + 1 + 1 + 1 + 1 + 1 + 1), o7) ∈ cst) (d7 : o7.data = .cell (some (.ref A))) (mO : (Od, listOf ov.toArray cO) ∈ cst) (hov : StrsAre ov order) (hol : (order.length : Int) = many) (hmany : 1 ≤ many ∧ many ≤ 5)
  (mW : (W, listOf ys.toArray nW) ∈ cst) (hys : StrsAre ys ss) (hsk : ∀ x ∈ ss, x ∈ WTOPS) (hck : ∀ x ∈ cl.map (·.1), x ∈ TOPS) (hks : ∀ x ∈ order, x ∈ D₀.map (·.1))
  (N : News h₀ h₀.objs.size s.heap nx) (H : HoldT w nx A T) (hc : ∀ p ∈ cst, p ∈ nx ∧ p.1 ∉ A :: addrsT T) (hB : BoundT T 0) (hab : absT T = D₀) (hc4 : cl.length ≤ 4)
  (mat : ∃ u, m (Str.ofString "at") = some (.int ((0 : Nat) : Int) u)) (mo : m (Str.ofString "order") = some (.ref Od)) (mw : m (Str.ofString "wanted") = some (.ref W))
  (h : ∀ seq T' nx' m' h' tk', SeqOf cl ss seq → HoldT w nx' A T' → (∀ p ∈ cst, p ∈ nx' ∧ p.1 ∉ A :: addrsT T') → absT T' = dealL order D₀ seq → BoundT T' seq.length → seq.length ≤ 24 → MapOk m m' seq.length → Fr h₀ h₀.objs.size h' m' → News h₀ h₀.objs.size h' nx' → Q .next { s with heap := h', toks := tk' }) :
  lawWp w h₀ fa cd (stAt lawBody 14) Q s := by
  have C' := C
  have hfill : (fun (_ : OpenLaw) (_ : Params → Frag) => True) PySem.Challenge.rw_je0014_01 hd.heap_1 := by k_fill; trivial
  clear hfill
  obtain ⟨B, X, T, GL⟩ := C
  rename_i T9
  refine for_at (x := Str.ofString "topic") h₀ (by unfold IsFor; kernel_rfl) (by kernel_rfl) (by kernel_rfl) (by intro _; rfl) ?_
  have q4 := (hc _ m4).1
  have qd := (hc _ md).1
  have hkn := dict_nodup hkv
  have hkl : kvs.length = cl.length := hce.length
  have hkk : kvs.map (·.1) = cl.map (·.1) := hce.keys
  conv in (forIter _) => whnf
  (repeat' ((fail_if_success (first | (with_reducible show wpAny _ _ (exec (Stmt.While _ _ _ _) _) _ _ _) | (with_reducible show wpAny _ _ (exec (Stmt.For _ _ _ _ _) _) _ _ _) | (with_reducible show wpAny _ _ (pyIter _) _ _ _) | (with_reducible show wpAny _ _ (call (Value.builtin "sorted") _) _ _ _) | (with_reducible show LCg.CompSrc _ _ _ _ _ _ _ _ _ _ _ _ _ _) | (with_reducible show LCt.CompSrcT _ _ _ _ _ _ _ _ _ _ _ _ _ _ _) | (with_reducible show SrcLP _ _ _ _ _ _ _ _ _ _ _ _ _ _ _) | (with_reducible show DSrc _ _ _ _ _ _ _ _ _ _ _ _ _ _ _) | (with_reducible show Src2 _ _ _ _ _ _ _))); (first | (k_unfold; (try dsimp only)) | (k_unmd; k_unfold; (try dsimp only)) | (k_end; wrow_close) | (k_here; (with_reducible show wpAny _ _ (eval (PySem.Expr.Name _ _) _) _ _ _); k_dflt (refine' nameX_L ?jF ?jv ?_ ?ja ?jb; (case ja => rfl); (case jb => rfl); (case jF => k_asm); (case jv => with_reducible assumption))) | walk1 | (dsimp only; walk1) | (leave1; (try dsimp only)))))
  refine sorted_dict rfl F N qd hkv (not_modules hd1) (by omega) ?_
  intro B9 ws ks c9 h1 tk1 hws hkp hks1 F1 N1 hlt
  clear F N
  have hkl2 : ks.length ≤ 4 := by rw [hkp.length_eq, List.length_map]; omega
  have hwl := hws.length
  have hf : B9 ∉ A :: addrsT T9 := fun e => by
    obtain ⟨z, hz, e2⟩ := hold_in H _ e
    exact Nat.lt_irrefl _ (e2 ▸ hlt z hz)
  refine for_D (cst := (B9, listOf ws.toArray c9) :: cst) (T₀ := T9) (J15 m cl ss order D₀ ks) rfl (.head _) F1 N1 (H.mono fun p hp => .tail _ hp) (List.forall_mem_cons.mpr ⟨⟨.head _, hf⟩, fun p hp => ⟨.tail _ (hc p hp).1, (hc p hp).2⟩⟩)
    ⟨[], by rw [List.take_zero]; exact .nil, hab, hB, ⟨fun _ _ _ _ => rfl, mat⟩, Nat.zero_le _⟩ ?_ ?_
  · intro j v m1 T1 nx1 h2 tk2 cst2 hv hcs J H1 hc1 F2 N2
    obtain ⟨done, hbl, hab1, hB1, ⟨hkeep, hat⟩, hdl⟩ := J
    obtain ⟨t, tt, rfl, ht⟩ := hws.item j v hv
    have hj : j < ks.length := (List.getElem?_eq_some_iff.mp ht).1
    have htk : t ∈ kvs.map (·.1) := hkp.mem_iff.mp (List.mem_of_getElem? ht)
    obtain ⟨a, n, us, ms, hvt, ma, hms, hm6, hcm⟩ := clus_find hce hkn htk
    have hcs2 : ∀ p ∈ cst, p ∈ cst2 := fun p hp => hcs p (.tail _ hp)
    have htks : ks.take (j + 1) = ks.take j ++ [t] := by rw [List.take_add_one, ht]; rfl
    clear F1 N1 h
    refine execs_at (body := forBody (stAt lawBody 14)) (k := 0) (by rw [fb14o_len]; decide) ?_
    refine p10_row (cst := cst2) (D₀ := D₀) (done := done) (kvs := kvs) (cl := cl) C' F2 (hcs2 _ m2) d2 (hcs2 _ m4) d4 (hcs2 _ md) hkv (hce.mono hcs2) hd1 (hcs2 _ m7) d7 (hcs2 _ mO) hov hol hmany (hcs2 _ mW) hys hsk hck hks N2 H1 hc1 hB1 hab1 rfl ?_ ?_ ?_ hvt (hcs2 _ ma) hms hm6 (by omega) (hck _ (hkk ▸ htk)) ?_
    · obtain ⟨u, hu⟩ := hat
      exact ⟨u, hu⟩
    · exact (hkeep _ (by decide) (by decide) (by decide)).trans mo
    · exact (hkeep _ (by decide) (by decide) (by decide)).trans mw
    intro done2 T2 nx2 m2' h3 tk3 hd2 H2 hc2 hB2 hab2 hmp F3 N3
    refine execs_end (body := forBody (stAt lawBody 14)) (by rw [fb14o_len]; decide) ?_
    refine DEnd.mk F3 N3 H2 hc2 ⟨done2, ?_, hab2, hB2, ⟨fun y h1 h2 h3 => (hmp.keep y h1 h2 h3).trans ?_, hmp.at_⟩, ?_⟩
    · rw [htks]
      rcases hd2 with ⟨q, rfl⟩ | ⟨q, ns, hp, hs, rfl⟩
      · exact .skip hbl q
      · exact .take hbl q hcm hp hs
    · rw [if_neg h3]
      exact hkeep y h1 h2 h3
    · rcases hd2 with ⟨q, rfl⟩ | ⟨q, ns, hp, hs, rfl⟩
      · omega
      · rw [blk, List.length_append, List.length_map, hp.length_eq]; omega
  · intro m1 T1 nx1 h2 tk2 J H1 hc1 F2 N2
    obtain ⟨done, hbl, hab1, hB1, hmp, hdl⟩ := J
    rw [hwl, List.take_length] at hbl
    exact h done T1 nx1 m1 h2 tk2 (blocks_seq (hkk ▸ hkn) (hkk ▸ hkp) hks1 hbl) H1 (fun p hp => hc1 p (.tail _ hp)) hab1 hB1 (by omega) hmp F2 N2
-- P12
open Classical in
theorem ne_dats {prog : Program} {w : World} {A : Around} {E : Value → Shared → Prop} {s : Shared} {h₀ : Heap} {L a b : Addr} {news n₁ n₂ : Led} {xs ys : List Value} {i j : Nat} {ds : List Dat} {Q : Value → Shared → Prop} (N : News h₀ L s.heap news) (ma : (a, listOf xs.toArray i) ∈ news) (mb : (b, listOf ys.toArray j) ∈ news)
    (Da : DatAll n₁ xs ds) (sa : ∀ p ∈ n₁, p ∈ news) (Db : DatAll n₂ ys ds) (sb : ∀ p ∈ n₂, p ∈ news) (hok : ∀ d ∈ ds, kqdOk 8 d = true) (hu : A.units + 64 < cLine) (h : Q (.bool false) s) : wpAny (model prog w) A (compareOp .NotEq (.ref a) (.ref b)) Q E s := by
  refine kqd_ne N ma rfl rfl Da sa mb rfl rfl Db sb hok hok hu ?_
  rw [decide_eq_true rfl]
  exact h
theorem strOk_n : ∀ x ∈ NAMES, PyData.strOk x = true := by decide +kernel
theorem ok_strs {ss : List Str} (h : ∀ x ∈ ss, PyData.strOk x = true) : ∀ d ∈ ss.map Dat.str, kqdOk 8 d = true := fun d hd => by
  obtain ⟨x, hx, rfl⟩ := List.mem_map.mp hd
  simpa [kqdOk] using h x hx
/-- the names told -/
theorem p15 {w : World} {mean : ExcName → Option Value} {mg mb : Str → Option Value} {fa : Addr} {cd : Value} {h₀ : Heap} {m : Str → Option Value} {s : Shared} {Q : Flow → Shared → Prop} (C : LCtx w mean mg mb h₀) (F : Fr h₀ h₀.objs.size s.heap m) {news : Led} {o3 oR : Obj} {R nm : Addr} {nv : List Value} {nms : List Str} {kvs : List (Str × Value)} (N : News h₀ h₀.objs.size s.heap news)
  (m3 : ((h₀.objs.size + 1 + 1 + 1), o3) ∈ news) (d3 : o3.data = .cell (some (.ref nm))) (mn : (nm, listOf nv.toArray 0) ∈ news) (hnv : StrsAre nv nms) (hnl : nms.length ≤ 5) (hnm : ∀ x ∈ nms, x ∈ NAMES)
  (mR : (R, oR) ∈ news) (hR : oR.IsDictOf (PySem.strKind PR w) kvs) (hkk : kvs.map (·.1) = nms) (hR1 : 1 < R) (mt : m (Str.ofString "told") = some (.ref R))
  (h : ∀ tl h' tk', (∀ p ∈ news, p ∈ tl) → Fr h₀ h₀.objs.size h' m → News h₀ h₀.objs.size h' tl → Q .next { s with heap := h', toks := tk' }) :
  lawWp w h₀ fa cd (stAt lawBody 15) Q s := by
  have hfill : (fun (_ : OpenLaw) (_ : Params → Frag) => True) PySem.Challenge.rw_je0014_01 hd.heap_1 := by k_fill; trivial
  clear hfill
  obtain ⟨B, X, T, GL⟩ := C
  have hkl : kvs.length = nms.length := by rw [← hkk, List.length_map]
  have hnvl := hnv.length
  conv in (stAt lawBody _) => whnf
  (repeat' ((fail_if_success (first | (with_reducible show wpAny _ _ (exec (Stmt.While _ _ _ _) _) _ _ _) | (with_reducible show wpAny _ _ (exec (Stmt.For _ _ _ _ _) _) _ _ _) | (with_reducible show wpAny _ _ (pyIter _) _ _ _) | (with_reducible show wpAny _ _ (call (Value.builtin "sorted") _) _ _ _) | (with_reducible show LCg.CompSrc _ _ _ _ _ _ _ _ _ _ _ _ _ _) | (with_reducible show LCt.CompSrcT _ _ _ _ _ _ _ _ _ _ _ _ _ _ _) | (with_reducible show SrcLP _ _ _ _ _ _ _ _ _ _ _ _ _ _ _) | (with_reducible show DSrc _ _ _ _ _ _ _ _ _ _ _ _ _ _ _) | (with_reducible show Src2 _ _ _ _ _ _ _))); (first | (k_unfold; (try dsimp only)) | (k_unmd; k_unfold; (try dsimp only)) | (k_end; wrow_close) | (k_here; (with_reducible show wpAny _ _ (eval (PySem.Expr.Name _ _) _) _ _ _); k_dflt (refine' nameX_L ?jF ?jv ?_ ?ja ?jb; (case ja => rfl); (case jb => rfl); (case jF => k_asm); (case jv => with_reducible assumption))) | walk1 | (dsimp only; walk1) | (leave1; (try dsimp only)))))
  refine sorted_dict rfl F N mR hR (not_modules hR1) (by omega) ?_
  intro D1 ws1 ss1 c1 h1 tk1 hs1 hp1 ho1 F1 N1 l1
  clear F N
  try dsimp only
  (repeat' ((fail_if_success (first | (with_reducible show wpAny _ _ (exec (Stmt.While _ _ _ _) _) _ _ _) | (with_reducible show wpAny _ _ (exec (Stmt.For _ _ _ _ _) _) _ _ _) | (with_reducible show wpAny _ _ (pyIter _) _ _ _) | (with_reducible show wpAny _ _ (call (Value.builtin "sorted") _) _ _ _) | (with_reducible show LCg.CompSrc _ _ _ _ _ _ _ _ _ _ _ _ _ _) | (with_reducible show LCt.CompSrcT _ _ _ _ _ _ _ _ _ _ _ _ _ _ _) | (with_reducible show SrcLP _ _ _ _ _ _ _ _ _ _ _ _ _ _ _) | (with_reducible show DSrc _ _ _ _ _ _ _ _ _ _ _ _ _ _ _) | (with_reducible show Src2 _ _ _ _ _ _ _))); (first | (k_unfold; (try dsimp only)) | (k_unmd; k_unfold; (try dsimp only)) | (k_end; wrow_close) | (k_here; (with_reducible show wpAny _ _ (eval (PySem.Expr.Name _ _) _) _ _ _); k_dflt (refine' nameX_L ?jF ?jv ?_ ?ja ?jb; (case ja => rfl); (case jb => rfl); (case jF => k_asm); (case jv => with_reducible assumption))) | walk1 | (dsimp only; walk1) | (leave1; (try dsimp only)))))
  refine sorted_N_str F1 N1 ⟨_, N1.get (.tail _ mn), rfl, 0, rfl⟩ hnv (by omega) ?_
  intro h2 ws2 ss2 c2 F2 N2 hs2 hp2 ho2
  have hdt1 := strs_dat hs1
  have e12 : ss2 = ss1 := srt_unique keyS_inj (hp2.trans (hkk ▸ hp1.symm)) (srt_of_sortedS ho2) ho1
  subst e12
  have hdt2 := strs_dat hs2
  have hok := ok_strs fun x hx => strOk_n x (hnm x (hp2.mem_iff.mp hx))
  clear F1 N1
  dsimp only at N2
  try dsimp only
  (repeat' ((fail_if_success (first | (with_reducible show wpAny _ _ (exec (Stmt.While _ _ _ _) _) _ _ _) | (with_reducible show wpAny _ _ (exec (Stmt.For _ _ _ _ _) _) _ _ _) | (with_reducible show wpAny _ _ (pyIter _) _ _ _) | (with_reducible show LCg.CompSrc _ _ _ _ _ _ _ _ _ _ _ _ _ _) | (with_reducible show LCt.CompSrcT _ _ _ _ _ _ _ _ _ _ _ _ _ _ _) | (with_reducible show SrcLP _ _ _ _ _ _ _ _ _ _ _ _ _ _ _) | (with_reducible show DSrc _ _ _ _ _ _ _ _ _ _ _ _ _ _ _) | (with_reducible show Src2 _ _ _ _ _ _ _))); (first | (k_unfold; (try dsimp only)) | (k_unmd; k_unfold; (try dsimp only)) | (k_end; wrow_close) | (k_here; (with_reducible show wpAny _ _ (compareOp CmpOp.NotEq (Value.ref _) (Value.ref _)) _ _ _); k_dflt (refine' ne_dats ?jN ?jm ?jn ?jS ?js ?jT ?jt ?jo ?ju ?_; (case jN => k_asm); (case jm => k_mem); (case jn => k_mem); (case jS => with_reducible assumption); (case js => first | with_reducible assumption | exact fun _ q => nomatch q | exact fun _ q => q | exact fun _ q => .tail _ (q) | exact fun _ q => .tail _ (.tail _ (q)) | exact fun _ q => .tail _ (.tail _ (.tail _ (q))) | exact fun _ q => .tail _ (.tail _ (.tail _ (.tail _ (q)))) | exact fun _ q => .tail _ (.tail _ (.tail _ (.tail _ (.tail _ (q))))) | exact fun _ q => .tail _ (.tail _ (.tail _ (.tail _ (.tail _ (.tail _ (q)))))) | exact fun _ q => .tail _ (.tail _ (.tail _ (.tail _ (.tail _ (.tail _ (.tail _ (q))))))) | exact fun _ q => .tail _ (.tail _ (.tail _ (.tail _ (.tail _ (.tail _ (.tail _ (.tail _ (q))))))))); (case jT => with_reducible assumption); (case jt => first | with_reducible assumption | exact fun _ q => nomatch q | exact fun _ q => q | exact fun _ q => .tail _ (q) | exact fun _ q => .tail _ (.tail _ (q)) | exact fun _ q => .tail _ (.tail _ (.tail _ (q))) | exact fun _ q => .tail _ (.tail _ (.tail _ (.tail _ (q)))) | exact fun _ q => .tail _ (.tail _ (.tail _ (.tail _ (.tail _ (q))))) | exact fun _ q => .tail _ (.tail _ (.tail _ (.tail _ (.tail _ (.tail _ (q)))))) | exact fun _ q => .tail _ (.tail _ (.tail _ (.tail _ (.tail _ (.tail _ (.tail _ (q))))))) | exact fun _ q => .tail _ (.tail _ (.tail _ (.tail _ (.tail _ (.tail _ (.tail _ (.tail _ (q))))))))); (case jo => with_reducible assumption); (case ju => ktr_units))) | walk1 | (dsimp only; walk1) | (leave1; (try dsimp only)))))
  exact h _ _ _ (fun p hp => .tail _ (.tail _ hp)) F2 N2
theorem p16 {w : World} {mean : ExcName → Option Value} {mg mb : Str → Option Value} {fa : Addr} {cd : Value} {h₀ : Heap} {m : Str → Option Value} {s : Shared} {Q : Flow → Shared → Prop} (C : LCtx w mean mg mb h₀) (F : Fr h₀ h₀.objs.size s.heap m) {news : Led} (N : News h₀ h₀.objs.size s.heap news)
  (h : ∀ D h' tk', (∀ p ∈ news, p.1 < D) → Fr h₀ h₀.objs.size h' (fun y => if y = Str.ofString "sizes" then some (.ref D) else m y) → News h₀ h₀.objs.size h' ((D, listOf #[] 0) :: news) → Q .next { s with heap := h', toks := tk' }) :
  lawWp w h₀ fa cd (stAt lawBody 16) Q s := by
  have hfill : (fun (_ : OpenLaw) (_ : Params → Frag) => True) PySem.Challenge.rw_je0014_01 hd.heap_1 := by k_fill; trivial
  clear hfill
  obtain ⟨B, X, T, GL⟩ := C
  conv in (stAt lawBody _) => whnf
  (repeat' ((fail_if_success (first | (with_reducible show wpAny _ _ (exec (Stmt.While _ _ _ _) _) _ _ _) | (with_reducible show wpAny _ _ (exec (Stmt.For _ _ _ _ _) _) _ _ _) | (with_reducible show wpAny _ _ (pyIter _) _ _ _) | (with_reducible show LCg.CompSrc _ _ _ _ _ _ _ _ _ _ _ _ _ _) | (with_reducible show LCt.CompSrcT _ _ _ _ _ _ _ _ _ _ _ _ _ _ _) | (with_reducible show SrcLP _ _ _ _ _ _ _ _ _ _ _ _ _ _ _) | (with_reducible show DSrc _ _ _ _ _ _ _ _ _ _ _ _ _ _ _) | (with_reducible show Src2 _ _ _ _ _ _ _))); (first | (k_unfold; (try dsimp only)) | (k_unmd; k_unfold; (try dsimp only)) | (k_end; wrow_close) | walk1 | (dsimp only; walk1) | (leave1; (try dsimp only)))))
  rename_i z6 z5 z4 z3 z2 z1
  exact h _ _ _ z4 z2 z1
-- P13
/-- one = told[name] -/
theorem b0 {w : World} {mean : ExcName → Option Value} {mg mb : Str → Option Value} {fa : Addr} {cd : Value} {h₀ : Heap} {m : Str → Option Value} {s : Shared} {Q : Flow → Shared → Prop} (C : LCtx w mean mg mb h₀) (F : Fr h₀ h₀.objs.size s.heap m) {news : Led} {o6 oR : Obj} {R : Addr} {kvs : List (Str × Value)} {x : Str} {tx : Tok} {v : Value} (N : News h₀ h₀.objs.size s.heap news)
  (m6 : ((h₀.objs.size + 1 + 1 + 1 + 1 + 1 + 1), o6) ∈ news) (d6 : o6.data = .cell (some (.str x tx))) (mR : (R, oR) ∈ news) (hR : oR.IsDictOf (PySem.strKind PR w) kvs) (mt : m (Str.ofString "told") = some (.ref R)) (hv : valueAt kvs x = some v)
  (h : ∀ h' tk', Fr h₀ h₀.objs.size h' (fun y => if y = Str.ofString "one" then some v else m y) → News h₀ h₀.objs.size h' news → Q .next { s with heap := h', toks := tk' }) :
  lawWp w h₀ fa cd (stAt (forBody (stAt lawBody 17)) 0) Q s := by
  have hfill : (fun (_ : OpenLaw) (_ : Params → Frag) => True) PySem.Challenge.rw_je0014_01 hd.heap_1 := by k_fill; trivial
  clear hfill
  obtain ⟨B, X, T, GL⟩ := C
  conv in (stAt (forBody _) _) => whnf
  (repeat' ((fail_if_success (first | (with_reducible show wpAny _ _ (exec (Stmt.While _ _ _ _) _) _ _ _) | (with_reducible show wpAny _ _ (exec (Stmt.For _ _ _ _ _) _) _ _ _) | (with_reducible show wpAny _ _ (pyIter _) _ _ _) | (with_reducible show LCg.CompSrc _ _ _ _ _ _ _ _ _ _ _ _ _ _) | (with_reducible show LCt.CompSrcT _ _ _ _ _ _ _ _ _ _ _ _ _ _ _) | (with_reducible show SrcLP _ _ _ _ _ _ _ _ _ _ _ _ _ _ _) | (with_reducible show DSrc _ _ _ _ _ _ _ _ _ _ _ _ _ _ _) | (with_reducible show Src2 _ _ _ _ _ _ _))); (first | (k_unfold; (try dsimp only)) | (k_unmd; k_unfold; (try dsimp only)) | (k_end; wrow_close) | (k_here; (with_reducible show wpAny _ _ (eval (PySem.Expr.Name _ _) _) _ _ _); k_dflt (refine' nameX_L ?jF ?jv ?_ ?ja ?jb; (case ja => rfl); (case jb => rfl); (case jF => k_asm); (case jv => with_reducible assumption))) | (k_here; (with_reducible show wpAny _ _ (subscriptTail _ _ (Value.ref _) (Value.str _ _)) _ _ _); k_dflt (refine' kda_item (knd := PySem.strKind _ _) ?jN ?jm ?jd (strKind_is _ _ _ _) ?jv ?_; (case jN => k_asm); (case jm => k_mem); (case jd => with_reducible assumption); (case jv => with_reducible assumption))) | walk1 | (dsimp only; walk1) | (leave1; (try dsimp only)))))
  rename_i z3 z2 z1
  exact h _ _ z2 z1
theorem ints_dat {vs : List Value} {ns : List Int} {tl : Led} (h : IntsAre vs ns) : DatAll tl vs (ns.map Dat.int) := by
  induction h with
  | nil => exact .nil
  | cons n t _ ih => exact .cons (.int n t) ih
/-- due -/
theorem b1 {w : World} {mean : ExcName → Option Value} {mg mb : Str → Option Value} {fa : Addr} {cd : Value} {h₀ : Heap} {m : Str → Option Value} {s : Shared} {Q : Flow → Shared → Prop} (C : LCtx w mean mg mb h₀) (F : Fr h₀ h₀.objs.size s.heap m) {news : Led} {o6 o7 oA oa : Obj} {A a : Addr} {kvA : List (Str × Value)} {ls : List (Str × Addr × List Int)} {x : Str} {tx : Tok} (N : News h₀ h₀.objs.size s.heap news)
  (m6 : ((h₀.objs.size + 1 + 1 + 1 + 1 + 1 + 1), o6) ∈ news) (d6 : o6.data = .cell (some (.str x tx))) (m7 : ((h₀.objs.size + 1 + 1 + 1 + 1 + 1 + 1 + 1), o7) ∈ news) (d7 : o7.data = .cell (some (.ref A))) (mA : (A, oA) ∈ news) (hA : oA.IsDictOf (PySem.strKind PR w) kvA) (hvA : valueAt kvA x = some (.ref a))
  (ma : (a, oa) ∈ news) (ha : oa.IsDictOf (PySem.strKind PR w) (rowKv ls)) (ha1 : 1 < a) (hl : ls.length ≤ 30) (hls : ∀ q ∈ ls, ∃ vs n, (q.2.1, listOf vs.toArray n) ∈ news ∧ IntsAre vs q.2.2)
  (h : ∀ D ws rows c tl h' tk', RowsOf (absR ls) rows → DatAll tl ws (rows.map rowD) → (D, listOf ws.toArray c) ∈ tl → (∀ p ∈ news, p ∈ tl) → (∀ p ∈ tl, p ∈ news ∨ ∀ q ∈ news, q.1 ≠ p.1) → Fr h₀ h₀.objs.size h' (fun y => if y = Str.ofString "due" then some (.ref D) else m y) → News h₀ h₀.objs.size h' tl → Q .next { s with heap := h', toks := tk' }) :
  lawWp w h₀ fa cd (stAt (forBody (stAt lawBody 17)) 1) Q s := by
  have hfill : (fun (_ : OpenLaw) (_ : Params → Frag) => True) PySem.Challenge.rw_je0014_01 hd.heap_1 := by k_fill; trivial
  clear hfill
  obtain ⟨B, X, T, GL⟩ := C
  conv in (stAt (forBody _) _) => whnf
  (repeat' ((fail_if_success (first | (with_reducible show wpAny _ _ (exec (Stmt.While _ _ _ _) _) _ _ _) | (with_reducible show wpAny _ _ (exec (Stmt.For _ _ _ _ _) _) _ _ _) | (with_reducible show wpAny _ _ (pyIter _) _ _ _) | (with_reducible show wpAny _ _ (call (Value.builtin "sorted") _) _ _ _) | (with_reducible show LCg.CompSrc _ _ _ _ _ _ _ _ _ _ _ _ _ _) | (with_reducible show LCt.CompSrcT _ _ _ _ _ _ _ _ _ _ _ _ _ _ _) | (with_reducible show SrcLP _ _ _ _ _ _ _ _ _ _ _ _ _ _ _) | (with_reducible show DSrc _ _ _ _ _ _ _ _ _ _ _ _ _ _ _) | (with_reducible show Src2 _ _ _ _ _ _ _))); (first | (k_unfold; (try dsimp only)) | (k_unmd; k_unfold; (try dsimp only)) | (k_end; wrow_close) | (k_here; (with_reducible show wpAny _ _ (eval (PySem.Expr.Name _ _) _) _ _ _); k_dflt (refine' nameX_L ?jF ?jv ?_ ?ja ?jb; (case ja => rfl); (case jb => rfl); (case jF => k_asm); (case jv => with_reducible assumption))) | (k_here; (with_reducible show wpAny _ _ (subscriptTail _ _ (Value.ref _) (Value.str _ _)) _ _ _); k_dflt (refine' kda_item (knd := PySem.strKind _ _) ?jN ?jm ?jd (strKind_is _ _ _ _) ?jv ?_; (case jN => k_asm); (case jm => k_mem); (case jd => with_reducible assumption); (case jv => with_reducible assumption))) | (k_here; (with_reducible show wpAny _ _ (exec (Stmt.Assign _ (PySem.Expr.ListComp _ _ _ _) _) _) _ _ _); k_dflt (refine LCg.Assign_ListComp_U (F₀ := by k_asm) (by rfl) (by with_unfolding_all rfl) (by with_unfolding_all rfl) (by decide) (by rfl) (by decide) (by rfl) (by rfl) (by rfl) ?_)) | walk1 | (dsimp only; walk1) | (leave1; (try dsimp only)))))
  have hrl : (rowKv ls).length = ls.length := List.length_map ..
  refine sorted_dict rfl F N ma ha (not_modules ha1) (by omega) ?_
  intro D1 ws1 ks c1 h1 tk1 hs1 hp1 ho1 F1 N1 l1
  have hkn : ((absR ls).map (·.1)).Nodup := by
    have := dict_nodup ha
    rw [rowKv, List.map_map] at this
    rw [absR, List.map_map]
    exact this
  have hp2 : ks.Perm ((absR ls).map (·.1)) := by
    rw [rowKv, List.map_map] at hp1
    rw [absR, List.map_map]
    exact hp1
  have hkl : ks.length = ls.length := by rw [hp2.length_eq, List.length_map, absR, List.length_map]
  have hw1 := hs1.length
  have hwa : ws1.toArray.size = ws1.length := List.size_toArray ..
  clear F N
  try dsimp only
  refine LCg.CompSrc.ledger (its := ws1.toArray) (k := c1) rfl F1 N1 (.head _) (by rw [hwa, sizeLine_eq]; omega) ?_
  intro g9
  rw [hwa]
  have hsub1 : ∀ p ∈ news, p ∈ (D1, listOf ws1.toArray c1) :: news := fun p hp => .tail _ hp
  have hml : (D1, listOf ws1.toArray c1) ∈ (D1, listOf ws1.toArray c1) :: news := .head _
  have hfr1 : ∀ p ∈ (D1, listOf ws1.toArray c1) :: news, p ∈ news ∨ ∀ q ∈ news, q.1 ≠ p.1 := fun p hp => (List.mem_cons.mp hp).elim (fun e => .inr fun q hq => by rw [e]; exact Nat.ne_of_lt (l1 q hq)) .inl
  generalize (D1, listOf ws1.toArray c1) :: news = base at F1 N1 hsub1 hml hfr1
  refine comp_J (E₀ := []) (tl₀ := base) (fun i ys E tl => E = [] ∧ (∀ p ∈ base, p ∈ tl) ∧ (∀ p ∈ tl, p ∈ news ∨ ∀ q ∈ news, q.1 ≠ p.1) ∧ DatAll tl ys (((ks.take i).map fun t => (t, numsOf (absR ls) t)).map rowD)) rfl (fun _ _ _ h => nomatch h) ⟨rfl, fun _ h => h, hfr1, by rw [List.take_zero]; exact .nil⟩ ?_ ?_
  · rintro j v ys E₁ tl I oI Cc oC D m₂ h2 tk2 E' hj9 hv ⟨rfl, hn, hfr, hys⟩ - - hC hx F2 N2 off ne
    obtain ⟨t, tt, rfl, ht⟩ := hs1.item j v (by simpa using hv)
    have htk : t ∈ (absR ls).map (·.1) := hp2.mem_iff.mp (List.mem_of_getElem? ht)
    have hr := row_cases ha t
    rw [or_iff_left (fun e => e.1 (by rw [absR, List.map_map] at htk; exact htk))] at hr
    obtain ⟨p, q, l, ns, hls2, hvl⟩ := hr
    obtain ⟨us, n, hlm, hi2⟩ := hls (t, l, ns) (hls2 ▸ List.mem_append_right _ (.head _))
    have hnum : numsOf (absR ls) t = ns := nums_of_mem hkn (by rw [hls2, absR, List.map_append]; exact List.mem_append_right _ (.head _))
    have q6 := hn _ (hsub1 _ m6)
    have q7 := hn _ (hsub1 _ m7)
    have qA := hn _ (hsub1 _ mA)
    have qa := hn _ (hsub1 _ ma)
    have ql := hn _ (hsub1 _ hlm)
    clear F1 N1 h
    rw [List.nil_append] at N2
    try k_fold
    (repeat' ((fail_if_success (first | (with_reducible show wpAny _ _ (exec (Stmt.While _ _ _ _) _) _ _ _) | (with_reducible show wpAny _ _ (exec (Stmt.For _ _ _ _ _) _) _ _ _) | (with_reducible show wpAny _ _ (pyIter _) _ _ _) | (with_reducible show LCg.CompSrc _ _ _ _ _ _ _ _ _ _ _ _ _ _) | (with_reducible show LCt.CompSrcT _ _ _ _ _ _ _ _ _ _ _ _ _ _ _) | (with_reducible show SrcLP _ _ _ _ _ _ _ _ _ _ _ _ _ _ _) | (with_reducible show DSrc _ _ _ _ _ _ _ _ _ _ _ _ _ _ _) | (with_reducible show Src2 _ _ _ _ _ _ _))); (first | (k_unfold; (try dsimp only)) | (k_unmd; k_unfold; (try dsimp only)) | (k_end; wrow_close) | (k_here; (with_reducible show wpAny _ _ (eval (PySem.Expr.Name _ _) _) _ _ _); k_dflt (refine' nameX_L ?jF ?jv ?_ ?ja ?jb; (case ja => rfl); (case jb => rfl); (case jF => k_asm); (case jv => with_reducible assumption))) | (k_here; (with_reducible show wpAny _ _ (subscriptTail _ _ (Value.ref _) (Value.str _ _)) _ _ _); k_dflt (refine' kda_item (knd := PySem.strKind _ _) ?jN ?jm ?jd (strKind_is _ _ _ _) ?jv ?_; (case jN => k_asm); (case jm => k_mem); (case jd => with_reducible assumption); (case jv => with_reducible assumption))) | walk1 | (dsimp only; walk1) | (leave1; (try dsimp only)))))
    rename_i z5 z4 z3 z2 z1
    have z6 : ∀ p ∈ tl, p.1 < z5 := fun p hp => z1 p (.tail _ (.tail _ (.tail _ hp)))
    refine cend (E₁ := []) (E' := []) (new := [(z5, _)]) z3 z2 (by ((try simp only [List.cons_append, List.nil_append, List.append_nil]); (repeat' (first | exact List.forall_mem_nil _ | refine' List.forall_mem_cons.mpr ⟨by (first | k_mem | (repeat' (first | assumption | refine' List.Mem.tail _ ?_))), ?_⟩ | (intro p9 hp9; (repeat' (first | exact hp9 | refine' List.Mem.tail _ ?_))))))) off rfl ?_ (.inr ⟨_, .tail _ (hn _ hml), rfl, _, rfl⟩) ⟨_, [(z5, _)], rfl, rfl, (fun _ _ _ h => nomatch h), rfl, fun p hp => .tail _ (hn p hp), fun p hp => (List.mem_cons.mp hp).elim (fun e => .inr fun q hq => by rw [e]; exact Nat.ne_of_lt (z6 q (hn _ (hsub1 _ hq)))) (hfr p), ?_⟩
    · exact List.forall_mem_cons.mpr ⟨⟨(lt_ne z1 (.head _)).symm, (lt_ne z1 (.tail _ (.head _))).symm, (lt_ne z1 (.tail _ (.tail _ (.head _)))).symm⟩, List.forall_mem_nil _⟩
    · rw [List.take_add_one, ht, List.map_append, List.map_append]
      refine (hys.mono fun p hp => .tail _ hp).append (.one ?_)
      show DatIn _ _ (rowD (t, numsOf (absR ls) t))
      rw [hnum]
      exact .tuple (vs := [_, _]) (.head _) (.cons (.str _ _) (.cons (.list (.tail _ ql) (ints_dat hi2)) .nil))
  · rintro ys E₁ tl - - ⟨rfl, hn, hfr, hys⟩
    rw [hw1, List.take_length] at hys
    unfold LCg.FinA
    intro D8 h8 tk8 F9 N9 o8
    have o9 := off1_mem o8
    exact h D8 ys _ _ ((D8, LCg.lst ys) :: tl) _ _ ⟨ks, hp2, ho1, rfl⟩ (hys.mono fun p hp => .tail _ hp) (.head _) (fun p hp => .tail _ (hn _ (hsub1 _ hp))) (fun p hp => (List.mem_cons.mp hp).elim (fun e => .inr fun q hq => by rw [e]; exact o9 q (hn _ (hsub1 _ hq))) (hfr p)) F9 N9
-- P16
theorem p18 {w : World} {mean : ExcName → Option Value} {mg mb : Str → Option Value} {fa : Addr} {cd : Value} {h₀ : Heap} {m : Str → Option Value} {s : Shared} {Q : Flow → Shared → Prop} (C : LCtx w mean mg mb h₀) (F : Fr h₀ h₀.objs.size s.heap m) {nx : Led} {Sz : Addr} {zs : List Value} {c : Nat} {ns : List Int} {at_ : Int} {u : Tok} (N : News h₀ h₀.objs.size s.heap nx) (mz : (Sz, listOf zs.toArray c) ∈ nx) (hz : IntsAre zs ns) (hl : 1 ≤ ns.length ∧ ns.length ≤ 5)
  (hnear : ∀ a ∈ ns, ∀ b ∈ ns, a ≤ b + 1) (hr : ∀ a ∈ ns, 0 ≤ a ∧ a ≤ 1000) (hsum : ns.sum = at_) (ha : 0 ≤ at_ ∧ at_ ≤ 1000) (ms : m (Str.ofString "sizes") = some (.ref Sz)) (mat : m (Str.ofString "at") = some (.int at_ u))
  (h : ∀ h' tk', Fr h₀ h₀.objs.size h' m → News h₀ h₀.objs.size h' nx → Q (.ret (.bool true)) { s with heap := h', toks := tk' }) :
  lawWp w h₀ fa cd (stAt lawBody 18) Q s := by
  have hfill : (fun (_ : OpenLaw) (_ : Params → Frag) => True) PySem.Challenge.rw_je0014_01 hd.heap_1 := by k_fill; trivial
  clear hfill
  obtain ⟨B, X, T, GL⟩ := C
  conv in (stAt lawBody _) => whnf
  (repeat' ((fail_if_success (first | (with_reducible show wpAny _ _ (exec (Stmt.While _ _ _ _) _) _ _ _) | (with_reducible show wpAny _ _ (exec (Stmt.For _ _ _ _ _) _) _ _ _) | (with_reducible show wpAny _ _ (pyIter _) _ _ _) | (with_reducible show wpAny _ _ (call _ _) _ _ _) | (with_reducible show LCg.CompSrc _ _ _ _ _ _ _ _ _ _ _ _ _ _) | (with_reducible show LCt.CompSrcT _ _ _ _ _ _ _ _ _ _ _ _ _ _ _) | (with_reducible show SrcLP _ _ _ _ _ _ _ _ _ _ _ _ _ _ _) | (with_reducible show DSrc _ _ _ _ _ _ _ _ _ _ _ _ _ _ _) | (with_reducible show Src2 _ _ _ _ _ _ _))); (first | (k_unfold; (try dsimp only)) | (k_unmd; k_unfold; (try dsimp only)) | (k_end; wrow_close) | (k_here; (with_reducible show wpAny _ _ (eval (PySem.Expr.Name _ _) _) _ _ _); k_dflt (refine' nameX_L ?jF ?jv ?_ ?ja ?jb; (case ja => rfl); (case jb => rfl); (case jF => k_asm); (case jv => with_reducible assumption))) | walk1 | (dsimp only; walk1) | (leave1; (try dsimp only)))))
  have hsl : ∀ g : Heap, News h₀ h₀.objs.size g nx → g.IsList Sz zs.toArray := fun g n => ⟨_, (n _ mz).1, rfl, c, rfl⟩
  refine kso_max F N (hsl _ N) hz (by omega) rfl ?_
  intro h1 M1 t1 tk1 F1 N1 hM1 hle1
  clear F N
  have b1 := hr _ hM1
  try dsimp only
  (repeat' ((fail_if_success (first | (with_reducible show wpAny _ _ (exec (Stmt.While _ _ _ _) _) _ _ _) | (with_reducible show wpAny _ _ (exec (Stmt.For _ _ _ _ _) _) _ _ _) | (with_reducible show wpAny _ _ (pyIter _) _ _ _) | (with_reducible show wpAny _ _ (call _ _) _ _ _) | (with_reducible show LCg.CompSrc _ _ _ _ _ _ _ _ _ _ _ _ _ _) | (with_reducible show LCt.CompSrcT _ _ _ _ _ _ _ _ _ _ _ _ _ _ _) | (with_reducible show SrcLP _ _ _ _ _ _ _ _ _ _ _ _ _ _ _) | (with_reducible show DSrc _ _ _ _ _ _ _ _ _ _ _ _ _ _ _) | (with_reducible show Src2 _ _ _ _ _ _ _))); (first | (k_unfold; (try dsimp only)) | (k_unmd; k_unfold; (try dsimp only)) | (k_end; wrow_close) | (k_here; (with_reducible show wpAny _ _ (eval (PySem.Expr.Name _ _) _) _ _ _); k_dflt (refine' nameX_L ?jF ?jv ?_ ?ja ?jb; (case ja => rfl); (case jb => rfl); (case jF => k_asm); (case jv => with_reducible assumption))) | walk1 | (dsimp only; walk1) | (leave1; (try dsimp only)))))
  refine kso_min F1 N1 (hsl _ N1) hz (by omega) rfl ?_
  intro h2 M2 t2 tk2 F2 N2 hM2 hle2
  clear F1 N1
  have b2 := hr _ hM2
  have hn := hnear _ hM1 _ hM2
  have hlt : M1 - M2 < 2 := by omega
  try dsimp only
  (repeat' ((fail_if_success (first | (with_reducible show wpAny _ _ (exec (Stmt.While _ _ _ _) _) _ _ _) | (with_reducible show wpAny _ _ (exec (Stmt.For _ _ _ _ _) _) _ _ _) | (with_reducible show wpAny _ _ (pyIter _) _ _ _) | (with_reducible show wpAny _ _ (call _ _) _ _ _) | (with_reducible show LCg.CompSrc _ _ _ _ _ _ _ _ _ _ _ _ _ _) | (with_reducible show LCt.CompSrcT _ _ _ _ _ _ _ _ _ _ _ _ _ _ _) | (with_reducible show SrcLP _ _ _ _ _ _ _ _ _ _ _ _ _ _ _) | (with_reducible show DSrc _ _ _ _ _ _ _ _ _ _ _ _ _ _ _) | (with_reducible show Src2 _ _ _ _ _ _ _))); (first | (k_unfold; (try dsimp only)) | (k_unmd; k_unfold; (try dsimp only)) | (k_end; wrow_close) | (k_here; (with_reducible show wpAny _ _ (eval (PySem.Expr.Name _ _) _) _ _ _); k_dflt (refine' nameX_L ?jF ?jv ?_ ?ja ?jb; (case ja => rfl); (case jb => rfl); (case jF => k_asm); (case jv => with_reducible assumption))) | walk1 | (dsimp only; walk1) | (leave1; (try dsimp only)))))
  refine LSm.sum_ints F2 N2 rfl (hsl _ N2) hz ?_
  intro h3 tk3 t3 F3 N3
  rw [hsum]
  clear F2 N2
  (repeat' ((fail_if_success (first | (with_reducible show wpAny _ _ (exec (Stmt.While _ _ _ _) _) _ _ _) | (with_reducible show wpAny _ _ (exec (Stmt.For _ _ _ _ _) _) _ _ _) | (with_reducible show wpAny _ _ (pyIter _) _ _ _) | (with_reducible show LCg.CompSrc _ _ _ _ _ _ _ _ _ _ _ _ _ _) | (with_reducible show LCt.CompSrcT _ _ _ _ _ _ _ _ _ _ _ _ _ _ _) | (with_reducible show SrcLP _ _ _ _ _ _ _ _ _ _ _ _ _ _ _) | (with_reducible show DSrc _ _ _ _ _ _ _ _ _ _ _ _ _ _ _) | (with_reducible show Src2 _ _ _ _ _ _ _))); (first | (k_unfold; (try dsimp only)) | (k_unmd; k_unfold; (try dsimp only)) | (k_end; wrow_close) | (k_here; (with_reducible show wpAny _ _ (eval (PySem.Expr.Name _ _) _) _ _ _); k_dflt (refine' nameX_L ?jF ?jv ?_ ?ja ?jb; (case ja => rfl); (case jb => rfl); (case jF => k_asm); (case jv => with_reducible assumption))) | walk1 | (dsimp only; walk1) | (leave1; (try dsimp only)))))
  rw [show (at_ == at_) = true from beq_self_eq_true at_]
  exact h _ _ F3 N3
-- D8
noncomputable def asgDef : Stmt := match PySem.Challenge.pw_je0014_01.main.body.getD 9 (.Pass pos0) with | .ClassDef _ _ _ b _ _ _ _ _ _ _ => b.getD 2 (.Pass pos0) | _ => .Pass pos0
noncomputable def asgBody : List Stmt := match asgDef with | .FunctionDef _ _ b _ _ _ _ _ _ _ => b | _ => []
noncomputable def asgScope : Scope := match asgDef with | .FunctionDef _ _ _ _ _ _ sc _ _ _ => sc | _ => default
theorem asgBody_len : asgBody.length = 15 := by kernel_rfl
noncomputable abbrev asgEnv (L : Addr) : Env := envOfC (Str.ofString "RoundRobinPartitionAssignor.assign") asgScope L 152 (.ref 151)
noncomputable abbrev asgA (h₀ : Heap) (fa : Addr) (cd : Value) (L : Addr) : Around := Around.deeper (lawA h₀ fa cd) (asgEnv L)
noncomputable abbrev asgWp (w : World) (h₀ : Heap) (fa : Addr) (cd : Value) (L : Addr) (st : Stmt) (Q : Flow → Shared → Prop) (s : Shared) : Prop := wpAny (model PR w) (asgA h₀ fa cd L) (exec st (asgEnv L)) Q NE s
/-- what stands all through the call of assign -/
structure ACtx (w : World) (mean : ExcName → Option Value) (mg mb : Str → Option Value) (h₀ : Heap) (fa : Addr) (cd : Value) (g : Heap) : Prop where
  B : Below (lawA h₀ fa cd) h₀ [lawEnv h₀ fa cd] g
  X : (hd.heap_1 w.params).In g
  T : Top vw LOO mean mg mb g
-- Q1
theorem a0 {w : World} {mean : ExcName → Option Value} {mg mb : Str → Option Value} {fa : Addr} {cd : Value} {h₀ g : Heap} {L : Addr} {m : Str → Option Value} {s : Shared} {Q : Flow → Shared → Prop} (C : ACtx w mean mg mb h₀ fa cd g) (F : Fr g L s.heap m) {news : Led} (N : News g L s.heap news)
  (h : ∀ S h' tk', (∀ p ∈ news, p.1 < S) → Fr g L h' (fun y => if y = Str.ofString "all_topics" then some (.ref S) else m y) → News g L h' ((S, newSetO w) :: news) → Q .next { s with heap := h', toks := tk' }) :
  asgWp w h₀ fa cd L (stAt asgBody 0) Q s := by
  have hfill : (fun (_ : OpenLaw) (_ : Params → Frag) => True) PySem.Challenge.rw_je0014_01 hd.heap_1 := by k_fill; trivial
  clear hfill
  obtain ⟨B, X, T⟩ := C
  conv in (stAt asgBody _) => whnf
  (repeat' ((fail_if_success (first | (with_reducible show wpAny _ _ (exec (Stmt.While _ _ _ _) _) _ _ _) | (with_reducible show wpAny _ _ (exec (Stmt.For _ _ _ _ _) _) _ _ _) | (with_reducible show wpAny _ _ (pyIter _) _ _ _) | (with_reducible show wpAny _ _ (call _ _) _ _ _) | (with_reducible show LCg.CompSrc _ _ _ _ _ _ _ _ _ _ _ _ _ _) | (with_reducible show LCt.CompSrcT _ _ _ _ _ _ _ _ _ _ _ _ _ _ _) | (with_reducible show SrcLP _ _ _ _ _ _ _ _ _ _ _ _ _ _ _) | (with_reducible show DSrc _ _ _ _ _ _ _ _ _ _ _ _ _ _ _) | (with_reducible show Src2 _ _ _ _ _ _ _))); (first | (k_unfold; (try dsimp only)) | (k_unmd; k_unfold; (try dsimp only)) | (k_end; wrow_close) | (k_here; (with_reducible show wpAny _ _ (eval (PySem.Expr.Name _ _) _) _ _ _); k_dflt (refine' nameX_L ?jF ?jv ?_ ?ja ?jb; (case ja => rfl); (case jb => rfl); (case jF => k_asm); (case jv => with_reducible assumption))) | walk1 | (dsimp only; walk1) | (leave1; (try dsimp only)))))
  refine call_set_led ?_
  have F1 := F.push (newSetO w)
  have N1 := News.push F N (newSetO w) rfl
  have l1 : ∀ p ∈ news, p.1 < s.heap.objs.size := fun p hp => Heap.lt_size (N p hp).1
  clear F N
  try dsimp only
  (repeat' ((fail_if_success (first | (with_reducible show wpAny _ _ (exec (Stmt.While _ _ _ _) _) _ _ _) | (with_reducible show wpAny _ _ (exec (Stmt.For _ _ _ _ _) _) _ _ _) | (with_reducible show wpAny _ _ (pyIter _) _ _ _) | (with_reducible show LCg.CompSrc _ _ _ _ _ _ _ _ _ _ _ _ _ _) | (with_reducible show LCt.CompSrcT _ _ _ _ _ _ _ _ _ _ _ _ _ _ _) | (with_reducible show SrcLP _ _ _ _ _ _ _ _ _ _ _ _ _ _ _) | (with_reducible show DSrc _ _ _ _ _ _ _ _ _ _ _ _ _ _ _) | (with_reducible show Src2 _ _ _ _ _ _ _))); (first | (k_unfold; (try dsimp only)) | (k_unmd; k_unfold; (try dsimp only)) | (k_end; wrow_close) | walk1 | (dsimp only; walk1) | (leave1; (try dsimp only)))))
  rename_i z3 z2 z1
  exact h _ _ _ l1 z2 z1
theorem set_new (prog : Program) (w : World) : SetIs prog w (newSetO w) #[] 0 (.fresh 0 0 (ledW w)) [] := ⟨⟨rfl, rfl, rfl⟩, rfl, rfl, rfl, .inl rfl, (fun _ h => nomatch h), .nil, .nil⟩
theorem a2 {w : World} {mean : ExcName → Option Value} {mg mb : Str → Option Value} {fa : Addr} {cd : Value} {h₀ g : Heap} {L : Addr} {m : Str → Option Value} {s : Shared} {Q : Flow → Shared → Prop} (C : ACtx w mean mg mb h₀ fa cd g) (F : Fr g L s.heap m) {news : Led} (N : News g L s.heap news)
  (h : ∀ D h' tk', (∀ p ∈ news, p.1 < D) → Fr g L h' (fun y => if y = Str.ofString "all_topic_partitions" then some (.ref D) else m y) → News g L h' ((D, listOf #[] 0) :: news) → Q .next { s with heap := h', toks := tk' }) :
  asgWp w h₀ fa cd L (stAt asgBody 2) Q s := by
  have hfill : (fun (_ : OpenLaw) (_ : Params → Frag) => True) PySem.Challenge.rw_je0014_01 hd.heap_1 := by k_fill; trivial
  clear hfill
  obtain ⟨B, X, T⟩ := C
  conv in (stAt asgBody _) => whnf
  (repeat' ((fail_if_success (first | (with_reducible show wpAny _ _ (exec (Stmt.While _ _ _ _) _) _ _ _) | (with_reducible show wpAny _ _ (exec (Stmt.For _ _ _ _ _) _) _ _ _) | (with_reducible show wpAny _ _ (pyIter _) _ _ _) | (with_reducible show LCg.CompSrc _ _ _ _ _ _ _ _ _ _ _ _ _ _) | (with_reducible show LCt.CompSrcT _ _ _ _ _ _ _ _ _ _ _ _ _ _ _) | (with_reducible show SrcLP _ _ _ _ _ _ _ _ _ _ _ _ _ _ _) | (with_reducible show DSrc _ _ _ _ _ _ _ _ _ _ _ _ _ _ _) | (with_reducible show Src2 _ _ _ _ _ _ _))); (first | (k_unfold; (try dsimp only)) | (k_unmd; k_unfold; (try dsimp only)) | (k_end; wrow_close) | (k_here; (with_reducible show wpAny _ _ (eval (PySem.Expr.Name _ _) _) _ _ _); k_dflt (refine' nameX_L ?jF ?jv ?_ ?ja ?jb; (case ja => rfl); (case jb => rfl); (case jF => k_asm); (case jv => with_reducible assumption))) | walk1 | (dsimp only; walk1) | (leave1; (try dsimp only)))))
  rename_i z6 z5 z4 z3 z2 z1
  exact h _ _ _ z4 z2 z1
theorem a5 {w : World} {mean : ExcName → Option Value} {mg mb : Str → Option Value} {fa : Addr} {cd : Value} {h₀ g : Heap} {L : Addr} {m : Str → Option Value} {s : Shared} {Q : Flow → Shared → Prop} (C : ACtx w mean mg mb h₀ fa cd g) (F : Fr g L s.heap m) {news : Led} (N : News g L s.heap news)
  (h : ∀ D o h' tk', (∀ p ∈ news, p.1 < D) → o.IsDictOf (PySem.strKind PR w) [] → Fr g L h' (fun y => if y = Str.ofString "assignment" then some (.ref D) else m y) → News g L h' ((D, o) :: news) → Q .next { s with heap := h', toks := tk' }) :
  asgWp w h₀ fa cd L (stAt asgBody 5) Q s := by
  have hfill : (fun (_ : OpenLaw) (_ : Params → Frag) => True) PySem.Challenge.rw_je0014_01 hd.heap_1 := by k_fill; trivial
  clear hfill
  obtain ⟨B, X, T⟩ := C
  conv in (stAt asgBody _) => whnf
  (repeat' ((fail_if_success (first | (with_reducible show wpAny _ _ (exec (Stmt.While _ _ _ _) _) _ _ _) | (with_reducible show wpAny _ _ (exec (Stmt.For _ _ _ _ _) _) _ _ _) | (with_reducible show wpAny _ _ (pyIter _) _ _ _) | (with_reducible show LCg.CompSrc _ _ _ _ _ _ _ _ _ _ _ _ _ _) | (with_reducible show LCt.CompSrcT _ _ _ _ _ _ _ _ _ _ _ _ _ _ _) | (with_reducible show SrcLP _ _ _ _ _ _ _ _ _ _ _ _ _ _ _) | (with_reducible show DSrc _ _ _ _ _ _ _ _ _ _ _ _ _ _ _) | (with_reducible show Src2 _ _ _ _ _ _ _))); (first | (k_unfold; (try dsimp only)) | (k_unmd; k_unfold; (try dsimp only)) | (k_end; wrow_close) | (k_here; (with_reducible show wpAny _ _ (eval (PySem.Expr.Name _ _) _) _ _ _); k_dflt (refine' nameX_L ?jF ?jv ?_ ?ja ?jb; (case ja => rfl); (case jb => rfl); (case jF => k_asm); (case jv => with_reducible assumption))) | walk1 | (dsimp only; walk1) | (leave1; (try dsimp only)))))
  rename_i z12 z11 z10 z9 z8 z7 z6 z5 z4 z3 z2 z1
  exact h _ _ _ _ z9 z7 z2 z1
theorem a9 {w : World} {mean : ExcName → Option Value} {mg mb : Str → Option Value} {fa : Addr} {cd : Value} {h₀ g : Heap} {L : Addr} {m : Str → Option Value} {s : Shared} {Q : Flow → Shared → Prop} (C : ACtx w mean mg mb h₀ fa cd g) (F : Fr g L s.heap m) {news : Led} (N : News g L s.heap news)
  (h : ∀ t h' tk', Fr g L h' (fun y => if y = Str.ofString "at" then some (.int ((0 : Nat) : Int) t) else m y) → News g L h' news → Q .next { s with heap := h', toks := tk' }) :
  asgWp w h₀ fa cd L (stAt asgBody 9) Q s := by
  have hfill : (fun (_ : OpenLaw) (_ : Params → Frag) => True) PySem.Challenge.rw_je0014_01 hd.heap_1 := by k_fill; trivial
  clear hfill
  obtain ⟨B, X, T⟩ := C
  conv in (stAt asgBody _) => whnf
  (repeat' ((fail_if_success (first | (with_reducible show wpAny _ _ (exec (Stmt.While _ _ _ _) _) _ _ _) | (with_reducible show wpAny _ _ (exec (Stmt.For _ _ _ _ _) _) _ _ _) | (with_reducible show wpAny _ _ (pyIter _) _ _ _) | (with_reducible show LCg.CompSrc _ _ _ _ _ _ _ _ _ _ _ _ _ _) | (with_reducible show LCt.CompSrcT _ _ _ _ _ _ _ _ _ _ _ _ _ _ _) | (with_reducible show SrcLP _ _ _ _ _ _ _ _ _ _ _ _ _ _ _) | (with_reducible show DSrc _ _ _ _ _ _ _ _ _ _ _ _ _ _ _) | (with_reducible show Src2 _ _ _ _ _ _ _))); (first | (k_unfold; (try dsimp only)) | (k_unmd; k_unfold; (try dsimp only)) | (k_end; wrow_close) | walk1 | (dsimp only; walk1) | (leave1; (try dsimp only)))))
  rename_i z3 z2 z1
  exact h _ _ _ z2 z1
-- Q2
/-- all_topics.update(member.metadata.topics) -/
theorem a1_turn {w : World} {mean : ExcName → Option Value} {mg mb : Str → Option Value} {fa : Addr} {cd : Value} {h₀ g : Heap} {L : Addr} {m : Str → Option Value} {s : Shared} {Q : Flow → Shared → Prop} (C : ACtx w mean mg mb h₀ fa cd g) (F : Fr g L s.heap m) {news : Led} {S : Addr} {o : Obj} {es : Array (Int × Value)} {ep : Nat} {t : SetTable} {ss : List Str} {v : Value} {me : Mem} (N : News g L s.heap ((S, o) :: news)) (hS : ∀ p ∈ news, p.1 ≠ S) (hs : SetIs PR w o es ep t ss) (hv : MemE w news v me) (hb : ss.length + me.2.2.length ≤ 60)
  (mm : m (Str.ofString "member") = some v) (ms : m (Str.ofString "all_topics") = some (.ref S))
  (h : ∀ o' es' ep' t' ss' h' tk', SetIs PR w o' es' ep' t' ss' → (∀ y, y ∈ ss' ↔ y ∈ ss ∨ y ∈ me.2.2) → ss'.length ≤ ss.length + me.2.2.length → Fr g L h' m → News g L h' ((S, o') :: news) → Q .next { s with heap := h', toks := tk' }) :
  asgWp w h₀ fa cd L (stAt (forBody (stAt asgBody 1)) 0) Q s := by
  have hfill : (fun (_ : OpenLaw) (_ : Params → Frag) => True) PySem.Challenge.rw_je0014_01 hd.heap_1 := by k_fill; trivial
  clear hfill
  obtain ⟨B, X, T⟩ := C
  cases hv with
  | mk hw hx hd1 h1 he hl =>
  conv in (stAt (forBody _) _) => whnf
  (repeat' ((fail_if_success (first | (with_reducible show wpAny _ _ (exec (Stmt.While _ _ _ _) _) _ _ _) | (with_reducible show wpAny _ _ (exec (Stmt.For _ _ _ _ _) _) _ _ _) | (with_reducible show wpAny _ _ (pyIter _) _ _ _) | (with_reducible show wpAny _ _ (getMethod _ _ _) _ _ _) | (with_reducible show LCg.CompSrc _ _ _ _ _ _ _ _ _ _ _ _ _ _) | (with_reducible show LCt.CompSrcT _ _ _ _ _ _ _ _ _ _ _ _ _ _ _) | (with_reducible show SrcLP _ _ _ _ _ _ _ _ _ _ _ _ _ _ _) | (with_reducible show DSrc _ _ _ _ _ _ _ _ _ _ _ _ _ _ _) | (with_reducible show Src2 _ _ _ _ _ _ _))); (first | (k_unfold; (try dsimp only)) | (k_unmd; k_unfold; (try dsimp only)) | (k_end; wrow_close) | (k_here; (with_reducible show wpAny _ _ (eval (PySem.Expr.Name _ _) _) _ _ _); k_dflt (refine' nameX_L ?jF ?jv ?_ ?ja ?jb; (case ja => rfl); (case jb => rfl); (case jF => k_asm); (case jv => with_reducible assumption))) | walk1 | (dsimp only; walk1) | (leave1; (try dsimp only)))))
  have hoS := N _ (.head _)
  refine getMethod_builtin (T := "set") ⟨o, hoS.1, hs.ex.1⟩ PySem.F.plainAttrs_set PySem.F.slot_set_update PySem.F.type_set_update (fun b e => by injection e with e; subst e; exact ⟨o, hoS.1, hs.ex.2.1⟩) ?_
  (repeat' ((fail_if_success (first | (with_reducible show wpAny _ _ (exec (Stmt.While _ _ _ _) _) _ _ _) | (with_reducible show wpAny _ _ (exec (Stmt.For _ _ _ _ _) _) _ _ _) | (with_reducible show wpAny _ _ (pyIter _) _ _ _) | (with_reducible show wpAny _ _ (call _ _) _ _ _) | (with_reducible show LCg.CompSrc _ _ _ _ _ _ _ _ _ _ _ _ _ _) | (with_reducible show LCt.CompSrcT _ _ _ _ _ _ _ _ _ _ _ _ _ _ _) | (with_reducible show SrcLP _ _ _ _ _ _ _ _ _ _ _ _ _ _ _) | (with_reducible show DSrc _ _ _ _ _ _ _ _ _ _ _ _ _ _ _) | (with_reducible show Src2 _ _ _ _ _ _ _))); (first | (k_unfold; (try dsimp only)) | (k_unmd; k_unfold; (try dsimp only)) | (k_end; wrow_close) | (k_here; (with_reducible show wpAny _ _ (eval (PySem.Expr.Name _ _) _) _ _ _); k_dflt (refine' nameX_L ?jF ?jv ?_ ?ja ?jb; (case ja => rfl); (case jb => rfl); (case jF => k_asm); (case jv => with_reducible assumption))) | walk1 | (dsimp only; walk1) | (leave1; (try dsimp only)))))
  refine set_update rfl ((hS _ hl).symm) hw ⟨_, (N _ (.tail _ hl)).1, rfl, _, rfl⟩ hoS.1 hs hb ?_
  intro h9 tk9 o9 es9 ep9 t9 ss9 hk9 ho9 hs9 hm9 hl9
  refine h o9 es9 ep9 t9 ss9 h9 tk9 hs9 hm9 hl9 (LCg.fr_but F (fun b o hb e => hk9 b o (by simpa using hb) e) hoS.2.1.symm hoS.2.2) fun p hp => ?_
  rcases List.mem_cons.mp hp with rfl | hp
  · exact ⟨ho9, hoS.2⟩
  · exact ⟨hk9 _ _ (hS p hp) (N p (.tail _ hp)).1, (N p (.tail _ hp)).2⟩
theorem fb1_len : (forBody (stAt asgBody 1)).length = 1 := by kernel_rfl
inductive J1a (w : World) (S : Addr) (news : Led) (ss : List Str) (i : Nat) : Led → Led → Prop
  | mk {o : Obj} {es : Array (Int × Value)} {ep : Nat} {t : SetTable} {rs : List Str} {tl : Led} (hs : SetIs PR w o es ep t rs) (h1 : ∀ y ∈ rs, y ∈ ss) (h2 : 0 < i → ∀ y ∈ ss, y ∈ rs) (hl : rs.length ≤ 5 * i) (hn : ∀ p ∈ news, p ∈ tl) : J1a w S news ss i [(S, o)] tl
/-- the topics wanted -/
theorem a1 {w : World} {mean : ExcName → Option Value} {mg mb : Str → Option Value} {fa : Addr} {cd : Value} {h₀ g : Heap} {L : Addr} {m : Str → Option Value} {s : Shared} {Q : Flow → Shared → Prop} (C : ACtx w mean mg mb h₀ fa cd g) (F : Fr g L s.heap m) {news : Led} {S lm : Addr} {mvs : List Value} {n : Nat} {ss : List Str} {mems : List Mem} (N : News g L s.heap ((S, newSetO w) :: news)) (hS : ∀ p ∈ news, p.1 ≠ S)
  (hlm : (lm, listOf mvs.toArray n) ∈ news) (hme : MemsE w news mvs mems) (h1 : 1 ≤ mems.length) (h5 : mems.length ≤ 5) (htp : ∀ m ∈ mems, m.2.2.Perm ss) (hsn : ss.Nodup) (hs5 : ss.length ≤ 5)
  (mm : m (Str.ofString "members") = some (.ref lm)) (ms : m (Str.ofString "all_topics") = some (.ref S))
  (h : ∀ o es ep t rs m' h' tk', SetIs PR w o es ep t rs → rs.Perm ss → (∀ y, y ≠ Str.ofString "member" → m' y = m y) → Fr g L h' m' → News g L h' ((S, o) :: news) → Q .next { s with heap := h', toks := tk' }) :
  asgWp w h₀ fa cd L (stAt asgBody 1) Q s := by
  have C' := C
  have hfill : (fun (_ : OpenLaw) (_ : Params → Frag) => True) PySem.Challenge.rw_je0014_01 hd.heap_1 := by k_fill; trivial
  clear hfill
  obtain ⟨B, X, T⟩ := C
  have hmv := hme.length
  refine for_at (x := Str.ofString "member") g (by unfold IsFor; kernel_rfl) (by kernel_rfl) (by kernel_rfl) (by intro _; rfl) ?_
  conv in (forIter _) => whnf
  (repeat' ((fail_if_success (first | (with_reducible show wpAny _ _ (exec (Stmt.While _ _ _ _) _) _ _ _) | (with_reducible show wpAny _ _ (exec (Stmt.For _ _ _ _ _) _) _ _ _) | (with_reducible show wpAny _ _ (pyIter _) _ _ _) | (with_reducible show LCg.CompSrc _ _ _ _ _ _ _ _ _ _ _ _ _ _) | (with_reducible show LCt.CompSrcT _ _ _ _ _ _ _ _ _ _ _ _ _ _ _) | (with_reducible show SrcLP _ _ _ _ _ _ _ _ _ _ _ _ _ _ _) | (with_reducible show DSrc _ _ _ _ _ _ _ _ _ _ _ _ _ _ _) | (with_reducible show Src2 _ _ _ _ _ _ _))); (first | (k_unfold; (try dsimp only)) | (k_unmd; k_unfold; (try dsimp only)) | (k_end; wrow_close) | (k_here; (with_reducible show wpAny _ _ (eval (PySem.Expr.Name _ _) _) _ _ _); k_dflt (refine' nameX_L ?jF ?jv ?_ ?ja ?jb; (case ja => rfl); (case jb => rfl); (case jF => k_asm); (case jv => with_reducible assumption))) | walk1 | (dsimp only; walk1) | (leave1; (try dsimp only)))))
  refine for_J (vs := mvs) (nn := n) (E₀ := [(S, newSetO w)]) (tl₀ := news) [] (J1a w S news ss) rfl F N rfl (fun p hp b hb => by rw [List.mem_singleton.mp hb]; exact hS p hp) (.mk (set_new _ w) (fun _ h => nomatch h) (fun h => absurd h (Nat.lt_irrefl 0)) (Nat.zero_le _) fun _ h => h) (fun i E tl j => by cases j with | mk _ _ _ _ hn => exact .tail _ (hn _ hlm)) ?_ ?_
  · intro i v u E₁ tl T1 h2 tk2 hv hE j hT hoT F2 N2
    cases j with
    | mk hs q1 q2 ql hn =>
    obtain ⟨me, hme1, hmeE⟩ := hme.item i v hv
    have hmp := htp me (List.mem_of_getElem? hme1)
    have hi : i < mems.length := (List.getElem?_eq_some_iff.mp hme1).1
    clear F N
    refine execs_at (body := forBody (stAt asgBody 1)) (k := 0) (by rw [fb1_len]; decide) ?_
    refine a1_turn C' F2 N2 (fun p hp => hoT p hp S (.head _)) hs (hmeE.mono fun p hp => hT p (hn p hp)) (by rw [hmp.length_eq]; omega) rfl ms ?_
    intro o3 es3 ep3 t3 ss3 h3 tk3 hs3 hm3 hl3 F3 N3
    refine execs_end (body := forBody (stAt asgBody 1)) (by rw [fb1_len]; decide) ?_
    refine fend [(S, o3)] [] F3 N3 (fun p hp => hp) rfl (fun _ h => nomatch h) (fun y hy _ => by show (if y = _ then _ else _) = _; rw [if_neg hy]; rfl) (.mk hs3 (fun y hy => ?_) (fun _ y hy => (hm3 y).mpr (.inr (hmp.mem_iff.mpr hy))) (by rw [hmp.length_eq] at hl3; omega) hn)
    rcases (hm3 y).mp hy with e | e
    · exact q1 y e
    · exact hmp.mem_iff.mp e
  · intro u E₁ tl h2 tk2 hE hoT j F2 N2
    cases j with
    | mk hs q1 q2 ql hn =>
    refine h _ _ _ _ _ _ h2 tk2 hs ((List.perm_ext_iff_of_nodup hs.nod hsn).mpr fun y => ⟨q1 y, q2 (by omega) y⟩) (fun y hy => ?_) F2 fun p hp => ?_
    · show (if y = _ then _ else _) = _
      rw [if_neg hy]; rfl
    · rcases List.mem_cons.mp hp with rfl | hp
      · exact N2 _ (.head _)
      · exact N2 _ (.tail _ (hn p hp))
-- Q3
/-- partitions = cluster.partitions_for_topic(topic) -/
theorem a3_0 {w : World} {mean : ExcName → Option Value} {mg mb : Str → Option Value} {fa : Addr} {cd : Value} {h₀ g : Heap} {L : Addr} {m : Str → Option Value} {s : Shared} {Q : Flow → Shared → Prop} (C : ACtx w mean mg mb h₀ fa cd g) (F : Fr g L s.heap m) {news : Led} {ci cc D : Addr} {oD : Obj} {u tt : Tok} {t : Str} {kvs : List (Str × Value)} (N : News g L s.heap news) (h1 : (ci, instObj 122 cc) ∈ news) (h2 : (cc, cluD w D u) ∈ news) (h3 : (D, oD) ∈ news) (h4 : oD.IsDictOf (PySem.strKind PR w) kvs) (hD : @LT.lt Nat _ 1 D)
  (mc : m (Str.ofString "cluster") = some (.ref ci)) (mt : m (Str.ofString "topic") = some (.str t tt))
  (h : ∀ h' tk', Fr g L h' (fun y => if y = Str.ofString "partitions" then some ((valueAt kvs t).getD .none) else m y) → News g L h' news → Q .next { s with heap := h', toks := tk' }) :
  asgWp w h₀ fa cd L (stAt (forBody (stAt asgBody 3)) 0) Q s := by
  have hfill : (fun (_ : OpenLaw) (_ : Params → Frag) => True) PySem.Challenge.rw_je0014_01 hd.heap_1 := by k_fill; trivial
  clear hfill
  obtain ⟨B, X, T⟩ := C
  have lo := not_modules hD
  conv in (stAt (forBody _) _) => whnf
  (repeat' ((fail_if_success (first | (with_reducible show wpAny _ _ (exec (Stmt.While _ _ _ _) _) _ _ _) | (with_reducible show wpAny _ _ (exec (Stmt.For _ _ _ _ _) _) _ _ _) | (with_reducible show wpAny _ _ (pyIter _) _ _ _) | (with_reducible show LCg.CompSrc _ _ _ _ _ _ _ _ _ _ _ _ _ _) | (with_reducible show LCt.CompSrcT _ _ _ _ _ _ _ _ _ _ _ _ _ _ _) | (with_reducible show SrcLP _ _ _ _ _ _ _ _ _ _ _ _ _ _ _) | (with_reducible show DSrc _ _ _ _ _ _ _ _ _ _ _ _ _ _ _) | (with_reducible show Src2 _ _ _ _ _ _ _))); (first | (k_unfold; (try dsimp only)) | (k_unmd; k_unfold; (try dsimp only)) | (k_end; wrow_close) | (k_here; (with_reducible show wpAny _ _ (eval (PySem.Expr.Name _ _) _) _ _ _); k_dflt (refine' nameX_L ?jF ?jv ?_ ?ja ?jb; (case ja => rfl); (case jb => rfl); (case jF => k_asm); (case jv => with_reducible assumption))) | (k_here; (with_reducible show wpAny _ _ (getMethod (Value.ref _) _ _) _ _ _); k_dflt (refine' kdg_method (knd := PySem.strKind _ _) ?jN ?jm ?jd ?_; (case jN => k_asm); (case jm => k_mem); (case jd => with_reducible assumption))) | (k_here; (with_reducible show wpAny _ _ (call (Value.builtin "dict.get") [Value.ref _, Value.str _ _]) _ _ _); k_dflt (refine' kdg_get1 (knd := PySem.strKind _ _) ?jN ?jm ?jd ?jl (strKind_is _ _ _ _) _ rfl ?_; (case jN => k_asm); (case jm => k_mem); (case jd => with_reducible assumption); (case jl => with_reducible assumption))) | walk1 | (dsimp only; walk1) | (leave1; (try dsimp only)))))
  rename_i z13 z12 z11 z10 z9 z8 z7 z6 z5 z4 z3 z2 z1
  exact h _ _ z2 z1
/-- if partitions is None: continue -/
theorem a3_1 {w : World} {mean : ExcName → Option Value} {mg mb : Str → Option Value} {fa : Addr} {cd : Value} {h₀ g : Heap} {L : Addr} {m : Str → Option Value} {s : Shared} {Q : Flow → Shared → Prop} (C : ACtx w mean mg mb h₀ fa cd g) (F : Fr g L s.heap m) {news : Led} {x : Option Value} (N : News g L s.heap news) (hx : x = none ∨ ∃ a, x = some (.ref a)) (mp : m (Str.ofString "partitions") = some (x.getD .none))
  (h : (x = none → Q .cont s) ∧ (x ≠ none → Q .next s)) :
  asgWp w h₀ fa cd L (stAt (forBody (stAt asgBody 3)) 1) Q s := by
  have hfill : (fun (_ : OpenLaw) (_ : Params → Frag) => True) PySem.Challenge.rw_je0014_01 hd.heap_1 := by k_fill; trivial
  clear hfill
  obtain ⟨B, X, T⟩ := C
  conv in (stAt (forBody _) _) => whnf
  rcases hx with rfl | ⟨a, rfl⟩
  · have mp2 : m (Str.ofString "partitions") = some Value.none := mp
    clear mp
    (repeat' ((fail_if_success (first | (with_reducible show wpAny _ _ (exec (Stmt.While _ _ _ _) _) _ _ _) | (with_reducible show wpAny _ _ (exec (Stmt.For _ _ _ _ _) _) _ _ _) | (with_reducible show wpAny _ _ (pyIter _) _ _ _) | (with_reducible show LCg.CompSrc _ _ _ _ _ _ _ _ _ _ _ _ _ _) | (with_reducible show LCt.CompSrcT _ _ _ _ _ _ _ _ _ _ _ _ _ _ _) | (with_reducible show SrcLP _ _ _ _ _ _ _ _ _ _ _ _ _ _ _) | (with_reducible show DSrc _ _ _ _ _ _ _ _ _ _ _ _ _ _ _) | (with_reducible show Src2 _ _ _ _ _ _ _))); (first | (k_unfold; (try dsimp only)) | (k_unmd; k_unfold; (try dsimp only)) | (k_end; wrow_close) | (k_here; (with_reducible show wpAny _ _ (eval (PySem.Expr.Name _ _) _) _ _ _); k_dflt (refine' nameX_L ?jF ?jv ?_ ?ja ?jb; (case ja => rfl); (case jb => rfl); (case jF => k_asm); (case jv => with_reducible assumption))) | walk1 | (dsimp only; walk1) | (leave1; (try dsimp only)))))
    exact h.1 rfl
  · have mp2 : m (Str.ofString "partitions") = some (Value.ref a) := mp
    clear mp
    (repeat' ((fail_if_success (first | (with_reducible show wpAny _ _ (exec (Stmt.While _ _ _ _) _) _ _ _) | (with_reducible show wpAny _ _ (exec (Stmt.For _ _ _ _ _) _) _ _ _) | (with_reducible show wpAny _ _ (pyIter _) _ _ _) | (with_reducible show LCg.CompSrc _ _ _ _ _ _ _ _ _ _ _ _ _ _) | (with_reducible show LCt.CompSrcT _ _ _ _ _ _ _ _ _ _ _ _ _ _ _) | (with_reducible show SrcLP _ _ _ _ _ _ _ _ _ _ _ _ _ _ _) | (with_reducible show DSrc _ _ _ _ _ _ _ _ _ _ _ _ _ _ _) | (with_reducible show Src2 _ _ _ _ _ _ _))); (first | (k_unfold; (try dsimp only)) | (k_unmd; k_unfold; (try dsimp only)) | (k_end; wrow_close) | (k_here; (with_reducible show wpAny _ _ (eval (PySem.Expr.Name _ _) _) _ _ _); k_dflt (refine' nameX_L ?jF ?jv ?_ ?ja ?jb; (case ja => rfl); (case jb => rfl); (case jF => k_asm); (case jv => with_reducible assumption))) | walk1 | (dsimp only; walk1) | (leave1; (try dsimp only)))))
    exact h.2 (fun e => nomatch e)
noncomputable def tupO (t : Str) (tt : Tok) (n : Int) (tn : Tok) : Obj := { cls := .type "tuple", data := .seq #[.str t tt, .int n tn] }
/-- all_topic_partitions.append((topic, partition)) -/
theorem a3_t {w : World} {mean : ExcName → Option Value} {mg mb : Str → Option Value} {fa : Addr} {cd : Value} {h₀ g : Heap} {L : Addr} {m : Str → Option Value} {s : Shared} {Q : Flow → Shared → Prop} (C : ACtx w mean mg mb h₀ fa cd g) (F : Fr g L s.heap m) {news : Led} {P : Addr} {ys : List Value} {c : Nat} {t : Str} {tt tn : Tok} {n : Int} (N : News g L s.heap ((P, listOf ys.toArray c) :: news)) (hP : ∀ p ∈ news, p.1 ≠ P) (hy : ys.length ≤ 900)
  (mp : m (Str.ofString "all_topic_partitions") = some (.ref P)) (mt : m (Str.ofString "topic") = some (.str t tt)) (mn : m (Str.ofString "partition") = some (.int n tn))
  (h : ∀ T h' tk' tt' tn', (∀ p ∈ (P, listOf ys.toArray c) :: news, p.1 < T) → Fr g L h' m → News g L h' ((T, tupO t tt' n tn') :: (P, listOf (ys ++ [Value.ref T]).toArray (c + 1)) :: news) → Q .next { s with heap := h', toks := tk' }) :
  asgWp w h₀ fa cd L (stAt (forBody (stAt (forBody (stAt asgBody 3)) 2)) 0) Q s := by
  have hfill : (fun (_ : OpenLaw) (_ : Params → Frag) => True) PySem.Challenge.rw_je0014_01 hd.heap_1 := by k_fill; trivial
  clear hfill
  obtain ⟨B, X, T⟩ := C
  have hy2 : ys.length ≤ 1000 := by omega
  conv in (stAt (forBody _) _) => whnf
  (repeat' ((fail_if_success (first | (with_reducible show wpAny _ _ (exec (Stmt.While _ _ _ _) _) _ _ _) | (with_reducible show wpAny _ _ (exec (Stmt.For _ _ _ _ _) _) _ _ _) | (with_reducible show wpAny _ _ (pyIter _) _ _ _) | (with_reducible show LCg.CompSrc _ _ _ _ _ _ _ _ _ _ _ _ _ _) | (with_reducible show LCt.CompSrcT _ _ _ _ _ _ _ _ _ _ _ _ _ _ _) | (with_reducible show SrcLP _ _ _ _ _ _ _ _ _ _ _ _ _ _ _) | (with_reducible show DSrc _ _ _ _ _ _ _ _ _ _ _ _ _ _ _) | (with_reducible show Src2 _ _ _ _ _ _ _))); (first | (k_unfold; (try dsimp only)) | (k_unmd; k_unfold; (try dsimp only)) | (k_end; wrow_close) | (k_here; (with_reducible show wpAny _ _ (eval (PySem.Expr.Name _ _) _) _ _ _); k_dflt (refine' nameX_L ?jF ?jv ?_ ?ja ?jb; (case ja => rfl); (case jb => rfl); (case jF => k_asm); (case jv => with_reducible assumption))) | (k_here; (with_reducible show wpAny _ _ (call (Value.builtin "list.append") [Value.ref _, _]) _ _ _); k_dflt (refine' append_L ?jF ?jN ?jU ?jz ?_; (case jF => k_asm); (case jN => k_asm); (case jU => k_updF); (case jz => first | with_reducible assumption | exact Nat.le_of_ble_eq_true rfl)); intro h5 F' N'; (try dsimp only at N')) | walk1 | (dsimp only; walk1) | (leave1; (try dsimp only)))))
  rename_i z5 z4 z3 z2 z1
  exact h _ _ _ _ _ z1 F' N'
theorem fb32_len : (forBody (stAt (forBody (stAt asgBody 3)) 2)).length = 1 := by kernel_rfl
inductive J3i (P : Addr) (news T : Led) (ds : List Dat) (t : Str) (ns : List Int) (i : Nat) : Led → Led → Prop
  | mk {ys : List Value} {c : Nat} {new : Led} (hd : DatAll (new ++ news) ys (ds ++ (ns.take i).map fun n => pairD (t, n))) (hf : ∀ q ∈ new, (∀ p ∈ T, p.1 ≠ q.1) ∧ q.1 ≠ P) : J3i P news T ds t ns i [(P, listOf ys.toArray c)] (new ++ T)
/-- for partition in partitions -/
theorem a3_2 {w : World} {mean : ExcName → Option Value} {mg mb : Str → Option Value} {fa : Addr} {cd : Value} {h₀ g : Heap} {L : Addr} {m : Str → Option Value} {s : Shared} {Q : Flow → Shared → Prop} (C : ACtx w mean mg mb h₀ fa cd g) (F : Fr g L s.heap m) {news T : Led} {P a : Addr} {ys us : List Value} {c k : Nat} {t : Str} {tt : Tok} {ns : List Int} {ds : List Dat} (N : News g L s.heap ((P, listOf ys.toArray c) :: T)) (hP : ∀ p ∈ T, p.1 ≠ P) (hsT : ∀ p ∈ news, p ∈ T) (hdy : DatAll news ys ds) (hdl : ds.length ≤ 100)
  (ha : (a, listOf us.toArray k) ∈ news) (hi : IntsAre us ns) (hnl : ns.length ≤ 6)
  (ma : m (Str.ofString "partitions") = some (.ref a)) (mp : m (Str.ofString "all_topic_partitions") = some (.ref P)) (mt : m (Str.ofString "topic") = some (.str t tt))
  (h : ∀ ys' c' new m' h' tk', DatAll (new ++ news) ys' (ds ++ ns.map fun n => pairD (t, n)) → (∀ q ∈ new, (∀ p ∈ T, p.1 ≠ q.1) ∧ q.1 ≠ P) → (∀ y, y ≠ Str.ofString "partition" → m' y = m y) → Fr g L h' m' → News g L h' ((P, listOf ys'.toArray c') :: (new ++ T)) → Q .next { s with heap := h', toks := tk' }) :
  asgWp w h₀ fa cd L (stAt (forBody (stAt asgBody 3)) 2) Q s := by
  have C' := C
  have hfill : (fun (_ : OpenLaw) (_ : Params → Frag) => True) PySem.Challenge.rw_je0014_01 hd.heap_1 := by k_fill; trivial
  clear hfill
  obtain ⟨B, X, T⟩ := C
  rename_i T9
  have hul := hi.length
  refine for_at (x := Str.ofString "partition") g (by unfold IsFor; kernel_rfl) (by kernel_rfl) (by kernel_rfl) (by intro _; rfl) ?_
  conv in (forIter _) => whnf
  (repeat' ((fail_if_success (first | (with_reducible show wpAny _ _ (exec (Stmt.While _ _ _ _) _) _ _ _) | (with_reducible show wpAny _ _ (exec (Stmt.For _ _ _ _ _) _) _ _ _) | (with_reducible show wpAny _ _ (pyIter _) _ _ _) | (with_reducible show LCg.CompSrc _ _ _ _ _ _ _ _ _ _ _ _ _ _) | (with_reducible show LCt.CompSrcT _ _ _ _ _ _ _ _ _ _ _ _ _ _ _) | (with_reducible show SrcLP _ _ _ _ _ _ _ _ _ _ _ _ _ _ _) | (with_reducible show DSrc _ _ _ _ _ _ _ _ _ _ _ _ _ _ _) | (with_reducible show Src2 _ _ _ _ _ _ _))); (first | (k_unfold; (try dsimp only)) | (k_unmd; k_unfold; (try dsimp only)) | (k_end; wrow_close) | (k_here; (with_reducible show wpAny _ _ (eval (PySem.Expr.Name _ _) _) _ _ _); k_dflt (refine' nameX_L ?jF ?jv ?_ ?ja ?jb; (case ja => rfl); (case jb => rfl); (case jF => k_asm); (case jv => with_reducible assumption))) | walk1 | (dsimp only; walk1) | (leave1; (try dsimp only)))))
  refine for_J (vs := us) (nn := k) (E₀ := [(P, listOf ys.toArray c)]) (tl₀ := T9) [] (J3i P news T9 ds t ns) rfl F N rfl (fun p hp b hb => by rw [List.mem_singleton.mp hb]; exact hP p hp) (.mk (new := []) (by rw [List.take_zero, List.map_nil, List.append_nil]; exact hdy) fun _ h => nomatch h) (fun i E tl j => by cases j with | mk _ _ => exact List.mem_append_right [_] (List.mem_append_right _ (hsT _ ha))) ?_ ?_
  · intro i v u E₁ tl T1 h2 tk2 hv hE j hT hoT F2 N2
    cases j with
    | @mk ys1 c1 new hd1 hf =>
    obtain ⟨tn, rfl⟩ := hi.int_at i v hv
    have hil : i < ns.length := by rw [← hul]; exact (List.getElem?_eq_some_iff.mp hv).1
    have hx : ns[i]? = some (ns.getD i 0) := by rw [List.getD_eq_getElem?_getD, List.getElem?_eq_getElem hil]; rfl
    have hyl := hd1.length
    rw [List.length_append, List.length_map, List.length_take] at hyl
    clear F N
    refine execs_at (body := forBody (stAt (forBody (stAt asgBody 3)) 2)) (k := 0) (by rw [fb32_len]; decide) ?_
    refine a3_t (t := t) C' F2 N2 (fun p hp => hoT p hp P (.head _)) (by omega) mp mt rfl ?_
    intro Tp h3 tk3 tt3 tn3 hlt F3 N3
    have hltT : ∀ p ∈ T9, p.1 ≠ Tp := fun p hp => Nat.ne_of_lt (hlt p (.tail _ (hT p (List.mem_append_right _ hp))))
    have hltP : Tp ≠ P := (Nat.ne_of_lt (hlt _ (.head _))).symm
    refine execs_end (body := forBody (stAt (forBody (stAt asgBody 3)) 2)) (by rw [fb32_len]; decide) ?_
    refine fend [(P, listOf (ys1 ++ [Value.ref Tp]).toArray (c1 + 1))] [(Tp, tupO t tt3 (ns.getD i 0) tn3)] F3 N3 (fun p hp => ?_) rfl (fun q hq => ?_) (fun y hy _ => by show (if y = _ then _ else _) = _; rw [if_neg hy]; rfl) (.mk (new := (Tp, tupO t tt3 (ns.getD i 0) tn3) :: new) ?_ (List.forall_mem_cons.mpr ⟨⟨hltT, hltP⟩, hf⟩))
    · rcases List.mem_cons.mp hp with rfl | hp
      · exact .tail _ (.head _)
      · rcases List.mem_cons.mp hp with rfl | hp
        · exact .head _
        · exact .tail _ (.tail _ hp)
    · rw [List.mem_singleton.mp hq]
      exact ⟨fun p hp => Nat.ne_of_lt (hlt p (.tail _ hp)), fun b hb => by rw [List.mem_singleton.mp hb]; exact hltP⟩
    · rw [List.take_add_one, hx, List.map_append, ← List.append_assoc]
      refine (hd1.mono fun p hp => .tail _ hp).append (.one ?_)
      exact .tuple (vs := [_, _]) (.head _) (.cons (.str _ _) (.cons (.int _ _) .nil))
  · intro u E₁ tl h2 tk2 hE hoT j F2 N2
    cases j with
    | @mk ys1 c1 new hd1 hf =>
    rw [hul, List.take_length] at hd1
    refine h ys1 c1 new _ h2 tk2 hd1 hf (fun y hy => ?_) F2 N2
    show (if y = _ then _ else _) = _
    rw [if_neg hy]; rfl
-- Q4
/-- the parts of the topics, as assign makes them -/
noncomputable def partsL (cl : List (Str × List Int)) (ks : List Str) : List (Str × Int) := ks.flatMap fun t => (numsOf cl t).map fun n => (t, n)
theorem nums_none : ∀ {cl : List (Str × List Int)} {t : Str}, t ∉ cl.map (·.1) → numsOf cl t = []
  | [], _, _ => rfl
  | (u, l) :: r, t, h => by
    rw [numsOf, if_neg (fun e : u = t => h (by rw [← e]; exact .head _))]
    exact nums_none fun q => h (.tail _ q)
theorem flat_filter {β γ : Type} (p : β → Bool) (f : β → List γ) (h : ∀ x, p x = false → f x = []) : ∀ l : List β, l.flatMap f = (l.filter p).flatMap f
  | [] => rfl
  | x :: l => by
    rw [List.flatMap_cons, flat_filter p f h l]
    cases hp : p x with
    | true => rw [List.filter_cons_of_pos hp, List.flatMap_cons]
    | false => rw [List.filter_cons_of_neg (by rw [hp]; exact Bool.false_ne_true), h x hp, List.nil_append]
theorem partsL_perm {cl : List (Str × List Int)} {ss ks : List Str} (hn : (cl.map (·.1)).Nodup) (hs : ss.Nodup) (hk : ks.Perm ss) : (partsL cl ks).Perm (partsOf cl ss) := by
  rw [parts_eq ss hn, partsL, flat_filter (fun t => decide (t ∈ cl.map (·.1))) _ (fun t ht => by rw [nums_none (by simpa using ht)]; rfl) ks, flat_filter (fun t => decide (t ∈ ss)) (fun t => if t ∈ ss then (numsOf cl t).map fun n => (t, n) else []) (fun t ht => if_neg (by simpa using ht))]
  have e : ((cl.map (·.1)).filter fun t => decide (t ∈ ss)).flatMap (fun t => if t ∈ ss then (numsOf cl t).map fun n => (t, n) else []) = ((cl.map (·.1)).filter fun t => decide (t ∈ ss)).flatMap fun t => (numsOf cl t).map fun n => (t, n) := by
    rw [List.flatMap_def, List.flatMap_def]
    congr 1
    refine List.map_congr_left fun t ht => if_pos ?_
    simpa using (List.mem_filter.mp ht).2
  rw [e]
  have hkn : ks.Nodup := hk.nodup_iff.mpr hs
  refine List.Perm.flatMap_right _ ((List.perm_ext_iff_of_nodup (hkn.filter _) (hn.filter _)).mpr fun t => ?_)
  simp only [List.mem_filter, decide_eq_true_eq, hk.mem_iff]
  exact And.comm
theorem no_cont {y z : Str} {l : List Str} (h : l.contains y = false) (hz : z ∈ l) : y ≠ z := fun e => by
  have : l.contains y = true := List.contains_iff_mem.mpr (e ▸ hz)
  rw [h] at this
  cases this
theorem fb3_len : (forBody (stAt asgBody 3)).length = 3 := by kernel_rfl
inductive J3q (P : Addr) (news : Led) (cl : List (Str × List Int)) (ks : List Str) (i : Nat) : Led → Led → Prop
  | mk {ys : List Value} {c : Nat} {tl : Led} (hd : DatAll tl ys ((partsL cl (ks.take i)).map pairD)) (hl : (partsL cl (ks.take i)).length ≤ 6 * i) (hn : ∀ p ∈ news, p ∈ tl) : J3q P news cl ks i [(P, listOf ys.toArray c)] tl
/-- for topic in sorted(all_topics) -/
theorem a3 {w : World} {mean : ExcName → Option Value} {mg mb : Str → Option Value} {fa : Addr} {cd : Value} {h₀ g : Heap} {L : Addr} {m : Str → Option Value} {s : Shared} {Q : Flow → Shared → Prop} (C : ACtx w mean mg mb h₀ fa cd g) (F : Fr g L s.heap m) {news : Led} {P S ci cc D : Addr} {o oD : Obj} {es : Array (Int × Value)} {ep : Nat} {t : SetTable} {ss : List Str} {u : Tok} {cl : List (Str × List Int)} {kvs : List (Str × Value)} (N : News g L s.heap ((P, listOf #[] 0) :: news)) (hP : ∀ p ∈ news, p.1 ≠ P)
  (mS : (S, o) ∈ news) (hs : SetIs PR w o es ep t ss) (hs5 : ss.length ≤ 5)
  (h1 : (ci, instObj 122 cc) ∈ news) (h2 : (cc, cluD w D u) ∈ news) (h3 : (D, oD) ∈ news) (h4 : oD.IsDictOf (PySem.strKind PR w) kvs) (hce : ClusE news kvs cl) (hD : @LT.lt Nat _ 1 D) (hc4 : cl.length ≤ 4)
  (mc : m (Str.ofString "cluster") = some (.ref ci)) (ma : m (Str.ofString "all_topics") = some (.ref S)) (mp : m (Str.ofString "all_topic_partitions") = some (.ref P))
  (h : ∀ ys c (parts : List (Str × Int)) tl m' h' tk' d', DatAll tl ys (parts.map pairD) → parts.Perm (partsOf cl ss) → parts.length ≤ 30 → (∀ p ∈ news, p ∈ tl) → (∀ p ∈ tl, p.1 ≠ P) → (∀ y, y ≠ Str.ofString "topic" → y ≠ Str.ofString "partitions" → y ≠ Str.ofString "partition" → m' y = m y) → Fr g L h' m' → News g L h' ((P, listOf ys.toArray c) :: tl) → Q .next { s with heap := h', toks := tk', drawn := d' }) :
  asgWp w h₀ fa cd L (stAt asgBody 3) Q s := by
  have C' := C
  have hfill : (fun (_ : OpenLaw) (_ : Params → Frag) => True) PySem.Challenge.rw_je0014_01 hd.heap_1 := by k_fill; trivial
  clear hfill
  obtain ⟨B, X, T⟩ := C
  refine for_at (x := Str.ofString "topic") g (by unfold IsFor; kernel_rfl) (by kernel_rfl) (by kernel_rfl) (by intro _; rfl) ?_
  conv in (forIter _) => whnf
  (repeat' ((fail_if_success (first | (with_reducible show wpAny _ _ (exec (Stmt.While _ _ _ _) _) _ _ _) | (with_reducible show wpAny _ _ (exec (Stmt.For _ _ _ _ _) _) _ _ _) | (with_reducible show wpAny _ _ (pyIter _) _ _ _) | (with_reducible show wpAny _ _ (call _ _) _ _ _) | (with_reducible show LCg.CompSrc _ _ _ _ _ _ _ _ _ _ _ _ _ _) | (with_reducible show LCt.CompSrcT _ _ _ _ _ _ _ _ _ _ _ _ _ _ _) | (with_reducible show SrcLP _ _ _ _ _ _ _ _ _ _ _ _ _ _ _) | (with_reducible show DSrc _ _ _ _ _ _ _ _ _ _ _ _ _ _ _) | (with_reducible show Src2 _ _ _ _ _ _ _))); (first | (k_unfold; (try dsimp only)) | (k_unmd; k_unfold; (try dsimp only)) | (k_end; wrow_close) | (k_here; (with_reducible show wpAny _ _ (eval (PySem.Expr.Name _ _) _) _ _ _); k_dflt (refine' nameX_L ?jF ?jv ?_ ?ja ?jb; (case ja => rfl); (case jb => rfl); (case jF => k_asm); (case jv => with_reducible assumption))) | walk1 | (dsimp only; walk1) | (leave1; (try dsimp only)))))
  refine set_sorted rfl F N (.tail _ mS) hs (by omega) ?_
  intro B9 ws ks c9 h5 tk5 d5 hws hkp hks1 F1 N1 hlt
  clear F N
  have hkl : ks.length ≤ 5 := by rw [hkp.length_eq]; exact hs5
  have hwl := hws.length
  have hkn := dict_nodup h4
  have hkk := hce.keys
  have hPB : P ≠ B9 := Nat.ne_of_lt (hlt _ (.head _))
  have N2 : News g L h5 ([(P, listOf #[] 0)] ++ ((B9, listOf ws.toArray c9) :: news)) := fun p hp => by
    rcases List.mem_cons.mp hp with rfl | hp
    · exact N1 _ (.tail _ (.head _))
    · rcases List.mem_cons.mp hp with rfl | hp
      · exact N1 _ (.head _)
      · exact N1 _ (.tail _ (.tail _ hp))
  refine for_J (vs := ws) (nn := c9) (E₀ := [(P, listOf #[] 0)]) (tl₀ := (B9, listOf ws.toArray c9) :: news) [Str.ofString "partitions", Str.ofString "partition"] (J3q P ((B9, listOf ws.toArray c9) :: news) cl ks) rfl F1 N2 rfl (fun p hp b hb => by rw [List.mem_singleton.mp hb]; exact (List.mem_cons.mp hp).elim (fun e => by rw [e]; exact hPB.symm) (hP p)) (.mk (by rw [List.take_zero]; exact .nil) (by rw [List.take_zero]; exact Nat.zero_le _) fun _ h => h) (fun i E tl j => by cases j with | mk _ _ hn => exact .tail _ (hn _ (.head _))) ?_ ?_
  · intro i v u9 E₁ tl T1 h6 tk6 hv hE j hT hoT F3 N3
    cases j with
    | @mk ys1 c1 _ hd1 hl1 hn =>
    obtain ⟨x, tx, rfl, hx⟩ := hws.item i v hv
    have hil : i < ks.length := (List.getElem?_eq_some_iff.mp hx).1
    have hin : ∀ p ∈ news, p ∈ [(P, listOf ys1.toArray c1)] ++ T1 := fun p hp => .tail _ (hT p (hn p (.tail _ hp)))
    have htk : ks.take (i + 1) = ks.take i ++ [x] := by rw [List.take_add_one, hx]; rfl
    have hpl : partsL cl (ks.take (i + 1)) = partsL cl (ks.take i) ++ (numsOf cl x).map fun n => (x, n) := by rw [htk, partsL, List.flatMap_append, List.flatMap_cons, List.flatMap_nil, List.append_nil]; rfl
    clear F1 N1 N2
    refine execs_at (body := forBody (stAt asgBody 3)) (k := 0) (by rw [fb3_len]; decide) ?_
    refine a3_0 (t := x) (kvs := kvs) C' F3 N3 (hin _ h1) (hin _ h2) (hin _ h3) h4 hD mc rfl ?_
    intro h7 tk7 F4 N4
    refine execs_at (body := forBody (stAt asgBody 3)) (k := 1) (by rw [fb3_len]; decide) ?_
    by_cases hxk : x ∈ kvs.map (·.1)
    · obtain ⟨a, n, vs, ns, hvl, hma, hints, hnl, hcm⟩ := clus_find hce hkn hxk
      rw [hvl] at F4
      refine a3_1 (x := some (.ref a)) C' F4 N4 (.inr ⟨a, rfl⟩) rfl ⟨(fun e => nomatch e), fun _ => ?_⟩
      have hnx : numsOf cl x = ns := nums_of_mem (hkk ▸ hkn) hcm
      rw [hnx] at hpl
      refine execs_at (body := forBody (stAt asgBody 3)) (k := 2) (by rw [fb3_len]; decide) ?_
      refine a3_2 (t := x) (ns := ns) (news := tl) (ds := (partsL cl (ks.take i)).map pairD) C' F4 N4 (fun p hp => hoT p hp P (.head _)) hT hd1 (by rw [List.length_map]; omega) (hn _ (.tail _ hma)) hints hnl rfl mp rfl ?_
      intro ys2 c2 new m2 h8 tk8 hd2 hf2 hm2 F5 N5
      refine execs_end (body := forBody (stAt asgBody 3)) (by rw [fb3_len]; decide) ?_
      refine fend [(P, listOf ys2.toArray c2)] new F5 N5 (fun p hp => hp) rfl (fun q hq => ⟨(hf2 q hq).1, fun b hb => by rw [List.mem_singleton.mp hb]; exact (hf2 q hq).2⟩) (fun y hy hc => ?_) (.mk ?_ ?_ fun p hp => List.mem_append_right _ (hn p hp))
      · have y1 := no_cont hc (.head _)
        have y2 := no_cont hc (.tail _ (.head _))
        rw [hm2 y y2]
        show (if y = _ then _ else if y = _ then _ else if _ then _ else _) = _
        rw [if_neg y1, if_neg hy, hc]; rfl
      · rw [hpl, List.map_append, List.map_map]
        exact hd2
      · rw [hpl, List.length_append, List.length_map]; omega
    · have hvl := valueAt_none_of_not_mem hxk
      rw [hvl] at F4
      refine a3_1 (x := none) C' F4 N4 (.inl rfl) rfl ⟨fun _ => ?_, fun e => absurd rfl e⟩
      have hnx : numsOf cl x = [] := nums_none (hkk ▸ hxk)
      rw [hnx, List.map_nil, List.append_nil] at hpl
      refine fpost_cont (fend [(P, listOf ys1.toArray c1)] [] F4 N4 (fun p hp => hp) rfl (fun _ h => nomatch h) (fun y hy hc => ?_) (.mk (hpl ▸ hd1) (by rw [hpl]; omega) hn))
      have y1 := no_cont hc (.head _)
      show (if y = _ then _ else if y = _ then _ else if _ then _ else _) = _
      rw [if_neg y1, if_neg hy, hc]; rfl
  · intro u9 E₁ tl h6 tk6 hE hoT j F3 N3
    cases j with
    | @mk ys1 c1 _ hd1 hl1 hn =>
    rw [hwl, List.take_length] at hd1 hl1
    have hpp := partsL_perm (hkk ▸ hkn) hs.nod hkp
    refine h ys1 c1 _ tl _ h6 tk6 d5 hd1 (hpp) ?_ (fun p hp => hn p (.tail _ hp)) (fun p hp => hoT p hp P (.head _)) (fun y y1 y2 y3 => ?_) F3 N3
    · omega
    · show (if y = _ then _ else if _ then _ else _) = _
      rw [if_neg y1]
      rw [if_neg (fun e => ?_)]
      rcases List.mem_cons.mp (List.contains_iff_mem.mp e) with e | e
      · exact y2 e
      · exact y3 (List.mem_singleton.mp e)
-- D9
noncomputable def gbkDef : Stmt := PySem.Challenge.pw_je0014_01.main.body.getD 6 (.Pass pos0)
noncomputable def gbkBody : List Stmt := match gbkDef with | .FunctionDef _ _ b _ _ _ _ _ _ _ => b | _ => []
noncomputable def gbkScope : Scope := match gbkDef with | .FunctionDef _ _ _ _ _ _ sc _ _ _ => sc | _ => default
theorem gbkBody_len : gbkBody.length = 4 := by kernel_rfl
theorem gbkFor_len : (forBody (stAt gbkBody 2)).length = 4 := by kernel_rfl
noncomputable abbrev gbkEnv (L : Addr) : Env := envOf (Str.ofString "grouped_by_kind") gbkScope L 133 (.ref 132)
noncomputable abbrev gbkA (h₀ : Heap) (fa : Addr) (cd : Value) (L M : Addr) : Around := Around.deeper (asgA h₀ fa cd L) (gbkEnv M)
noncomputable abbrev gbkWp (w : World) (h₀ : Heap) (fa : Addr) (cd : Value) (L M : Addr) (st : Stmt) (Q : Flow → Shared → Prop) (s : Shared) : Prop := wpAny (model PR w) (gbkA h₀ fa cd L M) (exec st (gbkEnv M)) Q NE s
/-- what stands all through the call of grouped_by_kind -/
structure GCtx (w : World) (mean : ExcName → Option Value) (mg mb : Str → Option Value) (h₀ : Heap) (fa : Addr) (cd : Value) (L : Addr) (g : Heap) : Prop where
  B : Below (asgA h₀ fa cd L) h₀ [asgEnv L, lawEnv h₀ fa cd] g
  X : (hd.heap_1 w.params).In g
  T : Top vw LOO mean mg mb g
-- Q5
noncomputable def gD : Option Str → Dat | .none => .none | some x => .str x
noncomputable def uD (p : Option Str × Str) : Dat := .tuple [gD p.1, .str p.2]
/-- kind = ids[0] is not None -/
theorem g0 {w : World} {mean : ExcName → Option Value} {mg mb : Str → Option Value} {fa : Addr} {cd : Value} {h₀ g : Heap} {L M : Addr} {m : Str → Option Value} {s : Shared} {Q : Flow → Shared → Prop} (C : GCtx w mean mg mb h₀ fa cd L g) (F : Fr g M s.heap m) {news : Led} {T : Addr} {n : Nat} {v1 v2 : Value} {o : Option Str} (N : News g M s.heap news) (mT : (T, ({ cls := .type "tuple", data := .seq #[v1, v2] n } : Obj)) ∈ news) (h1 : DatIn news v1 (gD o))
  (mi : m (Str.ofString "ids") = some (.ref T))
  (h : ∀ h' tk', Fr g M h' (fun y => if y = Str.ofString "kind" then some (.bool o.isSome) else m y) → News g M h' news → Q .next { s with heap := h', toks := tk' }) :
  gbkWp w h₀ fa cd L M (stAt (forBody (stAt gbkBody 2)) 0) Q s := by
  have hfill : (fun (_ : OpenLaw) (_ : Params → Frag) => True) PySem.Challenge.rw_je0014_01 hd.heap_1 := by k_fill; trivial
  clear hfill
  obtain ⟨B, X, T⟩ := C
  conv in (stAt (forBody _) _) => whnf
  cases o with
  | none =>
    cases h1
    (repeat' ((fail_if_success (first | (with_reducible show wpAny _ _ (exec (Stmt.While _ _ _ _) _) _ _ _) | (with_reducible show wpAny _ _ (exec (Stmt.For _ _ _ _ _) _) _ _ _) | (with_reducible show wpAny _ _ (pyIter _) _ _ _) | (with_reducible show LCg.CompSrc _ _ _ _ _ _ _ _ _ _ _ _ _ _) | (with_reducible show LCt.CompSrcT _ _ _ _ _ _ _ _ _ _ _ _ _ _ _) | (with_reducible show SrcLP _ _ _ _ _ _ _ _ _ _ _ _ _ _ _) | (with_reducible show DSrc _ _ _ _ _ _ _ _ _ _ _ _ _ _ _) | (with_reducible show Src2 _ _ _ _ _ _ _))); (first | (k_unfold; (try dsimp only)) | (k_unmd; k_unfold; (try dsimp only)) | (k_end; wrow_close) | (k_here; (with_reducible show wpAny _ _ (eval (PySem.Expr.Name _ _) _) _ _ _); k_dflt (refine' nameX_L ?jF ?jv ?_ ?ja ?jb; (case ja => rfl); (case jb => rfl); (case jF => k_asm); (case jv => with_reducible assumption))) | walk1 | (dsimp only; walk1) | (leave1; (try dsimp only)))))
    rename_i z3 z2 z1
    exact h _ _ z2 z1
  | some x =>
    cases h1
    (repeat' ((fail_if_success (first | (with_reducible show wpAny _ _ (exec (Stmt.While _ _ _ _) _) _ _ _) | (with_reducible show wpAny _ _ (exec (Stmt.For _ _ _ _ _) _) _ _ _) | (with_reducible show wpAny _ _ (pyIter _) _ _ _) | (with_reducible show LCg.CompSrc _ _ _ _ _ _ _ _ _ _ _ _ _ _) | (with_reducible show LCt.CompSrcT _ _ _ _ _ _ _ _ _ _ _ _ _ _ _) | (with_reducible show SrcLP _ _ _ _ _ _ _ _ _ _ _ _ _ _ _) | (with_reducible show DSrc _ _ _ _ _ _ _ _ _ _ _ _ _ _ _) | (with_reducible show Src2 _ _ _ _ _ _ _))); (first | (k_unfold; (try dsimp only)) | (k_unmd; k_unfold; (try dsimp only)) | (k_end; wrow_close) | (k_here; (with_reducible show wpAny _ _ (eval (PySem.Expr.Name _ _) _) _ _ _); k_dflt (refine' nameX_L ?jF ?jv ?_ ?ja ?jb; (case ja => rfl); (case jb => rfl); (case jF => k_asm); (case jv => with_reducible assumption))) | walk1 | (dsimp only; walk1) | (leave1; (try dsimp only)))))
    rename_i z3 z2 z1
    exact h _ _ z2 z1
/-- if kind != last: not so -/
theorem g1_same {w : World} {mean : ExcName → Option Value} {mg mb : Str → Option Value} {fa : Addr} {cd : Value} {h₀ g : Heap} {L M : Addr} {m : Str → Option Value} {s : Shared} {Q : Flow → Shared → Prop} (C : GCtx w mean mg mb h₀ fa cd L g) (F : Fr g M s.heap m) {news : Led} {b : Bool} (N : News g M s.heap news) (mk : m (Str.ofString "kind") = some (.bool b)) (ml : m (Str.ofString "last") = some (.bool b)) (h : Q .next s) :
  gbkWp w h₀ fa cd L M (stAt (forBody (stAt gbkBody 2)) 1) Q s := by
  have hfill : (fun (_ : OpenLaw) (_ : Params → Frag) => True) PySem.Challenge.rw_je0014_01 hd.heap_1 := by k_fill; trivial
  clear hfill
  obtain ⟨B, X, T⟩ := C
  conv in (stAt (forBody _) _) => whnf
  (repeat' ((fail_if_success (first | (with_reducible show wpAny _ _ (exec (Stmt.While _ _ _ _) _) _ _ _) | (with_reducible show wpAny _ _ (exec (Stmt.For _ _ _ _ _) _) _ _ _) | (with_reducible show wpAny _ _ (pyIter _) _ _ _) | (with_reducible show LCg.CompSrc _ _ _ _ _ _ _ _ _ _ _ _ _ _) | (with_reducible show LCt.CompSrcT _ _ _ _ _ _ _ _ _ _ _ _ _ _ _) | (with_reducible show SrcLP _ _ _ _ _ _ _ _ _ _ _ _ _ _ _) | (with_reducible show DSrc _ _ _ _ _ _ _ _ _ _ _ _ _ _ _) | (with_reducible show Src2 _ _ _ _ _ _ _))); (first | (k_unfold; (try dsimp only)) | (k_unmd; k_unfold; (try dsimp only)) | (k_end; wrow_close) | (k_here; (with_reducible show wpAny _ _ (eval (PySem.Expr.Name _ _) _) _ _ _); k_dflt (refine' nameX_L ?jF ?jv ?_ ?ja ?jb; (case ja => rfl); (case jb => rfl); (case jF => k_asm); (case jv => with_reducible assumption))) | walk1 | (dsimp only; walk1) | (leave1; (try dsimp only)))))
  · rename_i z6 z5 z4 z3 z2 z1
    cases b <;> cases z6
  · exact h
/-- if kind != last: grouped[kind] = [] -/
theorem g1_new {w : World} {mean : ExcName → Option Value} {mg mb : Str → Option Value} {fa : Addr} {cd : Value} {h₀ g : Heap} {L M : Addr} {m : Str → Option Value} {s : Shared} {Q : Flow → Shared → Prop} (C : GCtx w mean mg mb h₀ fa cd L g) (F : Fr g M s.heap m) {news : Led} {b : Bool} {l : Value} {G : Addr} {oG : Obj} {kvs : List (Bool × Value)} (N : News g M s.heap ((G, oG) :: news)) (hG : ∀ p ∈ news, p.1 ≠ G) (hk : oG.IsDictOf (boolKind PR w) kvs) (hz : kvs.length ≤ sizeLine)
  (mk : m (Str.ofString "kind") = some (.bool b)) (ml : m (Str.ofString "last") = some l) (hl : l = .none ∨ l = .bool !b) (mgr : m (Str.ofString "grouped") = some (.ref G))
  (h : ∀ l' oG' h' tk', (∀ p ∈ (G, oG) :: news, p.1 < l') → oG'.IsDictOf (boolKind PR w) (stored kvs b (.ref l')) → Fr g M h' m → News g M h' ((l', listOf #[] 0) :: (G, oG') :: news) → Q .next { s with heap := h', toks := tk' }) :
  gbkWp w h₀ fa cd L M (stAt (forBody (stAt gbkBody 2)) 1) Q s := by
  have hfill : (fun (_ : OpenLaw) (_ : Params → Frag) => True) PySem.Challenge.rw_je0014_01 hd.heap_1 := by k_fill; trivial
  clear hfill
  obtain ⟨B, X, T⟩ := C
  conv in (stAt (forBody _) _) => whnf
  rcases hl with rfl | rfl
  · (repeat' ((fail_if_success (first | (with_reducible show wpAny _ _ (exec (Stmt.While _ _ _ _) _) _ _ _) | (with_reducible show wpAny _ _ (exec (Stmt.For _ _ _ _ _) _) _ _ _) | (with_reducible show wpAny _ _ (pyIter _) _ _ _) | (with_reducible show LCg.CompSrc _ _ _ _ _ _ _ _ _ _ _ _ _ _) | (with_reducible show LCt.CompSrcT _ _ _ _ _ _ _ _ _ _ _ _ _ _ _) | (with_reducible show SrcLP _ _ _ _ _ _ _ _ _ _ _ _ _ _ _) | (with_reducible show DSrc _ _ _ _ _ _ _ _ _ _ _ _ _ _ _) | (with_reducible show Src2 _ _ _ _ _ _ _))); (first | (k_unfold; (try dsimp only)) | (k_unmd; k_unfold; (try dsimp only)) | (k_end; wrow_close) | (k_here; (with_reducible show wpAny _ _ (eval (PySem.Expr.Name _ _) _) _ _ _); k_dflt (refine' nameX_L ?jF ?jv ?_ ?ja ?jb; (case ja => rfl); (case jb => rfl); (case jF => k_asm); (case jv => with_reducible assumption))) | (k_here; (with_reducible show wpAny _ _ (setItem (Value.ref _) (Value.bool _) _) _ _ _); k_dflt (refine' kda_set (knd := boolKind _ _) ?jF ?jN ?jU ?jd (boolKind_is _ _ _) ?jz ?_; (case jF => k_asm); (case jN => k_asm); (case jU => k_updF); (case jd => k_asm); (case jz => with_reducible assumption)); intro h9 o9 F' N' hd'; (try dsimp only at N')) | walk1 | (dsimp only; walk1) | (leave1; (try dsimp only)))))
    rename_i z5 z4 z3 z2 z1
    exact h _ _ _ _ z1 hd' F' N'
  · (repeat' ((fail_if_success (first | (with_reducible show wpAny _ _ (exec (Stmt.While _ _ _ _) _) _ _ _) | (with_reducible show wpAny _ _ (exec (Stmt.For _ _ _ _ _) _) _ _ _) | (with_reducible show wpAny _ _ (pyIter _) _ _ _) | (with_reducible show LCg.CompSrc _ _ _ _ _ _ _ _ _ _ _ _ _ _) | (with_reducible show LCt.CompSrcT _ _ _ _ _ _ _ _ _ _ _ _ _ _ _) | (with_reducible show SrcLP _ _ _ _ _ _ _ _ _ _ _ _ _ _ _) | (with_reducible show DSrc _ _ _ _ _ _ _ _ _ _ _ _ _ _ _) | (with_reducible show Src2 _ _ _ _ _ _ _))); (first | (k_unfold; (try dsimp only)) | (k_unmd; k_unfold; (try dsimp only)) | (k_end; wrow_close) | (k_here; (with_reducible show wpAny _ _ (eval (PySem.Expr.Name _ _) _) _ _ _); k_dflt (refine' nameX_L ?jF ?jv ?_ ?ja ?jb; (case ja => rfl); (case jb => rfl); (case jF => k_asm); (case jv => with_reducible assumption))) | (k_here; (with_reducible show wpAny _ _ (setItem (Value.ref _) (Value.bool _) _) _ _ _); k_dflt (refine' kda_set (knd := boolKind _ _) ?jF ?jN ?jU ?jd (boolKind_is _ _ _) ?jz ?_; (case jF => k_asm); (case jN => k_asm); (case jU => k_updF); (case jd => k_asm); (case jz => with_reducible assumption)); intro h9 o9 F' N' hd'; (try dsimp only at N')) | walk1 | (dsimp only; walk1) | (leave1; (try dsimp only)))))
    · rename_i z6 z5 z4 z3 z2 z1
      exact h _ _ _ _ z1 hd' F' N'
    · rename_i z1
      cases b <;> cases z1
/-- grouped[kind].append(ids) -/
theorem g2 {w : World} {mean : ExcName → Option Value} {mg mb : Str → Option Value} {fa : Addr} {cd : Value} {h₀ g : Heap} {L M : Addr} {m : Str → Option Value} {s : Shared} {Q : Flow → Shared → Prop} (C : GCtx w mean mg mb h₀ fa cd L g) (F : Fr g M s.heap m) {news : Led} {b : Bool} {v : Value} {G l : Addr} {oG : Obj} {kvs : List (Bool × Value)} {vs : List Value} {c : Nat} (N : News g M s.heap ((l, listOf vs.toArray c) :: news)) (hl : ∀ p ∈ news, p.1 ≠ l) (mG : (G, oG) ∈ news) (hk : oG.IsDictOf (boolKind PR w) kvs) (hv : valueAt kvs b = some (.ref l)) (hz : vs.length ≤ 1000)
  (mk : m (Str.ofString "kind") = some (.bool b)) (mi : m (Str.ofString "ids") = some v) (mgr : m (Str.ofString "grouped") = some (.ref G))
  (h : ∀ h' tk', Fr g M h' m → News g M h' ((l, listOf (vs ++ [v]).toArray (c + 1)) :: news) → Q .next { s with heap := h', toks := tk' }) :
  gbkWp w h₀ fa cd L M (stAt (forBody (stAt gbkBody 2)) 2) Q s := by
  have hfill : (fun (_ : OpenLaw) (_ : Params → Frag) => True) PySem.Challenge.rw_je0014_01 hd.heap_1 := by k_fill; trivial
  clear hfill
  obtain ⟨B, X, T⟩ := C
  conv in (stAt (forBody _) _) => whnf
  (repeat' ((fail_if_success (first | (with_reducible show wpAny _ _ (exec (Stmt.While _ _ _ _) _) _ _ _) | (with_reducible show wpAny _ _ (exec (Stmt.For _ _ _ _ _) _) _ _ _) | (with_reducible show wpAny _ _ (pyIter _) _ _ _) | (with_reducible show LCg.CompSrc _ _ _ _ _ _ _ _ _ _ _ _ _ _) | (with_reducible show LCt.CompSrcT _ _ _ _ _ _ _ _ _ _ _ _ _ _ _) | (with_reducible show SrcLP _ _ _ _ _ _ _ _ _ _ _ _ _ _ _) | (with_reducible show DSrc _ _ _ _ _ _ _ _ _ _ _ _ _ _ _) | (with_reducible show Src2 _ _ _ _ _ _ _))); (first | (k_unfold; (try dsimp only)) | (k_unmd; k_unfold; (try dsimp only)) | (k_end; wrow_close) | (k_here; (with_reducible show wpAny _ _ (eval (PySem.Expr.Name _ _) _) _ _ _); k_dflt (refine' nameX_L ?jF ?jv ?_ ?ja ?jb; (case ja => rfl); (case jb => rfl); (case jF => k_asm); (case jv => with_reducible assumption))) | (k_here; (with_reducible show wpAny _ _ (subscriptTail _ _ (Value.ref _) (Value.bool _)) _ _ _); k_dflt (refine' kda_item (knd := boolKind _ _) ?jN ?jm ?jd (boolKind_is _ _ _) ?jv ?_; (case jN => k_asm); (case jm => k_mem); (case jd => with_reducible assumption); (case jv => with_reducible assumption))) | (k_here; (with_reducible show wpAny _ _ (call (Value.builtin "list.append") [Value.ref _, _]) _ _ _); k_dflt (refine' append_L ?jF ?jN ?jU ?jz ?_; (case jF => k_asm); (case jN => k_asm); (case jU => k_updF); (case jz => first | with_reducible assumption | exact Nat.le_of_ble_eq_true rfl)); intro h5 F' N'; (try dsimp only at N')) | walk1 | (dsimp only; walk1) | (leave1; (try dsimp only)))))
  exact h _ _ F' N'
/-- last = kind -/
theorem g3 {w : World} {mean : ExcName → Option Value} {mg mb : Str → Option Value} {fa : Addr} {cd : Value} {h₀ g : Heap} {L M : Addr} {m : Str → Option Value} {s : Shared} {Q : Flow → Shared → Prop} (C : GCtx w mean mg mb h₀ fa cd L g) (F : Fr g M s.heap m) {news : Led} {v : Value} (N : News g M s.heap news) (mk : m (Str.ofString "kind") = some v)
  (h : ∀ h' tk', Fr g M h' (fun y => if y = Str.ofString "last" then some v else m y) → News g M h' news → Q .next { s with heap := h', toks := tk' }) :
  gbkWp w h₀ fa cd L M (stAt (forBody (stAt gbkBody 2)) 3) Q s := by
  have hfill : (fun (_ : OpenLaw) (_ : Params → Frag) => True) PySem.Challenge.rw_je0014_01 hd.heap_1 := by k_fill; trivial
  clear hfill
  obtain ⟨B, X, T⟩ := C
  conv in (stAt (forBody _) _) => whnf
  (repeat' ((fail_if_success (first | (with_reducible show wpAny _ _ (exec (Stmt.While _ _ _ _) _) _ _ _) | (with_reducible show wpAny _ _ (exec (Stmt.For _ _ _ _ _) _) _ _ _) | (with_reducible show wpAny _ _ (pyIter _) _ _ _) | (with_reducible show LCg.CompSrc _ _ _ _ _ _ _ _ _ _ _ _ _ _) | (with_reducible show LCt.CompSrcT _ _ _ _ _ _ _ _ _ _ _ _ _ _ _) | (with_reducible show SrcLP _ _ _ _ _ _ _ _ _ _ _ _ _ _ _) | (with_reducible show DSrc _ _ _ _ _ _ _ _ _ _ _ _ _ _ _) | (with_reducible show Src2 _ _ _ _ _ _ _))); (first | (k_unfold; (try dsimp only)) | (k_unmd; k_unfold; (try dsimp only)) | (k_end; wrow_close) | (k_here; (with_reducible show wpAny _ _ (eval (PySem.Expr.Name _ _) _) _ _ _); k_dflt (refine' nameX_L ?jF ?jv ?_ ?ja ?jb; (case ja => rfl); (case jb => rfl); (case jF => k_asm); (case jv => with_reducible assumption))) | walk1 | (dsimp only; walk1) | (leave1; (try dsimp only)))))
  rename_i z3 z2 z1
  exact h _ _ z2 z1
-- Q6
theorem valueAt_app {K : Type} [DecidableEq K] {k : K} {v : Value} : ∀ {kvs : List (K × Value)} (_ : valueAt kvs k = none) (k' : K), valueAt (kvs ++ [(k, v)]) k' = if k = k' then some v else valueAt kvs k'
  | [], _, k' => by simp [valueAt]
  | (a, x) :: r, h, k' => by
    by_cases e : a = k
    · simp [valueAt, e] at h
    · have h2 : valueAt r k = none := by simpa [valueAt, e] using h
      have ih := valueAt_app (v := v) h2 k'
      by_cases e2 : a = k'
      · subst e2
        simp [valueAt, Ne.symm e]
      · simp only [List.cons_append]
        simp [valueAt, e2] at ih ⊢
        exact ih
noncomputable abbrev GN := List (Option Str × Str)
noncomputable def rowsK (gn : GN) (b : Bool) : GN := gn.filter fun p => p.1.isSome == b
theorem rowsK_snoc {gn : GN} {i : Nat} {p : Option Str × Str} (h : gn[i]? = some p) (b : Bool) : rowsK (gn.take (i + 1)) b = rowsK (gn.take i) b ++ if p.1.isSome = b then [p] else [] := by
  rw [List.take_add_one, h, rowsK, Option.toList_some, List.filter_append]
  congr 1
  by_cases e : p.1.isSome = b
  · rw [if_pos e, List.filter_cons_of_pos (by simpa using e)]; rfl
  · rw [if_neg e, List.filter_cons_of_neg (by simpa using e)]; rfl
/-- one kind's list -/
inductive KAt (nx cst : Led) (kvs : List (Bool × Value)) (G : Addr) (b : Bool) (rows : GN) : Option Addr → Prop
  | no (h : rows = []) (hv : valueAt kvs b = none) : KAt nx cst kvs G b rows none
  | yes {l : Addr} {vs : List Value} {c : Nat} (hv : valueAt kvs b = some (.ref l)) (hm : (l, listOf vs.toArray c) ∈ nx) (hG : l ≠ G) (hc : ∀ p ∈ cst, p.1 ≠ l) (hd : DatAll cst vs (rows.map uD)) (hne : rows ≠ []) : KAt nx cst kvs G b rows (some l)
theorem KAt.keep {nx nx' cst : Led} {kvs kvs' : List (Bool × Value)} {G : Addr} {b : Bool} {rows : GN} {x : Option Addr} (h : KAt nx cst kvs G b rows x) (hv : valueAt kvs' b = valueAt kvs b) (hs : ∀ l o, x = some l → (l, o) ∈ nx → (l, o) ∈ nx') : KAt nx' cst kvs' G b rows x := by
  cases h with
  | no h h2 => exact .no h (hv.trans h2)
  | yes h2 hm hG hc h3 h4 => exact .yes (hv.trans h2) (hs _ _ rfl hm) hG hc h3 h4
noncomputable def lastV (gn : GN) : Nat → Value
  | 0 => .none
  | i + 1 => match gn[i]? with | some p => .bool p.1.isSome | none => .none
inductive J7 (w : World) (G : Addr) (cst : Led) (gn : GN) (m₀ : Str → Option Value) (i : Nat) (m : Str → Option Value) (nx : Led) : Prop
  | mk {oG : Obj} {kvs : List (Bool × Value)} {x y : Option Addr} (mG : (G, oG) ∈ nx) (hk : oG.IsDictOf (boolKind PR w) kvs) (hl : kvs.length ≤ i) (hm : m (Str.ofString "last") = some (lastV gn i)) (hg : m (Str.ofString "grouped") = some (.ref G))
    (h1 : KAt nx cst kvs G true (rowsK (gn.take i) true) x) (h2 : KAt nx cst kvs G false (rowsK (gn.take i) false) y) (hxy : ∀ l, x = some l → y ≠ some l) (hc : ∀ p ∈ cst, p ∈ nx ∧ p.1 ≠ G) : J7 w G cst gn m₀ i m nx
/-- kinds come in order -/
theorem kinds_before {gn : GN} {st i : Nat} (hst : ∀ j p, gn[j]? = some p → (p.1.isSome = true ↔ j < st)) {p : Option Str × Str} (hp : gn[i]? = some p) (hl : lastV gn i ≠ .bool p.1.isSome) : rowsK (gn.take i) p.1.isSome = [] := by
  refine List.filter_eq_nil_iff.mpr fun q hq => ?_
  obtain ⟨j, hj⟩ := List.mem_iff_getElem?.mp hq
  have hji : j < i := by
    have := (List.getElem?_eq_some_iff.mp hj).1
    rw [List.length_take] at this; omega
  have hjq : gn[j]? = some q := by rw [List.getElem?_take, if_pos hji] at hj; exact hj
  cases i with
  | zero => omega
  | succ i =>
    have hi1 : i + 1 < gn.length := (List.getElem?_eq_some_iff.mp hp).1
    have hpi : gn[i]? = some gn[i] := List.getElem?_eq_getElem (by omega)
    have a1 := hst _ _ hp
    have a2 := hst _ _ hjq
    have a3 := hst _ _ hpi
    have hl2 : gn[i].1.isSome ≠ p.1.isSome := fun e => hl (by rw [lastV, hpi]; exact congrArg Value.bool e)
    cases ep : p.1.isSome with
    | true =>
      have := a1.mp ep
      exact absurd (a3.mpr (by omega)) (by rw [ep] at hl2; exact hl2)
    | false =>
      cases eg : gn[i].1.isSome with
      | true =>
        have := a3.mp eg
        rw [a2.mpr (by omega)]; decide
      | false => rw [ep, eg] at hl2; exact absurd rfl hl2
/-- one turn of grouped_by_kind -/
theorem g_turn {w : World} {mean : ExcName → Option Value} {mg mb : Str → Option Value} {fa : Addr} {cd : Value} {h₀ g : Heap} {L M : Addr} {m : Str → Option Value} {s : Shared} {Q : Flow → Shared → Prop} (C : GCtx w mean mg mb h₀ fa cd L g) (F : Fr g M s.heap m) {nx own cst : Led} {G U : Addr} {us : List Value} {nU : Nat} {gn : GN} {st i : Nat} {m₀ : Str → Option Value} {v : Value} (hst : ∀ j p, gn[j]? = some p → (p.1.isSome = true ↔ j < st)) (hn5 : gn.length ≤ 5)
  (N : News g M s.heap (nx ++ own)) (hown : OwnOff own (nx.map (·.1))) (J : J7 w G cst gn m₀ i m nx) {p : Option Str × Str} (hp : gn[i]? = some p) (hv : DatIn cst v (uD p)) (mU : (U, listOf us.toArray nU) ∈ cst)
  (mi : m (Str.ofString "ids") = some v) :
  wpAny (model PR w) (gbkA h₀ fa cd L M) (execs (forBody (stAt gbkBody 2)) (gbkEnv M)) (InvPostG g M (fun m' nx => (U, listOf us.toArray nU) ∈ nx ∧ J7 w G cst gn m₀ (i + 1) m' nx) own s Q) NE s := by
  have hi : i < gn.length := (List.getElem?_eq_some_iff.mp hp).1
  have hv0 := hv
  obtain ⟨T, us2, nT, rfl, mT, hd2⟩ := datIn_tuple hv
  obtain ⟨v1, v2, rfl, d1, -⟩ := datAll_two hd2
  cases J with
  | @mk oG kvs x y mG hk hl hm hg h1 h2 hxy hc =>
  have hlast : lastV gn (i + 1) = .bool p.1.isSome := by rw [lastV, hp]
  refine execs_at (body := forBody (stAt gbkBody 2)) (k := 0) (by rw [gbkFor_len]; decide) ?_
  refine g0 C F N (List.mem_append_left _ (hc _ mT).1) (o := p.1) (d1.mono fun z hz => List.mem_append_left _ (hc z hz).1) mi ?_
  intro h5 tk5 F5 N5
  clear N F
  refine execs_at (body := forBody (stAt gbkBody 2)) (k := 1) (by rw [gbkFor_len]; decide) ?_
  have hown2 : ∀ q ∈ own, ∀ z ∈ nx, q.1 ≠ z.1 := fun q hq z hz => hown q hq _ (List.mem_map_of_mem hz)
  -- the current list, whichever it is
  have fin : ∀ (l : Addr) (vs : List Value) (c : Nat) (oG' : Obj) (kvs' : List (Bool × Value)) (rest : Led) (h6 : Heap) (tk6 : Nat), Fr g M h6 (fun y => if y = Str.ofString "kind" then some (Value.bool p.1.isSome) else m y) → News g M h6 ((l, listOf vs.toArray c) :: (rest ++ own)) → (∀ z ∈ rest ++ own, z.1 ≠ l) →
      (∀ q ∈ own, ∀ z ∈ rest, q.1 ≠ z.1) → (G, oG') ∈ rest → oG'.IsDictOf (boolKind PR w) kvs' → kvs'.length ≤ i + 1 → valueAt kvs' p.1.isSome = some (.ref l) → l ≠ G → (∀ z ∈ cst, z ∈ rest ∧ z.1 ≠ G ∧ z.1 ≠ l) → DatAll cst vs ((rowsK (gn.take i) p.1.isSome).map uD) → vs.length ≤ 100 →
      (∃ z, KAt rest cst kvs' G (!p.1.isSome) (rowsK (gn.take i) (!p.1.isSome)) z ∧ z ≠ some l) →
      wpAny (model PR w) (gbkA h₀ fa cd L M) (execs ((forBody (stAt gbkBody 2)).drop 2) (gbkEnv M)) (InvPostG g M (fun m' nx => (U, listOf us.toArray nU) ∈ nx ∧ J7 w G cst gn m₀ (i + 1) m' nx) own s Q) NE { s with heap := h6, toks := tk6 } := by
    intro l vs c oG' kvs' rest h6 tk6 F6 N6 hrl hor mG' hk' hl' hv' hlG hc' hd' hvl ⟨z, hz, hzl⟩
    refine execs_at (body := forBody (stAt gbkBody 2)) (k := 2) (by rw [gbkFor_len]; decide) ?_
    refine g2 C F6 N6 hrl (List.mem_append_left _ mG') hk' hv' (by omega) rfl mi hg ?_
    intro h7 tk7 F7 N7
    refine execs_at (body := forBody (stAt gbkBody 2)) (k := 3) (by rw [gbkFor_len]; decide) ?_
    refine g3 C F7 N7 rfl ?_
    intro h8 tk8 F8 N8
    refine execs_end (body := forBody (stAt gbkBody 2)) (by rw [gbkFor_len]; decide) ?_
    have hcl : ∀ q ∈ cst, q ∈ (l, listOf (vs ++ [Value.ref T]).toArray (c + 1)) :: rest ∧ q.1 ≠ G := fun q hq => ⟨.tail _ (hc' q hq).1, (hc' q hq).2.1⟩
    have hnow : KAt ((l, listOf (vs ++ [Value.ref T]).toArray (c + 1)) :: rest) cst kvs' G p.1.isSome (rowsK (gn.take (i + 1)) p.1.isSome) (some l) := by
      rw [rowsK_snoc hp, if_pos rfl]
      refine .yes hv' (.head _) hlG (fun q hq => (hc' q hq).2.2) ?_ (by simp)
      rw [List.map_append]
      exact hd'.append (.one hv0)
    have hoth : KAt ((l, listOf (vs ++ [Value.ref T]).toArray (c + 1)) :: rest) cst kvs' G (!p.1.isSome) (rowsK (gn.take (i + 1)) (!p.1.isSome)) z := by
      rw [rowsK_snoc hp, if_neg (by cases p.1.isSome <;> decide), List.append_nil]
      exact hz.keep rfl fun _ _ _ q => .tail _ q
    refine InvEndG.intro (nx := (l, listOf (vs ++ [Value.ref T]).toArray (c + 1)) :: rest) F8 N8 ⟨(hcl _ mU).1, ?_⟩ (fun q hq b hb e => ?_) (fun q hq => ?_) fun q hq => .tail _ (List.mem_append_right _ hq)
    · cases hb : p.1.isSome with
      | true =>
        rw [hb] at hnow hoth
        exact .mk (List.mem_cons_of_mem _ mG') hk' hl' (by rw [hlast, hb]; rfl) hg hnow hoth (fun l2 e q => by cases e; exact hzl q) hcl
      | false =>
        rw [hb] at hnow hoth
        exact .mk (List.mem_cons_of_mem _ mG') hk' hl' (by rw [hlast, hb]; rfl) hg hoth hnow (fun l2 e q => by cases q; exact hzl e) hcl
    · obtain ⟨z2, hz2, rfl⟩ := List.mem_map.mp hb
      rcases List.mem_cons.mp hz2 with rfl | hz2
      · exact hrl q (List.mem_append_right _ hq) e
      · exact hor q hq z2 hz2 e
    · rcases List.mem_cons.mp hq with rfl | hq
      · exact .head _
      · exact .tail _ (List.mem_append_left _ hq)
  have hcases : ∃ zc zo, KAt nx cst kvs G p.1.isSome (rowsK (gn.take i) p.1.isSome) zc ∧ KAt nx cst kvs G (!p.1.isSome) (rowsK (gn.take i) (!p.1.isSome)) zo ∧ ∀ l, zc = some l → zo ≠ some l := by
    cases p.1.isSome with
    | true => exact ⟨x, y, h1, h2, hxy⟩
    | false => exact ⟨y, x, h2, h1, fun l e q => hxy l q e⟩
  obtain ⟨zc, zo, hcur, hoth, hne⟩ := hcases
  have hlen : ∀ {vs : List Value} {rows : GN}, DatAll cst vs (rows.map uD) → (∀ q ∈ rows, q ∈ gn.take i) → rows.Sublist gn → vs.length ≤ 100 := fun h _ hs => by
    have h3 := h.length
    rw [List.length_map] at h3
    have := hs.length_le
    omega
  have hsub : ∀ b, (rowsK (gn.take i) b).Sublist gn := fun b => (List.filter_sublist).trans (List.take_sublist _ _)
  by_cases hsame : lastV gn i = .bool p.1.isSome
  · refine g1_same C F5 N5 rfl (hm.trans (congrArg some hsame)) ?_
    cases hcur with
    | no hr _ =>
      cases i with
      | zero => cases hsame
      | succ j =>
        have hj : gn[j]? = some gn[j] := List.getElem?_eq_getElem (by omega)
        rw [lastV, hj] at hsame
        have hjk : gn[j].1.isSome = p.1.isSome := by injection hsame
        have hmem : gn[j] ∈ rowsK (gn.take (j + 1)) p.1.isSome := by
          rw [rowsK_snoc hj, if_pos hjk]
          exact List.mem_append_right _ (.head _)
        rw [hr] at hmem
        cases hmem
    | @yes l vs c hv2 hml hlG hcl hd _ =>
      refine fin l vs c oG kvs (nx.filter fun z => z.1 != l) h5 tk5 F5 (fun z hz => ?_) (fun z hz => ?_) (fun q hq z hz => hown2 q hq z (List.mem_filter.mp hz).1) (front_in mG hlG.symm) hk (Nat.le_succ_of_le hl) hv2 hlG (fun z hz => ⟨front_in (hc z hz).1 (hcl z hz), (hc z hz).2, hcl z hz⟩) hd (hlen hd (fun q hq => (List.mem_filter.mp hq).1) (hsub _)) ⟨zo, hoth.keep rfl fun l2 o2 e q => front_in q fun e2 => hne l rfl (by rw [e]; exact congrArg some e2), fun e => hne l rfl e⟩
      · rcases List.mem_cons.mp hz with rfl | hz
        · exact N5 _ (List.mem_append_left _ hml)
        · rcases List.mem_append.mp hz with hz | hz
          · exact N5 _ (List.mem_append_left _ (List.mem_filter.mp hz).1)
          · exact N5 _ (List.mem_append_right _ hz)
      · rcases List.mem_append.mp hz with hz | hz
        · exact front_off _ hz
        · exact fun e => hown2 z hz _ hml e
  · have hr := kinds_before hst hp hsame
    have hlk : lastV gn i = .none ∨ lastV gn i = .bool !p.1.isSome := by
      cases i with
      | zero => exact .inl rfl
      | succ j =>
        have hj : gn[j]? = some gn[j] := List.getElem?_eq_getElem (by omega)
        rw [lastV, hj] at hsame ⊢
        refine .inr (congrArg Value.bool ?_)
        cases e1 : gn[j].1.isSome <;> cases e2 : p.1.isSome <;> first | rfl | (exfalso; exact hsame (congrArg Value.bool (e1.trans e2.symm)))
    have hvn : valueAt kvs p.1.isSome = none := by
      cases hcur with
      | no _ h => exact h
      | yes _ _ _ _ _ h9 => exact absurd hr h9
    have N5' : News g M h5 ((G, oG) :: ((nx.filter fun z => z.1 != G) ++ own)) := fun z hz => by
      rcases List.mem_cons.mp hz with rfl | hz
      · exact N5 _ (List.mem_append_left _ mG)
      · rcases List.mem_append.mp hz with hz | hz
        · exact N5 _ (List.mem_append_left _ (List.mem_filter.mp hz).1)
        · exact N5 _ (List.mem_append_right _ hz)
    have hGo : ∀ z ∈ (nx.filter fun z => z.1 != G) ++ own, z.1 ≠ G := fun z hz => by
      rcases List.mem_append.mp hz with hz | hz
      · exact front_off _ hz
      · exact fun e => hown2 z hz _ mG e
    refine g1_new (G := G) (l := lastV gn i) C F5 N5' hGo hk (by rw [sizeLine_eq]; omega) rfl hm hlk hg ?_
    intro l' oG' h6 tk6 hlt hk' F6 N6
    have hst2 := stored_absent hvn (.ref l')
    rw [hst2] at hk'
    have hl'G : l' ≠ G := (Nat.ne_of_lt (hlt _ (.head _))).symm
    have hin : ∀ z ∈ nx, z.1 ≠ G → z ∈ (G, oG') :: (nx.filter fun z => z.1 != G) := fun z hz h => .tail _ (front_in hz h)
    have hltn : ∀ z ∈ nx, z.1 ≠ l' := fun z hz => by
      by_cases e : z.1 = G
      · rw [e]; exact hl'G.symm
      · exact Nat.ne_of_lt (hlt z (.tail _ (List.mem_append_left _ (front_in hz e))))
    refine fin l' [] 0 oG' _ ((G, oG') :: (nx.filter fun z => z.1 != G)) h6 tk6 F6 N6 (fun z hz => ?_) (fun q hq z hz => ?_) (.head _) hk' (by rw [List.length_append, List.length_singleton]; omega) (by rw [valueAt_app hvn, if_pos rfl]) hl'G (fun z hz => ⟨hin z (hc z hz).1 (hc z hz).2, (hc z hz).2, hltn z (hc z hz).1⟩) (by rw [hr]; exact .nil) (Nat.zero_le _) ⟨zo, ?_, ?_⟩
    · rcases List.mem_cons.mp hz with rfl | hz
      · exact hl'G.symm
      · exact Nat.ne_of_lt (hlt z (.tail _ hz))
    · rcases List.mem_cons.mp hz with rfl | hz
      · exact fun e => hown2 q hq (G, oG) mG e
      · exact hown2 q hq z (List.mem_filter.mp hz).1
    · cases hoth with
      | no h h2 => exact .no h (by rw [valueAt_app hvn, if_neg (by cases p.1.isSome <;> decide)]; exact h2)
      | yes h2 hml hlG hcl hd h9 => exact .yes (by rw [valueAt_app hvn, if_neg (by cases p.1.isSome <;> decide)]; exact h2) (hin _ hml hlG) hlG hcl hd h9
    · cases hoth with
      | no _ _ => exact fun e => nomatch e
      | yes _ hml _ _ _ _ => exact fun e => hltn _ hml (Option.some.inj e)
-- Q7
theorem take_all {gn : GN} {b : Bool} : rowsK (gn.take gn.length) b = rowsK gn b := by rw [List.take_length]
theorem dict_empty {prog : Program} {w : World} {o : Obj} (h : o.IsDictOf (PySem.strKind prog w) []) : o.IsDictOf (boolKind prog w) [] := by
  obtain ⟨es, ep, h1, h2, h3, h4, h5⟩ := h
  have he : es.toList = [] := by
    cases hl : es.toList with
    | nil => rfl
    | cons a r => rw [hl] at h4; cases h4
  have he2 : es = #[] := by rw [← Array.toArray_toList (xs := es), he]
  subst he2
  exact ⟨#[], ep, h1, h2, by intro e he; simp at he, .nil, .nil⟩
/-- grouped_by_kind(rows) -/
theorem gbk_spec {w : World} {mean : ExcName → Option Value} {mg mb : Str → Option Value} {fa : Addr} {cd : Value} {h₀ g : Heap} {L : Addr} {m : Str → Option Value} {s : Shared} {Q : Value → Shared → Prop} (C : ACtx w mean mg mb h₀ fa cd g) (F : Fr g L s.heap m) {news : Led} {U : Addr} {vs : List Value} {n : Nat} {gn : GN} {st : Nat} (hst : ∀ j p, gn[j]? = some p → (p.1.isSome = true ↔ j < st)) (hn5 : gn.length ≤ 5) (N : News g L s.heap news) (mU : (U, listOf vs.toArray n) ∈ news) (hdU : DatAll news vs (gn.map uD))
  (h : ∀ G oG kvs x y tl h' tk', (G == sysModules) = false → (∀ p ∈ news, p ∈ tl ∧ p.1 ≠ G) → (G, oG) ∈ tl → oG.IsDictOf (boolKind PR w) kvs → KAt tl news kvs G true (rowsK gn true) x → KAt tl news kvs G false (rowsK gn false) y → Fr g L h' m → News g L h' tl → Q (.ref G) { s with heap := h', toks := tk' }) :
  wpAny (model PR w) (asgA h₀ fa cd L) (call (.ref 133) [.ref U]) Q NE s := by
  have hfill : (fun (_ : OpenLaw) (_ : Params → Frag) => True) PySem.Challenge.rw_je0014_01 hd.heap_1 := by k_fill; trivial
  clear hfill
  obtain ⟨B, X, T⟩ := C
  refine wpAny_call ?_
  (k_dflt (refine' code_def ?k1 ?k2 ?k3 ?k4 ?k5 ?kA ?kF ?kK ?k6 ?k7 ?k8 ?k9 ?kB ?_ ?c2 ?c3 ?c4 ?c5; (case kA => exact rfl); (case kF => exact rfl); (case kK => first | exact rfl | assumption); (case k1 => k_asm); (case k2 => k_asm); (case k3 => k_asm); (case k4 => k_asm); (case k5 => k_asm); (case k6 => k_is); (case k7 => k_is); (case k8 => ktr_room); (case k9 => first | exact BindsTo.of_eq rfl | exact binds_K (by k_in) rfl (by k_is) rfl rfl rfl); (case c5 => decide); (case kB => exact locs rfl); (case c2 => exact rfl); (case c3 => exact rfl); (case c4 => exact rfl); k_whole; intro g' L' h' FG' F' N' B' X' T'); (try dsimp only); (try k_fold))
  (repeat' ((fail_if_success (first | (with_reducible show wpAny _ _ (exec (Stmt.While _ _ _ _) _) _ _ _) | (with_reducible show wpAny _ _ (exec (Stmt.For _ _ _ _ _) _) _ _ _) | (with_reducible show wpAny _ _ (pyIter _) _ _ _) | (with_reducible show LCg.CompSrc _ _ _ _ _ _ _ _ _ _ _ _ _ _) | (with_reducible show LCt.CompSrcT _ _ _ _ _ _ _ _ _ _ _ _ _ _ _) | (with_reducible show SrcLP _ _ _ _ _ _ _ _ _ _ _ _ _ _ _) | (with_reducible show DSrc _ _ _ _ _ _ _ _ _ _ _ _ _ _ _) | (with_reducible show Src2 _ _ _ _ _ _ _))); (first | (k_unfold; (try dsimp only)) | (k_unmd; k_unfold; (try dsimp only)) | (k_end; wrow_close) | walk1 | (dsimp only; walk1) | (leave1; (try dsimp only)))))
  rename_i z13 z12 z11 z10 z9 z8 z7 z6 z5 z4 z3 z2 z1
  have C7 : GCtx w mean mg mb h₀ fa cd L g' := ⟨B', X', T'⟩
  have hvl : vs.length = gn.length := by rw [hdU.length, List.length_map]
  refine wpAny_mono (E := NE) (show wpAny (model PR w) (gbkA h₀ fa cd L L') (exec (stAt gbkBody 2) (gbkEnv L')) _ _ _ from ?_) (fun _ _ h => h) (fun _ _ h => h.elim)
  refine for_at (x := Str.ofString "ids") g' (by unfold IsFor; kernel_rfl) (by kernel_rfl) (by kernel_rfl) (by intro _; rfl) ?_
  conv in (forIter _) => whnf
  (repeat' ((fail_if_success (first | (with_reducible show wpAny _ _ (exec (Stmt.While _ _ _ _) _) _ _ _) | (with_reducible show wpAny _ _ (exec (Stmt.For _ _ _ _ _) _) _ _ _) | (with_reducible show wpAny _ _ (pyIter _) _ _ _) | (with_reducible show LCg.CompSrc _ _ _ _ _ _ _ _ _ _ _ _ _ _) | (with_reducible show LCt.CompSrcT _ _ _ _ _ _ _ _ _ _ _ _ _ _ _) | (with_reducible show SrcLP _ _ _ _ _ _ _ _ _ _ _ _ _ _ _) | (with_reducible show DSrc _ _ _ _ _ _ _ _ _ _ _ _ _ _ _) | (with_reducible show Src2 _ _ _ _ _ _ _))); (first | (k_unfold; (try dsimp only)) | (k_unmd; k_unfold; (try dsimp only)) | (k_end; wrow_close) | (k_here; (with_reducible show wpAny _ _ (eval (PySem.Expr.Name _ _) _) _ _ _); k_dflt (refine' nameX_L ?jF ?jv ?_ ?ja ?jb; (case ja => rfl); (case jb => rfl); (case jF => k_asm); (case jv => with_reducible assumption))) | walk1 | (dsimp only; walk1) | (leave1; (try dsimp only)))))
  refine kdl_iter (vs := vs) (nn := n) (J7 w z13 news gn (fun _ => none)) rfl (.tail _ mU) z2 z1 (.mk (x := none) (y := none) (.head _) (dict_empty z8) (Nat.le_refl _) rfl rfl (.no rfl rfl) (.no rfl rfl) (fun _ e => nomatch e) fun p hp => ⟨.tail _ hp, Nat.ne_of_lt (z10 p hp)⟩) ?_ ?_
  · intro i v m1 nx h2 tk2 own hv hown _ J F2 N2
    have hv2 : i < gn.length := by rw [← hvl]; exact (List.getElem?_eq_some_iff.mp hv).1
    obtain ⟨v', hv', hdr⟩ := hdU.get (k := i) (by rw [List.length_map]; exact hv2)
    rw [hv] at hv'
    cases hv'
    rw [List.getElem_map] at hdr
    refine g_turn (m₀ := fun _ => none) C7 F2 hst hn5 N2 hown ?_ (List.getElem?_eq_getElem hv2) hdr mU rfl
    cases J with
    | mk a1 a2 a3 a4 a5 a6 a7 a8 a9 => exact .mk a1 a2 a3 a4 a5 a6 a7 a8 a9
  · intro m1 nx h2 tk2 J F2 N2
    rw [hvl] at J
    cases J with
    | @mk oG kvs x y mG hk hl hm hg h1 h2 hxy hc =>
    rw [take_all] at h1 h2
    try dsimp only
    (repeat' ((fail_if_success (first | (with_reducible show wpAny _ _ (exec (Stmt.While _ _ _ _) _) _ _ _) | (with_reducible show wpAny _ _ (exec (Stmt.For _ _ _ _ _) _) _ _ _) | (with_reducible show wpAny _ _ (pyIter _) _ _ _) | (with_reducible show LCg.CompSrc _ _ _ _ _ _ _ _ _ _ _ _ _ _) | (with_reducible show LCt.CompSrcT _ _ _ _ _ _ _ _ _ _ _ _ _ _ _) | (with_reducible show SrcLP _ _ _ _ _ _ _ _ _ _ _ _ _ _ _) | (with_reducible show DSrc _ _ _ _ _ _ _ _ _ _ _ _ _ _ _) | (with_reducible show Src2 _ _ _ _ _ _ _))); (first | (k_unfold; (try dsimp only)) | (k_unmd; k_unfold; (try dsimp only)) | (k_end; wrow_close) | (k_here; (with_reducible show wpAny _ _ (eval (PySem.Expr.Name _ _) _) _ _ _); k_dflt (refine' nameX_L ?jF ?jv ?_ ?ja ?jb; (case ja => rfl); (case jb => rfl); (case jF => k_asm); (case jv => with_reducible assumption))) | walk1 | (dsimp only; walk1) | (leave1; (try dsimp only)))))
    rename_i q5 q4 q3 q2 q1
    exact h z13 oG kvs x y nx _ _ z9 hc mG hk h1 h2 q4 q3
-- Q8
/-- all_topic_partitions.sort() -/
theorem a4 {w : World} {mean : ExcName → Option Value} {mg mb : Str → Option Value} {fa : Addr} {cd : Value} {h₀ g : Heap} {L : Addr} {m : Str → Option Value} {s : Shared} {Q : Flow → Shared → Prop} (C : ACtx w mean mg mb h₀ fa cd g) (F : Fr g L s.heap m) {news : Led} {P : Addr} {ys : List Value} {c : Nat} {parts : List (Str × Int)} (N : News g L s.heap ((P, listOf ys.toArray c) :: news)) (hP : ∀ p ∈ news, p.1 ≠ P) (hdy : DatAll news ys (parts.map pairD)) (hl : parts.length ≤ 30)
  (mp : m (Str.ofString "all_topic_partitions") = some (.ref P))
  (h : ∀ ws (seq : List (Str × Int)) c' h' tk', seq.Perm parts → Srt (pairK sK iK) keyP seq → DatAll news ws (seq.map pairD) → Fr g L h' m → News g L h' ((P, listOf ws.toArray c') :: news) → Q .next { s with heap := h', toks := tk' }) :
  asgWp w h₀ fa cd L (stAt asgBody 4) Q s := by
  have hfill : (fun (_ : OpenLaw) (_ : Params → Frag) => True) PySem.Challenge.rw_je0014_01 hd.heap_1 := by k_fill; trivial
  clear hfill
  obtain ⟨B, X, T⟩ := C
  conv in (stAt asgBody _) => whnf
  (repeat' ((fail_if_success (first | (with_reducible show wpAny _ _ (exec (Stmt.While _ _ _ _) _) _ _ _) | (with_reducible show wpAny _ _ (exec (Stmt.For _ _ _ _ _) _) _ _ _) | (with_reducible show wpAny _ _ (pyIter _) _ _ _) | (with_reducible show wpAny _ _ (call _ _) _ _ _) | (with_reducible show LCg.CompSrc _ _ _ _ _ _ _ _ _ _ _ _ _ _) | (with_reducible show LCt.CompSrcT _ _ _ _ _ _ _ _ _ _ _ _ _ _ _) | (with_reducible show SrcLP _ _ _ _ _ _ _ _ _ _ _ _ _ _ _) | (with_reducible show DSrc _ _ _ _ _ _ _ _ _ _ _ _ _ _ _) | (with_reducible show Src2 _ _ _ _ _ _ _))); (first | (k_unfold; (try dsimp only)) | (k_unmd; k_unfold; (try dsimp only)) | (k_end; wrow_close) | (k_here; (with_reducible show wpAny _ _ (eval (PySem.Expr.Name _ _) _) _ _ _); k_dflt (refine' nameX_L ?jF ?jv ?_ ?ja ?jb; (case ja => rfl); (case jb => rfl); (case jF => k_asm); (case jv => with_reducible assumption))) | walk1 | (dsimp only; walk1) | (leave1; (try dsimp only)))))
  refine lsort_pairs (O := iK) (k := fun x : Int => x) (enc := Dat.int) (ps := parts) cmp_int (0 : Int) F N hP (fun _ h => h) hdy (by omega) ?_
  intro ws seq c' h1 hp hs hd2 F1 N1
  exact h ws seq c' h1 _ hp hs hd2 F1 N1
/-- ungrouped -/
theorem a6 {w : World} {mean : ExcName → Option Value} {mg mb : Str → Option Value} {fa : Addr} {cd : Value} {h₀ g : Heap} {L : Addr} {m : Str → Option Value} {s : Shared} {Q : Flow → Shared → Prop} (C : ACtx w mean mg mb h₀ fa cd g) (F : Fr g L s.heap m) {news : Led} {lm : Addr} {mvs : List Value} {n : Nat} {mems : List Mem} (N : News g L s.heap news) (hlm : (lm, listOf mvs.toArray n) ∈ news) (hme : MemsE w news mvs mems) (h5 : mems.length ≤ 5)
  (mm : m (Str.ofString "members") = some (.ref lm))
  (h : ∀ U us c tl h' tk', DatAll tl us ((mems.map fun m : Mem => (m.2.1, m.1)).map uD) → (∀ p ∈ news, p ∈ tl) → (U, listOf us.toArray c) ∈ tl → Fr g L h' (fun y => if y = Str.ofString "ungrouped" then some (.ref U) else m y) → News g L h' tl → Q .next { s with heap := h', toks := tk' }) :
  asgWp w h₀ fa cd L (stAt asgBody 6) Q s := by
  have hfill : (fun (_ : OpenLaw) (_ : Params → Frag) => True) PySem.Challenge.rw_je0014_01 hd.heap_1 := by k_fill; trivial
  clear hfill
  obtain ⟨B, X, T⟩ := C
  conv in (stAt asgBody _) => whnf
  (repeat' ((fail_if_success (first | (with_reducible show wpAny _ _ (exec (Stmt.While _ _ _ _) _) _ _ _) | (with_reducible show wpAny _ _ (exec (Stmt.For _ _ _ _ _) _) _ _ _) | (with_reducible show wpAny _ _ (pyIter _) _ _ _) | (with_reducible show LCg.CompSrc _ _ _ _ _ _ _ _ _ _ _ _ _ _) | (with_reducible show LCt.CompSrcT _ _ _ _ _ _ _ _ _ _ _ _ _ _ _) | (with_reducible show SrcLP _ _ _ _ _ _ _ _ _ _ _ _ _ _ _) | (with_reducible show DSrc _ _ _ _ _ _ _ _ _ _ _ _ _ _ _) | (with_reducible show Src2 _ _ _ _ _ _ _))); (first | (k_unfold; (try dsimp only)) | (k_unmd; k_unfold; (try dsimp only)) | (k_end; wrow_close) | (k_here; (with_reducible show wpAny _ _ (eval (PySem.Expr.Name _ _) _) _ _ _); k_dflt (refine' nameX_L ?jF ?jv ?_ ?ja ?jb; (case ja => rfl); (case jb => rfl); (case jF => k_asm); (case jv => with_reducible assumption))) | (k_here; (with_reducible show wpAny _ _ (exec (Stmt.Assign _ (PySem.Expr.ListComp _ _ _ _) _) _) _ _ _); k_dflt (refine LCg.Assign_ListComp_U (F₀ := by k_asm) (by rfl) (by with_unfolding_all rfl) (by with_unfolding_all rfl) (by decide) (by rfl) (by decide) (by rfl) (by rfl) (by rfl) ?_)) | walk1 | (dsimp only; walk1) | (leave1; (try dsimp only)))))
  have hml := hme.length
  have hws : mvs.toArray.size = mvs.length := List.size_toArray ..
  refine LCg.CompSrc.ledger (its := mvs.toArray) (k := n) rfl F N hlm (by rw [hws, sizeLine_eq]; omega) ?_
  intro g9
  rw [hws]
  refine comp_J (E₀ := []) (tl₀ := news) (fun i ys E tl => E = [] ∧ (∀ p ∈ news, p ∈ tl) ∧ DatAll tl ys (((mems.take i).map fun m : Mem => (m.2.1, m.1)).map uD)) rfl (fun _ _ _ h => nomatch h) ⟨rfl, fun _ h => h, by rw [List.take_zero]; exact .nil⟩ ?_ ?_
  · rintro j v ys E₁ tl I oI Cc oC D m₂ h2 tk2 E' hj9 hv ⟨rfl, hn, hys⟩ - - hC hx F2 N2 off ne
    obtain ⟨me, hme1, hmeE⟩ := hme.item j v (by simpa using hv)
    have hmE := hmeE.mono hn
    cases hmE with
    | @mk x1 d1 su e wl wv c nm gi ts t0 t1 t2 t3 t5 t6 t7 t8 t9 t10 t11 t12 t13 hw hx1 hd1 h1 he hl =>
    clear F N h
    rw [List.nil_append] at N2
    have htk : mems.take (j + 1) = mems.take j ++ [(nm, gi, ts)] := by rw [List.take_add_one, hme1]; rfl
    try k_fold
    cases gi with
    | none =>
      have hd2 : (d1, memD w (.str nm t0) Value.none su t1 t3 t5) ∈ tl := hd1
      clear hd1 hmeE hme1
      (repeat' ((fail_if_success (first | (with_reducible show wpAny _ _ (exec (Stmt.While _ _ _ _) _) _ _ _) | (with_reducible show wpAny _ _ (exec (Stmt.For _ _ _ _ _) _) _ _ _) | (with_reducible show wpAny _ _ (pyIter _) _ _ _) | (with_reducible show LCg.CompSrc _ _ _ _ _ _ _ _ _ _ _ _ _ _) | (with_reducible show LCt.CompSrcT _ _ _ _ _ _ _ _ _ _ _ _ _ _ _) | (with_reducible show SrcLP _ _ _ _ _ _ _ _ _ _ _ _ _ _ _) | (with_reducible show DSrc _ _ _ _ _ _ _ _ _ _ _ _ _ _ _) | (with_reducible show Src2 _ _ _ _ _ _ _))); (first | (k_unfold; (try dsimp only)) | (k_unmd; k_unfold; (try dsimp only)) | (k_end; wrow_close) | (k_here; (with_reducible show wpAny _ _ (eval (PySem.Expr.Name _ _) _) _ _ _); k_dflt (refine' nameX_L ?jF ?jv ?_ ?ja ?jb; (case ja => rfl); (case jb => rfl); (case jF => k_asm); (case jv => with_reducible assumption))) | walk1 | (dsimp only; walk1) | (leave1; (try dsimp only)))))
      rename_i z5 z4 z3 z2 z1
      refine cend (E₁ := []) (E' := []) (new := [(z5, _)]) z3 z2 (by ((try simp only [List.cons_append, List.nil_append, List.append_nil]); (repeat' (first | exact List.forall_mem_nil _ | refine' List.forall_mem_cons.mpr ⟨by (first | k_mem | (repeat' (first | assumption | refine' List.Mem.tail _ ?_))), ?_⟩ | (intro p9 hp9; (repeat' (first | exact hp9 | refine' List.Mem.tail _ ?_))))))) off rfl ?_ (.inr ⟨_, .tail _ (hn _ hlm), rfl, _, rfl⟩) ⟨_, [(z5, _)], rfl, rfl, (fun _ _ _ h => nomatch h), rfl, fun p hp => .tail _ (hn p hp), ?_⟩
      · exact List.forall_mem_cons.mpr ⟨⟨(lt_ne z1 (.head _)).symm, (lt_ne z1 (.tail _ (.head _))).symm, (lt_ne z1 (.tail _ (.tail _ (.head _)))).symm⟩, List.forall_mem_nil _⟩
      · rw [htk, List.map_append, List.map_append]
        refine (hys.mono fun p hp => .tail _ hp).append (.one ?_)
        exact .tuple (vs := [_, _]) (.head _) (.cons (.none) (.cons (.str _ _) .nil))
    | some gx =>
      have hd2 : (d1, memD w (.str nm t0) (.str gx t2) su t1 t3 t5) ∈ tl := hd1
      clear hd1 hmeE hme1
      (repeat' ((fail_if_success (first | (with_reducible show wpAny _ _ (exec (Stmt.While _ _ _ _) _) _ _ _) | (with_reducible show wpAny _ _ (exec (Stmt.For _ _ _ _ _) _) _ _ _) | (with_reducible show wpAny _ _ (pyIter _) _ _ _) | (with_reducible show LCg.CompSrc _ _ _ _ _ _ _ _ _ _ _ _ _ _) | (with_reducible show LCt.CompSrcT _ _ _ _ _ _ _ _ _ _ _ _ _ _ _) | (with_reducible show SrcLP _ _ _ _ _ _ _ _ _ _ _ _ _ _ _) | (with_reducible show DSrc _ _ _ _ _ _ _ _ _ _ _ _ _ _ _) | (with_reducible show Src2 _ _ _ _ _ _ _))); (first | (k_unfold; (try dsimp only)) | (k_unmd; k_unfold; (try dsimp only)) | (k_end; wrow_close) | (k_here; (with_reducible show wpAny _ _ (eval (PySem.Expr.Name _ _) _) _ _ _); k_dflt (refine' nameX_L ?jF ?jv ?_ ?ja ?jb; (case ja => rfl); (case jb => rfl); (case jF => k_asm); (case jv => with_reducible assumption))) | walk1 | (dsimp only; walk1) | (leave1; (try dsimp only)))))
      rename_i z5 z4 z3 z2 z1
      refine cend (E₁ := []) (E' := []) (new := [(z5, _)]) z3 z2 (by ((try simp only [List.cons_append, List.nil_append, List.append_nil]); (repeat' (first | exact List.forall_mem_nil _ | refine' List.forall_mem_cons.mpr ⟨by (first | k_mem | (repeat' (first | assumption | refine' List.Mem.tail _ ?_))), ?_⟩ | (intro p9 hp9; (repeat' (first | exact hp9 | refine' List.Mem.tail _ ?_))))))) off rfl ?_ (.inr ⟨_, .tail _ (hn _ hlm), rfl, _, rfl⟩) ⟨_, [(z5, _)], rfl, rfl, (fun _ _ _ h => nomatch h), rfl, fun p hp => .tail _ (hn p hp), ?_⟩
      · exact List.forall_mem_cons.mpr ⟨⟨(lt_ne z1 (.head _)).symm, (lt_ne z1 (.tail _ (.head _))).symm, (lt_ne z1 (.tail _ (.tail _ (.head _)))).symm⟩, List.forall_mem_nil _⟩
      · rw [htk, List.map_append, List.map_append]
        refine (hys.mono fun p hp => .tail _ hp).append (.one ?_)
        exact .tuple (vs := [_, _]) (.head _) (.cons (.str _ _) (.cons (.str _ _) .nil))
  · rintro ys E₁ tl - - ⟨rfl, hn, hys⟩
    rw [hml, List.take_length] at hys
    unfold LCg.FinA
    intro D8 h8 tk8 F9 N9 o8
    exact h D8 ys _ ((D8, LCg.lst ys) :: tl) _ _ (hys.mono fun p hp => .tail _ hp) (fun p hp => .tail _ (hn _ hp)) (.head _) F9 N9
/-- grouped -/
theorem a7 {w : World} {mean : ExcName → Option Value} {mg mb : Str → Option Value} {fa : Addr} {cd : Value} {h₀ g : Heap} {L : Addr} {m : Str → Option Value} {s : Shared} {Q : Flow → Shared → Prop} (C : ACtx w mean mg mb h₀ fa cd g) (F : Fr g L s.heap m) {news : Led} {U : Addr} {vs : List Value} {n : Nat} {gn : GN} {st : Nat} (hst : ∀ j p, gn[j]? = some p → (p.1.isSome = true ↔ j < st)) (hn5 : gn.length ≤ 5) (N : News g L s.heap news) (mU : (U, listOf vs.toArray n) ∈ news) (hdU : DatAll news vs (gn.map uD))
  (mu : m (Str.ofString "ungrouped") = some (.ref U))
  (h : ∀ G oG kvs x y tl h' tk', (G == sysModules) = false → (∀ p ∈ news, p ∈ tl ∧ p.1 ≠ G) → (G, oG) ∈ tl → oG.IsDictOf (boolKind PR w) kvs → KAt tl news kvs G true (rowsK gn true) x → KAt tl news kvs G false (rowsK gn false) y → Fr g L h' (fun y => if y = Str.ofString "grouped" then some (.ref G) else m y) → News g L h' tl → Q .next { s with heap := h', toks := tk' }) :
  asgWp w h₀ fa cd L (stAt asgBody 7) Q s := by
  have C' := C
  have hfill : (fun (_ : OpenLaw) (_ : Params → Frag) => True) PySem.Challenge.rw_je0014_01 hd.heap_1 := by k_fill; trivial
  clear hfill
  obtain ⟨B, X, T⟩ := C
  conv in (stAt asgBody _) => whnf
  (repeat' ((fail_if_success (first | (with_reducible show wpAny _ _ (exec (Stmt.While _ _ _ _) _) _ _ _) | (with_reducible show wpAny _ _ (exec (Stmt.For _ _ _ _ _) _) _ _ _) | (with_reducible show wpAny _ _ (pyIter _) _ _ _) | (with_reducible show wpAny _ _ (call _ _) _ _ _) | (with_reducible show wpAny _ _ (callWith _ _ _) _ _ _) | (with_reducible show LCg.CompSrc _ _ _ _ _ _ _ _ _ _ _ _ _ _) | (with_reducible show LCt.CompSrcT _ _ _ _ _ _ _ _ _ _ _ _ _ _ _) | (with_reducible show SrcLP _ _ _ _ _ _ _ _ _ _ _ _ _ _ _) | (with_reducible show DSrc _ _ _ _ _ _ _ _ _ _ _ _ _ _ _) | (with_reducible show Src2 _ _ _ _ _ _ _))); (first | (k_unfold; (try dsimp only)) | (k_unmd; k_unfold; (try dsimp only)) | (k_end; wrow_close) | (k_here; (with_reducible show wpAny _ _ (eval (PySem.Expr.Name _ _) _) _ _ _); k_dflt (refine' nameX_L ?jF ?jv ?_ ?ja ?jb; (case ja => rfl); (case jb => rfl); (case jF => k_asm); (case jv => with_reducible assumption))) | walk1 | (dsimp only; walk1) | (leave1; (try dsimp only)))))
  refine gbk_spec C' F hst hn5 N mU hdU ?_
  intro G oG kvs x y tl h1 tk1 hlo htl mG hk k1 k2 F1 N1
  clear F N
  try dsimp only
  (repeat' ((fail_if_success (first | (with_reducible show wpAny _ _ (exec (Stmt.While _ _ _ _) _) _ _ _) | (with_reducible show wpAny _ _ (exec (Stmt.For _ _ _ _ _) _) _ _ _) | (with_reducible show wpAny _ _ (pyIter _) _ _ _) | (with_reducible show LCg.CompSrc _ _ _ _ _ _ _ _ _ _ _ _ _ _) | (with_reducible show LCt.CompSrcT _ _ _ _ _ _ _ _ _ _ _ _ _ _ _) | (with_reducible show SrcLP _ _ _ _ _ _ _ _ _ _ _ _ _ _ _) | (with_reducible show DSrc _ _ _ _ _ _ _ _ _ _ _ _ _ _ _) | (with_reducible show Src2 _ _ _ _ _ _ _))); (first | (k_unfold; (try dsimp only)) | (k_unmd; k_unfold; (try dsimp only)) | (k_end; wrow_close) | walk1 | (dsimp only; walk1) | (leave1; (try dsimp only)))))
  rename_i z3 z2 z1
  exact h G oG kvs x y tl _ _ hlo htl mG hk k1 k2 z2 z1
-- Q9
/-- names and their topics -/
inductive MtE (tl : Led) : List (Str × Value) → List Mem → Prop
  | nil : MtE tl [] []
  | snoc {kvs : List (Str × Value)} {ms : List Mem} {m : Mem} {wl : Addr} {wv : List Value} {c : Nat} (h : MtE tl kvs ms) (hm : (wl, listOf wv.toArray c) ∈ tl) (hw : StrsAre wv m.2.2) : MtE tl (kvs ++ [(m.1, .ref wl)]) (ms ++ [m])
theorem MtE.keys {tl : Led} {kvs : List (Str × Value)} {ms : List Mem} (h : MtE tl kvs ms) : kvs.map (·.1) = ms.map (·.1) := by
  induction h with
  | nil => rfl
  | snoc _ _ _ ih => rw [List.map_append, List.map_append, ih]; rfl
theorem MtE.find {tl : Led} {kvs : List (Str × Value)} {ms : List Mem} (h : MtE tl kvs ms) {x : Str} (hx : x ∈ ms.map (·.1)) : ∃ m ∈ ms, m.1 = x ∧ ∃ wl wv c, (x, Value.ref wl) ∈ kvs ∧ (wl, listOf wv.toArray c) ∈ tl ∧ StrsAre wv m.2.2 := by
  induction h with
  | nil => cases hx
  | @snoc kvs ms m wl wv c h hm hw ih =>
    rw [List.map_append] at hx
    rcases List.mem_append.mp hx with hx | hx
    · obtain ⟨m', q1, q2, wl', wv', c', q3, q4, q5⟩ := ih hx
      exact ⟨m', List.mem_append_left _ q1, q2, wl', wv', c', List.mem_append_left _ q3, q4, q5⟩
    · have e : x = m.1 := List.mem_singleton.mp hx
      exact ⟨m, List.mem_append_right _ (.head _), e.symm, wl, wv, c, List.mem_append_right _ (by rw [e]; exact .head _), hm, hw⟩
/-- member_topics -/
theorem a10 {w : World} {mean : ExcName → Option Value} {mg mb : Str → Option Value} {fa : Addr} {cd : Value} {h₀ g : Heap} {L : Addr} {m : Str → Option Value} {s : Shared} {Q : Flow → Shared → Prop} (C : ACtx w mean mg mb h₀ fa cd g) (F : Fr g L s.heap m) {news : Led} {lm : Addr} {mvs : List Value} {n : Nat} {mems : List Mem} (N : News g L s.heap news) (hlm : (lm, listOf mvs.toArray n) ∈ news) (hme : MemsE w news mvs mems) (h5 : mems.length ≤ 5) (hnd : (mems.map (·.1)).Nodup)
  (mm : m (Str.ofString "members") = some (.ref lm))
  (h : ∀ D oD kvs tl h' tk', oD.IsDictOf (PySem.strKind PR w) kvs → MtE news kvs mems → (D, oD) ∈ tl → (∀ p ∈ news, p ∈ tl ∧ p.1 ≠ D) → Fr g L h' (fun y => if y = Str.ofString "member_topics" then some (.ref D) else m y) → News g L h' tl → Q .next { s with heap := h', toks := tk' }) :
  asgWp w h₀ fa cd L (stAt asgBody 10) Q s := by
  have hfill : (fun (_ : OpenLaw) (_ : Params → Frag) => True) PySem.Challenge.rw_je0014_01 hd.heap_1 := by k_fill; trivial
  clear hfill
  obtain ⟨B, X, T⟩ := C
  conv in (stAt asgBody _) => whnf
  (repeat' ((fail_if_success (first | (with_reducible show wpAny _ _ (exec (Stmt.While _ _ _ _) _) _ _ _) | (with_reducible show wpAny _ _ (exec (Stmt.For _ _ _ _ _) _) _ _ _) | (with_reducible show wpAny _ _ (pyIter _) _ _ _) | (with_reducible show LCg.CompSrc _ _ _ _ _ _ _ _ _ _ _ _ _ _) | (with_reducible show LCt.CompSrcT _ _ _ _ _ _ _ _ _ _ _ _ _ _ _) | (with_reducible show SrcLP _ _ _ _ _ _ _ _ _ _ _ _ _ _ _) | (with_reducible show DSrc _ _ _ _ _ _ _ _ _ _ _ _ _ _ _) | (with_reducible show Src2 _ _ _ _ _ _ _))); (first | (k_unfold; (try dsimp only)) | (k_unmd; k_unfold; (try dsimp only)) | (k_end; wrow_close) | (k_here; (with_reducible show wpAny _ _ (eval (PySem.Expr.Name _ _) _) _ _ _); k_dflt (refine' nameX_L ?jF ?jv ?_ ?ja ?jb; (case ja => rfl); (case jb => rfl); (case jF => k_asm); (case jv => with_reducible assumption))) | (k_here; (with_reducible show wpAny _ _ (exec (Stmt.Assign _ (PySem.Expr.DictComp _ _ _ _ _) _) _) _ _ _); k_dflt (refine Assign_DictComp_U (F₀ := by k_asm) (by rfl) (by with_unfolding_all rfl) (by with_unfolding_all rfl) (by decide) (by rfl) (by decide) (by rfl) (by rfl) (by rfl) ?_)) | walk1 | (dsimp only; walk1) | (leave1; (try dsimp only)))))
  have hml := hme.length
  have hws : mvs.toArray.size = mvs.length := List.size_toArray ..
  refine DSrc.ledger (its := mvs.toArray) (k := n) rfl F N hlm (by rw [hws, sizeLine_eq]; omega) ?_
  intro g9
  rw [hws]
  refine dcomp_J (E₀ := []) (tl₀ := news) (fun i kvs' E tl' => E = [] ∧ (∀ p ∈ news, p ∈ tl') ∧ MtE news kvs' (mems.take i)) rfl (fun _ _ _ h => nomatch h) ⟨rfl, fun _ h => h, by rw [List.take_zero]; exact .nil⟩ ?_ ?_
  · rintro i v kvs' E₁ tl' I oI Cc oC D oD m₂ h2 tk2 E' hi hv ⟨rfl, hn, hmt⟩ - hoT hoD hC hx F2 N2 off ne
    obtain ⟨me, hme1, hmeE⟩ := hme.item i v (by simpa using hv)
    have hmE := hmeE.mono hn
    cases hmeE with
    | @mk x1 d1 su e wl wv c nm gi ts t0 t1 t2 t3 t5 t6 t7 t8 t9 t10 t11 t12 t13 hw hx1 hd1 h1 he hl =>
    have hx1 := hn _ hx1
    have hd1 := hn _ hd1
    have h1 := hn _ h1
    have he := hn _ he
    have hkk := hmt.keys
    clear F N h hmE
    rw [List.nil_append] at N2
    try k_fold
    (repeat' ((fail_if_success (first | (with_reducible show wpAny _ _ (exec (Stmt.While _ _ _ _) _) _ _ _) | (with_reducible show wpAny _ _ (exec (Stmt.For _ _ _ _ _) _) _ _ _) | (with_reducible show wpAny _ _ (pyIter _) _ _ _) | (with_reducible show LCg.CompSrc _ _ _ _ _ _ _ _ _ _ _ _ _ _) | (with_reducible show LCt.CompSrcT _ _ _ _ _ _ _ _ _ _ _ _ _ _ _) | (with_reducible show SrcLP _ _ _ _ _ _ _ _ _ _ _ _ _ _ _) | (with_reducible show DSrc _ _ _ _ _ _ _ _ _ _ _ _ _ _ _) | (with_reducible show Src2 _ _ _ _ _ _ _))); (first | (k_unfold; (try dsimp only)) | (k_unmd; k_unfold; (try dsimp only)) | (k_end; wrow_close) | (k_here; (with_reducible show wpAny _ _ (eval (PySem.Expr.Name _ _) _) _ _ _); k_dflt (refine' nameX_L ?jF ?jv ?_ ?ja ?jb; (case ja => rfl); (case jb => rfl); (case jF => k_asm); (case jv => with_reducible assumption))) | walk1 | (dsimp only; walk1) | (leave1; (try dsimp only)))))
    have hfr : nm ∉ kvs'.map (·.1) := by
      rw [hkk, List.map_take]
      exact not_mem_take hnd (by rw [List.getElem?_map, hme1]; rfl)
    refine dcend (E₁ := []) (E' := []) (new := []) F2 N2 (fun p hp => hp) off rfl (fun _ h => nomatch h) (.inr ⟨_, hn _ hlm, rfl, _, rfl⟩) ⟨nm, [], [], strKind_is _ _ _ _, rfl, rfl, (fun _ _ _ h => nomatch h), rfl, hn, ?_⟩
    rw [stored_new hfr, List.take_add_one, hme1]
    exact .snoc (m := (nm, gi, ts)) hmt hl hw
  · rintro kvs' E₁ tl' - hoff' ⟨rfl, hn, hmt⟩
    rw [hml, List.take_length] at hmt
    unfold DFinA
    intro D9 oD9 h8 tk8 hD9 F8 N8 o8 lD9
    rw [List.nil_append] at N8 o8
    have o9 := off1_mem o8
    exact h D9 oD9 kvs' _ _ _ hD9 hmt (.head _) (fun p hp => ⟨.tail _ (hn p hp), o9 p (hn p hp)⟩) F8 N8
/-- protocol_assignment = {} -/
theorem a12 {w : World} {mean : ExcName → Option Value} {mg mb : Str → Option Value} {fa : Addr} {cd : Value} {h₀ g : Heap} {L : Addr} {m : Str → Option Value} {s : Shared} {Q : Flow → Shared → Prop} (C : ACtx w mean mg mb h₀ fa cd g) (F : Fr g L s.heap m) {news : Led} (N : News g L s.heap news)
  (h : ∀ D o h' tk', (∀ p ∈ news, p.1 < D) → (D == sysModules) = false → o.IsDictOf (PySem.strKind PR w) [] → Fr g L h' (fun y => if y = Str.ofString "protocol_assignment" then some (.ref D) else m y) → News g L h' ((D, o) :: news) → Q .next { s with heap := h', toks := tk' }) :
  asgWp w h₀ fa cd L (stAt asgBody 12) Q s := by
  have hfill : (fun (_ : OpenLaw) (_ : Params → Frag) => True) PySem.Challenge.rw_je0014_01 hd.heap_1 := by k_fill; trivial
  clear hfill
  obtain ⟨B, X, T⟩ := C
  conv in (stAt asgBody _) => whnf
  (repeat' ((fail_if_success (first | (with_reducible show wpAny _ _ (exec (Stmt.While _ _ _ _) _) _ _ _) | (with_reducible show wpAny _ _ (exec (Stmt.For _ _ _ _ _) _) _ _ _) | (with_reducible show wpAny _ _ (pyIter _) _ _ _) | (with_reducible show LCg.CompSrc _ _ _ _ _ _ _ _ _ _ _ _ _ _) | (with_reducible show LCt.CompSrcT _ _ _ _ _ _ _ _ _ _ _ _ _ _ _) | (with_reducible show SrcLP _ _ _ _ _ _ _ _ _ _ _ _ _ _ _) | (with_reducible show DSrc _ _ _ _ _ _ _ _ _ _ _ _ _ _ _) | (with_reducible show Src2 _ _ _ _ _ _ _))); (first | (k_unfold; (try dsimp only)) | (k_unmd; k_unfold; (try dsimp only)) | (k_end; wrow_close) | (k_here; (with_reducible show wpAny _ _ (eval (PySem.Expr.Name _ _) _) _ _ _); k_dflt (refine' nameX_L ?jF ?jv ?_ ?ja ?jb; (case ja => rfl); (case jb => rfl); (case jF => k_asm); (case jv => with_reducible assumption))) | walk1 | (dsimp only; walk1) | (leave1; (try dsimp only)))))
  rename_i z12 z11 z10 z9 z8 z7 z6 z5 z4 z3 z2 z1
  exact h _ _ _ _ z9 z8 z7 z2 z1
-- R1
/-- the keys of a sort by member_of -/
theorem mof_keys {w : World} {mean : ExcName → Option Value} {mg mb : Str → Option Value} {fa : Addr} {cd : Value} {h₀ g : Heap} {L : Addr} {m : Str → Option Value} (C : ACtx w mean mg mb h₀ fa cd g) {kS D : Addr} {news : Led} {e1 : Nat} {Fin : List Value → Nat → Shared → Prop} (hkD : kS ≠ D) (hkn : ∀ p ∈ news, p.1 ≠ kS) :
    ∀ (r : List Value) (rows : GN) (ks : List Value) (e : Nat) (s' : Shared), DatAll news r (rows.map uD) → Fr g L s'.heap m → News g L s'.heap ((kS, seqObj "list" (List.toArray ks) e) :: (D, seqObj "list" #[] e1) :: news) →
      (∀ ks' e' h' tk', StrsAre ks' (rows.map (·.2)) → Fr g L h' m → News g L h' ((kS, seqObj "list" (List.toArray (ks ++ ks')) e') :: (D, seqObj "list" #[] e1) :: news) → Fin (ks ++ ks') e' { s' with heap := h', toks := tk' }) →
      KatKeys PR w (asgA h₀ fa cd L).in1.in1 g L m kS (.ref 140) Fin r ks e s'
  | r, [], ks, e, s', hd1, F1, N1, fin => by
    cases hd1
    have h2 := fin [] e s'.heap s'.toks .nil F1 (by rw [List.append_nil]; exact N1)
    rw [List.append_nil] at h2
    exact KatKeys.nil h2
  | r, p :: rows, ks, e, s', hd1, F1, N1, fin => by
    cases hd1 with
    | @cons v r _ _ hv hr =>
    obtain ⟨T1, us, nT, rfl, mT, hd2⟩ := datIn_tuple hv
    obtain ⟨v1, v2, rfl, d1, d2⟩ := datAll_two hd2
    cases d2 with
    | str x t =>
    refine KatKeys.cons ?_
    refine mof_spec C.B F1 C.X C.T rfl N1 (.tail _ (.tail _ mT)) (by ktr_room) (by ktr_units) ?_
    intro h3 tk3 F3 N3
    refine ⟨_, _, F3, N3, .head ?_, fun h4 c4 F4 N4 => ?_⟩
    · intro q hq
      rcases List.mem_cons.mp hq with rfl | hq
      · exact hkD.symm
      · exact hkn q hq
    · refine mof_keys C hkD hkn r rows (ks ++ [Value.str p.2 t]) c4 _ hr F4 N4 fun ks' e' h' tk' hs' F5 N5 => ?_
      rw [List.append_assoc] at N5 ⊢
      exact fin (Value.str p.2 t :: ks') e' h' tk' (.cons p.2 t hs') F5 N5
/-- rows of (none, name), sorted by name -/
theorem sorted_mof {w : World} {mean : ExcName → Option Value} {mg mb : Str → Option Value} {fa : Addr} {cd : Value} {h₀ g : Heap} {L : Addr} {m : Str → Option Value} {s : Shared} {Q : Value → Shared → Prop} (C : ACtx w mean mg mb h₀ fa cd g) (F : Fr g L s.heap m) {news : Led} {l : Addr} {vs : List Value} {n : Nat} {rows : GN} (N : News g L s.heap news) (hl : (l, listOf vs.toArray n) ∈ news) (hd1 : DatAll news vs (rows.map uD)) (h60 : rows.length ≤ 60)
  (h : ∀ D ws (rows' : GN) c h' tk', rows'.Perm rows → Srt sK keyS (rows'.map (·.2)) → DatAll news ws (rows'.map uD) → Fr g L h' m → News g L h' ((D, listOf ws.toArray c) :: news) → (∀ q ∈ news, q.1 < D) → Q (.ref D) { s with heap := h', toks := tk' }) :
  wpAny (model PR w) (asgA h₀ fa cd L) (call (.builtin "sorted") [.ref l] [(Str.ofString "key", .ref 140)]) Q NE s := by
  have hvl : vs.length = rows.length := by rw [hd1.length, List.length_map]
  have hil : s.heap.IsList l vs.toArray := ⟨_, (N _ hl).1, rfl, n, rfl⟩
  by_cases h2 : vs.length < 2
  · refine ks1 F N hil h2 fun D kS e1 h5 F1 N1 hDk hlt => ?_
    refine mof_keys C (Nat.ne_of_gt hDk) (fun p hp => Nat.ne_of_lt (Nat.lt_trans (hlt p hp) hDk)) vs rows [] 0 _ hd1 F1 N1 fun ks' e' h6 tk6 hs6 F2 N2 => ?_
    refine KatFin.intro F2 N2 (.head ?_) fun h7 c7 F3 N3 => ?_
    · intro q hq
      rcases List.mem_cons.mp hq with rfl | hq
      · exact Nat.ne_of_lt hDk
      · exact Nat.ne_of_lt (Nat.lt_trans (hlt q hq) hDk)
    · refine KasFin.intro F3 N3 (.tail (Nat.ne_of_gt hDk) (.head fun q hq => Nat.ne_of_lt (hlt q hq))) fun h8 c8 F4 N4 => ?_
      refine h D vs rows c8 h8 _ (.refl _) ?_ hd1 F4 (fun p hp => N4 p (.tail _ hp)) hlt
      match rows, hvl with
      | [], _ => exact .nil
      | [_], _ => exact List.pairwise_singleton _ _
      | _ :: _ :: _, e => rw [e] at h2; exact absurd h2 (by simp)
  · refine kat_sortedK (b := false) (f := .ref 140) (kw := [(Str.ofString "key", .ref 140)]) F N hil (by omega) (by omega) (ksk_s1 _ _) (fun _ => ksk_l1 _ _) (fun _ => ksk_t1 _ _) fun D kS e1 h5 F1 N1 hDk hlt => ?_
    refine mof_keys C (Nat.ne_of_gt hDk) (fun p hp => Nat.ne_of_lt (Nat.lt_trans (hlt p hp) hDk)) vs rows [] 0 _ hd1 F1 N1 fun ks' e' h6 tk6 hs6 F2 N2 => ?_
    rw [List.nil_append] at N2 ⊢
    have hkl : ks'.length = rows.length := by rw [hs6.length, List.length_map]
    have hk : keyKind' ks'.toArray = pure oneType' := by
      match ks', rows.map (·.2), hs6, hkl with
      | [], _, _, e => exact absurd (by rw [hvl, ← e]; exact Nat.le_refl _) (fun q : vs.length ≤ 0 => h2 (by omega))
      | [_], _, _, e => exact absurd (by rw [hvl, ← e]; exact Nat.le_refl _) (fun q : vs.length ≤ 1 => h2 (by omega))
      | _ :: _ :: _, _, hS, _ => exact keyKind_strs hS
    show wpAny _ _ (keyKind' ks'.toArray) _ _ _
    rw [hk]
    refine wpAny_pure ?_
    refine sort_dat (O := sK) (key := fun p : Option Str × Str => keyS p.2) (none, Str.empty) (by omega) hd1 (fun i j C' hi hj hC => ?_) fun q rows' hp hs hdd => ?_
    · obtain ⟨vi, hvi⟩ : ∃ v, ks'[i]? = some v := ⟨_, List.getElem?_eq_getElem (by rw [hkl]; exact hi)⟩
      obtain ⟨vj, hvj⟩ : ∃ v, ks'[j]? = some v := ⟨_, List.getElem?_eq_getElem (by rw [hkl]; exact hj)⟩
      obtain ⟨xi, ti, rfl, ei⟩ := hs6.item i vi hvi
      obtain ⟨xj, tj, rfl, ej⟩ := hs6.item j vj hvj
      have hri : (rows.getD i (none, Str.empty)).2 = xi := by
        rw [List.getElem?_map, List.getElem?_eq_getElem hi] at ei
        rw [List.getD_eq_getElem?_getD, List.getElem?_eq_getElem hi]
        exact Option.some.inj ei
      have hrj : (rows.getD j (none, Str.empty)).2 = xj := by
        rw [List.getElem?_map, List.getElem?_eq_getElem hj] at ej
        rw [List.getD_eq_getElem?_getD, List.getElem?_eq_getElem hj]
        exact Option.some.inj ej
      have hC2 := hC
      rw [hri, hrj] at hC2
      show kas_ask _ _ _ _ ks' i j C' _
      unfold kas_ask
      rw [List.getD_eq_getElem?_getD, hvi, List.getD_eq_getElem?_getD, hvj]
      show wpAny _ _ (keyLt' oneType' _ _) _ _ _
      rw [keyLt'_oneType]
      exact oneLt_str hC2
    · refine KatFin.intro F2 N2 (.head ?_) fun h7 c7 F3 N3 => ?_
      · intro q hq
        rcases List.mem_cons.mp hq with rfl | hq
        · exact Nat.ne_of_lt hDk
        · exact Nat.ne_of_lt (Nat.lt_trans (hlt q hq) hDk)
      · refine KasFin.intro F3 N3 (.tail (Nat.ne_of_gt hDk) (.head fun q hq => Nat.ne_of_lt (hlt q hq))) fun h8 c8 F4 N4 => ?_
        exact h D _ rows' c8 h8 _ hp (List.pairwise_map.mpr hs) hdd F4 (fun p hp => N4 p (.tail _ hp)) hlt
-- R2
theorem KAt.get {nx cst : Led} {kvs : List (Bool × Value)} {G lE : Addr} {b : Bool} {rows : GN} {x : Option Addr} (h : KAt nx cst kvs G b rows x) : ∃ l vs n, (valueAt kvs b).getD (.ref lE) = .ref l ∧ (l, listOf vs.toArray n) ∈ (lE, listOf #[] 0) :: nx ∧ DatAll cst vs (rows.map uD) := by
  cases h with
  | no h1 h2 => exact ⟨lE, [], 0, by rw [h2]; rfl, .head _, by rw [h1]; exact .nil⟩
  | @yes l vs c h1 h2 h3 h4 h5 h6 => exact ⟨l, vs, c, by rw [h1]; rfl, .tail _ h2, h5⟩
theorem rows_true : ∀ gn : GN, (rowsK gn true).map uD = (stats gn).map (encP Dat.str)
  | [] => rfl
  | (none, x) :: r => rows_true r
  | (some g, x) :: r => congrArg (uD (some g, x) :: ·) (rows_true r)
theorem rows_false : ∀ gn : GN, (rowsK gn false).map (·.2) = rests gn
  | [] => rfl
  | (none, x) :: r => congrArg (x :: ·) (rows_false r)
  | (some g, x) :: r => rows_false r
/-- member_list -/
theorem a8 {w : World} {mean : ExcName → Option Value} {mg mb : Str → Option Value} {fa : Addr} {cd : Value} {h₀ g : Heap} {L : Addr} {m : Str → Option Value} {s : Shared} {Q : Flow → Shared → Prop} (C : ACtx w mean mg mb h₀ fa cd g) (F : Fr g L s.heap m) {news cst : Led} {G : Addr} {oG : Obj} {kvs : List (Bool × Value)} {gn : GN} {x y : Option Addr} (N : News g L s.heap news) (hlo : (G == sysModules) = false) (hcs : ∀ p ∈ cst, p ∈ news) (mG : (G, oG) ∈ news) (hk : oG.IsDictOf (boolKind PR w) kvs)
  (k1 : KAt news cst kvs G true (rowsK gn true) x) (k2 : KAt news cst kvs G false (rowsK gn false) y) (hn5 : gn.length ≤ 5)
  (mg9 : m (Str.ofString "grouped") = some (.ref G))
  (h : ∀ M ws (ml : GN) c tl h' tk', OrderOf gn (ml.map (·.2)) → DatAll tl ws (ml.map uD) → (∀ p ∈ news, p ∈ tl) → (M, listOf ws.toArray c) ∈ tl → Fr g L h' (fun y => if y = Str.ofString "member_list" then some (.ref M) else m y) → News g L h' tl → Q .next { s with heap := h', toks := tk' }) :
  asgWp w h₀ fa cd L (stAt asgBody 8) Q s := by
  have C' := C
  have hfill : (fun (_ : OpenLaw) (_ : Params → Frag) => True) PySem.Challenge.rw_je0014_01 hd.heap_1 := by k_fill; trivial
  clear hfill
  obtain ⟨B, X, T⟩ := C
  conv in (stAt asgBody _) => whnf
  (repeat' ((fail_if_success (first | (with_reducible show wpAny _ _ (exec (Stmt.While _ _ _ _) _) _ _ _) | (with_reducible show wpAny _ _ (exec (Stmt.For _ _ _ _ _) _) _ _ _) | (with_reducible show wpAny _ _ (pyIter _) _ _ _) | (with_reducible show wpAny _ _ (call (Value.builtin "sorted") _) _ _ _) | (with_reducible show LCg.CompSrc _ _ _ _ _ _ _ _ _ _ _ _ _ _) | (with_reducible show LCt.CompSrcT _ _ _ _ _ _ _ _ _ _ _ _ _ _ _) | (with_reducible show SrcLP _ _ _ _ _ _ _ _ _ _ _ _ _ _ _) | (with_reducible show DSrc _ _ _ _ _ _ _ _ _ _ _ _ _ _ _) | (with_reducible show Src2 _ _ _ _ _ _ _))); (first | (k_unfold; (try dsimp only)) | (k_unmd; k_unfold; (try dsimp only)) | (k_end; wrow_close) | (k_here; (with_reducible show wpAny _ _ (eval (PySem.Expr.Name _ _) _) _ _ _); k_dflt (refine' nameX_L ?jF ?jv ?_ ?ja ?jb; (case ja => rfl); (case jb => rfl); (case jF => k_asm); (case jv => with_reducible assumption))) | (k_here; (with_reducible show wpAny _ _ (getMethod (Value.ref _) _ _) _ _ _); k_dflt (refine' kdg_method (knd := boolKind _ _) ?jN ?jm ?jd ?_; (case jN => k_asm); (case jm => k_mem); (case jd => with_reducible assumption))) | (k_here; (with_reducible show wpAny _ _ (call (Value.builtin "dict.get") [Value.ref _, Value.bool _, Value.ref _]) _ _ _); k_dflt (refine' kdg_get2 (knd := boolKind _ _) ?jN ?jm ?jd ?jl (boolKind_is _ _ _) _ rfl ?_; (case jN => k_asm); (case jm => k_mem); (case jd => with_reducible assumption); (case jl => with_reducible assumption))) | walk1 | (dsimp only; walk1) | (leave1; (try dsimp only)))))
  rename_i z5 z4 z3 z2 z1
  obtain ⟨l1, v1, n1, e1, m1, d1⟩ := k1.get (lE := z5)
  rw [e1]
  have hst : (stats gn).length ≤ 5 := Nat.le_trans (List.length_filterMap_le _ _) hn5
  refine sorted_pairs (O := sK) (k := keyS) (enc := Dat.str) (ps := stats gn) cmp_str Str.empty (n₁ := cst) z3 z2 m1 (fun p hp => .tail _ (hcs p hp)) (rows_true gn ▸ d1) (by omega) ?_
  intro D1 ws1 ps c1 h5 hp1 hs1 hd1 F1 N1 lt1
  have hpl : ps.length ≤ 5 := hp1.length_eq ▸ hst
  clear z3 z2
  try dsimp only
  (repeat' ((fail_if_success (first | (with_reducible show wpAny _ _ (exec (Stmt.While _ _ _ _) _) _ _ _) | (with_reducible show wpAny _ _ (exec (Stmt.For _ _ _ _ _) _) _ _ _) | (with_reducible show wpAny _ _ (pyIter _) _ _ _) | (with_reducible show wpAny _ _ (call (Value.builtin "sorted") _ _) _ _ _) | (with_reducible show LCg.CompSrc _ _ _ _ _ _ _ _ _ _ _ _ _ _) | (with_reducible show LCt.CompSrcT _ _ _ _ _ _ _ _ _ _ _ _ _ _ _) | (with_reducible show SrcLP _ _ _ _ _ _ _ _ _ _ _ _ _ _ _) | (with_reducible show DSrc _ _ _ _ _ _ _ _ _ _ _ _ _ _ _) | (with_reducible show Src2 _ _ _ _ _ _ _))); (first | (k_unfold; (try dsimp only)) | (k_unmd; k_unfold; (try dsimp only)) | (k_end; wrow_close) | (k_here; (with_reducible show wpAny _ _ (eval (PySem.Expr.Name _ _) _) _ _ _); k_dflt (refine' nameX_L ?jF ?jv ?_ ?ja ?jb; (case ja => rfl); (case jb => rfl); (case jF => k_asm); (case jv => with_reducible assumption))) | (k_here; (with_reducible show wpAny _ _ (getMethod (Value.ref _) _ _) _ _ _); k_dflt (refine' kdg_method (knd := boolKind _ _) ?jN ?jm ?jd ?_; (case jN => k_asm); (case jm => k_mem); (case jd => with_reducible assumption))) | (k_here; (with_reducible show wpAny _ _ (call (Value.builtin "dict.get") [Value.ref _, Value.bool _, Value.ref _]) _ _ _); k_dflt (refine' kdg_get2 (knd := boolKind _ _) ?jN ?jm ?jd ?jl (boolKind_is _ _ _) _ rfl ?_; (case jN => k_asm); (case jm => k_mem); (case jd => with_reducible assumption); (case jl => with_reducible assumption))) | walk1 | (dsimp only; walk1) | (leave1; (try dsimp only)))))
  rename_i y5 y4 y3 y2 y1
  obtain ⟨l2, v2, n2, e2, m2, d2⟩ := k2.get (lE := y5)
  rw [e2]
  have hrl : (rowsK gn false).length ≤ 5 := Nat.le_trans (List.length_filter_le _ _) hn5
  refine sorted_mof C' y3 y2 ((List.mem_cons.mp m2).elim (fun e => e ▸ .head _) fun q => .tail _ (.tail _ (.tail _ q))) (d2.mono fun p hp => .tail _ (.tail _ (.tail _ (hcs p hp)))) (by omega) ?_
  intro D2 ws2 rows' c2 h6 tk6 hp2 hs2 hd2 F2 N2 lt2
  clear y3 y2
  try dsimp only
  (repeat' ((fail_if_success (first | (with_reducible show wpAny _ _ (exec (Stmt.While _ _ _ _) _) _ _ _) | (with_reducible show wpAny _ _ (exec (Stmt.For _ _ _ _ _) _) _ _ _) | (with_reducible show wpAny _ _ (pyIter _) _ _ _) | (with_reducible show wpAny _ _ (binaryOp _ _ _) _ _ _) | (with_reducible show LCg.CompSrc _ _ _ _ _ _ _ _ _ _ _ _ _ _) | (with_reducible show LCt.CompSrcT _ _ _ _ _ _ _ _ _ _ _ _ _ _ _) | (with_reducible show SrcLP _ _ _ _ _ _ _ _ _ _ _ _ _ _ _) | (with_reducible show DSrc _ _ _ _ _ _ _ _ _ _ _ _ _ _ _) | (with_reducible show Src2 _ _ _ _ _ _ _))); (first | (k_unfold; (try dsimp only)) | (k_unmd; k_unfold; (try dsimp only)) | (k_end; wrow_close) | (k_here; (with_reducible show wpAny _ _ (eval (PySem.Expr.Name _ _) _) _ _ _); k_dflt (refine' nameX_L ?jF ?jv ?_ ?ja ?jb; (case ja => rfl); (case jb => rfl); (case jF => k_asm); (case jv => with_reducible assumption))) | walk1 | (dsimp only; walk1) | (leave1; (try dsimp only)))))
  have w1 : ws1.length = ps.length := by rw [hd1.length, List.length_map]
  have w2 : ws2.length = rows'.length := by rw [hd2.length, List.length_map]
  have hrl2 : rows'.length ≤ 5 := hp2.length_eq ▸ hrl
  refine add_lists (vs := ws1) (ws := ws2) F2 N2 (News.isList N2 (.tail _ (.tail _ (.head _)))) (News.isList N2 (.head _)) ?_ (by rw [sizeLine_eq]; omega)
  intro h7 F7 N7
  clear F2 N2
  try dsimp only
  (repeat' ((fail_if_success (first | (with_reducible show wpAny _ _ (exec (Stmt.While _ _ _ _) _) _ _ _) | (with_reducible show wpAny _ _ (exec (Stmt.For _ _ _ _ _) _) _ _ _) | (with_reducible show wpAny _ _ (pyIter _) _ _ _) | (with_reducible show LCg.CompSrc _ _ _ _ _ _ _ _ _ _ _ _ _ _) | (with_reducible show LCt.CompSrcT _ _ _ _ _ _ _ _ _ _ _ _ _ _ _) | (with_reducible show SrcLP _ _ _ _ _ _ _ _ _ _ _ _ _ _ _) | (with_reducible show DSrc _ _ _ _ _ _ _ _ _ _ _ _ _ _ _) | (with_reducible show Src2 _ _ _ _ _ _ _))); (first | (k_unfold; (try dsimp only)) | (k_unmd; k_unfold; (try dsimp only)) | (k_end; wrow_close) | walk1 | (dsimp only; walk1) | (leave1; (try dsimp only)))))
  rename_i h8 F8 N8
  have hb : (rows'.map (·.2)).Perm (rests gn) := rows_false gn ▸ hp2.map (·.2)
  refine h _ (ws1 ++ ws2) (ps.map (fun p => (some p.1, p.2)) ++ rows') _ _ _ _ ⟨ps, rows'.map (·.2), hp1, hs1, hb, hs2, by rw [List.map_append, List.map_map]; rfl⟩ ?_ (fun p hp => .tail _ (.tail _ (.tail _ (.tail _ (.tail _ hp))))) (.head _) F8 N8
  rw [List.map_append, List.map_map]
  exact (hd1.mono fun p hp => .tail _ (.tail _ (.tail _ (.tail _ (.tail _ (hcs p hp)))))).append (hd2.mono fun p hp => .tail _ (.tail _ hp))
-- R3
/-- member_id = member_list[at % len(member_list)][1] -/
theorem t0 {w : World} {mean : ExcName → Option Value} {mg mb : Str → Option Value} {fa : Addr} {cd : Value} {h₀ g : Heap} {L : Addr} {m : Str → Option Value} {s : Shared} {Q : Flow → Shared → Prop} (C : ACtx w mean mg mb h₀ fa cd g) (F : Fr g L s.heap m) {news : Led} {M : Addr} {ws : List Value} {ml : GN} {c i : Nat} {ta : Tok} (N : News g L s.heap news) (mM : (M, listOf ws.toArray c) ∈ news) (hdM : DatAll news ws (ml.map uD)) (h1 : 1 ≤ ml.length) (h5 : ml.length ≤ 5) (hi : i ≤ 1000)
  (mm : m (Str.ofString "member_list") = some (.ref M)) (mat : m (Str.ofString "at") = some (.int i ta))
  (h : ∀ t h' tk', Fr g L h' (fun y => if y = Str.ofString "member_id" then some (.str (nthOf (ml.map (·.2)) i) t) else m y) → News g L h' news → Q .next { s with heap := h', toks := tk' }) :
  asgWp w h₀ fa cd L (stAt (forBody (stAt asgBody 11)) 0) Q s := by
  have hfill : (fun (_ : OpenLaw) (_ : Params → Frag) => True) PySem.Challenge.rw_je0014_01 hd.heap_1 := by k_fill; trivial
  clear hfill
  obtain ⟨B, X, T⟩ := C
  have hwl : ws.length = ml.length := by rw [hdM.length, List.length_map]
  have f0 : 0 ≤ Int.fmod (i : Int) (ml.length : Int) := Int.fmod_nonneg_of_pos _ (by omega)
  have f1 : Int.fmod (i : Int) (ml.length : Int) < (ml.length : Int) := Int.fmod_lt_of_pos _ (by omega)
  have f2 : (Int.fmod (i : Int) (ml.length : Int)).toNat = i % ml.length := by
    rw [Int.fmod_eq_emod_of_nonneg _ (by omega)]
    omega
  conv in (stAt (forBody _) _) => whnf
  (repeat' ((fail_if_success (first | (with_reducible show wpAny _ _ (exec (Stmt.While _ _ _ _) _) _ _ _) | (with_reducible show wpAny _ _ (exec (Stmt.For _ _ _ _ _) _) _ _ _) | (with_reducible show wpAny _ _ (pyIter _) _ _ _) | (with_reducible show wpAny _ _ (call (Value.builtin "len") _) _ _ _) | (with_reducible show LCg.CompSrc _ _ _ _ _ _ _ _ _ _ _ _ _ _) | (with_reducible show LCt.CompSrcT _ _ _ _ _ _ _ _ _ _ _ _ _ _ _) | (with_reducible show SrcLP _ _ _ _ _ _ _ _ _ _ _ _ _ _ _) | (with_reducible show DSrc _ _ _ _ _ _ _ _ _ _ _ _ _ _ _) | (with_reducible show Src2 _ _ _ _ _ _ _))); (first | (k_unfold; (try dsimp only)) | (k_unmd; k_unfold; (try dsimp only)) | (k_end; wrow_close) | (k_here; (with_reducible show wpAny _ _ (eval (PySem.Expr.Name _ _) _) _ _ _); k_dflt (refine' nameX_L ?jF ?jv ?_ ?ja ?jb; (case ja => rfl); (case jb => rfl); (case jF => k_asm); (case jv => with_reducible assumption))) | walk1 | (dsimp only; walk1) | (leave1; (try dsimp only)))))
  refine kst_len N mM rfl (by rw [hwl]; omega) ?_
  rw [hwl]
  try dsimp only
  (repeat' ((fail_if_success (first | (with_reducible show wpAny _ _ (exec (Stmt.While _ _ _ _) _) _ _ _) | (with_reducible show wpAny _ _ (exec (Stmt.For _ _ _ _ _) _) _ _ _) | (with_reducible show wpAny _ _ (pyIter _) _ _ _) | (with_reducible show wpAny _ _ (subscriptTail _ _ _ _) _ _ _) | (with_reducible show LCg.CompSrc _ _ _ _ _ _ _ _ _ _ _ _ _ _) | (with_reducible show LCt.CompSrcT _ _ _ _ _ _ _ _ _ _ _ _ _ _ _) | (with_reducible show SrcLP _ _ _ _ _ _ _ _ _ _ _ _ _ _ _) | (with_reducible show DSrc _ _ _ _ _ _ _ _ _ _ _ _ _ _ _) | (with_reducible show Src2 _ _ _ _ _ _ _))); (first | (k_unfold; (try dsimp only)) | (k_unmd; k_unfold; (try dsimp only)) | (k_end; wrow_close) | (k_here; (with_reducible show wpAny _ _ (eval (PySem.Expr.Name _ _) _) _ _ _); k_dflt (refine' nameX_L ?jF ?jv ?_ ?ja ?jb; (case ja => rfl); (case jb => rfl); (case jF => k_asm); (case jv => with_reducible assumption))) | walk1 | (dsimp only; walk1) | (leave1; (try dsimp only)))))
  refine item_V N mM f0 (by rw [hwl]; exact f1) (by omega) (fun v hv => ?_)
  rw [f2] at hv
  have hlt : i % ml.length < ml.length := Nat.mod_lt _ (by omega)
  obtain ⟨v', hv', hdr⟩ := hdM.get (k := i % ml.length) (by rw [List.length_map]; exact hlt)
  rw [hv] at hv'
  cases hv'
  rw [List.getElem_map] at hdr
  have hnth : nthOf (ml.map (·.2)) i = ml[i % ml.length].2 := by
    rw [nthOf, List.length_map, List.getD_eq_getElem?_getD, List.getElem?_map, List.getElem?_eq_getElem hlt]; rfl
  rw [hnth] at h
  generalize ml[i % ml.length] = pq at hdr h
  obtain ⟨T1, us, nT, rfl, mT, hd2⟩ := datIn_tuple hdr
  obtain ⟨v1, v2, rfl, d1, d2⟩ := datAll_two hd2
  cases d2 with
  | str x2 t2 =>
  clear hd2 hdr d1
  (repeat' ((fail_if_success (first | (with_reducible show wpAny _ _ (exec (Stmt.While _ _ _ _) _) _ _ _) | (with_reducible show wpAny _ _ (exec (Stmt.For _ _ _ _ _) _) _ _ _) | (with_reducible show wpAny _ _ (pyIter _) _ _ _) | (with_reducible show LCg.CompSrc _ _ _ _ _ _ _ _ _ _ _ _ _ _) | (with_reducible show LCt.CompSrcT _ _ _ _ _ _ _ _ _ _ _ _ _ _ _) | (with_reducible show SrcLP _ _ _ _ _ _ _ _ _ _ _ _ _ _ _) | (with_reducible show DSrc _ _ _ _ _ _ _ _ _ _ _ _ _ _ _) | (with_reducible show Src2 _ _ _ _ _ _ _))); (first | (k_unfold; (try dsimp only)) | (k_unmd; k_unfold; (try dsimp only)) | (k_end; wrow_close) | (k_here; (with_reducible show wpAny _ _ (eval (PySem.Expr.Name _ _) _) _ _ _); k_dflt (refine' nameX_L ?jF ?jv ?_ ?ja ?jb; (case ja => rfl); (case jb => rfl); (case jF => k_asm); (case jv => with_reducible assumption))) | walk1 | (dsimp only; walk1) | (leave1; (try dsimp only)))))
  rename_i z3 z2 z1
  exact h _ _ _ z2 z1
/-- at += 1 -/
theorem t1 {w : World} {mean : ExcName → Option Value} {mg mb : Str → Option Value} {fa : Addr} {cd : Value} {h₀ g : Heap} {L : Addr} {m : Str → Option Value} {s : Shared} {Q : Flow → Shared → Prop} (C : ACtx w mean mg mb h₀ fa cd g) (F : Fr g L s.heap m) {news : Led} {i : Nat} {ta : Tok} (N : News g L s.heap news) (mat : m (Str.ofString "at") = some (.int i ta)) (hi : i ≤ 1000)
  (h : ∀ t h' tk', Fr g L h' (fun y => if y = Str.ofString "at" then some (.int ((i + 1 : Nat) : Int) t) else m y) → News g L h' news → Q .next { s with heap := h', toks := tk' }) :
  asgWp w h₀ fa cd L (stAt (forBody (stAt asgBody 11)) 1) Q s := by
  have hfill : (fun (_ : OpenLaw) (_ : Params → Frag) => True) PySem.Challenge.rw_je0014_01 hd.heap_1 := by k_fill; trivial
  clear hfill
  obtain ⟨B, X, T⟩ := C
  conv in (stAt (forBody _) _) => whnf
  (repeat' ((fail_if_success (first | (with_reducible show wpAny _ _ (exec (Stmt.While _ _ _ _) _) _ _ _) | (with_reducible show wpAny _ _ (exec (Stmt.For _ _ _ _ _) _) _ _ _) | (with_reducible show wpAny _ _ (pyIter _) _ _ _) | (with_reducible show LCg.CompSrc _ _ _ _ _ _ _ _ _ _ _ _ _ _) | (with_reducible show LCt.CompSrcT _ _ _ _ _ _ _ _ _ _ _ _ _ _ _) | (with_reducible show SrcLP _ _ _ _ _ _ _ _ _ _ _ _ _ _ _) | (with_reducible show DSrc _ _ _ _ _ _ _ _ _ _ _ _ _ _ _) | (with_reducible show Src2 _ _ _ _ _ _ _))); (first | (k_unfold; (try dsimp only)) | (k_unmd; k_unfold; (try dsimp only)) | (k_end; wrow_close) | (k_here; (with_reducible show wpAny _ _ (eval (PySem.Expr.Name _ _) _) _ _ _); k_dflt (refine' nameX_L ?jF ?jv ?_ ?ja ?jb; (case ja => rfl); (case jb => rfl); (case jF => k_asm); (case jv => with_reducible assumption))) | walk1 | (dsimp only; walk1) | (leave1; (try dsimp only)))))
  refine wpAny_loadName_local (v := .int i ta) (by kernel_rfl) (by kernel_rfl) F.ns mat ?_
  (repeat' ((fail_if_success (first | (with_reducible show wpAny _ _ (exec (Stmt.While _ _ _ _) _) _ _ _) | (with_reducible show wpAny _ _ (exec (Stmt.For _ _ _ _ _) _) _ _ _) | (with_reducible show wpAny _ _ (pyIter _) _ _ _) | (with_reducible show LCg.CompSrc _ _ _ _ _ _ _ _ _ _ _ _ _ _) | (with_reducible show LCt.CompSrcT _ _ _ _ _ _ _ _ _ _ _ _ _ _ _) | (with_reducible show SrcLP _ _ _ _ _ _ _ _ _ _ _ _ _ _ _) | (with_reducible show DSrc _ _ _ _ _ _ _ _ _ _ _ _ _ _ _) | (with_reducible show Src2 _ _ _ _ _ _ _))); (first | (k_unfold; (try dsimp only)) | (k_unmd; k_unfold; (try dsimp only)) | (k_end; wrow_close) | (k_here; (with_reducible show wpAny _ _ (eval (PySem.Expr.Name _ _) _) _ _ _); k_dflt (refine' nameX_L ?jF ?jv ?_ ?ja ?jb; (case ja => rfl); (case jb => rfl); (case jF => k_asm); (case jv => with_reducible assumption))) | walk1 | (dsimp only; walk1) | (leave1; (try dsimp only)))))
  rename_i z3 z2 z1
  exact h _ _ _ z2 z1
/-- while partition[0] not in member_topics[member_id]: it never turns -/
theorem t2 {w : World} {mean : ExcName → Option Value} {mg mb : Str → Option Value} {fa : Addr} {cd : Value} {h₀ g : Heap} {L : Addr} {m : Str → Option Value} {s : Shared} {Q : Flow → Shared → Prop} (C : ACtx w mean mg mb h₀ fa cd g) (F : Fr g L s.heap m) {news : Led} {T D l : Addr} {n c : Nat} {v2 : Value} {t x : Str} {tt tx : Tok} {oD : Obj} {kvs : List (Str × Value)} {wv : List Value} {ts : List Str} (N : News g L s.heap news) (mT : (T, ({ cls := .type "tuple", data := .seq #[.str t tt, v2] n } : Obj)) ∈ news)
  (mD : (D, oD) ∈ news) (hk : oD.IsDictOf (PySem.strKind PR w) kvs) (hv : valueAt kvs x = some (.ref l)) (ml : (l, listOf wv.toArray c) ∈ news) (hw : StrsAre wv ts) (hin : t ∈ ts) (hok : ∀ x ∈ ts, PyData.strOk x = true) (hl5 : ts.length ≤ 10)
  (mp : m (Str.ofString "partition") = some (.ref T)) (mt : m (Str.ofString "member_topics") = some (.ref D)) (mi : m (Str.ofString "member_id") = some (.str x tx))
  (h : ∀ h' tk', Fr g L h' m → News g L h' news → Q .next { s with heap := h', toks := tk' }) :
  asgWp w h₀ fa cd L (stAt (forBody (stAt asgBody 11)) 2) Q s := by
  have hfill : (fun (_ : OpenLaw) (_ : Params → Frag) => True) PySem.Challenge.rw_je0014_01 hd.heap_1 := by k_fill; trivial
  clear hfill
  obtain ⟨B, X, T⟩ := C
  conv in (stAt (forBody _) _) => whnf
  refine while_same (n₀ := 0) (fun _ nx => nx = news) F N rfl (fun n2 news1 h1 tk1 F1 N1 e1 => ?_) PassesOwn.never
  subst e1
  clear F N
  (repeat' ((fail_if_success (first | (with_reducible show wpAny _ _ (exec (Stmt.While _ _ _ _) _) _ _ _) | (with_reducible show wpAny _ _ (exec (Stmt.For _ _ _ _ _) _) _ _ _) | (with_reducible show wpAny _ _ (pyIter _) _ _ _) | (with_reducible show wpAny _ _ (compareOp _ _ _) _ _ _) | (with_reducible show LCg.CompSrc _ _ _ _ _ _ _ _ _ _ _ _ _ _) | (with_reducible show LCt.CompSrcT _ _ _ _ _ _ _ _ _ _ _ _ _ _ _) | (with_reducible show SrcLP _ _ _ _ _ _ _ _ _ _ _ _ _ _ _) | (with_reducible show DSrc _ _ _ _ _ _ _ _ _ _ _ _ _ _ _) | (with_reducible show Src2 _ _ _ _ _ _ _))); (first | (k_unfold; (try dsimp only)) | (k_unmd; k_unfold; (try dsimp only)) | (k_end; wrow_close) | (k_here; (with_reducible show wpAny _ _ (eval (PySem.Expr.Name _ _) _) _ _ _); k_dflt (refine' nameX_L ?jF ?jv ?_ ?ja ?jb; (case ja => rfl); (case jb => rfl); (case jF => k_asm); (case jv => with_reducible assumption))) | (k_here; (with_reducible show wpAny _ _ (subscriptTail _ _ (Value.ref _) (Value.str _ _)) _ _ _); k_dflt (refine' kda_item (knd := PySem.strKind _ _) ?jN ?jm ?jd (strKind_is _ _ _ _) ?jv ?_; (case jN => k_asm); (case jm => k_mem); (case jd => with_reducible assumption); (case jv => with_reducible assumption))) | walk1 | (dsimp only; walk1) | (leave1; (try dsimp only)))))
  refine kqd_notIn (n₁ := []) (n₂ := []) (d := .str t) N1 ml rfl rfl (strs_dat hw) (fun _ h => nomatch h) (.str t tt) (fun _ h => nomatch h) (ok_strs hok) (by simpa [kqdOk] using hok t hin) (by ktr_units) ?_
  have e9 : Dat.str t ∈ ts.map Dat.str := List.mem_map_of_mem hin
  simp only [e9, decide_true, Bool.not_true]
  (repeat' ((fail_if_success (first | (with_reducible show wpAny _ _ (exec (Stmt.While _ _ _ _) _) _ _ _) | (with_reducible show wpAny _ _ (exec (Stmt.For _ _ _ _ _) _) _ _ _) | (with_reducible show wpAny _ _ (pyIter _) _ _ _) | (with_reducible show LCg.CompSrc _ _ _ _ _ _ _ _ _ _ _ _ _ _) | (with_reducible show LCt.CompSrcT _ _ _ _ _ _ _ _ _ _ _ _ _ _ _) | (with_reducible show SrcLP _ _ _ _ _ _ _ _ _ _ _ _ _ _ _) | (with_reducible show DSrc _ _ _ _ _ _ _ _ _ _ _ _ _ _ _) | (with_reducible show Src2 _ _ _ _ _ _ _))); (first | (k_unfold; (try dsimp only)) | (k_unmd; k_unfold; (try dsimp only)) | (k_end; wrow_close) | walk1 | (dsimp only; walk1) | (leave1; (try dsimp only)))))
  exact h _ _ F1 N1
-- R4
theorem gm_sd {prog : Program} {w : World} {A : Around} {E : Value → Shared → Prop} {s : Shared} {h₀ : Heap} {L d : Addr} {news : Led} {o : Obj} {kvs : List (Str × Value)} {pl : Sem Bool} {Q : Value × List Value → Shared → Prop} (N : News h₀ L s.heap news) (hp : (d, o) ∈ news) (hk : o.IsDictOf (PySem.strKind prog w) kvs) (h : Q (.builtin "dict.setdefault", [.ref d]) s) : wpAny (model prog w) A (getMethod (.ref d) "setdefault" pl) Q E s :=
  have hD := kda_dict N hp hk
  getMethod_builtin hD.typeIs PySem.F.plainAttrs_dict PySem.F.slot_dict_setdefault PySem.F.type_dict_setdefault hD.mapOf.noDict h
noncomputable abbrev tupO2 (n : Nat) (t : Str) (tt : Tok) (k : Int) (tk : Tok) : Obj := { cls := .type "tuple", data := .seq #[.str t tt, .int k tk] n }
/-- assignment.setdefault(member_id, {}).setdefault(partition[0], []).append(partition[1]): all is there -/
theorem t3_old {w : World} {mean : ExcName → Option Value} {mg mb : Str → Option Value} {fa : Addr} {cd : Value} {h₀ g : Heap} {L : Addr} {m : Str → Option Value} {s : Shared} {Q : Flow → Shared → Prop} (C : ACtx w mean mg mb h₀ fa cd g) (F : Fr g L s.heap m) {news : Led} {T A : Addr} {n : Nat} {t x : Str} {tt tx tk : Tok} {k : Int} (mT : (T, tupO2 n t tt k tk) ∈ news) (mp : m (Str.ofString "partition") = some (.ref T)) (mi : m (Str.ofString "member_id") = some (.str x tx)) (ma : m (Str.ofString "assignment") = some (.ref A)) (hlo : (A == sysModules) = false) {oA o : Obj} {a l : Addr} {kvA kv : List (Str × Value)} {us : List Value} {c : Nat} (N : News g L s.heap ((l, listOf us.toArray c) :: news)) (hl : ∀ p ∈ news, p.1 ≠ l) (mA : (A, oA) ∈ news) (hA : oA.IsDictOf (PySem.strKind PR w) kvA) (hvA : valueAt kvA x = some (.ref a))
  (mo : (a, o) ∈ news) (ho : o.IsDictOf (PySem.strKind PR w) kv) (hlo2 : (a == sysModules) = false) (hv : valueAt kv t = some (.ref l)) (hz1 : kvA.length ≤ sizeLine) (hz2 : kv.length ≤ sizeLine) (hul : us.length ≤ 1000)
  (h : ∀ h' tk' tn, Fr g L h' m → News g L h' ((l, listOf (us ++ [Value.int k tn]).toArray (c + 1)) :: news) → Q .next { s with heap := h', toks := tk' }) :
  asgWp w h₀ fa cd L (stAt (forBody (stAt asgBody 11)) 3) Q s := by
  have hfill : (fun (_ : OpenLaw) (_ : Params → Frag) => True) PySem.Challenge.rw_je0014_01 hd.heap_1 := by k_fill; trivial
  clear hfill
  obtain ⟨B, X, T⟩ := C
  conv in (stAt (forBody _) _) => whnf
  (repeat' ((fail_if_success (first | (with_reducible show wpAny _ _ (exec (Stmt.While _ _ _ _) _) _ _ _) | (with_reducible show wpAny _ _ (exec (Stmt.For _ _ _ _ _) _) _ _ _) | (with_reducible show wpAny _ _ (pyIter _) _ _ _) | (with_reducible show LCg.CompSrc _ _ _ _ _ _ _ _ _ _ _ _ _ _) | (with_reducible show LCt.CompSrcT _ _ _ _ _ _ _ _ _ _ _ _ _ _ _) | (with_reducible show SrcLP _ _ _ _ _ _ _ _ _ _ _ _ _ _ _) | (with_reducible show DSrc _ _ _ _ _ _ _ _ _ _ _ _ _ _ _) | (with_reducible show Src2 _ _ _ _ _ _ _))); (first | (k_unfold; (try dsimp only)) | (k_unmd; k_unfold; (try dsimp only)) | (k_end; wrow_close) | (k_here; (with_reducible show wpAny _ _ (eval (PySem.Expr.Name _ _) _) _ _ _); k_dflt (refine' nameX_L ?jF ?jv ?_ ?ja ?jb; (case ja => rfl); (case jb => rfl); (case jF => k_asm); (case jv => with_reducible assumption))) | (k_here; (with_reducible show wpAny _ _ (getMethod (Value.ref _) _ _) _ _ _); k_dflt (refine' gm_sd ?jN ?jm ?jd ?_; (case jN => k_asm); (case jm => k_mem); (case jd => with_reducible assumption))) | (k_here; (with_reducible show wpAny _ _ (call (Value.builtin "dict.setdefault") [Value.ref _, Value.str _ _, Value.ref _]) _ _ _); k_dflt (refine' kob_setdef_there (knd := PySem.strKind _ _) ?jN ?jm ?jd ?jl (strKind_is _ _ _ _) (PySem.F.args_dict_setdefault_3 _ _ _) ?jv ?jz ?_; (case jN => k_asm); (case jm => k_mem); (case jd => with_reducible assumption); (case jl => with_reducible assumption); (case jv => with_reducible assumption); (case jz => with_reducible assumption))) | (k_here; (with_reducible show wpAny _ _ (call (Value.builtin "list.append") [Value.ref _, _]) _ _ _); k_dflt (refine' append_L ?jF ?jN ?jU ?jz ?_; (case jF => k_asm); (case jN => k_asm); (case jU => k_updF); (case jz => first | with_reducible assumption | exact Nat.le_of_ble_eq_true rfl)); intro h5 F' N'; (try dsimp only at N')) | walk1 | (dsimp only; walk1) | (leave1; (try dsimp only)))))
  exact h _ _ _ F' (fun p hp => N' p (.tail _ (.tail _ hp)))
/-- the name is there, the topic is new -/
theorem t3_top {w : World} {mean : ExcName → Option Value} {mg mb : Str → Option Value} {fa : Addr} {cd : Value} {h₀ g : Heap} {L : Addr} {m : Str → Option Value} {s : Shared} {Q : Flow → Shared → Prop} (C : ACtx w mean mg mb h₀ fa cd g) (F : Fr g L s.heap m) {news : Led} {T A : Addr} {n : Nat} {t x : Str} {tt tx tk : Tok} {k : Int} (mT : (T, tupO2 n t tt k tk) ∈ news) (mp : m (Str.ofString "partition") = some (.ref T)) (mi : m (Str.ofString "member_id") = some (.str x tx)) (ma : m (Str.ofString "assignment") = some (.ref A)) (hlo : (A == sysModules) = false) {oA o : Obj} {a : Addr} {kvA kv : List (Str × Value)} (N : News g L s.heap ((a, o) :: news)) (ha : ∀ p ∈ news, p.1 ≠ a) (mA : (A, oA) ∈ news) (hA : oA.IsDictOf (PySem.strKind PR w) kvA) (hvA : valueAt kvA x = some (.ref a))
  (ho : o.IsDictOf (PySem.strKind PR w) kv) (hlo2 : (a == sysModules) = false) (hv : valueAt kv t = none) (hz1 : kvA.length ≤ sizeLine) (hz2 : kv.length ≤ sizeLine)
  (h : ∀ l o' h' tk' tn, o'.IsDictOf (PySem.strKind PR w) (stored kv t (.ref l)) → (∀ p ∈ (a, o) :: news, p.1 < l) → Fr g L h' m → News g L h' ((l, listOf [Value.int k tn].toArray 1) :: (a, o') :: news) → Q .next { s with heap := h', toks := tk' }) :
  asgWp w h₀ fa cd L (stAt (forBody (stAt asgBody 11)) 3) Q s := by
  have hfill : (fun (_ : OpenLaw) (_ : Params → Frag) => True) PySem.Challenge.rw_je0014_01 hd.heap_1 := by k_fill; trivial
  clear hfill
  obtain ⟨B, X, T⟩ := C
  conv in (stAt (forBody _) _) => whnf
  (repeat' ((fail_if_success (first | (with_reducible show wpAny _ _ (exec (Stmt.While _ _ _ _) _) _ _ _) | (with_reducible show wpAny _ _ (exec (Stmt.For _ _ _ _ _) _) _ _ _) | (with_reducible show wpAny _ _ (pyIter _) _ _ _) | (with_reducible show LCg.CompSrc _ _ _ _ _ _ _ _ _ _ _ _ _ _) | (with_reducible show LCt.CompSrcT _ _ _ _ _ _ _ _ _ _ _ _ _ _ _) | (with_reducible show SrcLP _ _ _ _ _ _ _ _ _ _ _ _ _ _ _) | (with_reducible show DSrc _ _ _ _ _ _ _ _ _ _ _ _ _ _ _) | (with_reducible show Src2 _ _ _ _ _ _ _))); (first | (k_unfold; (try dsimp only)) | (k_unmd; k_unfold; (try dsimp only)) | (k_end; wrow_close) | (k_here; (with_reducible show wpAny _ _ (eval (PySem.Expr.Name _ _) _) _ _ _); k_dflt (refine' nameX_L ?jF ?jv ?_ ?ja ?jb; (case ja => rfl); (case jb => rfl); (case jF => k_asm); (case jv => with_reducible assumption))) | (k_here; (with_reducible show wpAny _ _ (getMethod (Value.ref _) _ _) _ _ _); k_dflt (refine' gm_sd ?jN ?jm ?jd ?_; (case jN => k_asm); (case jm => k_mem); (case jd => with_reducible assumption))) | (k_here; (with_reducible show wpAny _ _ (call (Value.builtin "dict.setdefault") [Value.ref _, Value.str _ _, Value.ref _]) _ _ _); k_dflt (refine' kob_setdef_there (knd := PySem.strKind _ _) ?jN ?jm ?jd ?jl (strKind_is _ _ _ _) (PySem.F.args_dict_setdefault_3 _ _ _) ?jv ?jz ?_; (case jN => k_asm); (case jm => k_mem); (case jd => with_reducible assumption); (case jl => with_reducible assumption); (case jv => with_reducible assumption); (case jz => with_reducible assumption))) | (k_here; (with_reducible show wpAny _ _ (call (Value.builtin "dict.setdefault") [Value.ref _, Value.str _ _, Value.ref _]) _ _ _); k_dflt (refine' kob_setdef_new (knd := PySem.strKind _ _) ?jF ?jN ?jU ?jd ?jl (strKind_is _ _ _ _) (PySem.F.args_dict_setdefault_3 _ _ _) ?jv ?jz ?_; (case jF => k_asm); (case jN => k_asm); (case jU => k_updF); (case jd => with_reducible assumption); (case jl => with_reducible assumption); (case jv => with_reducible assumption); (case jz => with_reducible assumption)); intro h6 o6 F' N' hd6; (try dsimp only at N')) | (k_here; (with_reducible show wpAny _ _ (call (Value.builtin "list.append") [Value.ref _, _]) _ _ _); k_dflt (refine' append_L ?jF ?jN ?jU ?jz ?_; (case jF => k_asm); (case jN => k_asm); (case jU => k_updF); (case jz => first | with_reducible assumption | exact Nat.le_of_ble_eq_true rfl)); intro h5 F' N'; (try dsimp only at N')) | walk1 | (dsimp only; walk1) | (leave1; (try dsimp only)))))
  rename_i z7 z6 z5 z4 z3 z2 z1
  exact h z7 o6 h5 _ _ hd6 (fun p hp => z3 p (.tail _ hp)) F' (fun p hp => N' p ((List.mem_cons.mp hp).elim (fun e => e ▸ .head _) fun q => .tail _ (.tail _ q)))
/-- the name is new -/
theorem t3_new {w : World} {mean : ExcName → Option Value} {mg mb : Str → Option Value} {fa : Addr} {cd : Value} {h₀ g : Heap} {L : Addr} {m : Str → Option Value} {s : Shared} {Q : Flow → Shared → Prop} (C : ACtx w mean mg mb h₀ fa cd g) (F : Fr g L s.heap m) {news : Led} {T A : Addr} {n : Nat} {t x : Str} {tt tx tk : Tok} {k : Int} (mT : (T, tupO2 n t tt k tk) ∈ news) (mp : m (Str.ofString "partition") = some (.ref T)) (mi : m (Str.ofString "member_id") = some (.str x tx)) (ma : m (Str.ofString "assignment") = some (.ref A)) (hlo : (A == sysModules) = false) {oA : Obj} {kvA : List (Str × Value)} (N : News g L s.heap ((A, oA) :: news)) (hAo : ∀ p ∈ news, p.1 ≠ A) (hA : oA.IsDictOf (PySem.strKind PR w) kvA) (hvA : valueAt kvA x = none) (hz1 : kvA.length ≤ sizeLine)
  (h : ∀ a l oA' o' h' tk' tn, oA'.IsDictOf (PySem.strKind PR w) (stored kvA x (.ref a)) → o'.IsDictOf (PySem.strKind PR w) [(t, .ref l)] → (∀ p ∈ (A, oA) :: news, p.1 < a) → (@LT.lt Nat _ a l) → Fr g L h' m → News g L h' ((l, listOf [Value.int k tn].toArray 1) :: (a, o') :: (A, oA') :: news) → Q .next { s with heap := h', toks := tk' }) :
  asgWp w h₀ fa cd L (stAt (forBody (stAt asgBody 11)) 3) Q s := by
  have hfill : (fun (_ : OpenLaw) (_ : Params → Frag) => True) PySem.Challenge.rw_je0014_01 hd.heap_1 := by k_fill; trivial
  clear hfill
  obtain ⟨B, X, T⟩ := C
  have hv0 : valueAt ([] : List (Str × Value)) t = none := rfl
  have hz0 : ([] : List (Str × Value)).length ≤ sizeLine := Nat.zero_le _
  conv in (stAt (forBody _) _) => whnf
  (repeat' ((fail_if_success (first | (with_reducible show wpAny _ _ (exec (Stmt.While _ _ _ _) _) _ _ _) | (with_reducible show wpAny _ _ (exec (Stmt.For _ _ _ _ _) _) _ _ _) | (with_reducible show wpAny _ _ (pyIter _) _ _ _) | (with_reducible show LCg.CompSrc _ _ _ _ _ _ _ _ _ _ _ _ _ _) | (with_reducible show LCt.CompSrcT _ _ _ _ _ _ _ _ _ _ _ _ _ _ _) | (with_reducible show SrcLP _ _ _ _ _ _ _ _ _ _ _ _ _ _ _) | (with_reducible show DSrc _ _ _ _ _ _ _ _ _ _ _ _ _ _ _) | (with_reducible show Src2 _ _ _ _ _ _ _))); (first | (k_unfold; (try dsimp only)) | (k_unmd; k_unfold; (try dsimp only)) | (k_end; wrow_close) | (k_here; (with_reducible show wpAny _ _ (eval (PySem.Expr.Name _ _) _) _ _ _); k_dflt (refine' nameX_L ?jF ?jv ?_ ?ja ?jb; (case ja => rfl); (case jb => rfl); (case jF => k_asm); (case jv => with_reducible assumption))) | (k_here; (with_reducible show wpAny _ _ (getMethod (Value.ref _) _ _) _ _ _); k_dflt (refine' gm_sd ?jN ?jm ?jd ?_; (case jN => k_asm); (case jm => k_mem); (case jd => with_reducible assumption))) | (k_here; (with_reducible show wpAny _ _ (call (Value.builtin "dict.setdefault") [Value.ref _, Value.str _ _, Value.ref _]) _ _ _); k_dflt (refine' kob_setdef_there (knd := PySem.strKind _ _) ?jN ?jm ?jd ?jl (strKind_is _ _ _ _) (PySem.F.args_dict_setdefault_3 _ _ _) ?jv ?jz ?_; (case jN => k_asm); (case jm => k_mem); (case jd => with_reducible assumption); (case jl => with_reducible assumption); (case jv => with_reducible assumption); (case jz => with_reducible assumption))) | (k_here; (with_reducible show wpAny _ _ (call (Value.builtin "dict.setdefault") [Value.ref _, Value.str _ _, Value.ref _]) _ _ _); k_dflt (refine' kob_setdef_new (knd := PySem.strKind _ _) ?jF ?jN ?jU ?jd ?jl (strKind_is _ _ _ _) (PySem.F.args_dict_setdefault_3 _ _ _) ?jv ?jz ?_; (case jF => k_asm); (case jN => k_asm); (case jU => k_updF); (case jd => with_reducible assumption); (case jl => with_reducible assumption); (case jv => with_reducible assumption); (case jz => with_reducible assumption)); intro h6 o6 F' N' hd6; (try dsimp only at N')) | (k_here; (with_reducible show wpAny _ _ (call (Value.builtin "list.append") [Value.ref _, _]) _ _ _); k_dflt (refine' append_L ?jF ?jN ?jU ?jz ?_; (case jF => k_asm); (case jN => k_asm); (case jU => k_updF); (case jz => first | with_reducible assumption | exact Nat.le_of_ble_eq_true rfl)); intro h5 F' N'; (try dsimp only at N')) | walk1 | (dsimp only; walk1) | (leave1; (try dsimp only)))))
  rename_i z20 z19 z18 z17 z16 z15 z14 z13 z12 z11 z10 z9 z8 z7 z6 z5 z4 z3 z2 z1
  exact h z19 z7 z9 o6 h5 _ _ z8 hd6 z16 (z3 _ (.head _)) F' N'
-- R5
theorem hold_new {w : World} {nx nx' : Led} {A a l : Addr} {T : List DRow} {nm t : Str} {k : Int} {tk : Tok} {oA' o' : Obj} (H : HoldT w nx A T) (hnm : nm ∉ T.map (·.1)) (hA' : (A, oA') ∈ nx') (hdA : oA'.IsDictOf (PySem.strKind PR w) (stored (topKv T) nm (.ref a)))
    (ho' : (a, o') ∈ nx') (hdo : o'.IsDictOf (PySem.strKind PR w) [(t, .ref l)]) (hl' : (l, listOf [Value.int k tk].toArray 1) ∈ nx') (hbig : @LT.lt Nat _ 1 a) (hfa : a ∉ A :: addrsT T) (hfl : l ∉ A :: addrsT T) (hal : a ≠ l) (hs : ∀ p ∈ nx, p.1 ≠ A → p ∈ nx') :
    HoldT w nx' A (T ++ [(nm, a, [(t, l, [k])])]) ∧ absT (T ++ [(nm, a, [(t, l, [k])])]) = giveTo (absT T) nm t k := by
  have hAn := List.nodup_cons.mp H.nod
  have e : addrsT (T ++ [(nm, a, [(t, l, [k])])]) = addrsT T ++ [a, l] := by rw [addrsT, List.flatMap_append]; rfl
  refine ⟨⟨⟨oA', hA', ?_⟩, fun r hr => ?_, ?_⟩, ?_⟩
  · have e2 : stored (topKv T) nm (.ref a) = topKv (T ++ [(nm, a, [(t, l, [k])])]) := by
      rw [stored_absent (valueAt_none_of_not_mem (by rw [topKv, List.map_map]; exact hnm)), topKv, topKv, List.map_append]; rfl
    rw [← e2]; exact hdA
  · rcases List.mem_append.mp hr with hr | hr
    · exact (H.row r hr).mono fun b hb o q => hs _ q fun e3 => hAn.1 (e3 ▸ mem_addrsT hr hb)
    · rw [List.mem_singleton.mp hr]
      exact ⟨hbig, ⟨o', ho', hdo⟩, fun q hq => by rw [List.mem_singleton.mp hq]; exact ⟨_, _, hl', .cons _ _ .nil⟩⟩
  · rw [e]
    refine List.nodup_cons.mpr ⟨fun q => ?_, List.nodup_append.mpr ⟨hAn.2, List.nodup_cons.mpr ⟨fun q => hal (List.mem_singleton.mp q), List.nodup_cons.mpr ⟨List.not_mem_nil, .nil⟩⟩, fun x hx y hy e3 => ?_⟩⟩
    · rcases List.mem_append.mp q with q | q
      · exact hAn.1 q
      · rcases List.mem_cons.mp q with q | q
        · exact hfa (q ▸ .head _)
        · exact hfl (List.mem_singleton.mp q ▸ .head _)
    · rcases List.mem_cons.mp hy with q | q
      · exact hfa (.tail _ (by rw [← q, ← e3]; exact hx))
      · exact hfl (.tail _ (by rw [← List.mem_singleton.mp q, ← e3]; exact hx))
  · rw [absT, List.map_append, give_new _ _ (by rw [absT_keys]; exact hnm)]
    rfl
-- R6
/-- a deal of assign's -/
theorem t3_turn {w : World} {mean : ExcName → Option Value} {mg mb : Str → Option Value} {fa : Addr} {cd : Value} {h₀ g : Heap} {L : Addr} {m : Str → Option Value} {s : Shared} {Q : Flow → Shared → Prop} (C : ACtx w mean mg mb h₀ fa cd g) (F : Fr g L s.heap m) {nx cst : Led} {T : List DRow} {Tp A : Addr} {n i : Nat} {t x : Str} {tt tx tk : Tok} {k : Int}
  (N : News g L s.heap nx) (H : HoldT w nx A T) (hc : ∀ p ∈ cst, p ∈ nx ∧ p.1 ∉ A :: addrsT T) (hB : BoundT T i) (hTl : T.length ≤ i) (hi : i ≤ 900) (hlo : (A == sysModules) = false) (hbA : @LT.lt Nat _ 1 A)
  (mT : (Tp, tupO2 n t tt k tk) ∈ cst) (mp : m (Str.ofString "partition") = some (.ref Tp)) (mi : m (Str.ofString "member_id") = some (.str x tx)) (ma : m (Str.ofString "assignment") = some (.ref A))
  (h : ∀ T' nx' h' tk', HoldT w nx' A T' → (∀ p ∈ cst, p ∈ nx' ∧ p.1 ∉ A :: addrsT T') → absT T' = giveTo (absT T) x t k → BoundT T' (i + 1) → T'.length ≤ i + 1 → Fr g L h' m → News g L h' nx' → Q .next { s with heap := h', toks := tk' }) :
  asgWp w h₀ fa cd L (stAt (forBody (stAt asgBody 11)) 3) Q s := by
  have hz : ∀ n9 : Nat, n9 ≤ i → n9 ≤ sizeLine := fun n9 h9 => Nat.le_trans h9 (Nat.le_trans hi (by rw [sizeLine_eq]; exact Nat.le_of_ble_eq_true rfl))
  obtain ⟨oA, hA, hdA⟩ := H.top
  have hkl : (topKv T).length ≤ sizeLine := by rw [topKv, List.length_map]; exact hz _ hTl
  have hcA : ∀ p ∈ cst, p.1 ≠ A := fun p hp e => (hc p hp).2 (e ▸ .head _)
  by_cases hx : x ∈ T.map (·.1)
  · obtain ⟨P, S, a, ls, rfl⟩ := split_keys hx
    have hlenT : (P ++ (x, a, ls) :: S).length ≤ i := hTl
    obtain ⟨hbig, ⟨o, ho, hd1⟩, hlst⟩ := H.row (x, a, ls) (List.mem_append_right _ (.head _))
    have hvA := top_at H
    obtain ⟨hb1, hb2⟩ := hB (x, a, ls) (List.mem_append_right _ (.head _))
    have hsa : (rowKv ls).length ≤ sizeLine := by rw [rowKv, List.length_map]; exact hz _ hb1
    have hma : (a == sysModules) = false := not_modules hbig
    have haA : a ∈ A :: addrsT (P ++ (x, a, ls) :: S) := .tail _ (mem_addrsT (List.mem_append_right _ (.head _)) (.head _))
    have hAa : A ≠ a := fun e => (List.nodup_cons.mp H.nod).1 (e ▸ mem_addrsT (List.mem_append_right _ (.head _)) (.head _))
    have hca : ∀ p ∈ cst, p.1 ≠ a := fun p hp e => (hc p hp).2 (e ▸ haA)
    rcases row_cases hd1 t with ⟨p, q, l, ns, rfl, hvl⟩ | ⟨ht, hvl⟩
    · obtain ⟨us, n2, hlm, hi2⟩ := hlst (t, l, ns) (List.mem_append_right _ (.head _))
      have hlA : l ∈ A :: addrsT (P ++ (x, a, p ++ (t, l, ns) :: q) :: S) := .tail _ (mem_addrsT (List.mem_append_right _ (.head _)) (.tail _ (by rw [List.map_append]; exact List.mem_append_right _ (.head _))))
      have hAl : A ≠ l := fun e => (List.nodup_cons.mp H.nod).1 (e ▸ mem_addrsT (List.mem_append_right _ (.head _)) (.tail _ (by rw [List.map_append]; exact List.mem_append_right _ (.head _))))
      have hcl : ∀ p ∈ cst, p.1 ≠ l := fun p hp e => (hc p hp).2 (e ▸ hlA)
      have hal : a ≠ l := fun e => news_ne N ho hlm (by obtain ⟨_, _, _, e1, _⟩ := hd1; rw [e1]; exact fun h => nomatch h) e
      have hul : us.length ≤ 1000 := by
        have h4 : us.length = ns.length := hi2.length
        have h3 : ns.length ≤ i := hb2 (t, l, ns) (List.mem_append_right _ (.head _))
        rw [h4]
        exact Nat.le_trans h3 (Nat.le_trans hi (Nat.le_of_ble_eq_true rfl))
      refine t3_old (n := n) (c := n2) C F (news := nx.filter fun p => p.1 != l) (front_in (hc _ mT).1 (hcl _ mT)) mp mi ma hlo (news_front N hlm) front_off (front_in hA hAl) hdA hvA (front_in ho hal) hd1 hma hvl hkl hsa hul ?_
      intro h1 tk1 tn1 F1 N1
      have hs : ∀ p ∈ nx, p.1 ≠ l → p ∈ (l, listOf (us ++ [Value.int k tn1]).toArray (n2 + 1)) :: nx.filter fun p => p.1 != l := fun p hp h2 => .tail _ (front_in hp h2)
      obtain ⟨H', e'⟩ := give_old (k := k) (tk := tn1) H hi2 (.head _) hs
      exact h _ _ _ _ H' (fun p hp => ⟨hs p (hc p hp).1 (hcl p hp), fun e => (hc p hp).2 (by rw [addrsT_app, List.map_append] at e ⊢; exact e)⟩) e' (bound_old hB) (by rw [List.length_append, List.length_cons] at hlenT ⊢; exact Nat.le_succ_of_le hlenT) F1 N1
    · refine t3_top (n := n) C F (news := nx.filter fun p => p.1 != a) (front_in (hc _ mT).1 (hca _ mT)) mp mi ma hlo (news_front N ho) front_off (front_in hA hAa) hdA hvA hd1 hma hvl hkl hsa ?_
      intro l o' h1 tk1 tn1 hd' hlt1 F1 N1
      have hlt2 : ∀ p ∈ nx, p.1 < l := fun p hp => by
        by_cases h3 : p.1 = a
        · rw [h3]; exact hlt1 _ (.head _)
        · exact hlt1 _ (.tail _ (front_in hp h3))
      have hf : l ∉ A :: addrsT (P ++ (x, a, ls) :: S) := fun e => by
        obtain ⟨z, hz, e2⟩ := hold_in H _ e
        exact Nat.lt_irrefl _ (e2 ▸ hlt2 z hz)
      have hs : ∀ p ∈ nx, p.1 ≠ a → p ∈ (l, listOf [Value.int k tn1].toArray 1) :: (a, o') :: nx.filter fun p => p.1 != a := fun p hp h2 => .tail _ (.tail _ (front_in hp h2))
      obtain ⟨H', e'⟩ := give_top (k := k) (tk := tn1) H ht (.tail _ (.head _)) hd' (.head _) hf hs
      refine h _ _ _ _ H' (fun p hp => ⟨hs p (hc p hp).1 (hca p hp), fun e => ?_⟩) e' (bound_top hB) (by rw [List.length_append, List.length_cons] at hlenT ⊢; exact Nat.le_succ_of_le hlenT) F1 N1
      have hpl : p.1 ≠ l := Nat.ne_of_lt (hlt2 p (hc p hp).1)
      refine (hc p hp).2 ?_
      rw [addrsT_app, List.mem_cons, List.mem_append, List.mem_append] at e ⊢
      rw [List.map_append] at e
      rcases e with e | e | e | e
      · exact .inl e
      · exact .inr (.inl e)
      · refine .inr (.inr (.inl ?_))
        rcases List.mem_cons.mp e with e | e
        · rw [e]; exact .head _
        · rcases List.mem_append.mp e with e | e
          · exact .tail _ e
          · exact absurd (List.mem_singleton.mp e) hpl
      · exact .inr (.inr (.inr e))
  · have hvA : valueAt (topKv T) x = none := valueAt_none_of_not_mem (by rw [topKv, List.map_map]; exact hx)
    refine t3_new (n := n) C F (news := nx.filter fun p => p.1 != A) (front_in (hc _ mT).1 (hcA _ mT)) mp mi ma hlo (news_front N hA) front_off hdA hvA hkl ?_
    intro a l oA' o' h1 tk1 tn1 hdA' hdo hlta hal F1 N1
    have hlt2 : ∀ p ∈ nx, p.1 < a := fun p hp => by
      by_cases h3 : p.1 = A
      · rw [h3]; exact hlta _ (.head _)
      · exact hlta _ (.tail _ (front_in hp h3))
    have hfa : a ∉ A :: addrsT T := fun e => by
      obtain ⟨z, hz, e2⟩ := hold_in H _ e
      exact Nat.lt_irrefl _ (e2 ▸ hlt2 z hz)
    have hfl : l ∉ A :: addrsT T := fun e => by
      obtain ⟨z, hz, e2⟩ := hold_in H _ e
      exact Nat.lt_irrefl _ (e2 ▸ Nat.lt_trans (hlt2 z hz) hal)
    have hs : ∀ p ∈ nx, p.1 ≠ A → p ∈ (l, listOf [Value.int k tn1].toArray 1) :: (a, o') :: (A, oA') :: nx.filter fun p => p.1 != A := fun p hp h2 => .tail _ (.tail _ (.tail _ (front_in hp h2)))
    obtain ⟨H', e'⟩ := hold_new (k := k) (tk := tn1) H hx (.tail _ (.tail _ (.head _))) hdA' (.tail _ (.head _)) hdo (.head _) (Nat.lt_trans hbA (hlt2 _ hA)) hfa hfl (Nat.ne_of_lt hal) hs
    refine h _ _ _ _ H' (fun p hp => ⟨hs p (hc p hp).1 (hcA p hp), fun e => ?_⟩) e' (fun r hr => ?_) (by rw [List.length_append, List.length_singleton]; omega) F1 N1
    · have hpa : p.1 ≠ a := Nat.ne_of_lt (hlt2 p (hc p hp).1)
      have hpl : p.1 ≠ l := Nat.ne_of_lt (Nat.lt_trans (hlt2 p (hc p hp).1) hal)
      refine (hc p hp).2 ?_
      rcases List.mem_cons.mp e with e | e
      · rw [e]; exact .head _
      · rw [addrsT, List.flatMap_append] at e
        rcases List.mem_append.mp e with e | e
        · exact .tail _ e
        · rcases List.mem_cons.mp e with e | e
          · exact absurd e hpa
          · exact absurd (List.mem_singleton.mp e) hpl
    · rcases List.mem_append.mp hr with hr | hr
      · have := hB r hr
        exact ⟨Nat.le_succ_of_le this.1, fun q hq => Nat.le_succ_of_le (this.2 q hq)⟩
      · rw [List.mem_singleton.mp hr]
        exact ⟨Nat.succ_le_succ (Nat.zero_le _), fun q hq => by rw [List.mem_singleton.mp hq]; exact Nat.succ_le_succ (Nat.zero_le _)⟩
-- R7
theorem fb11_len : (forBody (stAt asgBody 11)).length = 4 := by kernel_rfl
structure J11 (m₀ : Str → Option Value) (seq : List (Str × Int)) (order : List Str) (i : Nat) (m : Str → Option Value) (T : List DRow) : Prop where
  ab : absT T = dealL order [] (seq.take i)
  bd : BoundT T i
  tl : T.length ≤ i
  at_ : ∃ u, m (Str.ofString "at") = some (.int (i : Int) u)
  keep : ∀ y, y ≠ Str.ofString "partition" → y ≠ Str.ofString "member_id" → y ≠ Str.ofString "at" → m y = m₀ y
/-- all is dealt, by assign -/
theorem a11 {w : World} {mean : ExcName → Option Value} {mg mb : Str → Option Value} {fa : Addr} {cd : Value} {h₀ g : Heap} {L : Addr} {m : Str → Option Value} {s : Shared} {Q : Flow → Shared → Prop} (C : ACtx w mean mg mb h₀ fa cd g) (F : Fr g L s.heap m) {nx cst : Led} {P A M D : Addr} {ws mw : List Value} {cP cM : Nat} {seq : List (Str × Int)} {ml : GN} {oA oD : Obj} {kvs : List (Str × Value)} {mems : List Mem} {ss : List Str}
  (N : News g L s.heap nx) (mA : (A, oA) ∈ nx) (hA : oA.IsDictOf (PySem.strKind PR w) []) (hlo : (A == sysModules) = false) (hbA : @LT.lt Nat _ 1 A) (hc : ∀ p ∈ cst, p ∈ nx ∧ p.1 ≠ A)
  (mP : (P, listOf ws.toArray cP) ∈ cst) (hdP : DatAll cst ws (seq.map pairD)) (hsl : seq.length ≤ 30) (mM : (M, listOf mw.toArray cM) ∈ cst) (hdM : DatAll cst mw (ml.map uD)) (h1 : 1 ≤ ml.length) (h5 : ml.length ≤ 5)
  (mD : (D, oD) ∈ cst) (hk : oD.IsDictOf (PySem.strKind PR w) kvs) (hmt : MtE cst kvs mems) (hnm : ∀ x ∈ ml.map (·.2), x ∈ mems.map (·.1)) (htp : ∀ m ∈ mems, m.2.2.Perm ss) (hss : ∀ p ∈ seq, p.1 ∈ ss) (hok : ∀ x ∈ ss, PyData.strOk x = true) (hs10 : ss.length ≤ 10)
  (mp : m (Str.ofString "all_topic_partitions") = some (.ref P)) (ma : m (Str.ofString "assignment") = some (.ref A)) (mm : m (Str.ofString "member_list") = some (.ref M)) (mt : m (Str.ofString "member_topics") = some (.ref D)) (mat : ∃ u, m (Str.ofString "at") = some (.int ((0 : Nat) : Int) u))
  (h : ∀ T nx' m' h' tk', HoldT w nx' A T → (∀ p ∈ cst, p ∈ nx' ∧ p.1 ∉ A :: addrsT T) → absT T = dealL (ml.map (·.2)) [] seq → BoundT T 30 → T.length ≤ 30 → (∀ y, y ≠ Str.ofString "partition" → y ≠ Str.ofString "member_id" → y ≠ Str.ofString "at" → m' y = m y) → Fr g L h' m' → News g L h' nx' → Q .next { s with heap := h', toks := tk' }) :
  asgWp w h₀ fa cd L (stAt asgBody 11) Q s := by
  have C' := C
  have hfill : (fun (_ : OpenLaw) (_ : Params → Frag) => True) PySem.Challenge.rw_je0014_01 hd.heap_1 := by k_fill; trivial
  clear hfill
  obtain ⟨B, X, T⟩ := C
  have hwl : ws.length = seq.length := by rw [hdP.length, List.length_map]
  refine for_at (x := Str.ofString "partition") g (by unfold IsFor; kernel_rfl) (by kernel_rfl) (by kernel_rfl) (by intro _; rfl) ?_
  conv in (forIter _) => whnf
  (repeat' ((fail_if_success (first | (with_reducible show wpAny _ _ (exec (Stmt.While _ _ _ _) _) _ _ _) | (with_reducible show wpAny _ _ (exec (Stmt.For _ _ _ _ _) _) _ _ _) | (with_reducible show wpAny _ _ (pyIter _) _ _ _) | (with_reducible show LCg.CompSrc _ _ _ _ _ _ _ _ _ _ _ _ _ _) | (with_reducible show LCt.CompSrcT _ _ _ _ _ _ _ _ _ _ _ _ _ _ _) | (with_reducible show SrcLP _ _ _ _ _ _ _ _ _ _ _ _ _ _ _) | (with_reducible show DSrc _ _ _ _ _ _ _ _ _ _ _ _ _ _ _) | (with_reducible show Src2 _ _ _ _ _ _ _))); (first | (k_unfold; (try dsimp only)) | (k_unmd; k_unfold; (try dsimp only)) | (k_end; wrow_close) | (k_here; (with_reducible show wpAny _ _ (eval (PySem.Expr.Name _ _) _) _ _ _); k_dflt (refine' nameX_L ?jF ?jv ?_ ?ja ?jb; (case ja => rfl); (case jb => rfl); (case jF => k_asm); (case jv => with_reducible assumption))) | walk1 | (dsimp only; walk1) | (leave1; (try dsimp only)))))
  refine for_D (l := P) (D := A) (vs := ws) (nn := cP) (cst := cst) (T₀ := []) (J11 m seq (ml.map (·.2))) rfl mP F N ⟨⟨oA, mA, hA⟩, (fun _ h => nomatch h), List.nodup_cons.mpr ⟨List.not_mem_nil, .nil⟩⟩ (fun p hp => ⟨(hc p hp).1, fun e => (hc p hp).2 (List.mem_singleton.mp e)⟩) ⟨rfl, (fun _ h => nomatch h), Nat.le_refl _, mat, fun _ _ _ _ => rfl⟩ ?_ ?_
  · intro i v m1 T1 nx1 h2 tk2 cst2 hv hcs J H1 hc1 F2 N2
    obtain ⟨ab, bd, tlen, ⟨u, hu⟩, keep⟩ := J
    have hi : i < seq.length := by rw [← hwl]; exact (List.getElem?_eq_some_iff.mp hv).1
    obtain ⟨v', hv', hdr⟩ := hdP.get (k := i) (by rw [List.length_map]; exact hi)
    rw [hv] at hv'
    cases hv'
    rw [List.getElem_map] at hdr
    have hsi : seq[i]? = some seq[i] := List.getElem?_eq_getElem hi
    have hmem : seq[i] ∈ seq := List.getElem_mem hi
    have htk : seq.take (i + 1) = seq.take i ++ [(seq[i].1, seq[i].2)] := by rw [List.take_add_one, hsi]; rfl
    have hts := hss _ hmem
    generalize seq[i] = pq at *
    obtain ⟨Tp, us, nT, rfl, mTp, hd2⟩ := datIn_tuple hdr
    obtain ⟨v1, v2, rfl, d1, d2⟩ := datAll_two hd2
    cases d1 with
    | str _ tt =>
    cases d2 with
    | int _ tkk =>
    have hM := (hc1 _ (hcs _ mM)).1
    have hsub : ∀ p ∈ cst, p ∈ nx1 := fun p hp => (hc1 p (hcs p hp)).1
    clear F N h
    refine execs_at (body := forBody (stAt asgBody 11)) (k := 0) (by rw [fb11_len]; decide) ?_
    refine t0 C' F2 N2 hM (hdM.mono hsub) h1 h5 (by omega) ((keep _ (by decide) (by decide) (by decide)).trans mm) hu ?_
    intro tx h3 tk3 F3 N3
    have hxm : nthOf (ml.map (·.2)) i ∈ ml.map (·.2) := by
      have hlt : i % (ml.map (·.2)).length < (ml.map (·.2)).length := Nat.mod_lt _ (by rw [List.length_map]; omega)
      rw [nthOf, List.getD_eq_getElem?_getD, List.getElem?_eq_getElem hlt]
      exact List.getElem_mem hlt
    obtain ⟨me, hme, -, wl, wv, cw, hkw, mwl, hwv⟩ := hmt.find (hnm _ hxm)
    have hvw : valueAt kvs (nthOf (ml.map (·.2)) i) = some (.ref wl) := by
      obtain ⟨j, hj, e⟩ := List.mem_iff_getElem.mp hkw
      exact valueAt_of_get (dict_nodup hk) (by rw [List.getElem?_eq_getElem hj, e])
    have hper := htp me hme
    refine execs_at (body := forBody (stAt asgBody 11)) (k := 1) (by rw [fb11_len]; decide) ?_
    refine t1 C' F3 N3 hu (by omega) ?_
    intro ta h4 tk4 F4 N4
    refine execs_at (body := forBody (stAt asgBody 11)) (k := 2) (by rw [fb11_len]; decide) ?_
    refine t2 C' F4 N4 (hsub _ mTp) (hsub _ mD) hk hvw (hsub _ mwl) hwv (hper.mem_iff.mpr hts) (fun y hy => hok y (hper.mem_iff.mp hy)) (by rw [hper.length_eq]; exact hs10) rfl ((keep _ (by decide) (by decide) (by decide)).trans mt) rfl ?_
    intro h5' tk5 F5 N5
    refine execs_at (body := forBody (stAt asgBody 11)) (k := 3) (by rw [fb11_len]; decide) ?_
    refine t3_turn (i := i) C' F5 N5 H1 hc1 bd tlen (by omega) hlo hbA (hcs _ mTp) rfl rfl ((keep _ (by decide) (by decide) (by decide)).trans ma) ?_
    intro T2 nx2 h6 tk6 H2 hc2 hab2 hB2 hT2 F6 N6
    refine execs_end (body := forBody (stAt asgBody 11)) (by rw [fb11_len]; decide) ?_
    refine DEnd.mk F6 N6 H2 hc2 ⟨?_, hB2, hT2, ⟨ta, rfl⟩, fun y y1 y2 y3 => ?_⟩
    · rw [hab2, htk, ab, deal_snoc, List.length_take, Nat.min_eq_left (Nat.le_of_lt hi)]
    · show (if y = _ then _ else if y = _ then _ else if y = _ then _ else _) = _
      rw [if_neg y3, if_neg y2, if_neg y1]
      exact keep y y1 y2 y3
  · intro m1 T1 nx1 h2 tk2 J H1 hc1 F2 N2
    obtain ⟨ab, bd, tlen, -, keep⟩ := J
    rw [hwl, List.take_length] at ab
    rw [hwl] at bd tlen
    exact h T1 nx1 m1 h2 tk2 H1 hc1 ab (fun r hr => ⟨Nat.le_trans (bd r hr).1 hsl, fun q hq => Nat.le_trans ((bd r hr).2 q hq) hsl⟩) (Nat.le_trans tlen hsl) keep F2 N2
-- R8
/-- given = assignment.get(member.member_id, {}) -/
theorem v0 {w : World} {mean : ExcName → Option Value} {mg mb : Str → Option Value} {fa : Addr} {cd : Value} {h₀ g : Heap} {L : Addr} {m : Str → Option Value} {s : Shared} {Q : Flow → Shared → Prop} (C : ACtx w mean mg mb h₀ fa cd g) (F : Fr g L s.heap m) {news : Led} {A : Addr} {oA oG : Obj} {kvs : List (Str × Value)} {v : Value} {me : Mem} {xg : Option Value} (N : News g L s.heap ((L + 1, oG) :: news)) (hG : ∀ p ∈ news, p.1 ≠ L + 1) (dG : oG.data = .cell xg) (mA : (A, oA) ∈ news) (hA : oA.IsDictOf (PySem.strKind PR w) kvs) (hlo : (A == sysModules) = false) (hv : MemE w news v me)
  (mm : m (Str.ofString "member") = some v) (ma : m (Str.ofString "assignment") = some (.ref A))
  (h : ∀ lE oE oG' h' tk', oE.IsDictOf (PySem.strKind PR w) [] → (lE == sysModules) = false → (∀ p ∈ (L + 1, oG) :: news, p.1 < lE) → oG'.data = .cell (some ((valueAt kvs me.1).getD (.ref lE))) → Fr g L h' m → News g L h' ((lE, oE) :: (L + 1, oG') :: news) → Q .next { s with heap := h', toks := tk' }) :
  asgWp w h₀ fa cd L (stAt (forBody (stAt asgBody 13)) 0) Q s := by
  have hfill : (fun (_ : OpenLaw) (_ : Params → Frag) => True) PySem.Challenge.rw_je0014_01 hd.heap_1 := by k_fill; trivial
  clear hfill
  obtain ⟨B, X, T⟩ := C
  cases hv with
  | @mk x1 d1 su e wl wv c nm gi ts t0 t1 t2 t3 t5 t6 t7 t8 t9 t10 t11 t12 t13 hw hx1 hd1 h1 he hl =>
  conv in (stAt (forBody _) _) => whnf
  (repeat' ((fail_if_success (first | (with_reducible show wpAny _ _ (exec (Stmt.While _ _ _ _) _) _ _ _) | (with_reducible show wpAny _ _ (exec (Stmt.For _ _ _ _ _) _) _ _ _) | (with_reducible show wpAny _ _ (pyIter _) _ _ _) | (with_reducible show LCg.CompSrc _ _ _ _ _ _ _ _ _ _ _ _ _ _) | (with_reducible show LCt.CompSrcT _ _ _ _ _ _ _ _ _ _ _ _ _ _ _) | (with_reducible show SrcLP _ _ _ _ _ _ _ _ _ _ _ _ _ _ _) | (with_reducible show DSrc _ _ _ _ _ _ _ _ _ _ _ _ _ _ _) | (with_reducible show Src2 _ _ _ _ _ _ _))); (first | (k_unfold; (try dsimp only)) | (k_unmd; k_unfold; (try dsimp only)) | (k_end; wrow_close) | (k_here; (with_reducible show wpAny _ _ (eval (PySem.Expr.Name _ _) _) _ _ _); k_dflt (refine' nameX_L ?jF ?jv ?_ ?ja ?jb; (case ja => rfl); (case jb => rfl); (case jF => k_asm); (case jv => with_reducible assumption))) | (k_here; (with_reducible show wpAny _ _ (getMethod (Value.ref _) _ _) _ _ _); k_dflt (refine' kdg_method (knd := PySem.strKind _ _) ?jN ?jm ?jd ?_; (case jN => k_asm); (case jm => k_mem); (case jd => with_reducible assumption))) | (k_here; (with_reducible show wpAny _ _ (call (Value.builtin "dict.get") [Value.ref _, Value.str _ _, Value.ref _]) _ _ _); k_dflt (refine' kdg_get2 (knd := PySem.strKind _ _) ?jN ?jm ?jd ?jl (strKind_is _ _ _ _) _ rfl ?_; (case jN => k_asm); (case jm => k_mem); (case jd => with_reducible assumption); (case jl => with_reducible assumption))) | walk1 | (dsimp only; walk1) | (leave1; (try dsimp only)))))
  rename_i z14 z13 z12 z11 z10 z9 z8 z7 z6 z5 z4 z3 z2 z1
  exact h z14 z12 z4 _ _ z9 z10 z11 z1 z3 z2
-- R9
/-- protocol_assignment[member.member_id] = ConsumerProtocolAssignment(..) -/
theorem v1 {w : World} {mean : ExcName → Option Value} {mg mb : Str → Option Value} {fa : Addr} {cd : Value} {h₀ g : Heap} {L : Addr} {m : Str → Option Value} {s : Shared} {Q : Flow → Shared → Prop} (C : ACtx w mean mg mb h₀ fa cd g) (F : Fr g L s.heap m) {news ld : Led} {PA a : Addr} {oPA oG oa : Obj} {kvs : List (Str × Value)} {v : Value} {me : Mem} {ls : List (Str × Addr × List Int)} (N : News g L s.heap ((PA, oPA) :: news)) (hPA : ∀ p ∈ news, p.1 ≠ PA) (hP : oPA.IsDictOf (PySem.strKind PR w) kvs) (hz : kvs.length ≤ sizeLine)
  (mG : (L + 1, oG) ∈ news) (dG : oG.data = .cell (some (.ref a))) (moa : (a, oa) ∈ news) (hoa : oa.IsDictOf (PySem.strKind PR w) (rowKv ls)) (hlo : (a == sysModules) = false) (hl30 : ls.length ≤ 30) (hld : ∀ p ∈ ld, p ∈ news) (hls : ∀ q ∈ ls, ∃ vs n, (q.2.1, listOf vs.toArray n) ∈ ld ∧ IntsAre vs q.2.2) (hv : MemE w news v me)
  (mm : m (Str.ofString "member") = some v) (mp : m (Str.ofString "protocol_assignment") = some (.ref PA)) (mcls : m (Str.ofString "cls") = some (.ref 178))
  (h : ∀ vA rows new oPA' h' tk', AsgE w (new ++ ld) vA rows → RowsOf (absR ls) rows → oPA'.IsDictOf (PySem.strKind PR w) (stored kvs me.1 vA) → (∀ q ∈ new, ∀ p ∈ (PA, oPA) :: news, p.1 ≠ q.1) → Fr g L h' m → News g L h' ((PA, oPA') :: (new ++ news)) → Q .next { s with heap := h', toks := tk' }) :
  asgWp w h₀ fa cd L (stAt (forBody (stAt asgBody 13)) 1) Q s := by
  have C' := C
  have hfill : (fun (_ : OpenLaw) (_ : Params → Frag) => True) PySem.Challenge.rw_je0014_01 hd.heap_1 := by k_fill; trivial
  clear hfill
  obtain ⟨B, X, T⟩ := C
  cases hv with
  | @mk x1 d1 su e wl wv c nm gi ts t0 t1 t2 t3 t5 t6 t7 t8 t9 t10 t11 t12 t13 hw hx1 hd1 h1 he hl =>
  conv in (stAt (forBody _) _) => whnf
  (repeat' ((fail_if_success (first | (with_reducible show wpAny _ _ (exec (Stmt.While _ _ _ _) _) _ _ _) | (with_reducible show wpAny _ _ (exec (Stmt.For _ _ _ _ _) _) _ _ _) | (with_reducible show wpAny _ _ (pyIter _) _ _ _) | (with_reducible show wpAny _ _ (call (Value.builtin "sorted") _) _ _ _) | (with_reducible show LCg.CompSrc _ _ _ _ _ _ _ _ _ _ _ _ _ _) | (with_reducible show LCt.CompSrcT _ _ _ _ _ _ _ _ _ _ _ _ _ _ _) | (with_reducible show SrcLP _ _ _ _ _ _ _ _ _ _ _ _ _ _ _) | (with_reducible show DSrc _ _ _ _ _ _ _ _ _ _ _ _ _ _ _) | (with_reducible show Src2 _ _ _ _ _ _ _))); (first | (k_unfold; (try dsimp only)) | (k_unmd; k_unfold; (try dsimp only)) | (k_end; wrow_close) | (k_here; (with_reducible show wpAny _ _ (eval (PySem.Expr.Name _ _) _) _ _ _); k_dflt (refine' nameX_L ?jF ?jv ?_ ?ja ?jb; (case ja => rfl); (case jb => rfl); (case jF => k_asm); (case jv => with_reducible assumption))) | (k_here; (with_reducible show wpAny _ _ (eval (PySem.Expr.ListComp _ _ _ _) _) _ _ _); k_dflt (refine LCg.ListComp_U (F₀ := by k_asm) (by with_unfolding_all rfl) (by decide) (by rfl) (by decide) (by rfl) ?_)) | walk1 | (dsimp only; walk1) | (leave1; (try dsimp only)))))
  have hrl : (rowKv ls).length = ls.length := List.length_map ..
  refine sorted_dict rfl F N (.tail _ moa) hoa hlo (by omega) ?_
  intro D1 ws1 ks c1 h3 tk3 hs1 hp1 ho1 F1 N1 l1
  have hkn : ((absR ls).map (·.1)).Nodup := by
    have := dict_nodup hoa
    rw [rowKv, List.map_map] at this
    rw [absR, List.map_map]
    exact this
  have hp2 : ks.Perm ((absR ls).map (·.1)) := by
    rw [rowKv, List.map_map] at hp1
    rw [absR, List.map_map]
    exact hp1
  have hkl : ks.length = ls.length := by rw [hp2.length_eq, List.length_map, absR, List.length_map]
  have hw1 := hs1.length
  have hwa : ws1.toArray.size = ws1.length := List.size_toArray ..
  clear F N
  try dsimp only
  refine LCg.CompSrc.ledger (its := ws1.toArray) (k := c1) rfl F1 N1 (.head _) (by rw [hwa, sizeLine_eq]; omega) ?_
  intro g9
  rw [hwa]
  refine comp_J (E₀ := []) (tl₀ := (D1, listOf ws1.toArray c1) :: (PA, oPA) :: news) (fun i ys E tl => E = [] ∧ ∃ new, tl = new ++ ((D1, listOf ws1.toArray c1) :: (PA, oPA) :: news) ∧ (∀ q ∈ new, ∀ p ∈ (PA, oPA) :: news, p.1 ≠ q.1) ∧ DatAll (new ++ ld) ys (((ks.take i).map fun t => (t, numsOf (absR ls) t)).map rowD)) rfl (fun _ _ _ h => nomatch h) ⟨rfl, [], rfl, (fun _ h => nomatch h), by rw [List.take_zero]; exact .nil⟩ ?_ ?_
  · rintro j v ys E₁ tl I oI Cc oC D m₂ h2 tk2 E' hj9 hv ⟨rfl, new, rfl, hfr, hys⟩ - - hC hx F2 N2 off ne
    obtain ⟨t, tt, rfl, ht⟩ := hs1.item j v (by simpa using hv)
    have htk : t ∈ (absR ls).map (·.1) := hp2.mem_iff.mp (List.mem_of_getElem? ht)
    have hr := row_cases hoa t
    rw [or_iff_left (fun e => e.1 (by rw [absR, List.map_map] at htk; exact htk))] at hr
    obtain ⟨p, q, l, ns, hls2, hvl⟩ := hr
    obtain ⟨us, n, hlm, hi2⟩ := hls (t, l, ns) (hls2 ▸ List.mem_append_right _ (.head _))
    have hnum : numsOf (absR ls) t = ns := nums_of_mem hkn (by rw [hls2, absR, List.map_append]; exact List.mem_append_right _ (.head _))
    have hn : ∀ p ∈ news, p ∈ new ++ ((D1, listOf ws1.toArray c1) :: (PA, oPA) :: news) := fun p hp => List.mem_append_right _ (.tail _ (.tail _ hp))
    have qG := hn _ mG
    have qa := hn _ moa
    have ql := hn _ (hld _ hlm)
    generalize htl : new ++ ((D1, listOf ws1.toArray c1) :: (PA, oPA) :: news) = tl9 at *
    clear F1 N1 h
    rw [List.nil_append] at N2
    try k_fold
    (repeat' ((fail_if_success (first | (with_reducible show wpAny _ _ (exec (Stmt.While _ _ _ _) _) _ _ _) | (with_reducible show wpAny _ _ (exec (Stmt.For _ _ _ _ _) _) _ _ _) | (with_reducible show wpAny _ _ (pyIter _) _ _ _) | (with_reducible show LCg.CompSrc _ _ _ _ _ _ _ _ _ _ _ _ _ _) | (with_reducible show LCt.CompSrcT _ _ _ _ _ _ _ _ _ _ _ _ _ _ _) | (with_reducible show SrcLP _ _ _ _ _ _ _ _ _ _ _ _ _ _ _) | (with_reducible show DSrc _ _ _ _ _ _ _ _ _ _ _ _ _ _ _) | (with_reducible show Src2 _ _ _ _ _ _ _))); (first | (k_unfold; (try dsimp only)) | (k_unmd; k_unfold; (try dsimp only)) | (k_end; wrow_close) | (k_here; (with_reducible show wpAny _ _ (eval (PySem.Expr.Name _ _) _) _ _ _); k_dflt (refine' nameX_L ?jF ?jv ?_ ?ja ?jb; (case ja => rfl); (case jb => rfl); (case jF => k_asm); (case jv => with_reducible assumption))) | (k_here; (with_reducible show wpAny _ _ (subscriptTail _ _ (Value.ref _) (Value.str _ _)) _ _ _); k_dflt (refine' kda_item (knd := PySem.strKind _ _) ?jN ?jm ?jd (strKind_is _ _ _ _) ?jv ?_; (case jN => k_asm); (case jm => k_mem); (case jd => with_reducible assumption); (case jv => with_reducible assumption))) | walk1 | (dsimp only; walk1) | (leave1; (try dsimp only)))))
    rename_i z5 z4 z3 z2 z1
    have hD1 : (D1, listOf ws1.toArray c1) ∈ tl9 := htl ▸ List.mem_append_right _ (.head _)
    have hlt9 : ∀ p ∈ tl9, p.1 < z5 := fun p hp => z1 p (.tail _ (.tail _ (.tail _ hp)))
    refine cend (E₁ := []) (E' := []) (new := [(z5, _)]) z3 z2 (by ((try simp only [List.cons_append, List.nil_append, List.append_nil]); (repeat' (first | exact List.forall_mem_nil _ | refine' List.forall_mem_cons.mpr ⟨by (first | k_mem | (repeat' (first | assumption | refine' List.Mem.tail _ ?_))), ?_⟩ | (intro p9 hp9; (repeat' (first | exact hp9 | refine' List.Mem.tail _ ?_))))))) off rfl ?_ (.inr ⟨_, .tail _ hD1, rfl, _, rfl⟩) ⟨_, [(z5, _)], rfl, rfl, (fun _ _ _ h => nomatch h), rfl, (z5, _) :: new, by rw [← htl]; rfl, List.forall_mem_cons.mpr ⟨fun p hp => Nat.ne_of_lt (hlt9 p (htl ▸ List.mem_append_right _ (.tail _ hp))), hfr⟩, ?_⟩
    · exact List.forall_mem_cons.mpr ⟨⟨(lt_ne z1 (.head _)).symm, (lt_ne z1 (.tail _ (.head _))).symm, (lt_ne z1 (.tail _ (.tail _ (.head _)))).symm⟩, List.forall_mem_nil _⟩
    · rw [List.take_add_one, ht, List.map_append, List.map_append]
      refine (hys.mono fun p hp => .tail _ hp).append (.one ?_)
      show DatIn _ _ (rowD (t, numsOf (absR ls) t))
      rw [hnum]
      exact .tuple (vs := [_, _]) (.head _) (.cons (.str _ _) (.cons (.list (.tail _ (List.mem_append_right _ hlm)) (ints_dat hi2)) .nil))
  · rintro ys E₁ tl - - ⟨rfl, new, rfl, hfr, hys⟩
    rw [hw1, List.take_length] at hys
    unfold LCg.FinE
    intro D8 h8 tk8 F9 N9 o8
    have o9 := off1_mem o8
    try dsimp only
    try k_fold
    (repeat' ((fail_if_success (first | (with_reducible show wpAny _ _ (exec (Stmt.While _ _ _ _) _) _ _ _) | (with_reducible show wpAny _ _ (exec (Stmt.For _ _ _ _ _) _) _ _ _) | (with_reducible show wpAny _ _ (pyIter _) _ _ _) | (with_reducible show wpAny _ _ (setItem _ _ _) _ _ _) | (with_reducible show LCg.CompSrc _ _ _ _ _ _ _ _ _ _ _ _ _ _) | (with_reducible show LCt.CompSrcT _ _ _ _ _ _ _ _ _ _ _ _ _ _ _) | (with_reducible show SrcLP _ _ _ _ _ _ _ _ _ _ _ _ _ _ _) | (with_reducible show DSrc _ _ _ _ _ _ _ _ _ _ _ _ _ _ _) | (with_reducible show Src2 _ _ _ _ _ _ _))); (first | (k_unfold; (try dsimp only)) | (k_unmd; k_unfold; (try dsimp only)) | (k_end; wrow_close) | (k_here; (with_reducible show wpAny _ _ (eval (PySem.Expr.Name _ _) _) _ _ _); k_dflt (refine' nameX_L ?jF ?jv ?_ ?ja ?jb; (case ja => rfl); (case jb => rfl); (case jF => k_asm); (case jv => with_reducible assumption))) | (k_here; (with_reducible show wpAny _ _ (call (Value.ref 66) _) _ _ _); k_dflt (refine' mk_asg ?jB ?jF ?jX ?jT ?jc ?jN ?jd ?ju ?_; (case jB => k_asm); (case jF => k_asm); (case jX => k_asm); (case jT => k_asm); (case jc => first | exact rfl | assumption); (case jN => k_asm); (case jd => ktr_room); (case ju => ktr_units)); intro x6 d6 u61 u62 u63 u64 u65 h6 tk6 l61 l62 l63 F' N'; (try dsimp only at N')) | walk1 | (dsimp only; walk1) | (leave1; (try dsimp only)))))
    rw [List.nil_append] at N' l61 l63
    have hup : ∀ p ∈ (PA, oPA) :: news, p ∈ new ++ ((D1, listOf ws1.toArray c1) :: (PA, oPA) :: news) := fun p hp => List.mem_append_right _ (.tail _ hp)
    have n1 : ∀ p ∈ (PA, oPA) :: news, p.1 ≠ x6 := fun p hp => Nat.ne_of_lt (l63 p (.tail _ (hup p hp)))
    have n2 : ∀ p ∈ (PA, oPA) :: news, p.1 ≠ d6 := fun p hp => Nat.ne_of_lt (l61 p (.tail _ (hup p hp)))
    have n3 : ∀ p ∈ (PA, oPA) :: news, p.1 ≠ D8 := fun p hp => o9 p (hup p hp)
    have hnew : ∀ q ∈ (x6, instObj 66 d6) :: (d6, asgD w D8 u61 u62 u63 u64 u65) :: (D8, LCg.lst ys) :: new, ∀ p ∈ (PA, oPA) :: news, p.1 ≠ q.1 := List.forall_mem_cons.mpr ⟨n1, List.forall_mem_cons.mpr ⟨n2, List.forall_mem_cons.mpr ⟨n3, hfr⟩⟩⟩
    have N2 : News g L h6 ((PA, oPA) :: ((x6, instObj 66 d6) :: (d6, asgD w D8 u61 u62 u63 u64 u65) :: (D8, LCg.lst ys) :: new) ++ news) := fun p hp => by
      rcases List.mem_cons.mp hp with rfl | hp
      · exact N' _ (.tail _ (.tail _ (.tail _ (hup _ (.head _)))))
      · rcases List.mem_append.mp hp with hp | hp
        · rcases List.mem_cons.mp hp with rfl | hp
          · exact N' _ (.head _)
          · rcases List.mem_cons.mp hp with rfl | hp
            · exact N' _ (.tail _ (.head _))
            · rcases List.mem_cons.mp hp with rfl | hp
              · exact N' _ (.tail _ (.tail _ (.head _)))
              · exact N' _ (.tail _ (.tail _ (.tail _ (List.mem_append_left _ hp))))
        · exact N' _ (.tail _ (.tail _ (.tail _ (hup p (.tail _ hp)))))
    refine kda_set (knd := PySem.strKind PR w) F' N2 (.head fun p hp => ?_) hP (strKind_is _ _ _ _) hz ?_
    · rcases List.mem_append.mp hp with hp | hp
      · exact (hnew p hp _ (.head _)).symm
      · exact hPA p hp
    intro h7 o7 F7 N7 hd7
    exact h (.ref x6) _ ((x6, instObj 66 d6) :: (d6, asgD w D8 u61 u62 u63 u64 u65) :: (D8, LCg.lst ys) :: new) o7 h7 _ (.mk (.head _) (.tail _ (.head _)) (.tail _ (.tail _ (.head _))) (hys.mono fun p hp => .tail _ (.tail _ (.tail _ hp)))) ⟨ks, hp2, ho1, rfl⟩ hd7 hnew F7 N7
-- R10
theorem rowOf_at {P S : List (Str × Rows1)} {x : Str} {g : Rows1} (h : x ∉ P.map (·.1)) : rowOf (P ++ (x, g) :: S) x = g := by
  induction P with
  | nil => rw [List.nil_append, rowOf, if_pos rfl]
  | cons c r ih =>
    obtain ⟨u, y⟩ := c
    rw [List.map_cons, List.mem_cons, not_or] at h
    rw [List.cons_append, rowOf, if_neg (Ne.symm h.1), ih h.2]
theorem rowOf_none : ∀ {T : List (Str × Rows1)} {x : Str}, x ∉ T.map (·.1) → rowOf T x = []
  | [], _, _ => rfl
  | (u, g) :: r, x, h => by
    rw [List.map_cons, List.mem_cons, not_or] at h
    rw [rowOf, if_neg (Ne.symm h.1), rowOf_none h.2]
theorem fb13_len : (forBody (stAt asgBody 13)).length = 2 := by kernel_rfl
/-- a member's own row: what is there, or the new empty one -/
theorem row_of {w : World} {cst : Led} {A lE : Addr} {oE : Obj} {T : List DRow} (H : HoldT w cst A T) (hB : BoundT T 30) (x : Str) (hE : oE.IsDictOf (PySem.strKind PR w) []) (hlo : (lE == sysModules) = false) :
    ∃ a oa ls, (valueAt (topKv T) x).getD (.ref lE) = .ref a ∧ (a, oa) ∈ (lE, oE) :: cst ∧ oa.IsDictOf (PySem.strKind PR w) (rowKv ls) ∧ (a == sysModules) = false ∧ ls.length ≤ 30 ∧ (∀ q ∈ ls, ∃ vs n, (q.2.1, listOf vs.toArray n) ∈ cst.filter (fun p => decide (p.1 ∈ addrsT T)) ∧ IntsAre vs q.2.2) ∧ absR ls = rowOf (absT T) x := by
  by_cases hx : x ∈ T.map (·.1)
  · obtain ⟨P, S, a, ls, rfl⟩ := split_keys hx
    obtain ⟨hbig, ⟨o, ho, hd1⟩, hlst⟩ := H.row (x, a, ls) (List.mem_append_right _ (.head _))
    refine ⟨a, o, ls, by rw [top_at H]; rfl, .tail _ ho, hd1, not_modules hbig, (hB (x, a, ls) (List.mem_append_right _ (.head _))).1, fun q hq => ?_, ?_⟩
    · obtain ⟨vs, n, hm, hi⟩ := hlst q hq
      exact ⟨vs, n, List.mem_filter.mpr ⟨hm, decide_eq_true (mem_addrsT (List.mem_append_right _ (.head _)) (.tail _ (List.mem_map_of_mem (f := fun z : Str × Addr × List Int => z.2.1) hq)))⟩, hi⟩
    · have h1 := hold_split (T := []) H
      rw [absT, List.map_append, List.map_cons]
      show _ = rowOf (absT P ++ (x, absR ls) :: absT S) x
      rw [rowOf_at h1]
  · refine ⟨lE, oE, [], by rw [valueAt_none_of_not_mem (by rw [topKv, List.map_map]; exact hx)]; rfl, .head _, hE, hlo, Nat.zero_le _, (fun _ h => nomatch h), ?_⟩
    rw [rowOf_none (by rw [absT_keys]; exact hx)]; rfl
structure J13 (w : World) (L PA : Addr) (cst ld : Led) (m₀ : Str → Option Value) (G : List (Str × Rows1)) (mems : List Mem) (i : Nat) (m : Str → Option Value) (nx : Led) : Prop where
  cell : ∃ oG xg, (L + 1, oG) ∈ nx ∧ oG.data = .cell xg
  res : ∃ oPA kvs new, (PA, oPA) ∈ nx ∧ oPA.IsDictOf (PySem.strKind PR w) kvs ∧ kvs.map (·.1) = (mems.take i).map (·.1) ∧ (∀ p ∈ new, p ∈ nx ∧ p.1 ≠ L + 1 ∧ p.1 ≠ PA) ∧ (∀ q ∈ new, ∀ p ∈ cst, p.1 ≠ q.1) ∧
    ∀ k v, (k, v) ∈ kvs → ∃ rows, AsgE w (new ++ ld) v rows ∧ RowsOf (rowOf G k) rows
  con : ∀ p ∈ cst, p ∈ nx
  map : ∀ y, y ≠ Str.ofString "member" → m y = m₀ y
/-- what each member gets -/
theorem a13 {w : World} {mean : ExcName → Option Value} {mg mb : Str → Option Value} {fa : Addr} {cd : Value} {h₀ g : Heap} {L : Addr} {m : Str → Option Value} {s : Shared} {Q : Flow → Shared → Prop} (C : ACtx w mean mg mb h₀ fa cd g) (F : Fr g L s.heap m) {nx cst : Led} {PA A lm : Addr} {mvs : List Value} {n : Nat} {mems : List Mem} {T : List DRow} (N : News g L s.heap nx) (J : J13 w L PA cst (cst.filter fun p => decide (p.1 ∈ addrsT T)) m (absT T) mems 0 m nx) (hcc : ∀ p ∈ cst, p.1 ≠ L + 1 ∧ p.1 ≠ PA) (hPL : (@Ne Nat PA (L + 1)))
  (hlm : (lm, listOf mvs.toArray n) ∈ cst) (hme : MemsE w cst mvs mems) (h5 : mems.length ≤ 5) (hnd : (mems.map (·.1)).Nodup) (H : HoldT w cst A T) (hB : BoundT T 30) (hlo : (A == sysModules) = false)
  (mm : m (Str.ofString "members") = some (.ref lm)) (ma : m (Str.ofString "assignment") = some (.ref A)) (mp : m (Str.ofString "protocol_assignment") = some (.ref PA)) (mcls : m (Str.ofString "cls") = some (.ref 178))
  (h : ∀ m' nx' h' tk', J13 w L PA cst (cst.filter fun p => decide (p.1 ∈ addrsT T)) m (absT T) mems mems.length m' nx' → Fr g L h' m' → News g L h' nx' → Q .next { s with heap := h', toks := tk' }) :
  asgWp w h₀ fa cd L (stAt asgBody 13) Q s := by
  have C' := C
  have hfill : (fun (_ : OpenLaw) (_ : Params → Frag) => True) PySem.Challenge.rw_je0014_01 hd.heap_1 := by k_fill; trivial
  clear hfill
  obtain ⟨B, X, T⟩ := C
  rename_i T9
  have hml := hme.length
  generalize hld : (cst.filter fun p => decide (p.1 ∈ addrsT T9)) = ld at J h
  have hldc : ∀ p ∈ ld, p ∈ cst := fun p hp => (List.mem_filter.mp (hld ▸ hp)).1
  refine for_at (x := Str.ofString "member") g (by unfold IsFor; kernel_rfl) (by kernel_rfl) (by kernel_rfl) (by intro _; rfl) ?_
  conv in (forIter _) => whnf
  (repeat' ((fail_if_success (first | (with_reducible show wpAny _ _ (exec (Stmt.While _ _ _ _) _) _ _ _) | (with_reducible show wpAny _ _ (exec (Stmt.For _ _ _ _ _) _) _ _ _) | (with_reducible show wpAny _ _ (pyIter _) _ _ _) | (with_reducible show LCg.CompSrc _ _ _ _ _ _ _ _ _ _ _ _ _ _) | (with_reducible show LCt.CompSrcT _ _ _ _ _ _ _ _ _ _ _ _ _ _ _) | (with_reducible show SrcLP _ _ _ _ _ _ _ _ _ _ _ _ _ _ _) | (with_reducible show DSrc _ _ _ _ _ _ _ _ _ _ _ _ _ _ _) | (with_reducible show Src2 _ _ _ _ _ _ _))); (first | (k_unfold; (try dsimp only)) | (k_unmd; k_unfold; (try dsimp only)) | (k_end; wrow_close) | (k_here; (with_reducible show wpAny _ _ (eval (PySem.Expr.Name _ _) _) _ _ _); k_dflt (refine' nameX_L ?jF ?jv ?_ ?ja ?jb; (case ja => rfl); (case jb => rfl); (case jF => k_asm); (case jv => with_reducible assumption))) | walk1 | (dsimp only; walk1) | (leave1; (try dsimp only)))))
  refine kdl_iter (vs := mvs) (nn := n) (news := nx) (J13 w L PA cst ld m (absT T9) mems) rfl (J.con _ hlm) F N J ?_ ?_
  · rintro i v m1 nx1 h2 tk2 own hv hown - J1 F1 N1
    obtain ⟨⟨oG, xg, hG, dG⟩, ⟨oPA, kvs, new, hPA, hdP, hkk, hnw, hnc, hvals⟩, hcon, hmap⟩ := J1
    obtain ⟨me, hme1, hmeE⟩ := hme.item i v hv
    have hi : i < mems.length := (List.getElem?_eq_some_iff.mp hme1).1
    obtain ⟨oA, mA, hA⟩ := H.top
    have hkl : kvs.length ≤ sizeLine := by
      have := congrArg List.length hkk
      rw [List.length_map, List.length_map, List.length_take] at this
      rw [sizeLine_eq]; omega
    have hfr : me.1 ∉ kvs.map (·.1) := by
      rw [hkk, List.map_take]
      exact not_mem_take hnd (by rw [List.getElem?_map, hme1]; rfl)
    have hoG : ∀ p ∈ own, p.1 ≠ L + 1 := fun p hp => hown p hp _ (List.mem_map.mpr ⟨_, hG, rfl⟩)
    have hoP : ∀ p ∈ own, p.1 ≠ PA := fun p hp => hown p hp _ (List.mem_map.mpr ⟨_, hPA, rfl⟩)
    have hoc : ∀ p ∈ own, ∀ q ∈ cst, p.1 ≠ q.1 := fun p hp q hq => hown p hp _ (List.mem_map.mpr ⟨_, hcon q hq, rfl⟩)
    have hon : ∀ p ∈ own, ∀ q ∈ new, p.1 ≠ q.1 := fun p hp q hq => hown p hp _ (List.mem_map.mpr ⟨_, (hnw q hq).1, rfl⟩)
    have NB : News g L h2 ((L + 1, oG) :: (PA, oPA) :: (cst ++ (new ++ own))) := fun p hp => by
      rcases List.mem_cons.mp hp with rfl | hp
      · exact N1 _ (List.mem_append_left _ hG)
      · rcases List.mem_cons.mp hp with rfl | hp
        · exact N1 _ (List.mem_append_left _ hPA)
        · rcases List.mem_append.mp hp with hp | hp
          · exact N1 _ (List.mem_append_left _ (hcon p hp))
          · rcases List.mem_append.mp hp with hp | hp
            · exact N1 _ (List.mem_append_left _ (hnw p hp).1)
            · exact N1 _ (List.mem_append_right _ hp)
    have hb1 : ∀ p ∈ cst ++ (new ++ own), p.1 ≠ L + 1 ∧ p.1 ≠ PA := fun p hp => by
      rcases List.mem_append.mp hp with hp | hp
      · exact hcc p hp
      · rcases List.mem_append.mp hp with hp | hp
        · exact (hnw p hp).2
        · exact ⟨hoG p hp, hoP p hp⟩
    clear N1 N F h
    refine execs_at (body := forBody (stAt asgBody 13)) (k := 0) (by rw [fb13_len]; decide) ?_
    refine v0 (A := A) (kvs := topKv T9) (me := me) C' F1 NB (List.forall_mem_cons.mpr ⟨hPL, fun p hp => (hb1 p hp).1⟩) dG (.tail _ (List.mem_append_left _ mA)) hA hlo (hmeE.mono fun p hp => .tail _ (List.mem_append_left _ hp)) rfl ((hmap _ (by decide)).trans ma) ?_
    intro lE oE oG' h3 tk3 hE hloE hlE dG' F3 N3
    clear NB F1
    obtain ⟨a, oa, ls, ea, hma, hoa, hloa, hl30, hls, habs⟩ := row_of H hB me.1 hE hloE
    rw [hld] at hls
    rw [ea] at dG'
    have hEP : lE ≠ PA := (Nat.ne_of_lt (hlE _ (.tail _ (.head _)))).symm
    have N4 : News g L h3 ((PA, oPA) :: ((lE, oE) :: (L + 1, oG') :: (cst ++ (new ++ own)))) := fun p hp => by
      rcases List.mem_cons.mp hp with rfl | hp
      · exact N3 _ (.tail _ (.tail _ (.head _)))
      · rcases List.mem_cons.mp hp with rfl | hp
        · exact N3 _ (.head _)
        · rcases List.mem_cons.mp hp with rfl | hp
          · exact N3 _ (.tail _ (.head _))
          · exact N3 _ (.tail _ (.tail _ (.tail _ hp)))
    have hcin : ∀ p ∈ cst, p ∈ (lE, oE) :: (L + 1, oG') :: (cst ++ (new ++ own)) := fun p hp => .tail _ (.tail _ (List.mem_append_left _ hp))
    clear N3
    refine execs_at (body := forBody (stAt asgBody 13)) (k := 1) (by rw [fb13_len]; decide) ?_
    refine v1 (ld := ld) (me := me) C' F3 N4 (List.forall_mem_cons.mpr ⟨hEP, List.forall_mem_cons.mpr ⟨hPL.symm, fun p hp => (hb1 p hp).2⟩⟩) hdP hkl (.tail _ (.head _)) dG' ((List.mem_cons.mp hma).elim (fun e => e ▸ .head _) fun q => hcin _ q) hoa hloa hl30 (fun p hp => hcin p (hldc p hp)) hls (hmeE.mono hcin) rfl ((hmap _ (by decide)).trans mp) ((hmap _ (by decide)).trans mcls) ?_
    intro vA rows new1 oPA' h4 tk4 hasg hro hdP' hn1 F5 N5
    clear N4 F3
    rw [stored_new hfr] at hdP'
    rw [habs] at hro
    have hn2 : ∀ q ∈ new1, ∀ p ∈ cst ++ (new ++ own), p.1 ≠ q.1 := fun q hq p hp => hn1 q hq p (.tail _ (.tail _ (.tail _ hp)))
    refine execs_end (body := forBody (stAt asgBody 13)) (by rw [fb13_len]; decide) ?_
    refine InvEndG.intro (nx := (PA, oPA') :: (L + 1, oG') :: (cst ++ (new1 ++ new))) F5 N5 ⟨.tail _ (.tail _ (List.mem_append_left _ hlm)), ⟨oG', _, .tail _ (.head _), dG'⟩, ⟨oPA', kvs ++ [(me.1, vA)], new1 ++ new, .head _, hdP', ?_, ?_, ?_, ?_⟩, fun p hp => .tail _ (.tail _ (List.mem_append_left _ hp)), fun y hy => ?_⟩ ?_ ?_ ?_
    · rw [List.take_add_one, hme1, List.map_append, List.map_append, hkk]; rfl
    · intro p hp
      refine ⟨.tail _ (.tail _ (List.mem_append_right _ hp)), ?_⟩
      rcases List.mem_append.mp hp with hp | hp
      · exact ⟨(hn1 p hp _ (.tail _ (.tail _ (.head _)))).symm, (hn1 p hp _ (.head _)).symm⟩
      · exact (hnw p hp).2
    · intro q hq p hp
      rcases List.mem_append.mp hq with hq | hq
      · exact hn2 q hq p (List.mem_append_left _ hp)
      · exact hnc q hq p hp
    · intro k v hkv
      rcases List.mem_append.mp hkv with hkv | hkv
      · obtain ⟨rows, h1, h2⟩ := hvals k v hkv
        refine ⟨rows, h1.mono fun p hp => ?_, h2⟩
        rcases List.mem_append.mp hp with hp | hp
        · exact List.mem_append_left _ (List.mem_append_right _ hp)
        · exact List.mem_append_right _ hp
      · rw [List.mem_singleton] at hkv
        cases hkv
        refine ⟨rows, hasg.mono fun p hp => ?_, hro⟩
        rcases List.mem_append.mp hp with hp | hp
        · exact List.mem_append_left _ (List.mem_append_left _ hp)
        · exact List.mem_append_right _ hp
    · show (if y = _ then _ else _) = _
      rw [if_neg hy]
      exact hmap y hy
    · intro p hp b hb
      obtain ⟨q, hq, rfl⟩ := List.mem_map.mp hb
      rcases List.mem_cons.mp hq with rfl | hq
      · exact hoP p hp
      · rcases List.mem_cons.mp hq with rfl | hq
        · exact hoG p hp
        · rcases List.mem_append.mp hq with hq | hq
          · exact hoc p hp q hq
          · rcases List.mem_append.mp hq with hq | hq
            · exact hn2 q hq p (List.mem_append_right _ (List.mem_append_right _ hp))
            · exact hon p hp q hq
    · intro p hp
      rcases List.mem_cons.mp hp with rfl | hp
      · exact .head _
      · refine .tail _ ?_
        rcases List.mem_cons.mp hp with rfl | hp
        · exact List.mem_append_right _ (.tail _ (.head _))
        · rcases List.mem_append.mp hp with hp | hp
          · exact List.mem_append_right _ (hcin p hp)
          · rcases List.mem_append.mp hp with hp | hp
            · exact List.mem_append_left _ hp
            · exact List.mem_append_right _ (.tail _ (.tail _ (List.mem_append_right _ (List.mem_append_left _ hp))))
    · exact fun p hp => .tail _ (List.mem_append_right _ (.tail _ (.tail _ (List.mem_append_right _ (List.mem_append_right _ hp)))))
  · intro m1 nx1 h2 tk2 J1 F1 N1
    rw [hml] at J1
    exact h m1 nx1 h2 tk2 J1 F1 N1
/-- return protocol_assignment -/
theorem a14 {w : World} {mean : ExcName → Option Value} {mg mb : Str → Option Value} {fa : Addr} {cd : Value} {h₀ g : Heap} {L : Addr} {m : Str → Option Value} {s : Shared} {Q : Flow → Shared → Prop} (C : ACtx w mean mg mb h₀ fa cd g) (F : Fr g L s.heap m) {news : Led} {PA : Addr} (N : News g L s.heap news) (mp : m (Str.ofString "protocol_assignment") = some (.ref PA)) (h : Q (.ret (.ref PA)) s) :
  asgWp w h₀ fa cd L (stAt asgBody 14) Q s := by
  have hfill : (fun (_ : OpenLaw) (_ : Params → Frag) => True) PySem.Challenge.rw_je0014_01 hd.heap_1 := by k_fill; trivial
  clear hfill
  obtain ⟨B, X, T⟩ := C
  conv in (stAt asgBody _) => whnf
  (repeat' ((fail_if_success (first | (with_reducible show wpAny _ _ (exec (Stmt.While _ _ _ _) _) _ _ _) | (with_reducible show wpAny _ _ (exec (Stmt.For _ _ _ _ _) _) _ _ _) | (with_reducible show wpAny _ _ (pyIter _) _ _ _) | (with_reducible show LCg.CompSrc _ _ _ _ _ _ _ _ _ _ _ _ _ _) | (with_reducible show LCt.CompSrcT _ _ _ _ _ _ _ _ _ _ _ _ _ _ _) | (with_reducible show SrcLP _ _ _ _ _ _ _ _ _ _ _ _ _ _ _) | (with_reducible show DSrc _ _ _ _ _ _ _ _ _ _ _ _ _ _ _) | (with_reducible show Src2 _ _ _ _ _ _ _))); (first | (k_unfold; (try dsimp only)) | (k_unmd; k_unfold; (try dsimp only)) | (k_end; wrow_close) | (k_here; (with_reducible show wpAny _ _ (eval (PySem.Expr.Name _ _) _) _ _ _); k_dflt (refine' nameX_L ?jF ?jv ?_ ?ja ?jb; (case ja => rfl); (case jb => rfl); (case jF => k_asm); (case jv => with_reducible assumption))) | walk1 | (dsimp only; walk1) | (leave1; (try dsimp only)))))
  exact h
-- R11
mutual
theorem datIn_seqs {nx nx' : Led} (hs : ∀ p ∈ nx, (∃ b c, p.2.data = .seq b c) → p ∈ nx') : ∀ {v : Value} {d : Dat}, DatIn nx v d → DatIn nx' v d
  | _, _, .none => .none
  | _, _, .bool b => .bool b
  | _, _, .int i t => .int i t
  | _, _, .str x t => .str x t
  | _, _, .bytes b t => .bytes b t
  | _, _, .tuple h r => .tuple (hs _ h ⟨_, _, rfl⟩) (datAll_seqs hs r)
  | _, _, .list h r => .list (hs _ h ⟨_, _, rfl⟩) (datAll_seqs hs r)
theorem datAll_seqs {nx nx' : Led} (hs : ∀ p ∈ nx, (∃ b c, p.2.data = .seq b c) → p ∈ nx') : ∀ {vs : List Value} {ds : List Dat}, DatAll nx vs ds → DatAll nx' vs ds
  | _, _, .nil => .nil
  | _, _, .cons h r => .cons (datIn_seqs hs h) (datAll_seqs hs r)
end
theorem MtE.seqs {nx nx' : Led} (hs : ∀ p ∈ nx, (∃ b c, p.2.data = .seq b c) → p ∈ nx') {kvs : List (Str × Value)} {ms : List Mem} (h : MtE nx kvs ms) : MtE nx' kvs ms := by
  induction h with
  | nil => exact .nil
  | snoc _ hm hw ih => exact .snoc ih (hs _ hm ⟨_, _, rfl⟩) hw
theorem partsOf_mem {cl : List (Str × List Int)} {ss : List Str} : ∀ p ∈ partsOf cl ss, p.1 ∈ ss := by
  intro p hp
  obtain ⟨c, -, hp⟩ := List.mem_flatMap.mp hp
  split at hp
  · obtain ⟨n, -, rfl⟩ := List.mem_map.mp hp
    assumption
  · cases hp
theorem partsOf_congr {cl : List (Str × List Int)} {rs ss : List Str} (h : ∀ y, y ∈ rs ↔ y ∈ ss) : partsOf cl rs = partsOf cl ss := by
  rw [partsOf, partsOf]
  congr 1
  funext c
  by_cases e : c.1 ∈ ss
  · rw [if_pos e, if_pos ((h _).mpr e)]
  · rw [if_neg e, if_neg fun q => e ((h _).mp q)]
theorem gn_perm : ∀ gn : GN, ((stats gn).map (·.2) ++ rests gn).Perm (gn.map (·.2))
  | [] => .nil
  | (none, x) :: r => List.perm_middle.trans ((gn_perm r).cons x)
  | (some g, x) :: r => (gn_perm r).cons x
theorem OrderOf.perm {gn : GN} {order : List Str} (h : OrderOf gn order) : order.Perm (gn.map (·.2)) := by
  obtain ⟨a, b, p1, -, p2, -, rfl⟩ := h
  exact ((p1.map _).append p2).trans (gn_perm gn)
/-- assign, from its first statement to its last -/
theorem asg_run {w : World} {mean : ExcName → Option Value} {mg mb : Str → Option Value} {fa : Addr} {cd : Value} {h₀ g : Heap} {L : Addr} {m : Str → Option Value} {s : Shared} {Q : Flow → Shared → Prop} (C : ACtx w mean mg mb h₀ fa cd g) (F : Fr g L s.heap m) {news : Led} {oG : Obj} {xg : Option Value} {ci lm : Addr} {cld : List (Str × List Int)} {mems : List Mem} {ss : List Str} (N : News g L s.heap ((L + 1, oG) :: news)) (dG : oG.data = .cell xg) (hlt : ∀ p ∈ news, p.1 < L) (hp : AsgPre w news ci lm cld mems ss)
  (mcls : m (Str.ofString "cls") = some (.ref 178)) (mclu : m (Str.ofString "cluster") = some (.ref ci)) (mmem : m (Str.ofString "members") = some (.ref lm))
  (h : ∀ R new seq order kvs m' h' tk' dr', AsgPost w new R cld mems ss seq order kvs → (∀ q ∈ new, ∀ p ∈ news, p.1 ≠ q.1) → Fr g L h' m' → News g L h' (new ++ news) → Q (.ret (.ref R)) { s with heap := h', toks := tk', drawn := dr' }) :
  wpAny (model PR w) (asgA h₀ fa cd L) (execs (asgBody.drop 0) (asgEnv L)) Q NE s := by
  obtain ⟨⟨cc, D, oD, uD', hD, mci, mcc, mD, kvD, hkD, hceD⟩, ⟨mvs, nM, mlm, hme⟩, hcl4, hm1, hm5, hnod, ⟨st, hst⟩, htops, hssn, hss5, hssk⟩ := hp
  have hG1 : ∀ p ∈ (L + 1, oG) :: news, ∀ S : Nat, (∀ p ∈ (L + 1, oG) :: news, p.1 < S) → p.1 ≠ S := fun p hp S hS => Nat.ne_of_lt (hS p hp)
  refine execs_at (by rw [asgBody_len]; decide) ?_
  refine a0 C F N ?_
  intro S h0 tk0 hltS F0 N0
  clear F N
  refine execs_at (by rw [asgBody_len]; decide) ?_
  refine a1 C F0 N0 (fun p hp => Nat.ne_of_lt (hltS p hp)) (.tail _ mlm) (hme.mono fun p hp => .tail _ hp) hm1 hm5 htops hssn hss5 mmem rfl ?_
  intro o es ep t rs m1 h1 tk1 hset hrs hm1' F1 N1
  clear F0 N0
  have hrl : rs.length ≤ 5 := by rw [hrs.length_eq]; exact hss5
  refine execs_at (by rw [asgBody_len]; decide) ?_
  refine a2 C F1 N1 ?_
  intro P h2 tk2 hltP F2 N2
  clear F1 N1
  refine execs_at (by rw [asgBody_len]; decide) ?_
  refine a3 C F2 N2 (fun p hp => Nat.ne_of_lt (hltP p hp)) (.head _) hset hrl (.tail _ (.tail _ mci)) (.tail _ (.tail _ mcc)) (.tail _ (.tail _ mD)) hkD (hceD.mono fun p hp => .tail _ (.tail _ hp)) hD hcl4 ((hm1' _ (by decide)).trans mclu) (hm1' _ (by decide)) rfl ?_
  intro ys c parts tl3 m3 h3 tk3 d3 hdy hpp hp30 hn3 hP3 hm3 F3 N3
  clear F2 N2
  have hb3 : ∀ p ∈ (L + 1, oG) :: news, p ∈ tl3 := fun p hp => hn3 p (.tail _ hp)
  refine execs_at (by rw [asgBody_len]; decide) ?_
  refine a4 C F3 N3 hP3 hdy hp30 (hm3 _ (by decide) (by decide) (by decide)) ?_
  intro ws seq c4 h4 tk4 hsp hsrt hdw F4 N4
  clear F3 N3
  refine execs_at (by rw [asgBody_len]; decide) ?_
  refine a5 C F4 N4 ?_
  intro A oA h5 tk5 hltA hA F5 N5
  clear F4 N4
  refine execs_at (by rw [asgBody_len]; decide) ?_
  have e1 : ∀ y, y ≠ Str.ofString "topic" → y ≠ Str.ofString "partitions" → y ≠ Str.ofString "partition" → y ≠ Str.ofString "all_topic_partitions" → y ≠ Str.ofString "member" → y ≠ Str.ofString "all_topics" → m3 y = m y := fun y q1 q2 q3 q4 q5 q6 => by
    rw [hm3 y q1 q2 q3, if_neg q4, hm1' y q5, if_neg q6]
  refine a6 C F5 N5 (.tail _ (.tail _ (hb3 _ (.tail _ mlm)))) (hme.mono fun p hp => .tail _ (.tail _ (hb3 _ (.tail _ hp)))) hm5 ((e1 _ (by decide) (by decide) (by decide) (by decide) (by decide) (by decide)).trans mmem) ?_
  intro U us c6 tl6 h6 tk6 hdU hn6 mU F6 N6
  clear F5 N5
  refine execs_at (by rw [asgBody_len]; decide) ?_
  refine a7 (st := st) C F6 (fun j p hj => ?_) (by rw [List.length_map]; exact hm5) N6 mU hdU rfl ?_
  · rw [List.getElem?_map] at hj
    cases hj2 : mems[j]? with
    | none => rw [hj2] at hj; cases hj
    | some q =>
      rw [hj2] at hj
      cases hj
      exact hst j q hj2
  intro G oG7 kvs7 x7 y7 tl7 h7 tk7 hlo7 htl7 mG7 hk7 k17 k27 F7 N7
  clear F6 N6
  refine execs_at (by rw [asgBody_len]; decide) ?_
  refine a8 C F7 N7 hlo7 (fun p hp => (htl7 p hp).1) mG7 hk7 k17 k27 (by rw [List.length_map]; exact hm5) rfl ?_
  intro M mw ml c8 tl8 h8 tk8 hord hdM hn8 mM F8 N8
  clear F7 N7
  refine execs_at (by rw [asgBody_len]; decide) ?_
  refine a9 C F8 N8 ?_
  intro t9 h9 tk9 F9 N9
  clear F8 N8
  have hb8 : ∀ p ∈ (A, oA) :: (P, listOf ws.toArray c4) :: tl3, p ∈ tl8 := fun p hp => hn8 p (htl7 p (hn6 p hp)).1
  refine execs_at (by rw [asgBody_len]; decide) ?_
  refine a10 C F9 N9 (hb8 _ (.tail _ (.tail _ (hb3 _ (.tail _ mlm))))) (hme.mono fun p hp => hb8 _ (.tail _ (.tail _ (hb3 _ (.tail _ hp))))) hm5 hnod ((e1 _ (by decide) (by decide) (by decide) (by decide) (by decide) (by decide)).trans mmem) ?_
  intro D10 oD10 kvs10 tl10 h10 tk10 hk10 hmt mD10 htl10 F10 N10
  clear F9 N9
  have hb10 : ∀ p ∈ (A, oA) :: (P, listOf ws.toArray c4) :: tl3, p ∈ tl10 := fun p hp => (htl10 p (hb8 p hp)).1
  have mA10 : (A, oA) ∈ tl10 := hb10 _ (.head _)
  have hAD : D10 ≠ A := ((htl10 _ (hb8 _ (.head _))).2).symm
  have hseq : ∀ p ∈ tl10, (∃ b c, p.2.data = .seq b c) → p ∈ tl10.filter fun p => p.1 != A := fun p hp ⟨b, c, e⟩ => front_in hp (news_ne (o' := oA) N10 hp mA10 (by
    obtain ⟨_, _, _, e2, _⟩ := hA
    rw [e, e2]
    exact fun q => nomatch q))
  have hmem3 : ∀ p ∈ (P, listOf ws.toArray c4) :: tl3, p ∈ tl10.filter fun p => p.1 != A := fun p hp => front_in (hb10 p (.tail _ hp)) (Nat.ne_of_lt (hltA p hp))
  have hbase : ∀ p ∈ (L + 1, oG) :: news, p ∈ tl10.filter fun p => p.1 != A := fun p hp => hmem3 p (.tail _ (hb3 p hp))
  have h8s : ∀ p ∈ tl8, (∃ b c, p.2.data = .seq b c) → p ∈ tl10.filter fun p => p.1 != A := fun p hp e => hseq p (htl10 p hp).1 e
  have hAbig : @LT.lt Nat _ 1 A := Nat.lt_trans hD (hltA _ (.tail _ (hb3 _ (.tail _ mD))))
  have hlA : ∀ p ∈ news, p.1 ≠ A := fun p hp => Nat.ne_of_lt (hltA _ (.tail _ (hb3 _ (.tail _ hp))))
  have hol := hord.perm.length_eq
  rw [List.length_map, List.length_map, List.length_map] at hol
  have hsub : ∀ x ∈ ml.map (·.2), _ := fun x hx => hord.perm.mem_iff.mp hx
  have hsmem : ∀ p ∈ seq, p.1 ∈ ss := fun p hp => hrs.mem_iff.mp (partsOf_mem p (hpp.mem_iff.mp (hsp.mem_iff.mp hp)))
  have h30 : seq.length ≤ 30 := by rw [hsp.length_eq]; exact hp30
  have e2 : partsOf cld rs = partsOf cld ss := partsOf_congr fun y => hrs.mem_iff
  have hSeq : SeqOf cld ss seq := ⟨e2 ▸ hsp.trans hpp, hsrt⟩
  have mM11 := h8s _ mM ⟨_, _, rfl⟩
  have hdM11 := datAll_seqs h8s hdM
  have hmt11 := hmt.seqs h8s
  have hdw11 := hdw.mono fun p hp => hmem3 p (.tail _ hp)
  have mP11 := hmem3 _ (.head _)
  have mD11 := front_in mD10 hAD
  have hcst : ∀ p ∈ tl10.filter (fun p => p.1 != A), p ∈ tl10 ∧ p.1 ≠ A := fun p hp => ⟨(List.mem_filter.mp hp).1, front_off p hp⟩
  clear hmt hdM hdw hdy hdU hseq h8s hmem3 htl10 hb10 hb8 hn8 htl7 hn6 hb3 hn3 k17 k27
  generalize tl10.filter (fun p => p.1 != A) = cst at *
  refine execs_at (by rw [asgBody_len]; decide) ?_
  refine a11 (ss := ss) C F10 N10 mA10 hA (not_modules hAbig) hAbig hcst mP11 hdw11 h30 mM11 hdM11 (by omega) (by omega) mD11 hk10 hmt11 (fun x hx => ?_) htops hsmem (fun x hx => strOk_w x (hssk x hx)) (Nat.le_trans hss5 (by decide)) (hm3 _ (by decide) (by decide) (by decide)) rfl rfl rfl ⟨t9, rfl⟩ ?_
  · have := hsub x hx
    rw [List.map_map] at this
    exact this
  intro T nx11 m11 h11 tk11 H11 hc11 habs hBT hT30 hm11 F11 N11
  clear F10 N10
  refine execs_at (by rw [asgBody_len]; decide) ?_
  refine a12 C F11 N11 ?_
  intro PA oPA h12 tk12 hltPA hloPA hPA F12 N12
  clear F11 N11
  have hLG := hc11 _ (hbase _ (.head _))
  have hnwc : ∀ p ∈ news, p ∈ nx11 ∧ p.1 ∉ A :: addrsT T := fun p hp => hc11 p (hbase p (.tail _ hp))
  have hH13 := hold_filter (own := [(L + 1, oG)]) H11 (List.forall_mem_cons.mpr ⟨hLG.2, List.forall_mem_nil _⟩)
  have hc13 : ∀ p ∈ nx11.filter (fun p => [(L + 1, oG)].all fun q => q.1 != p.1), p ∈ nx11 ∧ p.1 ≠ L + 1 := fun p hp => by
    have := List.mem_filter.mp hp
    refine ⟨this.1, fun e => ?_⟩
    have h2 := this.2
    rw [List.all_cons, e] at h2
    simp at h2
  have hn13 : ∀ p ∈ news, p ∈ nx11.filter (fun p => [(L + 1, oG)].all fun q => q.1 != p.1) := fun p hp => List.mem_filter.mpr ⟨(hnwc p hp).1, by
    have : L + 1 ≠ p.1 := (Nat.ne_of_lt (Nat.lt_succ_of_lt (hlt p hp))).symm
    rw [List.all_cons, List.all_nil, Bool.and_true]
    exact bne_iff_ne.mpr this⟩
  generalize nx11.filter (fun p => [(L + 1, oG)].all fun q => q.1 != p.1) = cst13 at hH13 hc13 hn13
  have e3 : ∀ y, y ≠ Str.ofString "topic" → y ≠ Str.ofString "partitions" → y ≠ Str.ofString "partition" → y ≠ Str.ofString "all_topic_partitions" → y ≠ Str.ofString "member" → y ≠ Str.ofString "all_topics" → y ≠ Str.ofString "member_id" → y ≠ Str.ofString "at" → y ≠ Str.ofString "member_topics" → y ≠ Str.ofString "member_list" → y ≠ Str.ofString "grouped" → y ≠ Str.ofString "ungrouped" → y ≠ Str.ofString "assignment" → m11 y = m y := fun y q1 q2 q3 q4 q5 q6 q7 q8 q9 q10 q11 q12 q13 => by
    rw [hm11 y q3 q7 q8, if_neg q9, if_neg q8, if_neg q10, if_neg q11, if_neg q12, if_neg q13, e1 y q1 q2 q3 q4 q5 q6]
  refine execs_at (by rw [asgBody_len]; decide) ?_
  refine a13 (cst := cst13) (T := T) (PA := PA) (A := A) C F12 N12 ⟨⟨oG, _, .tail _ hLG.1, dG⟩, ⟨oPA, [], [], .head _, hPA, rfl, (fun _ h => nomatch h), (fun _ h => nomatch h), (fun _ _ h => nomatch h)⟩, (fun p hp => .tail _ (hc13 p hp).1), fun _ _ => rfl⟩ (fun p hp => ⟨(hc13 p hp).2, Nat.ne_of_lt (hltPA p (hc13 p hp).1)⟩) (Nat.ne_of_gt (hltPA _ hLG.1)) (hn13 _ mlm) (hme.mono hn13) hm5 hnod hH13 hBT (not_modules hAbig)
    ((e3 _ (by decide) (by decide) (by decide) (by decide) (by decide) (by decide) (by decide) (by decide) (by decide) (by decide) (by decide) (by decide) (by decide)).trans mmem) (hm11 _ (by decide) (by decide) (by decide)) rfl ((e3 _ (by decide) (by decide) (by decide) (by decide) (by decide) (by decide) (by decide) (by decide) (by decide) (by decide) (by decide) (by decide) (by decide)).trans mcls) ?_
  intro m13 nx13 h13 tk13 J13' F13 N13
  clear F12 N12
  obtain ⟨-, ⟨oP, kvs, new, mP, hdP, hkk, hnw, hnc, hvals⟩, hcon, hmap⟩ := J13'
  rw [List.take_length] at hkk
  refine execs_at (by rw [asgBody_len]; decide) ?_
  refine a14 C F13 N13 (hmap _ (by decide)) ?_
  refine h PA ((PA, oP) :: (new ++ cst13.filter fun p => decide (p.1 ∈ addrsT T))) seq (ml.map (·.2)) kvs m13 h13 tk13 d3 ⟨Nat.lt_trans hD (hltPA _ (hnwc _ mD).1), ⟨oP, .head _, hdP⟩, hSeq, hord, hkk, fun k v hkv => ?_⟩ (fun q hq p hp => ?_) F13 fun p hp => N13 p ?_
  · obtain ⟨rows, r1, r2⟩ := hvals k v hkv
    rw [habs] at r2
    exact ⟨rows, r1.mono fun p hp => .tail _ hp, r2⟩
  · rcases List.mem_cons.mp hq with rfl | hq
    · exact Nat.ne_of_lt (hltPA p (hnwc p hp).1)
    · rcases List.mem_append.mp hq with hq | hq
      · exact hnc q hq p (hn13 p hp)
      · have hq2 : q.1 ∈ addrsT T := by simpa using (List.mem_filter.mp hq).2
        exact fun e => (hnwc p hp).2 (.tail _ (e ▸ hq2))
  · rcases List.mem_append.mp hp with hp | hp
    · rcases List.mem_cons.mp hp with rfl | hp
      · exact mP
      · rcases List.mem_append.mp hp with hp | hp
        · exact (hnw p hp).1
        · exact hcon p (List.mem_filter.mp hp).1
    · exact hcon p (hn13 p hp)
-- SP3
theorem stats_app (a b : GN) : stats (a ++ b) = stats a ++ stats b := List.filterMap_append
theorem rests_app (a b : GN) : rests (a ++ b) = rests a ++ rests b := List.filterMap_append
/-- the law's members in their order -/
theorem stats_law (gid nm : Nat → Str) (k : Nat) : ∀ n, k ≤ n → stats ((List.range n).map fun j => ((if j < k then some (gid j) else none : Option Str), nm j)) = (List.range k).map fun j => (gid j, nm j)
  | n, hk => by
    have key : ∀ n, stats ((List.range n).map fun j => ((if j < k then some (gid j) else none : Option Str), nm j)) = (List.range (min n k)).map fun j => (gid j, nm j) := by
      intro n
      induction n with
      | zero => rw [Nat.zero_min]; rfl
      | succ n ih =>
        rw [List.range_succ, List.map_append, stats_app, ih]
        by_cases h : n < k
        · rw [Nat.min_eq_left (Nat.le_of_lt h), Nat.min_eq_left h, List.range_succ, List.map_append]
          congr 1
          show stats [(if n < k then some (gid n) else none, nm n)] = _
          rw [if_pos h]; rfl
        · rw [Nat.min_eq_right (Nat.le_of_not_lt h), Nat.min_eq_right (Nat.le_succ_of_le (Nat.le_of_not_lt h))]
          show _ ++ stats [(if n < k then some (gid n) else none, nm n)] = _
          rw [if_neg h]
          exact List.append_nil _
    rw [key, Nat.min_eq_right hk]
theorem rests_law (gid nm : Nat → Str) (k : Nat) : ∀ n, rests ((List.range n).map fun j => ((if j < k then some (gid j) else none : Option Str), nm j)) = ((List.range n).map nm).drop k
  | 0 => by rw [List.range_zero, List.map_nil, List.map_nil, List.drop_nil]; rfl
  | n + 1 => by
    rw [List.range_succ, List.map_append, rests_app, rests_law gid nm k n, List.map_append, List.drop_append]
    congr 1
    show rests [(if n < k then some (gid n) else none, nm n)] = List.drop _ [nm n]
    rw [List.length_map, List.length_range]
    by_cases h : n < k
    · rw [if_pos h, List.drop_eq_nil_of_le (by rw [List.length_singleton]; omega)]; rfl
    · rw [if_neg h, Nat.sub_eq_zero_of_le (Nat.le_of_not_lt h)]; rfl
theorem range_getD (nms : List Str) : (List.range nms.length).map (fun j => nms.getD j Str.empty) = nms := by
  refine List.ext_getElem (by rw [List.length_map, List.length_range]) fun i h1 h2 => ?_
  rw [List.getElem_map, List.getElem_range, List.getD_eq_getElem?_getD, List.getElem?_eq_getElem h2]; rfl
theorem give_keys2 {D : List (Str × Rows1)} {nm t : Str} {n : Int} (h : nm ∈ D.map (·.1)) : (giveTo D nm t n).map (·.1) = D.map (·.1) := by
  induction D with
  | nil => cases h
  | cons c r ih =>
    obtain ⟨u, g⟩ := c
    rw [giveTo]
    by_cases e : u = nm
    · rw [if_pos e]; rfl
    · rw [if_neg e, List.map_cons, List.map_cons, ih ((List.mem_cons.mp h).resolve_left (Ne.symm e))]
theorem nth_mem {order : List Str} (h : order ≠ []) (i : Nat) : nthOf order i ∈ order := by
  have := Nat.mod_lt i (List.length_pos_iff.mpr h)
  rw [nthOf, List.getD_eq_getElem?_getD, List.getElem?_eq_getElem this]
  exact List.getElem_mem _
theorem deal_keys2 {order : List Str} {D₀ : List (Str × Rows1)} (h0 : order ≠ []) (h : ∀ x ∈ order, x ∈ D₀.map (·.1)) (l : List (Str × Int)) : ∀ i, (dealN order l D₀ i).map (·.1) = D₀.map (·.1)
  | 0 => rfl
  | i + 1 => by
    rw [dealN]
    cases l[i]? with
    | none => exact deal_keys2 h0 h l i
    | some p =>
      dsimp only
      rw [give_keys2 (by rw [deal_keys2 h0 h l i]; exact h _ (nth_mem h0 i)), deal_keys2 h0 h l i]
theorem rowOf_mem {D : List (Str × Rows1)} (hn : (D.map (·.1)).Nodup) {x : Str} {g : Rows1} (h : (x, g) ∈ D) : rowOf D x = g := by
  induction D with
  | nil => cases h
  | cons c r ih =>
    obtain ⟨u, y⟩ := c
    have hn' := List.nodup_cons.mp hn
    rcases List.mem_cons.mp h with h | h
    · cases h; rw [rowOf, if_pos rfl]
    · rw [rowOf, if_neg (fun e : u = x => hn'.1 (e ▸ List.mem_map_of_mem (f := (·.1)) h)), ih hn'.2 h]
theorem deal_tops {order : List Str} {D₀ : List (Str × Rows1)} {l : List (Str × Int)} (h0 : ∀ x, rowOf D₀ x = []) : ∀ i x, ∀ q ∈ rowOf (dealN order l D₀ i) x, q.1 ∈ l.map (·.1)
  | 0, x, q, hq => by rw [dealN, h0] at hq; cases hq
  | i + 1, x, q, hq => by
    rw [dealN] at hq
    cases hp : l[i]? with
    | none => rw [hp] at hq; exact deal_tops h0 i x q hq
    | some p =>
      rw [hp] at hq
      dsimp only at hq
      rw [rowOf_give] at hq
      split at hq
      · have h1 : q.1 ∈ (addTo (rowOf (dealN order l D₀ i) (nthOf order i)) p.1 p.2).map (·.1) := List.mem_map_of_mem hq
        rw [add_keys] at h1
        have h2 : q.1 ∈ (rowOf (dealN order l D₀ i) (nthOf order i)).map (·.1) ∨ q.1 = p.1 := by
          split at h1
          · exact .inl h1
          · exact (List.mem_append.mp h1).imp id List.mem_singleton.mp
        rcases h2 with h2 | h2
        · obtain ⟨z, hz, e⟩ := List.mem_map.mp h2
          exact e ▸ deal_tops h0 i _ z hz
        · exact List.mem_map.mpr ⟨p, List.mem_of_getElem? hp, h2.symm⟩
      · exact deal_tops h0 i x q hq
theorem sum_cast : ∀ l : List Nat, (l.map fun n : Nat => (n : Int)).sum = ((l.sum : Nat) : Int)
  | [] => rfl
  | a :: l => by rw [List.map_cons, List.sum_cons, List.sum_cons, sum_cast l]; omega
theorem le_sum : ∀ {l : List Nat} {a : Nat}, a ∈ l → a ≤ l.sum
  | b :: l, a, h => by
    rw [List.sum_cons]
    rcases List.mem_cons.mp h with h | h
    · omega
    · have := le_sum h; omega
-- C3
section
variable {prog : Program} {w : World} {A : Around} {s : Shared} {env : Env} {h₀ : Heap} {L : Addr} {m : Str → Option Value} {elt : PySem.Expr} {x x₂ : Str} {scope : Scope} {cl : List (Str × Addr)} {S : Led → Prop} {P : Nat → Value → Prop} {Fin : List Value → Led → Prop} {tl₀ : Led}
theorem compP_J {n : Nat} (J : Nat → List Value → Led → Prop) (hj : J 0 [] tl₀)
    (turn : ∀ i v ys tl, i < n → P i v → J i ys tl → ∃ (t : Addr) (ot : Obj) (v₁ v₂ : Value) (nt : Nat), v = .ref t ∧ (t, ot) ∈ tl ∧ ot.cls = .type "tuple" ∧ ot.data = .seq #[v₁, v₂] nt ∧
      ∀ I oI C oC D m₂ h tk (E' : Value → Shared → Prop), LCg.NsObj oC m₂ → m₂ x = some v₁ → m₂ x₂ = some v₂ → Fr h₀ L h m → News h₀ L h ((I, oI) :: (C, oC) :: (D, LCg.lst ys) :: tl) → LCg.Off3 I C D tl → ((@Ne Nat I C) ∧ (@Ne Nat I D) ∧ (@Ne Nat C D)) →
      wpAny (model prog w) A (eval elt (compEnvC scope cl C env)) (LCg.CompEnd h₀ L m { s with heap := h, toks := tk } I oI C oC D (LCg.lst ys) S (fun y news' => J (i + 1) (ys ++ [y]) news')) E' { s with heap := h, toks := tk })
    (fin : ∀ ys tl, J n ys tl → Fin ys tl) : LCp.CompRestP prog w A h₀ L m env elt x x₂ scope cl s S P Fin n 0 [] tl₀ := by
  have key : ∀ (j i : Nat) (ys : List Value) (tl : Led), i + j = n → J i ys tl → LCp.CompRestP prog w A h₀ L m env elt x x₂ scope cl s S P Fin j i ys tl := by
    intro j
    induction j with
    | zero =>
      intro i ys tl hi hj₁
      have e : i = n := hi
      subst e
      exact LCp.CompRestP.zero (fin ys tl hj₁)
    | succ j ih =>
      intro i ys tl hi hj₁
      refine LCp.CompRestP.succ fun v hv => ?_
      obtain ⟨t, ot, v₁, v₂, nt, e, mt, ct, dt, go⟩ := turn i v ys tl (by omega) hv hj₁
      refine ⟨t, ot, v₁, v₂, nt, e, mt, ct, dt, fun I oI C oC D m₂ h tk E' hC h1 h2 F N off ne => ?_⟩
      refine wpAny_mono (go I oI C oC D m₂ h tk E' hC h1 h2 F N off ne) (fun y s₂ hq => ?_) fun _ _ e => e
      obtain ⟨h', tk', nw, e, F', N', off', hS, hj'⟩ := hq
      exact ⟨h', tk', _, e, F', N', off', hS, ih (i + 1) _ nw (by omega) hj'⟩
  exact key n 0 [] tl₀ (Nat.zero_add n) hj
end
-- P14
theorem ok_rows {rows : Rows1} (h : ∀ r ∈ rows, PyData.strOk r.1 = true) : ∀ d ∈ rows.map rowD, kqdOk 8 d = true := fun d hd => by
  obtain ⟨r, hr, rfl⟩ := List.mem_map.mp hd
  simp [kqdOk, rowD, h r hr]
theorem ok_pairs {rows : Rows1} (h : ∀ r ∈ rows, PyData.strOk r.1 = true) : ∀ d ∈ rows.flatMap (fun r => pairT r.1 r.2), kqdOk 8 d = true := fun d hd => by
  obtain ⟨r, hr, hd⟩ := List.mem_flatMap.mp hd
  obtain ⟨n, hn, rfl⟩ := List.mem_map.mp hd
  simp [kqdOk, h r hr]
/-- one.version != 0 or .. or rows != due: not so -/
theorem b2 {w : World} {mean : ExcName → Option Value} {mg mb : Str → Option Value} {fa : Addr} {cd : Value} {h₀ : Heap} {m : Str → Option Value} {s : Shared} {Q : Flow → Shared → Prop} (C : LCtx w mean mg mb h₀) (F : Fr h₀ h₀.objs.size s.heap m) {news : Led} {x dx l Du : Addr} {vs ws : List Value} {n c : Nat} {rows : Rows1} {t1 t2 t3 t4 t5 : Tok} (N : News h₀ h₀.objs.size s.heap news)
  (hx : (x, instObj 66 dx) ∈ news) (hdx : (dx, asgD w l t1 t2 t3 t4 t5) ∈ news) (hl : (l, listOf vs.toArray n) ∈ news) (hr : DatAll news vs (rows.map rowD))
  (mDu : (Du, listOf ws.toArray c) ∈ news) (hdu : DatAll news ws (rows.map rowD)) (hrl : rows.length ≤ 30) (hr2 : ∀ r ∈ rows, r.2.length ≤ 30) (hok : ∀ r ∈ rows, PyData.strOk r.1 = true)
  (mo : m (Str.ofString "one") = some (.ref x)) (md : m (Str.ofString "due") = some (.ref Du))
  (h : ∀ tl h' tk', (∀ p ∈ news, p ∈ tl) → Fr h₀ h₀.objs.size h' m → News h₀ h₀.objs.size h' tl → Q .next { s with heap := h', toks := tk' }) :
  lawWp w h₀ fa cd (stAt (forBody (stAt lawBody 17)) 2) Q s := by
  have hfill : (fun (_ : OpenLaw) (_ : Params → Frag) => True) PySem.Challenge.rw_je0014_01 hd.heap_1 := by k_fill; trivial
  clear hfill
  obtain ⟨B, X, T, GL⟩ := C
  have hok1 := ok_rows hok
  conv in (stAt (forBody _) _) => whnf
  (repeat' ((fail_if_success (first | (with_reducible show wpAny _ _ (exec (Stmt.While _ _ _ _) _) _ _ _) | (with_reducible show wpAny _ _ (exec (Stmt.For _ _ _ _ _) _) _ _ _) | (with_reducible show wpAny _ _ (pyIter _) _ _ _) | (with_reducible show LCg.CompSrc _ _ _ _ _ _ _ _ _ _ _ _ _ _) | (with_reducible show LCt.CompSrcT _ _ _ _ _ _ _ _ _ _ _ _ _ _ _) | (with_reducible show SrcLP _ _ _ _ _ _ _ _ _ _ _ _ _ _ _) | (with_reducible show DSrc _ _ _ _ _ _ _ _ _ _ _ _ _ _ _) | (with_reducible show Src2 _ _ _ _ _ _ _))); (first | (k_unfold; (try dsimp only)) | (k_unmd; k_unfold; (try dsimp only)) | (k_end; wrow_close) | (k_here; (with_reducible show wpAny _ _ (eval (PySem.Expr.Name _ _) _) _ _ _); k_dflt (refine' nameX_L ?jF ?jv ?_ ?ja ?jb; (case ja => rfl); (case jb => rfl); (case jF => k_asm); (case jv => with_reducible assumption))) | (k_here; (with_reducible show wpAny _ _ (eval (PySem.Expr.ListComp _ [⟨PySem.Expr.Tuple _ _ _, _, _, _⟩] _ _) _) _ _ _); k_dflt (refine LCp.ListComp_P (F₀ := by k_asm) (by with_unfolding_all rfl) (by decide) (by rfl) (by decide) (by rfl) (by rfl) (by decide) ?_)) | walk1 | (dsimp only; walk1) | (leave1; (try dsimp only)))))
  have hwa : vs.toArray.size = vs.length := List.size_toArray ..
  have hvl : vs.length = rows.length := by have := hr.length; rwa [List.length_map] at this
  refine LCp.SrcLP.ledger (its := vs.toArray) (k := n) rfl F N hl (by rw [hwa, sizeLine_eq]; omega) ?_
  intro g9
  rw [hwa, hvl]
  refine compP_J (fun i ys tl => (∀ p ∈ news, p ∈ tl) ∧ DatAll tl ys ((rows.take i).map rowD)) ⟨fun _ h => h, by rw [List.take_zero]; exact .nil⟩ ?_ ?_
  · rintro i v ys tl hi hv ⟨hn, hys⟩
    obtain ⟨v', hv', hdr⟩ := hr.get (k := i) (by rw [List.length_map]; exact hi)
    have hv2 : vs[i]? = some v := by simpa using hv
    rw [hv2] at hv'
    cases hv'
    rw [List.getElem_map] at hdr
    obtain ⟨T1, nT, t, l1, us, kl, rfl, hT, hl1, hi1⟩ := dat_row hdr
    have hrx : rows[i]? = some rows[i] := List.getElem?_eq_getElem hi
    have h30 := hr2 _ (List.getElem_mem hi)
    generalize rows[i] = r at *
    refine ⟨T1, _, _, _, _, rfl, hn _ hT, rfl, rfl, ?_⟩
    intro I oI C oC D m₂ h2 tk2 E' hC h1 h3 F2 N2 off ne
    have ql := hn _ hl1
    have hul := hi1.length
    clear h F N mo md
    try k_fold
    (repeat' ((fail_if_success (first | (with_reducible show wpAny _ _ (exec (Stmt.While _ _ _ _) _) _ _ _) | (with_reducible show wpAny _ _ (exec (Stmt.For _ _ _ _ _) _) _ _ _) | (with_reducible show wpAny _ _ (pyIter _) _ _ _) | (with_reducible show LCg.CompSrc _ _ _ _ _ _ _ _ _ _ _ _ _ _) | (with_reducible show LCt.CompSrcT _ _ _ _ _ _ _ _ _ _ _ _ _ _ _) | (with_reducible show SrcLP _ _ _ _ _ _ _ _ _ _ _ _ _ _ _) | (with_reducible show DSrc _ _ _ _ _ _ _ _ _ _ _ _ _ _ _) | (with_reducible show Src2 _ _ _ _ _ _ _))); (first | (k_unfold; (try dsimp only)) | (k_unmd; k_unfold; (try dsimp only)) | (k_end; wrow_close) | (k_here; (with_reducible show wpAny _ _ (eval (PySem.Expr.Name _ _) _) _ _ _); k_dflt (refine' nameX_L ?jF ?jv ?_ ?ja ?jb; (case ja => rfl); (case jb => rfl); (case jF => k_asm); (case jv => with_reducible assumption))) | (k_here; (with_reducible show wpAny _ _ (call (Value.type "list") [Value.ref _]) _ _ _); k_dflt (refine' list_copyK ?jF ?jN ?jl ?_ ?jz; (case jF => k_asm); (case jN => k_asm); (case jl => exact News.isList (by k_asm) (by k_mem)); (case jz => (rw [List.size_toArray, sizeLine_eq]; omega))); intro D7 c7 h7 F' N' l7) | walk1 | (dsimp only; walk1) | (leave1; (try dsimp only)))))
    rename_i z6 z5 z4 z3 z2 z1
    have lD : ∀ p ∈ (I, oI) :: (C, oC) :: (D, LCg.lst ys) :: tl, p.1 ≠ z5 := fun p hp => Nat.ne_of_lt (z1 p (.tail _ hp))
    have l7' : ∀ p ∈ (I, oI) :: (C, oC) :: (D, LCg.lst ys) :: tl, p.1 ≠ D7 := fun p hp => Nat.ne_of_lt (l7 p hp)
    refine cend (E₁ := []) (E' := []) (new := [(z5, _), (D7, _)]) z3 z2 (by ((try simp only [List.cons_append, List.nil_append, List.append_nil]); (repeat' (first | exact List.forall_mem_nil _ | refine' List.forall_mem_cons.mpr ⟨by (first | k_mem | (repeat' (first | assumption | refine' List.Mem.tail _ ?_))), ?_⟩ | (intro p9 hp9; (repeat' (first | exact hp9 | refine' List.Mem.tail _ ?_))))))) off rfl ?_ (.inr ⟨_, .tail _ (.tail _ (hn _ hl)), rfl, _, rfl⟩) ⟨fun p hp => .tail _ (.tail _ (hn p hp)), ?_⟩
    · exact List.forall_mem_cons.mpr ⟨⟨(lD _ (.head _)).symm, (lD _ (.tail _ (.head _))).symm, (lD _ (.tail _ (.tail _ (.head _)))).symm⟩, List.forall_mem_cons.mpr ⟨⟨(l7' _ (.head _)).symm, (l7' _ (.tail _ (.head _))).symm, (l7' _ (.tail _ (.tail _ (.head _)))).symm⟩, List.forall_mem_nil _⟩⟩
    · rw [List.take_add_one, hrx, List.map_append]
      refine (hys.mono fun p hp => .tail _ (.tail _ hp)).append (.one ?_)
      exact .tuple (vs := [_, _]) (.head _) (.cons (.str _ _) (.cons (.list (.tail _ (.head _)) (ints_dat hi1)) .nil))
  · rintro ys tl ⟨hn, hys⟩
    rw [List.take_length] at hys
    unfold LCg.FinE
    intro D8 h8 tk8 F9 N9 o8
    have o9 := off1_mem o8
    (repeat' ((fail_if_success (first | (with_reducible show wpAny _ _ (exec (Stmt.While _ _ _ _) _) _ _ _) | (with_reducible show wpAny _ _ (exec (Stmt.For _ _ _ _ _) _) _ _ _) | (with_reducible show wpAny _ _ (pyIter _) _ _ _) | (with_reducible show wpAny _ _ (compareOp _ _ _) _ _ _) | (with_reducible show LCg.CompSrc _ _ _ _ _ _ _ _ _ _ _ _ _ _) | (with_reducible show LCt.CompSrcT _ _ _ _ _ _ _ _ _ _ _ _ _ _ _) | (with_reducible show SrcLP _ _ _ _ _ _ _ _ _ _ _ _ _ _ _) | (with_reducible show DSrc _ _ _ _ _ _ _ _ _ _ _ _ _ _ _) | (with_reducible show Src2 _ _ _ _ _ _ _))); (first | (k_unfold; (try dsimp only)) | (k_unmd; k_unfold; (try dsimp only)) | (k_end; wrow_close) | (k_here; (with_reducible show wpAny _ _ (eval (PySem.Expr.Name _ _) _) _ _ _); k_dflt (refine' nameX_L ?jF ?jv ?_ ?ja ?jb; (case ja => rfl); (case jb => rfl); (case jF => k_asm); (case jv => with_reducible assumption))) | walk1 | (dsimp only; walk1) | (leave1; (try dsimp only)))))
    refine ne_dats (i := _) N9 (.head _) (.tail _ (hn _ mDu)) hys (fun p hp => .tail _ hp) hdu (fun p hp => .tail _ (hn p hp)) hok1 (by ktr_units) ?_
    (repeat' ((fail_if_success (first | (with_reducible show wpAny _ _ (exec (Stmt.While _ _ _ _) _) _ _ _) | (with_reducible show wpAny _ _ (exec (Stmt.For _ _ _ _ _) _) _ _ _) | (with_reducible show wpAny _ _ (pyIter _) _ _ _) | (with_reducible show LCg.CompSrc _ _ _ _ _ _ _ _ _ _ _ _ _ _) | (with_reducible show LCt.CompSrcT _ _ _ _ _ _ _ _ _ _ _ _ _ _ _) | (with_reducible show SrcLP _ _ _ _ _ _ _ _ _ _ _ _ _ _ _) | (with_reducible show DSrc _ _ _ _ _ _ _ _ _ _ _ _ _ _ _) | (with_reducible show Src2 _ _ _ _ _ _ _))); (first | (k_unfold; (try dsimp only)) | (k_unmd; k_unfold; (try dsimp only)) | (k_end; wrow_close) | walk1 | (dsimp only; walk1) | (leave1; (try dsimp only)))))
    exact h _ _ _ (fun p hp => .tail _ (hn p hp)) F9 N9
/-- one.partitions() != [..]: not so -/
theorem b3 {w : World} {mean : ExcName → Option Value} {mg mb : Str → Option Value} {fa : Addr} {cd : Value} {h₀ : Heap} {m : Str → Option Value} {s : Shared} {Q : Flow → Shared → Prop} (C : LCtx w mean mg mb h₀) (F : Fr h₀ h₀.objs.size s.heap m) {news : Led} {x dx l Du : Addr} {vs ws : List Value} {n c : Nat} {rows : Rows1} {t1 t2 t3 t4 t5 : Tok} (N : News h₀ h₀.objs.size s.heap news)
  (hx : (x, instObj 66 dx) ∈ news) (hdx : (dx, asgD w l t1 t2 t3 t4 t5) ∈ news) (hl : (l, listOf vs.toArray n) ∈ news) (hr : DatAll news vs (rows.map rowD))
  (mDu : (Du, listOf ws.toArray c) ∈ news) (hdu : DatAll news ws (rows.map rowD)) (hrl : rows.length ≤ 30) (hr2 : ∀ r ∈ rows, r.2.length ≤ 30) (hok : ∀ r ∈ rows, PyData.strOk r.1 = true)
  (mo : m (Str.ofString "one") = some (.ref x)) (md : m (Str.ofString "due") = some (.ref Du))
  (h : ∀ tl h' tk', (∀ p ∈ news, p ∈ tl) → Fr h₀ h₀.objs.size h' m → News h₀ h₀.objs.size h' tl → Q .next { s with heap := h', toks := tk' }) :
  lawWp w h₀ fa cd (stAt (forBody (stAt lawBody 17)) 3) Q s := by
  have hfill : (fun (_ : OpenLaw) (_ : Params → Frag) => True) PySem.Challenge.rw_je0014_01 hd.heap_1 := by k_fill; trivial
  clear hfill
  obtain ⟨B, X, T, GL⟩ := C
  have hok1 := ok_pairs hok
  conv in (stAt (forBody _) _) => whnf
  (repeat' ((fail_if_success (first | (with_reducible show wpAny _ _ (exec (Stmt.While _ _ _ _) _) _ _ _) | (with_reducible show wpAny _ _ (exec (Stmt.For _ _ _ _ _) _) _ _ _) | (with_reducible show wpAny _ _ (pyIter _) _ _ _) | (with_reducible show wpAny _ _ (call _ _) _ _ _) | (with_reducible show wpAny _ _ (callWith _ _ _) _ _ _) | (with_reducible show LCg.CompSrc _ _ _ _ _ _ _ _ _ _ _ _ _ _) | (with_reducible show LCt.CompSrcT _ _ _ _ _ _ _ _ _ _ _ _ _ _ _) | (with_reducible show SrcLP _ _ _ _ _ _ _ _ _ _ _ _ _ _ _) | (with_reducible show DSrc _ _ _ _ _ _ _ _ _ _ _ _ _ _ _) | (with_reducible show Src2 _ _ _ _ _ _ _))); (first | (k_unfold; (try dsimp only)) | (k_unmd; k_unfold; (try dsimp only)) | (k_end; wrow_close) | (k_here; (with_reducible show wpAny _ _ (eval (PySem.Expr.Name _ _) _) _ _ _); k_dflt (refine' nameX_L ?jF ?jv ?_ ?ja ?jb; (case ja => rfl); (case jb => rfl); (case jF => k_asm); (case jv => with_reducible assumption))) | walk1 | (dsimp only; walk1) | (leave1; (try dsimp only)))))
  refine parts_spec B F X T rfl N hx hdx hl hr hrl hr2 (by ktr_room) (by ktr_units) ?_
  intro D ys nw h4 tk4 l41 l42 hd4 F4 N4
  clear F N
  have hdu4 := hdu.mono l41
  have qDu := l41 _ mDu
  try dsimp only
  (repeat' ((fail_if_success (first | (with_reducible show wpAny _ _ (exec (Stmt.While _ _ _ _) _) _ _ _) | (with_reducible show wpAny _ _ (exec (Stmt.For _ _ _ _ _) _) _ _ _) | (with_reducible show wpAny _ _ (pyIter _) _ _ _) | (with_reducible show LCg.CompSrc _ _ _ _ _ _ _ _ _ _ _ _ _ _) | (with_reducible show LCt.CompSrcT _ _ _ _ _ _ _ _ _ _ _ _ _ _ _) | (with_reducible show SrcLP _ _ _ _ _ _ _ _ _ _ _ _ _ _ _) | (with_reducible show DSrc _ _ _ _ _ _ _ _ _ _ _ _ _ _ _) | (with_reducible show Src2 _ _ _ _ _ _ _))); (first | (k_unfold; (try dsimp only)) | (k_unmd; k_unfold; (try dsimp only)) | (k_end; wrow_close) | (k_here; (with_reducible show wpAny _ _ (eval (PySem.Expr.Name _ _) _) _ _ _); k_dflt (refine' nameX_L ?jF ?jv ?_ ?ja ?jb; (case ja => rfl); (case jb => rfl); (case jF => k_asm); (case jv => with_reducible assumption))) | (k_here; (with_reducible show wpAny _ _ (eval (PySem.Expr.ListComp _ [_, _] _ _) _) _ _ _); k_dflt (refine comp2 (F₀ := by k_asm) (by with_unfolding_all rfl) (by decide) (by rfl) (by decide) (by rfl) (by rfl) (by rfl) (by decide) (by decide) (by decide) (by decide) (by decide) (by intro _ _; rfl) (by intro _; rfl) ?_)) | walk1 | (dsimp only; walk1) | (leave1; (try dsimp only)))))
  refine ⟨Du, ws, c, rows, _, rfl, rfl, F4, N4, .tail _ qDu, hdu4.mono fun p hp => .tail _ hp, hrl, hr2, ?_⟩
  intro D5 h5 tk5 ys5 nw5 F5 N5 o5 hs5 hd5
  refine ne_dats (i := _) (j := _) N5 (.tail _ (hs5 _ (.head _))) (.head _) hd4 (fun p hp => .tail _ (hs5 _ (.tail _ hp))) hd5 (fun p hp => .tail _ hp) hok1 (by ktr_units) ?_
  (repeat' ((fail_if_success (first | (with_reducible show wpAny _ _ (exec (Stmt.While _ _ _ _) _) _ _ _) | (with_reducible show wpAny _ _ (exec (Stmt.For _ _ _ _ _) _) _ _ _) | (with_reducible show wpAny _ _ (pyIter _) _ _ _) | (with_reducible show LCg.CompSrc _ _ _ _ _ _ _ _ _ _ _ _ _ _) | (with_reducible show LCt.CompSrcT _ _ _ _ _ _ _ _ _ _ _ _ _ _ _) | (with_reducible show SrcLP _ _ _ _ _ _ _ _ _ _ _ _ _ _ _) | (with_reducible show DSrc _ _ _ _ _ _ _ _ _ _ _ _ _ _ _) | (with_reducible show Src2 _ _ _ _ _ _ _))); (first | (k_unfold; (try dsimp only)) | (k_unmd; k_unfold; (try dsimp only)) | (k_end; wrow_close) | walk1 | (dsimp only; walk1) | (leave1; (try dsimp only)))))
  exact h _ _ _ (fun p hp => .tail _ (hs5 _ (.tail _ (l41 _ hp)))) F5 N5
theorem pairs_len (rows : Rows1) : (rows.flatMap fun r => pairT r.1 r.2).length = szOf rows := by
  induction rows with
  | nil => rfl
  | cons r rs ih => rw [List.flatMap_cons, List.length_append, ih, pairT, List.length_map]; rfl
theorem szOf_le (rows : Rows1) (h : ∀ r ∈ rows, r.2.length ≤ 30) : szOf rows ≤ 30 * rows.length := by
  induction rows with
  | nil => exact Nat.zero_le _
  | cons r rs ih =>
    have h1 := h r (.head _)
    have h2 := ih fun q hq => h q (.tail _ hq)
    have h3 : szOf (r :: rs) = r.2.length + szOf rs := rfl
    rw [h3, List.length_cons]; omega
/-- sizes.append(len(one.partitions())) -/
theorem b4 {w : World} {mean : ExcName → Option Value} {mg mb : Str → Option Value} {fa : Addr} {cd : Value} {h₀ : Heap} {m : Str → Option Value} {s : Shared} {Q : Flow → Shared → Prop} (C : LCtx w mean mg mb h₀) (F : Fr h₀ h₀.objs.size s.heap m) {news : Led} {x dx l Sz : Addr} {vs zs : List Value} {n c : Nat} {rows : Rows1} {t1 t2 t3 t4 t5 : Tok} (N : News h₀ h₀.objs.size s.heap ((Sz, listOf zs.toArray c) :: news))
  (hx : (x, instObj 66 dx) ∈ news) (hdx : (dx, asgD w l t1 t2 t3 t4 t5) ∈ news) (hl : (l, listOf vs.toArray n) ∈ news) (hr : DatAll news vs (rows.map rowD))
  (hrl : rows.length ≤ 30) (hr2 : ∀ r ∈ rows, r.2.length ≤ 30) (hzl : zs.length ≤ 30) (hne : ∀ p ∈ news, p.1 ≠ Sz)
  (mo : m (Str.ofString "one") = some (.ref x)) (ms : m (Str.ofString "sizes") = some (.ref Sz))
  (h : ∀ h' tk' t, Fr h₀ h₀.objs.size h' m → News h₀ h₀.objs.size h' ((Sz, listOf (zs ++ [Value.int (szOf rows) t]).toArray (c + 1)) :: news) → Q .next { s with heap := h', toks := tk' }) :
  lawWp w h₀ fa cd (stAt (forBody (stAt lawBody 17)) 4) Q s := by
  have hfill : (fun (_ : OpenLaw) (_ : Params → Frag) => True) PySem.Challenge.rw_je0014_01 hd.heap_1 := by k_fill; trivial
  clear hfill
  obtain ⟨B, X, T, GL⟩ := C
  conv in (stAt (forBody _) _) => whnf
  (repeat' ((fail_if_success (first | (with_reducible show wpAny _ _ (exec (Stmt.While _ _ _ _) _) _ _ _) | (with_reducible show wpAny _ _ (exec (Stmt.For _ _ _ _ _) _) _ _ _) | (with_reducible show wpAny _ _ (pyIter _) _ _ _) | (with_reducible show wpAny _ _ (call _ _) _ _ _) | (with_reducible show wpAny _ _ (callWith _ _ _) _ _ _) | (with_reducible show LCg.CompSrc _ _ _ _ _ _ _ _ _ _ _ _ _ _) | (with_reducible show LCt.CompSrcT _ _ _ _ _ _ _ _ _ _ _ _ _ _ _) | (with_reducible show SrcLP _ _ _ _ _ _ _ _ _ _ _ _ _ _ _) | (with_reducible show DSrc _ _ _ _ _ _ _ _ _ _ _ _ _ _ _) | (with_reducible show Src2 _ _ _ _ _ _ _))); (first | (k_unfold; (try dsimp only)) | (k_unmd; k_unfold; (try dsimp only)) | (k_end; wrow_close) | (k_here; (with_reducible show wpAny _ _ (eval (PySem.Expr.Name _ _) _) _ _ _); k_dflt (refine' nameX_L ?jF ?jv ?_ ?ja ?jb; (case ja => rfl); (case jb => rfl); (case jF => k_asm); (case jv => with_reducible assumption))) | walk1 | (dsimp only; walk1) | (leave1; (try dsimp only)))))
  refine parts_spec B F X T rfl N (.tail _ hx) (.tail _ hdx) (.tail _ hl) (hr.mono fun p hp => .tail _ hp) hrl hr2 (by ktr_room) (by ktr_units) ?_
  intro D ys nw h4 tk4 l41 l42 hd4 F4 N4
  clear F N
  have hyl : ys.length = szOf rows := by rw [hd4.length, pairs_len]
  have hb : szOf rows ≤ 900 := by
    have h1 := szOf_le rows hr2
    exact Nat.le_trans h1 (Nat.mul_le_mul_left 30 hrl)
  try dsimp only
  (repeat' ((fail_if_success (first | (with_reducible show wpAny _ _ (exec (Stmt.While _ _ _ _) _) _ _ _) | (with_reducible show wpAny _ _ (exec (Stmt.For _ _ _ _ _) _) _ _ _) | (with_reducible show wpAny _ _ (pyIter _) _ _ _) | (with_reducible show wpAny _ _ (call _ _) _ _ _) | (with_reducible show LCg.CompSrc _ _ _ _ _ _ _ _ _ _ _ _ _ _) | (with_reducible show LCt.CompSrcT _ _ _ _ _ _ _ _ _ _ _ _ _ _ _) | (with_reducible show SrcLP _ _ _ _ _ _ _ _ _ _ _ _ _ _ _) | (with_reducible show DSrc _ _ _ _ _ _ _ _ _ _ _ _ _ _ _) | (with_reducible show Src2 _ _ _ _ _ _ _))); (first | (k_unfold; (try dsimp only)) | (k_unmd; k_unfold; (try dsimp only)) | (k_end; wrow_close) | walk1 | (dsimp only; walk1) | (leave1; (try dsimp only)))))
  refine kst_len N4 (.head _) rfl (by rw [hyl]; omega) ?_
  rw [hyl]
  have N5 : News h₀ h₀.objs.size h4 ((Sz, listOf zs.toArray c) :: news) := fun p hp => N4 p (.tail _ (l41 p hp))
  (repeat' ((fail_if_success (first | (with_reducible show wpAny _ _ (exec (Stmt.While _ _ _ _) _) _ _ _) | (with_reducible show wpAny _ _ (exec (Stmt.For _ _ _ _ _) _) _ _ _) | (with_reducible show wpAny _ _ (pyIter _) _ _ _) | (with_reducible show wpAny _ _ (call _ _) _ _ _) | (with_reducible show LCg.CompSrc _ _ _ _ _ _ _ _ _ _ _ _ _ _) | (with_reducible show LCt.CompSrcT _ _ _ _ _ _ _ _ _ _ _ _ _ _ _) | (with_reducible show SrcLP _ _ _ _ _ _ _ _ _ _ _ _ _ _ _) | (with_reducible show DSrc _ _ _ _ _ _ _ _ _ _ _ _ _ _ _) | (with_reducible show Src2 _ _ _ _ _ _ _))); (first | (k_unfold; (try dsimp only)) | (k_unmd; k_unfold; (try dsimp only)) | (k_end; wrow_close) | walk1 | (dsimp only; walk1) | (leave1; (try dsimp only)))))
  refine append_L F4 N5 (.head hne) (by omega) ?_
  intro h6 F6 N6
  exact h _ _ _ F6 N6
-- P15
theorem numsOf_len {n : Nat} : ∀ {g : Rows1} (_ : ∀ q ∈ g, q.2.length ≤ n) (t : Str), (numsOf g t).length ≤ n
  | [], _, t => Nat.zero_le _
  | (k, l) :: g, h, t => by
    rw [numsOf]
    split
    · exact h (k, l) (.head _)
    · exact numsOf_len (fun q hq => h q (.tail _ hq)) t
theorem rowsOf_bound {g rows : Rows1} {n : Nat} (h : RowsOf g rows) (h1 : g.length ≤ n) (h2 : ∀ q ∈ g, q.2.length ≤ n) : rows.length ≤ n ∧ ∀ r ∈ rows, r.2.length ≤ n := by
  obtain ⟨ks, hp, -, rfl⟩ := h
  refine ⟨by rw [List.length_map, hp.length_eq, List.length_map]; exact h1, fun r hr => ?_⟩
  obtain ⟨t, -, rfl⟩ := List.mem_map.mp hr
  exact numsOf_len h2 t
theorem rowsOf_ok {g rows : Rows1} (h : RowsOf g rows) (h2 : ∀ q ∈ g, PyData.strOk q.1 = true) : ∀ r ∈ rows, PyData.strOk r.1 = true := by
  obtain ⟨ks, hp, -, rfl⟩ := h
  intro r hr
  obtain ⟨t, ht, rfl⟩ := List.mem_map.mp hr
  obtain ⟨q, hq, e⟩ := List.mem_map.mp (hp.mem_iff.mp ht)
  exact e ▸ h2 q hq
theorem absR_bound {ls : List (Str × Addr × List Int)} {n : Nat} (h : ls.length ≤ n ∧ ∀ q ∈ ls, q.2.2.length ≤ n) : (absR ls).length ≤ n ∧ ∀ q ∈ absR ls, q.2.length ≤ n := by
  refine ⟨by rw [absR, List.length_map]; exact h.1, fun q hq => ?_⟩
  obtain ⟨z, hz, rfl⟩ := List.mem_map.mp hq
  exact h.2 z hz
structure J17 (c6 Sz : Addr) (cst : Led) (m₀ : Str → Option Value) (nms : List Str) (G : Str → Rows1) (i : Nat) (m : Str → Option Value) (nx : Led) : Prop where
  cell : ∃ o x0, (c6, o) ∈ nx ∧ o.data = .cell x0
  siz : ∃ zs c, (Sz, listOf zs.toArray c) ∈ nx ∧ IntsAre zs ((nms.take i).map fun x => (szOf (G x) : Int))
  con : ∀ p ∈ cst, p ∈ nx
  map : ∀ y, y ≠ Str.ofString "one" → y ≠ Str.ofString "due" → m y = m₀ y
theorem fb17_len : (forBody (stAt lawBody 17)).length = 5 := by kernel_rfl
/-- every name's rows are as they are due -/
theorem p17 {w : World} {mean : ExcName → Option Value} {mg mb : Str → Option Value} {fa : Addr} {cd : Value} {h₀ : Heap} {m : Str → Option Value} {s : Shared} {Q : Flow → Shared → Prop} (C : LCtx w mean mg mb h₀) (F : Fr h₀ h₀.objs.size s.heap m) {nx cst : Led} {o3 o7 oR : Obj} {A R Sz nm : Addr} {nv : List Value} {nms : List Str} {kvs : List (Str × Value)} {T : List DRow} {G : Str → Rows1}
  (N : News h₀ h₀.objs.size s.heap nx) (J : J17 (h₀.objs.size + 1 + 1 + 1 + 1 + 1 + 1) Sz cst m nms G 0 m nx) (hcc : ∀ p ∈ cst, p.1 ≠ (h₀.objs.size + 1 + 1 + 1 + 1 + 1 + 1) ∧ p.1 ≠ Sz) (hcS : (@Ne Nat (h₀.objs.size + 1 + 1 + 1 + 1 + 1 + 1) Sz))
  (m3 : ((h₀.objs.size + 1 + 1 + 1), o3) ∈ cst) (d3 : o3.data = .cell (some (.ref nm))) (mn : (nm, listOf nv.toArray 0) ∈ cst) (hnv : StrsAre nv nms) (hnl : nms.length ≤ 5)
  (m7 : ((h₀.objs.size + 1 + 1 + 1 + 1 + 1 + 1 + 1), o7) ∈ cst) (d7 : o7.data = .cell (some (.ref A))) (H : HoldT w cst A T) (hB : BoundT T 30) (hTk : T.map (·.1) = nms) (hTG : ∀ r ∈ T, absR r.2.2 = G r.1) (hok : ∀ x ∈ nms, ∀ q ∈ G x, PyData.strOk q.1 = true) (hGn : ∀ x ∈ nms, ((G x).map (·.1)).Nodup)
  (mR : (R, oR) ∈ cst) (hR : oR.IsDictOf (PySem.strKind PR w) kvs) (hRv : ∀ x ∈ nms, ∃ v rows, valueAt kvs x = some v ∧ AsgE w cst v rows ∧ RowsOf (G x) rows)
  (mt : m (Str.ofString "told") = some (.ref R)) (ms : m (Str.ofString "sizes") = some (.ref Sz))
  (h : ∀ nx' zs c m' h' tk', (Sz, listOf zs.toArray c) ∈ nx' → IntsAre zs (nms.map fun x => (szOf (G x) : Int)) → (∀ y, y ≠ Str.ofString "one" → y ≠ Str.ofString "due" → m' y = m y) → Fr h₀ h₀.objs.size h' m' → News h₀ h₀.objs.size h' nx' → Q .next { s with heap := h', toks := tk' }) :
  lawWp w h₀ fa cd (stAt lawBody 17) Q s := by
  have C' := C
  have hfill : (fun (_ : OpenLaw) (_ : Params → Frag) => True) PySem.Challenge.rw_je0014_01 hd.heap_1 := by k_fill; trivial
  clear hfill
  obtain ⟨B, X, T, GL⟩ := C
  rename_i T9
  have hnl2 := hnv.length
  refine for_cell (x := Str.ofString "name") (l := nm) (c := (h₀.objs.size + 1 + 1 + 1 + 1 + 1 + 1)) (vs := nv) (nn := 0) (J17 (h₀.objs.size + 1 + 1 + 1 + 1 + 1 + 1) Sz cst m nms G) (by unfold IsFor; kernel_rfl) (by kernel_rfl) (by kernel_rfl) (by kernel_rfl) (by intro _; rfl) ?_ rfl (fun i m nx j => j.con _ mn) (fun i m nx j => j.cell) F N J ?_ ?_
  · intro Q' hq
    have q3 := J.con _ m3
    conv in (forIter _) => whnf
    (repeat' ((fail_if_success (first | (with_reducible show wpAny _ _ (exec (Stmt.While _ _ _ _) _) _ _ _) | (with_reducible show wpAny _ _ (exec (Stmt.For _ _ _ _ _) _) _ _ _) | (with_reducible show wpAny _ _ (pyIter _) _ _ _) | (with_reducible show LCg.CompSrc _ _ _ _ _ _ _ _ _ _ _ _ _ _) | (with_reducible show LCt.CompSrcT _ _ _ _ _ _ _ _ _ _ _ _ _ _ _) | (with_reducible show SrcLP _ _ _ _ _ _ _ _ _ _ _ _ _ _ _) | (with_reducible show DSrc _ _ _ _ _ _ _ _ _ _ _ _ _ _ _) | (with_reducible show Src2 _ _ _ _ _ _ _))); (first | (k_unfold; (try dsimp only)) | (k_unmd; k_unfold; (try dsimp only)) | (k_end; wrow_close) | walk1 | (dsimp only; walk1) | (leave1; (try dsimp only)))))
    exact hq
  · intro i v m₁ nx1 h1 tk1 own o' hv hown J1 hd1 F1 N1
    obtain ⟨⟨oc, xc, hcm, -⟩, ⟨zs, cz, hz, hzi⟩, hcon, hmap⟩ := J1
    have hx : ∃ x tx, v = .str x tx ∧ nms[i]? = some x := by
      obtain ⟨x, tx, e, hx⟩ := hnv.item i v hv
      exact ⟨x, tx, e, hx⟩
    obtain ⟨x, tx, rfl, hx⟩ := hx
    have hxm : x ∈ nms := List.mem_of_getElem? hx
    obtain ⟨P, S, a, ls, hT⟩ := split_keys (T := T9) (nm := x) (by rw [hTk]; exact hxm)
    have hr := H.row (x, a, ls) (hT ▸ List.mem_append_right _ (.head _))
    have hg : absR ls = G x := hTG (x, a, ls) (hT ▸ List.mem_append_right _ (.head _))
    have hb := hB (x, a, ls) (hT ▸ List.mem_append_right _ (.head _))
    have hvl : valueAt (topKv T9) x = some (.ref a) := by rw [hT]; exact top_at (hT ▸ H)
    obtain ⟨oA, mA, hA⟩ := H.top
    obtain ⟨hbig, ⟨oa, ma, ha⟩, hlst⟩ := hr
    obtain ⟨v, rows, hvk, hE, hro⟩ := hRv x hxm
    cases hE with
    | mk q1 q2 q3 q4 =>
    have hbd := absR_bound hb
    rw [hg] at hbd
    have hbr := rowsOf_bound hro hbd.1 hbd.2
    have hokr := rowsOf_ok hro (hok x hxm)
    have hsz := rows_size (hGn x hxm) hro
    have hzl : zs.length ≤ 30 := by
      rw [hzi.length, List.length_map, List.length_take]; omega
    have hoc : ∀ p ∈ own, p.1 ≠ (h₀.objs.size + 1 + 1 + 1 + 1 + 1 + 1) := fun p hp => hown p hp _ (List.mem_map.mpr ⟨_, hcm, rfl⟩)
    have hocst : ∀ p ∈ own, ∀ q ∈ cst, p.1 ≠ q.1 := fun p hp q hq => hown p hp _ (List.mem_map.mpr ⟨_, hcon q hq, rfl⟩)
    clear hRv hTG hB hTk hT hok hGn N F H
    have hoS : ∀ p ∈ own, p.1 ≠ Sz := fun p hp => hown p hp Sz (List.mem_map.mpr ⟨_, hz, rfl⟩)
    have hbase : ∃ base : Led, (∀ p ∈ base, p.1 ≠ Sz) ∧ News h₀ h₀.objs.size h1 ((Sz, listOf zs.toArray cz) :: base) ∧ ((h₀.objs.size + 1 + 1 + 1 + 1 + 1 + 1), o') ∈ base ∧ (∀ p ∈ cst, p ∈ base) ∧ (∀ p ∈ own, p ∈ base) ∧ (∀ p ∈ base, p ∈ own ∨ p = ((h₀.objs.size + 1 + 1 + 1 + 1 + 1 + 1), o') ∨ p ∈ nx1) := by
      refine ⟨((h₀.objs.size + 1 + 1 + 1 + 1 + 1 + 1), o') :: (nx1.filter (fun p => p.1 != (h₀.objs.size + 1 + 1 + 1 + 1 + 1 + 1) && p.1 != Sz) ++ own), ?_, ?_, .head _, ?_, fun p hp => .tail _ (List.mem_append_right _ hp), ?_⟩
      · intro p hp
        rcases List.mem_cons.mp hp with rfl | hp
        · exact hcS
        · rcases List.mem_append.mp hp with hp | hp
          · have := (List.mem_filter.mp hp).2
            simp only [Bool.and_eq_true, bne_iff_ne, ne_eq] at this
            exact this.2
          · exact hoS p hp
      · intro p hp
        rcases List.mem_cons.mp hp with rfl | hp
        · exact N1 _ (.tail _ (List.mem_append_left _ (front_in hz hcS.symm)))
        · rcases List.mem_cons.mp hp with rfl | hp
          · exact N1 _ (.head _)
          · rcases List.mem_append.mp hp with hp | hp
            · have h2 := List.mem_filter.mp hp
              have h3 := h2.2
              simp only [Bool.and_eq_true, bne_iff_ne, ne_eq] at h3
              exact N1 _ (.tail _ (List.mem_append_left _ (front_in h2.1 h3.1)))
            · exact N1 _ (.tail _ (List.mem_append_right _ hp))
      · intro p hp
        refine .tail _ (List.mem_append_left _ (List.mem_filter.mpr ⟨hcon p hp, ?_⟩))
        simp only [Bool.and_eq_true, bne_iff_ne, ne_eq]
        exact hcc p hp
      · intro p hp
        rcases List.mem_cons.mp hp with rfl | hp
        · exact .inr (.inl rfl)
        · rcases List.mem_append.mp hp with hp | hp
          · exact .inr (.inr (List.mem_filter.mp hp).1)
          · exact .inl hp
    obtain ⟨base, hbS, NB, h6, hcb, hob, hbo⟩ := hbase
    clear N1
    have hcf : ∀ p ∈ cst, p ∈ (Sz, listOf zs.toArray cz) :: base := fun p hp => .tail _ (hcb p hp)
    refine execs_at (body := forBody (stAt lawBody 17)) (k := 0) (by rw [fb17_len]; decide) ?_
    refine b0 C' F1 NB (.tail _ h6) hd1 (hcf _ mR) hR ((hmap _ (by decide) (by decide)).trans mt) hvk ?_
    intro h2 tk2 F2 N2
    clear NB F1
    refine execs_at (body := forBody (stAt lawBody 17)) (k := 1) (by rw [fb17_len]; decide) ?_
    refine b1 C' F2 N2 (.tail _ h6) hd1 (hcf _ m7) d7 (hcf _ mA) hA hvl (hcf _ ma) ha hbig hb.1 (fun q hq => ?_) ?_
    · obtain ⟨us, n, hm, hi⟩ := hlst q hq
      exact ⟨us, n, hcf _ hm, hi⟩
    intro D ws rows2 c2 tl h3 tk3 hro2 hdd mD hsub hfr F3 N3
    rw [hg] at hro2
    have e2 := RowsOf.unique hro2 hro
    subst e2
    clear N2 F2
    have hct : ∀ p ∈ cst, p ∈ tl := fun p hp => hsub p (hcf p hp)
    refine execs_at (body := forBody (stAt lawBody 17)) (k := 2) (by rw [fb17_len]; decide) ?_
    refine b2 C' F3 N3 (hct _ q1) (hct _ q2) (hct _ q3) (q4.mono hct) mD hdd hbr.1 hbr.2 hokr rfl rfl ?_
    intro tl4 h4 tk4 hsub4 F4 N4
    clear N3 F3
    have hct4 : ∀ p ∈ cst, p ∈ tl4 := fun p hp => hsub4 p (hct p hp)
    refine execs_at (body := forBody (stAt lawBody 17)) (k := 3) (by rw [fb17_len]; decide) ?_
    refine b3 C' F4 N4 (hct4 _ q1) (hct4 _ q2) (hct4 _ q3) (q4.mono hct4) (hsub4 _ mD) (hdd.mono hsub4) hbr.1 hbr.2 hokr rfl rfl ?_
    intro tl5 h5 tk5 hsub5 F5 N5
    have N6 : News h₀ h₀.objs.size h5 ((Sz, listOf zs.toArray cz) :: base) := fun p hp => N5 p (hsub5 _ (hsub4 _ (hsub p hp)))
    clear N4 F4 N5
    refine execs_at (body := forBody (stAt lawBody 17)) (k := 4) (by rw [fb17_len]; decide) ?_
    refine b4 C' F5 N6 (hcb _ q1) (hcb _ q2) (hcb _ q3) (q4.mono hcb) hbr.1 hbr.2 hzl hbS rfl ((hmap _ (by decide) (by decide)).trans ms) ?_
    intro h7 tk7 t7 F7 N7
    refine execs_end (body := forBody (stAt lawBody 17)) (by rw [fb17_len]; decide) ?_
    refine InvEndG.intro (nx := (Sz, listOf (zs ++ [Value.int (szOf rows2) t7]).toArray (cz + 1)) :: base.filter (fun p => own.all fun q => q.1 != p.1)) F7 N7 ⟨⟨o', _, .tail _ (List.mem_filter.mpr ⟨h6, ?_⟩), hd1⟩, ⟨_, _, .head _, ?_⟩, ?_, fun y h1 h2 => ?_⟩ ?_ ?_ ?_
    · exact List.all_eq_true.mpr fun q hq => bne_iff_ne.mpr (hoc q hq)
    · rw [List.take_add_one, hx, List.map_append]
      refine hzi.append ?_
      rw [hsz]
      exact .cons _ _ .nil
    · exact fun p hp => .tail _ (List.mem_filter.mpr ⟨hcb p hp, List.all_eq_true.mpr fun q hq => bne_iff_ne.mpr (hocst q hq p hp)⟩)
    · show (if y = _ then _ else if y = _ then _ else _) = _
      rw [if_neg h2, if_neg h1]
      exact hmap y h1 h2
    · intro p hp b hb e
      obtain ⟨q, hq, rfl⟩ := List.mem_map.mp hb
      rcases List.mem_cons.mp hq with rfl | hq
      · exact hoS p hp e
      · exact bne_iff_ne.mp (List.all_eq_true.mp (List.mem_filter.mp hq).2 p hp) e
    · intro p hp
      rcases List.mem_cons.mp hp with rfl | hp
      · exact .head _
      · exact .tail _ (List.mem_filter.mp hp).1
    · exact fun p hp => .tail _ (hob p hp)
  · intro m1 nx1 h1 tk1 J1 F1 N1
    obtain ⟨-, ⟨zs, c, hz, hzi⟩, hcon, hmap⟩ := J1
    rw [hnl2, List.take_length] at hzi
    exact h nx1 zs c m1 h1 tk1 hz hzi hmap F1 N1
-- L1
theorem clusE_seqs {tl tl' : Led} (hs : ∀ p ∈ tl, (∃ b c, p.2.data = .seq b c) → p ∈ tl') : ∀ {kvs : List (Str × Value)} {cl : List (Str × List Int)}, ClusE tl kvs cl → ClusE tl' kvs cl
  | [], [], _ => trivial
  | (k, v) :: r, (k', ns) :: r', ⟨e, ⟨a, n, vs, e1, hm, hi, hl⟩, h⟩ => ⟨e, ⟨a, n, vs, e1, hs _ hm ⟨_, _, rfl⟩, hi, hl⟩, clusE_seqs hs h⟩
  | [], _ :: _, h => h.elim
  | _ :: _, [], h => h.elim
/-- the law, behind the call of assign -/
theorem law_b {w : World} {mean : ExcName → Option Value} {mg mb : Str → Option Value} {fa : Addr} {cd : Value} {h₀ : Heap} {m : Str → Option Value} {s : Shared} {Q : Flow → Shared → Prop} (C : LCtx w mean mg mb h₀) (F : Fr h₀ h₀.objs.size s.heap m) {tl new : Led} {o2 o3 o4 o6 o7 od : Obj} {nm d R W : Addr} {nv ys : List Value} {nms ss order : List Str} {many st : Int} {tm ts : Tok} {x6 x7 : Option Value} {kvs kvR : List (Str × Value)} {cl : List (Str × List Int)} {nt nW : Nat} {mems : List Mem} {seq : List (Str × Int)}
  (N : News h₀ h₀.objs.size s.heap tl) (m2 : ((h₀.objs.size + 1 + 1), o2) ∈ tl) (d2 : o2.data = .cell (some (.int many tm))) (m3 : ((h₀.objs.size + 1 + 1 + 1), o3) ∈ tl) (d3 : o3.data = .cell (some (.ref nm))) (m4 : ((h₀.objs.size + 1 + 1 + 1 + 1), o4) ∈ tl) (d4 : o4.data = .cell (some (.ref d)))
  (m6 : ((h₀.objs.size + 1 + 1 + 1 + 1 + 1 + 1), o6) ∈ tl) (d6 : o6.data = .cell x6) (m7 : ((h₀.objs.size + 1 + 1 + 1 + 1 + 1 + 1 + 1), o7) ∈ tl) (d7 : o7.data = .cell x7) (mn : (nm, listOf nv.toArray 0) ∈ tl) (hnv : StrsAre nv nms) (hnl : (nms.length : Int) = many) (hnn : nms.Nodup) (hnm : ∀ x ∈ nms, x ∈ NAMES) (hmany : 1 ≤ many ∧ many ≤ 5) (st0 : 0 ≤ st) (st1 : st ≤ many)
  (md : (d, od) ∈ tl) (hkv : od.IsDictOf (PySem.strKind PR w) kvs) (hce : ClusE tl kvs cl) (hck : cl.map (·.1) = TOPS.take nt) (hd1 : @LT.lt Nat _ 1 d) (mW : (W, listOf ys.toArray nW) ∈ tl) (hys : StrsAre ys ss) (hss : ∀ x ∈ ss, x ∈ WTOPS)
  (hmm : mems.map (fun m => (m.1, m.2.1)) = (List.range nms.length).map (fun j => (nms.getD j Str.empty, gidOf nms many st j))) (hpost : AsgPost w new R cl mems ss seq order kvR) (hnew : ∀ p ∈ new, p ∈ tl ∧ p.1 ≠ (h₀.objs.size + 1 + 1 + 1 + 1 + 1 + 1) ∧ p.1 ≠ (h₀.objs.size + 1 + 1 + 1 + 1 + 1 + 1 + 1))
  (ms : m (Str.ofString "static") = some (.int st ts)) (mw : m (Str.ofString "wanted") = some (.ref W)) (mt : m (Str.ofString "told") = some (.ref R))
  (h : ∀ h' tk' m', Fr h₀ h₀.objs.size h' m' → Q (.ret (.bool true)) { s with heap := h', toks := tk' }) :
  lawWs w h₀ fa cd (lawBody.drop 10) Q s := by
  have hnz : ∀ y ∈ nms, y.length ≤ 2 := fun y hy => (by decide +kernel : ∀ y ∈ NAMES, y.length ≤ 2) y (hnm y hy)
  have hn5 : nms.length ≤ 5 := by omega
  have hcl4 : cl.length ≤ 4 := by
    have := congrArg List.length hck
    rw [List.length_map, List.length_take] at this
    have e : TOPS.length = 4 := rfl
    omega
  have hckm : ∀ x ∈ cl.map (·.1), x ∈ TOPS := fun x hx => by rw [hck] at hx; exact List.mem_of_mem_take hx
  have hnams : mems.map (·.1) = nms := by
    have := congrArg (List.map fun p : Str × Option Str => p.1) hmm
    rw [List.map_map, List.map_map] at this
    exact this.trans (range_getD nms)
  obtain ⟨hbigR, ⟨oR, mR, hR⟩, hseq, hord, hkeys, hvals⟩ := hpost
  refine execs_at (k := 10) (by rw [lawBody_len]; decide) ?_
  refine p5 C F N m2 d2 m3 d3 mn hnv hnl hnz hmany st0 st1 ms ?_
  intro Fs ws ps c5 tl5 h5 tk5 hps hsrt hdt hn5' mF F5 N5
  clear F N
  have hpl : ps.length = st.toNat := by rw [hps.length_eq, List.length_map, List.length_range]
  refine execs_at (k := 11) (by rw [lawBody_len]; decide) ?_
  refine p6 C F5 N5 (hn5' _ m3) d3 (hn5' _ mn) hnv hn5 st0 mF hdt (by omega) ms rfl ?_
  intro Od ov bs c6 tl6 h6 tk6 hov hbs hsb hn6 mO F6 N6
  clear F5 N5
  have hsub : ∀ p ∈ tl, p ∈ tl6 := fun p hp => hn6 p (hn5' p hp)
  -- the order is the one that assign takes
  have hgn : (mems.map fun m : Mem => (m.2.1, m.1)) = (List.range nms.length).map fun j => ((if j < st.toNat then some (gidAt nms many j) else none : Option Str), nms.getD j Str.empty) := by
    have := congrArg (List.map fun p : Str × Option Str => (p.2, p.1)) hmm
    rw [List.map_map, List.map_map] at this
    refine Eq.trans (Eq.trans ?_ this) (List.map_congr_left fun j _ => ?_)
    · rfl
    · show (gidOf nms many st j, _) = _
      rw [gidOf]
      by_cases q : (j : Int) < st
      · rw [if_pos q, if_pos (by omega)]; rfl
      · rw [if_neg q, if_neg (by omega)]
  have hor2 : OrderOf (mems.map fun m : Mem => (m.2.1, m.1)) (ps.map (·.2) ++ bs) := ⟨ps, bs, by rw [hgn, stats_law _ _ _ _ (by omega)]; exact hps, hsrt, by rw [hgn, rests_law, range_getD]; exact hbs, hsb, rfl⟩
  rw [OrderOf.unique hor2 hord] at hov
  have hperm := hord.perm
  rw [List.map_map] at hperm
  have hperm2 : order.Perm nms := hnams ▸ hperm
  clear hor2 hgn hps hsrt hbs hsb hperm hdt hord mF
  refine execs_at (k := 12) (by rw [lawBody_len]; decide) ?_
  have hi3 := front_in (a := (h₀.objs.size + 1 + 1 + 1 + 1 + 1 + 1 + 1)) (hsub _ m3) (by refine neN ?_; dsimp only; omega)
  refine p12 C F6 (news_front N6 (hsub _ m7)) front_off hi3 d3 d7 (front_in (hsub _ mn) (news_ne N6 (hsub _ mn) (hsub _ m7) (by rw [d7]; exact fun q => nomatch q))) hnv hn5 hnn ?_
  intro A T tl12 o7' h12 tk12 H12 hab12 hB12 d7' hc12 F12 N12
  have hdat : ∀ p ∈ tl6, p.2.data ≠ o7.data → p ∈ ((h₀.objs.size + 1 + 1 + 1 + 1 + 1 + 1 + 1), o7') :: tl6.filter (fun p => p.1 != (h₀.objs.size + 1 + 1 + 1 + 1 + 1 + 1 + 1)) := fun p hp q => .tail _ (front_in hp (news_ne N6 hp (hsub _ m7) q))
  have hadr : ∀ p ∈ tl6, p.1 ≠ (h₀.objs.size + 1 + 1 + 1 + 1 + 1 + 1 + 1) → p ∈ ((h₀.objs.size + 1 + 1 + 1 + 1 + 1 + 1 + 1), o7') :: tl6.filter (fun p => p.1 != (h₀.objs.size + 1 + 1 + 1 + 1 + 1 + 1 + 1)) := fun p hp q => .tail _ (front_in hp q)
  rw [d7] at hdat
  have q2 := hadr _ (hsub _ m2) (by refine neN ?_; dsimp only; omega)
  have q3 := hadr _ (hsub _ m3) (by refine neN ?_; dsimp only; omega)
  have q4 := hadr _ (hsub _ m4) (by refine neN ?_; dsimp only; omega)
  have q6 := hadr _ (hsub _ m6) (by refine neN ?_; dsimp only; omega)
  have qd := hdat _ (hsub _ md) (by obtain ⟨_, _, _, e, _⟩ := hkv; rw [e]; exact fun q => nomatch q)
  have qn := hdat _ (hsub _ mn) (fun q => nomatch q)
  have qW := hdat _ (hsub _ mW) (fun q => nomatch q)
  have qO := hdat _ mO (fun q => nomatch q)
  have qnew : ∀ p ∈ new, p ∈ ((h₀.objs.size + 1 + 1 + 1 + 1 + 1 + 1 + 1), o7') :: tl6.filter (fun p => p.1 != (h₀.objs.size + 1 + 1 + 1 + 1 + 1 + 1 + 1)) := fun p hp => hadr _ (hsub _ (hnew p hp).1) (hnew p hp).2.2
  have hce2 := clusE_seqs (fun p hp ⟨b, c, e⟩ => hdat p (hsub p hp) (by rw [e]; exact fun q => nomatch q)) hce
  have q7 : ((h₀.objs.size + 1 + 1 + 1 + 1 + 1 + 1 + 1), o7') ∈ ((h₀.objs.size + 1 + 1 + 1 + 1 + 1 + 1 + 1), o7') :: tl6.filter (fun p => p.1 != (h₀.objs.size + 1 + 1 + 1 + 1 + 1 + 1 + 1)) := .head _
  clear hdat hadr hi3 F6 N6 hsub hn6 hn5' hce
  generalize ((h₀.objs.size + 1 + 1 + 1 + 1 + 1 + 1 + 1), o7') :: tl6.filter (fun p => p.1 != (h₀.objs.size + 1 + 1 + 1 + 1 + 1 + 1 + 1)) = cst at *
  refine execs_at (k := 13) (by rw [lawBody_len]; decide) ?_
  refine p13 C F12 N12 ?_
  intro t13 h13 tk13 F13 N13
  clear F12 N12
  have hD0 : ∀ x, rowOf (nms.map fun y => (y, ([] : Rows1))) x = [] := rowOf_empty nms
  have hDk : (nms.map fun y => (y, ([] : Rows1))).map (·.1) = nms := by rw [List.map_map]; exact List.map_id _
  have hon : order ≠ [] := fun e => by
    rw [e] at hperm2
    have := hperm2.length_eq
    rw [List.length_nil] at this
    omega
  have hok9 : ∀ x ∈ order, x ∈ (nms.map fun y => (y, ([] : Rows1))).map (·.1) := fun x hx => by rw [hDk]; exact hperm2.mem_iff.mp hx
  have hol : (order.length : Int) = many := by rw [hperm2.length_eq]; exact hnl
  refine execs_at (k := 14) (by rw [lawBody_len]; decide) ?_
  refine p14 (D₀ := nms.map fun y => (y, ([] : Rows1))) C F13 q2 d2 q4 d4 qd hkv hce2 hd1 q7 d7' qO hov hol hmany qW hys hss hckm hok9 N13 H12 hc12 hB12 hab12 hcl4 ⟨t13, rfl⟩ rfl mw ?_
  intro seq2 T2 nx14 m14 h14 tk14 hseq2 H14 hc14 hab14 hB14 hs24 hmp F14 N14
  clear F13 N13
  rw [SeqOf.unique hseq2 hseq] at hab14 hB14 hs24 hmp
  obtain ⟨hkeep, ⟨u14, hat⟩⟩ := hmp
  refine execs_at (k := 15) (by rw [lawBody_len]; decide) ?_
  refine p15 C F14 N14 (hc14 _ q3).1 d3 (hc14 _ qn).1 hnv hn5 hnm (hc14 _ (qnew _ mR)).1 hR (hkeys.trans hnams) hbigR ((hkeep _ (by decide) (by decide) (by decide)).trans mt) ?_
  intro tl15 h15 tk15 hn15 F15 N15
  clear F14 N14
  refine execs_at (k := 16) (by rw [lawBody_len]; decide) ?_
  refine p16 C F15 N15 ?_
  intro Sz h16 tk16 hltS F16 N16
  clear F15 N15
  have hH17 := hold_filter (own := [((h₀.objs.size + 1 + 1 + 1 + 1 + 1 + 1), o6)]) H14 (List.forall_mem_cons.mpr ⟨(hc14 _ q6).2, List.forall_mem_nil _⟩)
  have hc17 : ∀ p ∈ nx14.filter (fun p => [((h₀.objs.size + 1 + 1 + 1 + 1 + 1 + 1), o6)].all fun q => q.1 != p.1), p ∈ nx14 ∧ p.1 ≠ (h₀.objs.size + 1 + 1 + 1 + 1 + 1 + 1) := fun p hp => by
    have := List.mem_filter.mp hp
    refine ⟨this.1, fun e => ?_⟩
    have h2 := this.2
    rw [List.all_cons, e] at h2
    simp at h2
  have hin17 : ∀ p ∈ cst, p.1 ≠ (h₀.objs.size + 1 + 1 + 1 + 1 + 1 + 1) → p ∈ nx14.filter (fun p => [((h₀.objs.size + 1 + 1 + 1 + 1 + 1 + 1), o6)].all fun q => q.1 != p.1) := fun p hp q => List.mem_filter.mpr ⟨(hc14 p hp).1, by
    rw [List.all_cons, List.all_nil, Bool.and_true]
    exact bne_iff_ne.mpr (Ne.symm q)⟩
  generalize nx14.filter (fun p => [((h₀.objs.size + 1 + 1 + 1 + 1 + 1 + 1), o6)].all fun q => q.1 != p.1) = cst17 at hH17 hc17 hin17
  have hnew17 : ∀ p ∈ new, p ∈ cst17 := fun p hp => hin17 p (qnew p hp) (hnew p hp).2.1
  have hTk : T2.map (·.1) = nms := by
    rw [← absT_keys, hab14, dealL, deal_keys2 hon hok9, hDk]
  have hTkn : ((absT T2).map (·.1)).Nodup := by rw [absT_keys, hTk]; exact hnn
  have hG0 : ∀ x, rowOf (absT T2) x = rowOf (dealN order seq [] seq.length) x := fun x => by
    rw [hab14, dealL]
    exact deal_rows (fun y => by rw [hD0]; rfl) _ x
  have hnv6 : nm ≠ (h₀.objs.size + 1 + 1 + 1 + 1 + 1 + 1) := news_ne N16 (.tail _ (hn15 _ (hc14 _ qn).1)) (.tail _ (hn15 _ (hc14 _ q6).1)) (by rw [d6]; exact fun q => nomatch q)
  refine execs_at (k := 17) (by rw [lawBody_len]; decide) ?_
  refine p17 (cst := cst17) (T := T2) (G := fun x => rowOf (absT T2) x) (nms := nms) C F16 N16 ⟨⟨o6, x6, .tail _ (hn15 _ (hc14 _ q6).1), d6⟩, ⟨[], 0, .head _, by rw [List.take_zero]; exact .nil⟩, (fun p hp => .tail _ (hn15 _ (hc17 p hp).1)), fun _ _ _ => rfl⟩ (fun p hp => ⟨(hc17 p hp).2, Nat.ne_of_lt (hltS _ (hn15 _ (hc17 p hp).1))⟩) (Nat.ne_of_lt (hltS _ (hn15 _ (hc14 _ q6).1)))
    (hin17 _ q3 (by refine neN ?_; dsimp only; omega)) d3 (hin17 _ qn hnv6) hnv hn5 (hin17 _ q7 (by refine neN ?_; dsimp only; omega)) d7' hH17 (fun r hr => ⟨Nat.le_trans (hB14 r hr).1 (by omega), fun q hq => Nat.le_trans ((hB14 r hr).2 q hq) (by omega)⟩) hTk (fun r hr => (rowOf_mem hTkn (List.mem_map_of_mem (f := fun r : DRow => (r.1, absR r.2.2)) hr)).symm) ?_ ?_ (hnew17 _ mR) hR ?_ ?_ rfl ?_
  · intro x hx q hq
    rw [hG0] at hq
    obtain ⟨p, hp, e⟩ := List.mem_map.mp (deal_tops (fun _ => rfl) _ _ q hq)
    rw [← e]
    exact strOk_w _ (hss _ (partsOf_mem p (hseq.1.mem_iff.mp hp)))
  · intro x hx
    rw [hG0]
    exact deal_nodup (fun _ => rfl) _ _
  · intro x hx
    have hxk : x ∈ kvR.map (·.1) := by rw [hkeys, hnams]; exact hx
    obtain ⟨p, hp, rfl⟩ := List.mem_map.mp hxk
    obtain ⟨i, hi, e⟩ := List.mem_iff_getElem.mp hp
    obtain ⟨rows, r1, r2⟩ := hvals p.1 p.2 hp
    exact ⟨p.2, rows, valueAt_of_get (dict_nodup hR) (by rw [List.getElem?_eq_getElem hi, e]), r1.mono hnew17, by rw [hG0]; exact r2⟩
  · exact (hkeep _ (by decide) (by decide) (by decide)).trans mt
  intro nx17 zs c17 m17 h17 tk17 mz hz hm17 F17 N17
  clear F16 N16
  have hsz : ∀ x ∈ nms, ∀ y ∈ nms, szOf (rowOf (absT T2) x) ≤ szOf (rowOf (absT T2) y) + 1 := fun x hx y hy => by
    rw [hG0, hG0]
    exact deal_near (hperm2.nodup_iff.mpr hnn) (fun _ => rfl) (hperm2.mem_iff.mpr hx) (hperm2.mem_iff.mpr hy)
  have hsum : (nms.map fun x => szOf (rowOf (absT T2) x)).sum = seq.length := by
    rw [List.map_congr_left fun x _ => congrArg szOf (hG0 x)]
    exact deal_sum hon hnn (fun x hx => hperm2.mem_iff.mp hx) (fun _ => rfl) _ (Nat.le_refl _)
  have hmaps : (nms.map fun x => (szOf (rowOf (absT T2) x) : Int)) = (nms.map fun x => szOf (rowOf (absT T2) x)).map fun n : Nat => (n : Int) := by rw [List.map_map]; rfl
  refine execs_at (k := 18) (by rw [lawBody_len]; decide) ?_
  refine p18 (at_ := (seq.length : Int)) (u := u14) C F17 N17 mz hz (by rw [List.length_map]; omega) ?_ ?_ (by rw [hmaps, sum_cast, hsum]) (by omega) ?_ ?_ ?_
  · intro a ha b hb
    obtain ⟨x, hx, rfl⟩ := List.mem_map.mp ha
    obtain ⟨y, hy, rfl⟩ := List.mem_map.mp hb
    have := hsz x hx y hy
    omega
  · intro a ha
    obtain ⟨x, hx, rfl⟩ := List.mem_map.mp ha
    have := le_sum (List.mem_map_of_mem (f := fun x => szOf (rowOf (absT T2) x)) hx)
    rw [hsum] at this
    omega
  · exact hm17 _ (by decide) (by decide)
  · exact (hm17 _ (by decide) (by decide)).trans hat
  intro h18 tk18 F18 N18
  exact h h18 tk18 _ F18
-- R12
/-- the contract of assign -/
theorem assign_spec {w : World} {mean : ExcName → Option Value} {mg mb : Str → Option Value} {fa : Addr} {cd : Value} {h₀ : Heap} {m : Str → Option Value} {s : Shared} (C : LCtx w mean mg mb h₀) (F : Fr h₀ h₀.objs.size s.heap m) {news : Led} {ci lm : Addr} {cld : List (Str × List Int)} {mems : List Mem} {ss : List Str} {Q E : Value → Shared → Prop}
  (N : News h₀ h₀.objs.size s.heap news) (hp : AsgPre w news ci lm cld mems ss)
  (h : ∀ R new seq order kvs h' tk' dr', AsgPost w new R cld mems ss seq order kvs → (∀ q ∈ new, ∀ p ∈ news, p.1 ≠ q.1) → Fr h₀ h₀.objs.size h' m → News h₀ h₀.objs.size h' (new ++ news) → Q (.ref R) { s with heap := h', toks := tk', drawn := dr' }) :
  codeAny (model PR w) (lawA h₀ fa cd) (.call (.ref 152) ⟨[.ref 178, .ref ci, .ref lm], []⟩) (fun r s' => match r with | .ok (.ret v) => Q v s' | .ok _ => False | .error e => E e s') s := by
  have hfill : (fun (_ : OpenLaw) (_ : Params → Frag) => True) PySem.Challenge.rw_je0014_01 hd.heap_1 := by k_fill; trivial
  clear hfill
  obtain ⟨B, X, T, GL⟩ := C
  (k_dflt (refine' code_defC ?k1 ?k2 ?k3 ?k4 ?k5 ?kA ?kF ?kK ?k6 ?k7 ?k8 ?k9 ?kB ?kD ?_ ?c2 ?c3 ?c4; (case kA => exact rfl); (case kF => exact rfl); (case kK => first | exact rfl | assumption); (case k1 => k_asm); (case k2 => k_asm); (case k3 => k_asm); (case k4 => k_asm); (case k5 => k_asm); (case k6 => k_is); (case k7 => k_is); (case k8 => ktr_room); (case k9 => first | exact BindsTo.of_eq rfl | exact binds_K (by k_in) rfl (by k_is) rfl rfl rfl); (case kB => exact rfl); (case kD => decide +kernel); (case c2 => exact rfl); (case c3 => exact rfl); (case c4 => exact rfl); k_whole; intro g' L' h' tk' cells' FG' F' N' Y' B' X' T' l1); (try k_lt l1); k_cells Y'; (try simp only [List.cons_append, List.nil_append] at N'); (try dsimp only); (try k_fold))
  rename_i z2 z1
  refine wpAny_mono (E := NE) (show wpAny (model PR w) (asgA h₀ fa cd L') (execs (asgBody.drop 0) (asgEnv L')) _ _ _ from asg_run (xg := none) ⟨B', X', T'⟩ F' N' z1 l1 hp rfl rfl rfl ?_) (fun _ _ h => h) (fun _ _ h => h.elim)
  intro R new seq order kvs m' h' tk' dr' post hoff F9 N9
  exact leaveK_ F9 N9 fun F N => h R new seq order kvs h' tk' dr' post hoff F N
-- P4
/-- told -/
theorem p4 {w : World} {mean : ExcName → Option Value} {mg mb : Str → Option Value} {fa : Addr} {cd : Value} {h₀ : Heap} {m : Str → Option Value} {s : Shared} {Q : Flow → Shared → Prop} (C : LCtx w mean mg mb h₀) (F : Fr h₀ h₀.objs.size s.heap m) {news : Led} {o4 od : Obj} {d lm : Addr} {mvs : List Value} {nM nt : Nat} {mems : List Mem} {ss : List Str} {cl : List (Str × List Int)} (N : News h₀ h₀.objs.size s.heap news)
  (m4 : ((h₀.objs.size + 1 + 1 + 1 + 1), o4) ∈ news) (d4 : o4.data = .cell (some (.ref d))) (md : (d, od) ∈ news) (hcl : ClusIs w od cl news) (hck : cl.map (·.1) = TOPS.take nt) (hd1 : 1 < d)
  (mlm : (lm, listOf mvs.toArray nM) ∈ news) (hme : MemsE w news mvs mems) (hm1 : 1 ≤ mems.length) (hm5 : mems.length ≤ 5) (hnd : (mems.map (·.1)).Nodup)
  (hst : ∃ st : Nat, ∀ (j : Nat) (m : Mem), mems[j]? = some m → (m.2.1.isSome = true ↔ j < st)) (htp : ∀ m ∈ mems, m.2.2.Perm ss) (hsn : ss.Nodup) (hs5 : ss.length ≤ 5) (hsk : ∀ x ∈ ss, x ∈ WTOPS)
  (mm : m (Str.ofString "members") = some (.ref lm))
  (h : ∀ R new seq order kvs h' tk' dr', AsgPost w new R cl mems ss seq order kvs → (∀ q ∈ new, ∀ p ∈ news, p.1 ≠ q.1) → Fr h₀ h₀.objs.size h' (fun y => if y = Str.ofString "told" then some (.ref R) else m y) → News h₀ h₀.objs.size h' (new ++ news) → Q .next { s with heap := h', toks := tk', drawn := dr' }) :
  lawWp w h₀ fa cd (stAt lawBody 9) Q s := by
  have C' := C
  have hfill : (fun (_ : OpenLaw) (_ : Params → Frag) => True) PySem.Challenge.rw_je0014_01 hd.heap_1 := by k_fill; trivial
  clear hfill
  obtain ⟨B, X, T, GL⟩ := C
  conv in (stAt lawBody _) => whnf
  (repeat' ((fail_if_success (first | (with_reducible show wpAny _ _ (exec (Stmt.While _ _ _ _) _) _ _ _) | (with_reducible show wpAny _ _ (exec (Stmt.For _ _ _ _ _) _) _ _ _) | (with_reducible show wpAny _ _ (pyIter _) _ _ _) | (with_reducible show LCg.CompSrc _ _ _ _ _ _ _ _ _ _ _ _ _ _) | (with_reducible show LCt.CompSrcT _ _ _ _ _ _ _ _ _ _ _ _ _ _ _) | (with_reducible show SrcLP _ _ _ _ _ _ _ _ _ _ _ _ _ _ _) | (with_reducible show DSrc _ _ _ _ _ _ _ _ _ _ _ _ _ _ _) | (with_reducible show Src2 _ _ _ _ _ _ _))); (first | (k_unfold; (try dsimp only)) | (k_unmd; k_unfold; (try dsimp only)) | (k_end; wrow_close) | (k_here; (with_reducible show wpAny _ _ (eval (PySem.Expr.Name _ _) _) _ _ _); k_dflt (refine' nameX_L ?jF ?jv ?_ ?ja ?jb; (case ja => rfl); (case jb => rfl); (case jF => k_asm); (case jv => with_reducible assumption))) | (k_here; (with_reducible show wpAny _ _ (eval (PySem.Expr.DictComp _ _ _ _ _) _) _ _ _); k_dflt (refine DictComp_U (F₀ := by k_asm) (by with_unfolding_all rfl) (by decide) (by rfl) (by decide) (by rfl) ?_)) | walk1 | (dsimp only; walk1) | (leave1; (try dsimp only)))))
  rename_i mo h9 F9 N9 l9
  obtain ⟨kvs, hkv, hce⟩ := hcl
  have hckl : cl.length ≤ 4 := by
    have := congrArg List.length hck
    rw [List.length_map, List.length_take] at this
    have e : TOPS.length = 4 := rfl
    omega
  refine DSrc.dict rfl F9 N9 (.tail _ md) hkv (not_modules hd1) (by rw [sizeLine_eq, hce.length]; omega) ?_
  intro g9
  refine dcomp_J (E₀ := []) (tl₀ := (mo, methodObj (.ref 152) (.ref 178)) :: news) (fun i kvs' E tl' => E = [] ∧ (∀ p ∈ (mo, methodObj (.ref 152) (.ref 178)) :: news, p ∈ tl') ∧ ClusE tl' kvs' (cl.take i)) rfl (fun _ _ _ h => nomatch h) ⟨rfl, fun _ h => h, by rw [List.take_zero]; trivial⟩ ?_ ?_
  · rintro i v kvs' E₁ tl' I oI Cc oC D oD m₂ h2 tk2 E' hi ⟨k, y, hky, hkis⟩ ⟨rfl, htl, hce'⟩ - hoT hoD hC hx F2 N2 off ne
    obtain ⟨tv, rfl⟩ := sk_inv hkis
    obtain ⟨a, n, vs, ns, rfl, hm, hints, hnl6, hcli⟩ := hce.item i k y hky
    have hv := valueAt_of_get (dict_nodup hkv) hky
    have hma := htl _ (.tail _ hm)
    have hmd := htl _ (.tail _ md)
    have hm4 := htl _ (.tail _ m4)
    have hvl := hints.length
    rw [List.nil_append] at N2
    clear F9 N9 h
    try k_fold
    (repeat' ((fail_if_success (first | (with_reducible show wpAny _ _ (exec (Stmt.While _ _ _ _) _) _ _ _) | (with_reducible show wpAny _ _ (exec (Stmt.For _ _ _ _ _) _) _ _ _) | (with_reducible show wpAny _ _ (pyIter _) _ _ _) | (with_reducible show LCg.CompSrc _ _ _ _ _ _ _ _ _ _ _ _ _ _) | (with_reducible show LCt.CompSrcT _ _ _ _ _ _ _ _ _ _ _ _ _ _ _) | (with_reducible show SrcLP _ _ _ _ _ _ _ _ _ _ _ _ _ _ _) | (with_reducible show DSrc _ _ _ _ _ _ _ _ _ _ _ _ _ _ _) | (with_reducible show Src2 _ _ _ _ _ _ _))); (first | (k_unfold; (try dsimp only)) | (k_unmd; k_unfold; (try dsimp only)) | (k_end; wrow_close) | (k_here; (with_reducible show wpAny _ _ (eval (PySem.Expr.Name _ _) _) _ _ _); k_dflt (refine' nameX_L ?jF ?jv ?_ ?ja ?jb; (case ja => rfl); (case jb => rfl); (case jF => k_asm); (case jv => with_reducible assumption))) | (k_here; (with_reducible show wpAny _ _ (subscriptTail _ _ (Value.ref _) (Value.str _ _)) _ _ _); k_dflt (refine' kda_item (knd := PySem.strKind _ _) ?jN ?jm ?jd (strKind_is _ _ _ _) ?jv ?_; (case jN => k_asm); (case jm => k_mem); (case jd => with_reducible assumption); (case jv => with_reducible assumption))) | (k_here; (with_reducible show wpAny _ _ (call (Value.type "list") [Value.ref _]) _ _ _); k_dflt (refine' list_copyK ?jF ?jN ?jl ?_ ?jz; (case jF => k_asm); (case jN => k_asm); (case jl => exact News.isList (by k_asm) (by k_mem)); (case jz => (rw [List.size_toArray, sizeLine_eq]; omega))); intro D7 c7 h7 F' N' l7) | walk1 | (dsimp only; walk1) | (leave1; (try dsimp only)))))
    have hfr := clus_fresh hck hcli
    have hkk : kvs'.map (·.1) = (cl.take i).map (·.1) := hce'.keys
    rw [← hkk] at hfr
    have l8 : ∀ p ∈ tl', p.1 ≠ D7 := lt_off l7 fun p hp => .tail _ (.tail _ (.tail _ hp))
    refine dcend (E₁ := []) (E' := []) (new := [(D7, listOf vs.toArray c7)]) F' N' (by ((try simp only [List.cons_append, List.nil_append, List.append_nil]); (repeat' (first | exact List.forall_mem_nil _ | refine' List.forall_mem_cons.mpr ⟨by (first | k_mem | (repeat' (first | assumption | refine' List.Mem.tail _ ?_))), ?_⟩ | (intro p9 hp9; (repeat' (first | exact hp9 | refine' List.Mem.tail _ ?_))))))) off rfl ?_ (.tail _ hmd) ⟨k, [], [(D7, listOf vs.toArray c7)], strKind_is _ _ _ _, rfl, rfl, (fun _ _ _ h => nomatch h), rfl, fun p hp => .tail _ (htl p hp), ?_⟩
    · exact List.forall_mem_cons.mpr ⟨⟨(lt_ne l7 (.head _)).symm, (lt_ne l7 (.tail _ (.head _))).symm, (lt_ne l7 (.tail _ (.tail _ (.head _)))).symm⟩, List.forall_mem_nil _⟩
    · rw [stored_new hfr, List.take_add_one, hcli]
      exact (hce'.mono fun p hp => .tail _ hp).snoc (.head _) hints hnl6
  · rintro kvs' E₁ tl' - hoff' ⟨rfl, htl, hce'⟩
    rw [hce.length, List.take_length] at hce'
    unfold DFinE
    intro C9 oC9 h8 tk8 hC9 F8 N8 o8 lC9
    rw [List.nil_append] at N8 o8
    have hmo := htl _ (.head _)
    try dsimp only
    try k_fold
    clear F9 N9
    (repeat' ((fail_if_success (first | (with_reducible show wpAny _ _ (exec (Stmt.While _ _ _ _) _) _ _ _) | (with_reducible show wpAny _ _ (exec (Stmt.For _ _ _ _ _) _) _ _ _) | (with_reducible show wpAny _ _ (pyIter _) _ _ _) | (with_reducible show wpAny _ _ (call (Value.ref _) [Value.ref _, Value.ref _]) _ _ _) | (with_reducible show LCg.CompSrc _ _ _ _ _ _ _ _ _ _ _ _ _ _) | (with_reducible show LCt.CompSrcT _ _ _ _ _ _ _ _ _ _ _ _ _ _ _) | (with_reducible show SrcLP _ _ _ _ _ _ _ _ _ _ _ _ _ _ _) | (with_reducible show DSrc _ _ _ _ _ _ _ _ _ _ _ _ _ _ _) | (with_reducible show Src2 _ _ _ _ _ _ _))); (first | (k_unfold; (try dsimp only)) | (k_unmd; k_unfold; (try dsimp only)) | (k_end; wrow_close) | (k_here; (with_reducible show wpAny _ _ (eval (PySem.Expr.Name _ _) _) _ _ _); k_dflt (refine' nameX_L ?jF ?jv ?_ ?ja ?jb; (case ja => rfl); (case jb => rfl); (case jF => k_asm); (case jv => with_reducible assumption))) | (k_here; (with_reducible show wpAny _ _ (call (Value.ref 122) _) _ _ _); k_dflt (refine' mk_clu ?jB ?jF ?jX ?jT ?jc ?jN ?jd ?ju ?_; (case jB => k_asm); (case jF => k_asm); (case jX => k_asm); (case jT => k_asm); (case jc => first | exact rfl | assumption); (case jN => k_asm); (case jd => ktr_room); (case ju => ktr_units)); intro x5 d5 u51 h5 tk5 l51 l52 l53 F' N'; (try dsimp only at N')) | walk1 | (dsimp only; walk1) | (leave1; (try dsimp only)))))
    refine call_meth N' (.tail _ (.tail _ (.tail _ hmo))) ?_
    have hsub : ∀ p ∈ news, p ∈ (x5, instObj 122 d5) :: (d5, cluD w C9 u51) :: (C9, oC9) :: tl' := fun p hp => .tail _ (.tail _ (.tail _ (htl _ (.tail _ hp))))
    refine assign_spec C' F' N' (ci := x5) (lm := lm) (cld := cl) (mems := mems) (ss := ss) ⟨⟨d5, C9, oC9, u51, Nat.lt_trans (big_of X F8) lC9, .head _, .tail _ (.head _), .tail _ (.tail _ (.head _)), kvs', hC9, hce'.mono fun p hp => .tail _ (.tail _ (.tail _ hp))⟩, ⟨mvs, nM, hsub _ mlm, hme.mono hsub⟩, hckl, hm1, hm5, hnd, hst, htp, hsn, hs5, hsk⟩ ?_
    clear N' F'
    intro R new seq order kvs2 h7 tk7 dr7 hpost hnew F7 N7
    try dsimp only
    (repeat' ((fail_if_success (first | (with_reducible show wpAny _ _ (exec (Stmt.While _ _ _ _) _) _ _ _) | (with_reducible show wpAny _ _ (exec (Stmt.For _ _ _ _ _) _) _ _ _) | (with_reducible show wpAny _ _ (pyIter _) _ _ _) | (with_reducible show LCg.CompSrc _ _ _ _ _ _ _ _ _ _ _ _ _ _) | (with_reducible show LCt.CompSrcT _ _ _ _ _ _ _ _ _ _ _ _ _ _ _) | (with_reducible show SrcLP _ _ _ _ _ _ _ _ _ _ _ _ _ _ _) | (with_reducible show DSrc _ _ _ _ _ _ _ _ _ _ _ _ _ _ _) | (with_reducible show Src2 _ _ _ _ _ _ _))); (first | (k_unfold; (try dsimp only)) | (k_unmd; k_unfold; (try dsimp only)) | (k_end; wrow_close) | walk1 | (dsimp only; walk1) | (leave1; (try dsimp only)))))
    rename_i z3 z2 z1
    exact h R new seq order kvs2 _ _ _ hpost (fun q hq p hp => hnew q hq p (hsub p hp)) z2 (news_reorder z1 fun p hp => (List.mem_append.mp hp).elim (fun q => List.mem_append_left _ q) fun q => List.mem_append_right _ (hsub p q))
end Mine
namespace Mine
local macro_rules | `(tactic| k_all) => `(tactic| first | with_reducible assumption | exact allLt_ne (by with_reducible assumption) | exact own_off (by with_reducible assumption) (by k_mem))
local macro_rules | `(tactic| k_lt $h:ident) => `(tactic| (replace $h := allLt_of $h; (simp only [AllLt, and_true, true_and, and_assoc] at $h:ident); (try (first | (have hAL9 : AllLt _ _ := ($h)) | (have hAL9 : AllLt _ _ := ($h).2) | (have hAL9 : AllLt _ _ := ($h).2.2) | (have hAL9 : AllLt _ _ := ($h).2.2.2) | (have hAL9 : AllLt _ _ := ($h).2.2.2.2) | (have hAL9 : AllLt _ _ := ($h).2.2.2.2.2) | (have hAL9 : AllLt _ _ := ($h).2.2.2.2.2.2) | (have hAL9 : AllLt _ _ := ($h).2.2.2.2.2.2.2) | (have hAL9 : AllLt _ _ := ($h).2.2.2.2.2.2.2.2) | (have hAL9 : AllLt _ _ := ($h).2.2.2.2.2.2.2.2.2) | (have hAL9 : AllLt _ _ := ($h).2.2.2.2.2.2.2.2.2.2) | (have hAL9 : AllLt _ _ := ($h).2.2.2.2.2.2.2.2.2.2.2) | (have hAL9 : AllLt _ _ := ($h).2.2.2.2.2.2.2.2.2.2.2.2) | (have hAL9 : AllLt _ _ := ($h).2.2.2.2.2.2.2.2.2.2.2.2.2) | (have hAL9 : AllLt _ _ := ($h).2.2.2.2.2.2.2.2.2.2.2.2.2.2) | (have hAL9 : AllLt _ _ := ($h).2.2.2.2.2.2.2.2.2.2.2.2.2.2.2) | (have hAL9 : AllLt _ _ := ($h).2.2.2.2.2.2.2.2.2.2.2.2.2.2.2.2) | (have hAL9 : AllLt _ _ := ($h).2.2.2.2.2.2.2.2.2.2.2.2.2.2.2.2.2) | (have hAL9 : AllLt _ _ := ($h).2.2.2.2.2.2.2.2.2.2.2.2.2.2.2.2.2.2)))))
local macro_rules | `(tactic| k_ne) => `(tactic| first | with_reducible assumption | exact Ne.symm (by with_reducible assumption) | exact Nat.ne_of_lt (by with_reducible assumption) | exact Nat.ne_of_gt (by with_reducible assumption) | (refine neN ?_; (try dsimp only); omega))
local macro_rules | `(tactic| k_mem) => `(tactic| first | with_reducible assumption | exact List.mem_cons_self .. | (refine List.mem_cons_of_mem _ ?_; k_mem))
-- P1
theorem p1_step {w : World} {mean : ExcName → Option Value} {mg mb : Str → Option Value} {fa : Addr} {cd : Value} {h₀ : Heap} {m : Str → Option Value} {s : Shared} {Q : Flow → Shared → Prop} (C : LCtx w mean mg mb h₀) (F : Fr h₀ h₀.objs.size s.heap m) {S hnd : Addr} {vs : List Value} {ns : List Int} (Z : Scr h₀ S vs ns) {t : Tok} {k : Int} {o1 o5 : Obj} {news : Led} {x5 : Option Value}
  (N : News h₀ h₀.objs.size s.heap ((hnd, handO S k t) :: ((h₀.objs.size + 1 + 1 + 1 + 1 + 1), o5) :: news)) (hoh : ∀ p ∈ news, p.1 ≠ hnd) (ho5 : ∀ p ∈ news, p.1 ≠ (h₀.objs.size + 1 + 1 + 1 + 1 + 1)) (h5 : hnd ≠ (h₀.objs.size + 1 + 1 + 1 + 1 + 1))
  (m1 : ((h₀.objs.size + 1), o1) ∈ news) (d1 : o1.data = .cell (some (.ref hnd))) (d5 : o5.data = .cell x5) (k0 : 0 ≤ k) (k1 : k < 900)
  (h : ∀ r t' u o5' h' tk', 0 ≤ r → r < 3 → o5'.data = .cell (some (.int (1 + r) u)) → Fr h₀ h₀.objs.size h' m → News h₀ h₀.objs.size h' ((hnd, handO S (k + 1) t') :: ((h₀.objs.size + 1 + 1 + 1 + 1 + 1), o5') :: news) → Q .next { s with heap := h', toks := tk' }) :
  lawWp w h₀ fa cd (stAt (forBody (stAt lawBody 5)) 0) Q s := by
  have hfill : (fun (_ : OpenLaw) (_ : Params → Frag) => True) PySem.Challenge.rw_je0014_01 hd.heap_1 := by k_fill; trivial
  clear hfill
  obtain ⟨B, X, T, GL⟩ := C
  obtain ⟨hS, hI, hlen, hlay⟩ := Z
  conv in (stAt (forBody _) _) => whnf
  (repeat' ((fail_if_success (first | (with_reducible show wpAny _ _ (exec (Stmt.While _ _ _ _) _) _ _ _) | (with_reducible show wpAny _ _ (exec (Stmt.For _ _ _ _ _) _) _ _ _) | (with_reducible show wpAny _ _ (pyIter _) _ _ _) | (with_reducible show LCg.CompSrc _ _ _ _ _ _ _ _ _ _ _ _ _ _) | (with_reducible show LCt.CompSrcT _ _ _ _ _ _ _ _ _ _ _ _ _ _ _) | (with_reducible show SrcLP _ _ _ _ _ _ _ _ _ _ _ _ _ _ _) | (with_reducible show DSrc _ _ _ _ _ _ _ _ _ _ _ _ _ _ _) | (with_reducible show Src2 _ _ _ _ _ _ _))); (first | (k_unfold; (try dsimp only)) | (k_unmd; k_unfold; (try dsimp only)) | (k_end; wrow_close) | (k_here; (with_reducible show wpAny _ _ (call (Value.ref 189) [Value.ref _, Value.int _ _]) _ _ _); k_dflt (refine' next_U ?jkB ?jkF ?jkX ?jkN ?jkT ?jkc ?jkU ?jkS ?jkI ?jkl ?jky ?jk0 ?jk1 ?jm0 ?jm1 ?jkd ?jku ?_; (case jkB => k_asm); (case jkF => k_asm); (case jkX => k_asm); (case jkN => k_asm); (case jkT => k_asm); (case jkc => first | exact rfl | assumption); (case jkU => k_updF); (case jkS => assumption); (case jkI => assumption); (case jkl => assumption); (case jky => assumption); (case jk0 => omega); (case jk1 => omega); (case jm0 => omega); (case jm1 => omega); (case jkd => ktr_room); (case jku => ktr_units)); intro r9 t9 u9 h9 tk9 r90 r91 F' N'; (try dsimp only at N')) | walk1 | (dsimp only; walk1) | (leave1; (try dsimp only)))))
  rename_i h8 o8 F8 N8 d8
  exact h _ _ _ _ _ _ r90 r91 d8 F8 N8
theorem p1_store {w : World} {mean : ExcName → Option Value} {mg mb : Str → Option Value} {fa : Addr} {cd : Value} {h₀ : Heap} {m : Str → Option Value} {s : Shared} {Q : Flow → Shared → Prop} (C : LCtx w mean mg mb h₀) (F : Fr h₀ h₀.objs.size s.heap m) {S hnd : Addr} {vs : List Value} {ns : List Int} (Z : Scr h₀ S vs ns) {t : Tok} {k : Int} {o1 o4 o5 od : Obj} {news : Led} {d : Addr} {kvs : List (Str × Value)} {x : Str} {tx u5 : Tok} {st : Int}
  (N : News h₀ h₀.objs.size s.heap ((hnd, handO S k t) :: (d, od) :: news)) (hoh : ∀ p ∈ news, p.1 ≠ hnd) (hod : ∀ p ∈ news, p.1 ≠ d) (h5 : hnd ≠ d)
  (m1 : ((h₀.objs.size + 1), o1) ∈ news) (d1 : o1.data = .cell (some (.ref hnd))) (m4 : ((h₀.objs.size + 1 + 1 + 1 + 1), o4) ∈ news) (d4 : o4.data = .cell (some (.ref d))) (m5 : ((h₀.objs.size + 1 + 1 + 1 + 1 + 1), o5) ∈ news) (d5 : o5.data = .cell (some (.int st u5)))
  (st0 : 1 ≤ st) (st1 : st ≤ 3) (hkv : od.IsDictOf (PySem.strKind PR w) kvs) (hkl : kvs.length ≤ 4) (hmt : m (Str.ofString "topic") = some (.str x tx)) (k0 : 0 ≤ k) (k1 : k < 800)
  (h : ∀ Da wsa ca nsz ka ua ob h' tk', IntsAre wsa nsz → nsz.length ≤ 6 → 0 ≤ ka → ka ≤ k + 7 → ob.IsDictOf (PySem.strKind PR w) (stored kvs x (.ref Da)) → (∀ p ∈ news, p.1 ≠ Da) → hnd ≠ Da → d ≠ Da → Fr h₀ h₀.objs.size h' m →
    News h₀ h₀.objs.size h' ((hnd, handO S ka ua) :: (d, ob) :: (Da, listOf wsa.toArray ca) :: news) → Q .next { s with heap := h', toks := tk' }) :
  lawWp w h₀ fa cd (stAt (forBody (stAt lawBody 5)) 1) Q s := by
  have hfill : (fun (_ : OpenLaw) (_ : Params → Frag) => True) PySem.Challenge.rw_je0014_01 hd.heap_1 := by k_fill; trivial
  clear hfill
  obtain ⟨B, X, T, GL⟩ := C
  obtain ⟨hS, hI, hlen, hlay⟩ := Z
  conv in (stAt (forBody _) _) => whnf
  (repeat' ((fail_if_success (first | (with_reducible show wpAny _ _ (exec (Stmt.While _ _ _ _) _) _ _ _) | (with_reducible show wpAny _ _ (exec (Stmt.For _ _ _ _ _) _) _ _ _) | (with_reducible show wpAny _ _ (pyIter _) _ _ _) | (with_reducible show LCg.CompSrc _ _ _ _ _ _ _ _ _ _ _ _ _ _) | (with_reducible show LCt.CompSrcT _ _ _ _ _ _ _ _ _ _ _ _ _ _ _) | (with_reducible show SrcLP _ _ _ _ _ _ _ _ _ _ _ _ _ _ _) | (with_reducible show DSrc _ _ _ _ _ _ _ _ _ _ _ _ _ _ _) | (with_reducible show Src2 _ _ _ _ _ _ _))); (first | (k_unfold; (try dsimp only)) | (k_unmd; k_unfold; (try dsimp only)) | (k_end; wrow_close) | (k_here; (with_reducible show wpAny _ _ (call (Value.ref 189) [Value.ref _, Value.int _ _]) _ _ _); k_dflt (refine' next_U ?jkB ?jkF ?jkX ?jkN ?jkT ?jkc ?jkU ?jkS ?jkI ?jkl ?jky ?jk0 ?jk1 ?jm0 ?jm1 ?jkd ?jku ?_; (case jkB => k_asm); (case jkF => k_asm); (case jkX => k_asm); (case jkN => k_asm); (case jkT => k_asm); (case jkc => first | exact rfl | assumption); (case jkU => k_updF); (case jkS => assumption); (case jkI => assumption); (case jkl => assumption); (case jky => assumption); (case jk0 => omega); (case jk1 => omega); (case jm0 => omega); (case jm1 => omega); (case jkd => ktr_room); (case jku => ktr_units)); intro r9 t9 u9 h9 tk9 r90 r91 F' N'; (try dsimp only at N')) | walk1 | (dsimp only; walk1) | (leave1; (try dsimp only)))))
  rename_i h8 tk8 t8 u8 v8 hr8 F8 N8 keep8
  clear keep8
  refine LCg.CompSrc.range (n := r9.toNat) rfl F8 N8 hr8 (small_one (by omega) (by omega) (by omega) (by omega)) (by rw [rangeSize_nat]; simp) (by rw [sizeLine_eq]; omega) ?_
  intro g9
  refine comp_J (E₀ := []) (tl₀ := (hnd, handO S (k + 1) u9) :: (d, od) :: news) (fun i ys E tl => E = [] ∧ tl = (hnd, handO S (k + 1) u9) :: (d, od) :: news ∧ ∃ nsy, IntsAre ys nsy ∧ nsy.length = i) rfl (fun _ _ _ h => nomatch h) ⟨rfl, rfl, [], .nil, rfl⟩ ?_ ?_
  · rintro j v ys E₁ tl I oI Cc oC D m₂ h2 tk2 E' hj9 ⟨tv, rfl⟩ ⟨rfl, rfl, nsy, hys, hyl⟩ - - hC hx F2 N2 off ne
    have hj7 : (j : Int) < 7 := by omega
    clear F8 N8 hr8 F N h
    rw [List.nil_append] at N2
    try k_fold
    (repeat' ((fail_if_success (first | (with_reducible show wpAny _ _ (exec (Stmt.While _ _ _ _) _) _ _ _) | (with_reducible show wpAny _ _ (exec (Stmt.For _ _ _ _ _) _) _ _ _) | (with_reducible show wpAny _ _ (pyIter _) _ _ _) | (with_reducible show LCg.CompSrc _ _ _ _ _ _ _ _ _ _ _ _ _ _) | (with_reducible show LCt.CompSrcT _ _ _ _ _ _ _ _ _ _ _ _ _ _ _) | (with_reducible show SrcLP _ _ _ _ _ _ _ _ _ _ _ _ _ _ _) | (with_reducible show DSrc _ _ _ _ _ _ _ _ _ _ _ _ _ _ _) | (with_reducible show Src2 _ _ _ _ _ _ _))); (first | (k_unfold; (try dsimp only)) | (k_unmd; k_unfold; (try dsimp only)) | (k_end; wrow_close) | walk1 | (dsimp only; walk1) | (leave1; (try dsimp only)))))
    exact cend (E₁ := []) (E' := []) (new := []) F2 N2 (fun _ h => h) off rfl (fun _ h => nomatch h) trivial ⟨_, [], rfl, rfl, (fun _ h => nomatch h), rfl, rfl, nsy ++ [_], hys.append (.cons _ _ .nil), by simp [hyl]⟩
  · rintro ys E₁ tl - - ⟨rfl, rfl, nsy, hys, hyl⟩
    unfold LCg.FinE
    intro D8 h8 tk8 F9 N9 o8
    rw [List.nil_append] at N9
    rw [List.nil_append] at o8
    have e8 := off1_mem o8
    have e1 : hnd ≠ D8 := e8 _ (.head _)
    have e2 : d ≠ D8 := e8 _ (.tail _ (.head _))
    have e3 : ∀ p ∈ news, p.1 ≠ D8 := fun p hp => e8 p (.tail _ (.tail _ hp))
    clear o8 e8
    have hyv := hys.length
    clear F8 N8 hr8
    try dsimp only
    try k_fold
    (repeat' ((fail_if_success (first | (with_reducible show wpAny _ _ (exec (Stmt.While _ _ _ _) _) _ _ _) | (with_reducible show wpAny _ _ (exec (Stmt.For _ _ _ _ _) _) _ _ _) | (with_reducible show wpAny _ _ (pyIter _) _ _ _) | (with_reducible show LCg.CompSrc _ _ _ _ _ _ _ _ _ _ _ _ _ _) | (with_reducible show LCt.CompSrcT _ _ _ _ _ _ _ _ _ _ _ _ _ _ _) | (with_reducible show SrcLP _ _ _ _ _ _ _ _ _ _ _ _ _ _ _) | (with_reducible show DSrc _ _ _ _ _ _ _ _ _ _ _ _ _ _ _) | (with_reducible show Src2 _ _ _ _ _ _ _))); (first | (k_unfold; (try dsimp only)) | (k_unmd; k_unfold; (try dsimp only)) | (k_end; wrow_close) | (k_here; (with_reducible show wpAny _ _ (call (Value.ref 196) [Value.ref _, Value.ref _]) _ _ _); k_dflt (refine' mixed_U ?jkB ?jkF ?jkX ?jkN ?jkT ?jkc ?jkU ?jkm ?jkR ?jkS ?jkI ?jkl ?jky ?jk0 ?jk1 ?jku6 ?jkd ?jku ?_; (case jkB => k_asm); (case jkF => k_asm); (case jkX => k_asm); (case jkN => k_asm); (case jkT => k_asm); (case jkc => first | exact rfl | assumption); (case jkU => k_updF); (case jkm => k_mem); (case jkR => k_ne); (case jkS => assumption); (case jkI => assumption); (case jkl => assumption); (case jky => assumption); (case jk0 => omega); (case jk1 => omega); (case jku6 => first | exact Nat.le_of_ble_eq_true rfl | omega); (case jkd => ktr_room); (case jku => ktr_units)); intro D9 ws9 c9 u9 k9 h9 tk9 p9 e9 l9 F' N'; (try k_lt l9); (try dsimp only at N')) | (k_here; k_dflt (refine' kda_set (knd := PySem.strKind _ _) ?jF ?jN ?jU ?jd (strKind_is _ _ _ _) ?jz ?_; (case jF => k_asm); (case jN => k_asm); (case jU => k_updF); (case jd => k_asm); (case jz => (rw [sizeLine_eq]; omega))); intro h9 o9 F' N' hd'; (try dsimp only at N')) | (k_here; (with_reducible show wpAny _ _ (eval (PySem.Expr.Name _ _) _) _ _ _); k_dflt (refine' nameX_L ?jF ?jv ?_ ?ja ?jb; (case ja => rfl); (case jb => rfl); (case jF => k_asm); (case jv => with_reducible assumption))) | walk1 | (dsimp only; walk1) | (leave1; (try dsimp only)))))
    obtain ⟨nsz, hiz, hlz⟩ := ints_perm hys p9
    obtain ⟨-, q1, q2, -⟩ := l9
    rename_i F8 N8
    exact h D9 ws9 c9 nsz k9 u9 o9 _ _ hiz (by omega) (by omega) (by omega) hd' (allLt_ne (by assumption)) (Nat.ne_of_lt q1) (Nat.ne_of_lt q2) F' (news_reorder N' (by ((try simp only [List.cons_append, List.nil_append, List.append_nil]); (repeat' (first | exact List.forall_mem_nil _ | refine' List.forall_mem_cons.mpr ⟨by (first | k_mem | (repeat' (first | assumption | refine' List.Mem.tail _ ?_))), ?_⟩ | (intro p9 hp9; (repeat' (first | exact hp9 | refine' List.Mem.tail _ ?_))))))))
theorem fb5_len : (forBody (stAt lawBody 5)).length = 2 := by kernel_rfl
inductive J1 (w : World) (S hnd d c5 D' : Addr) (k : Int) (tops : List Value) (news : Led) (i : Nat) : Led → Led → Prop
  | mk {od' o5' : Obj} {k' : Int} {t' : Tok} {cl : List (Str × List Int)} {x5' : Option Value} {tl : Led} (hm : (D', listOf tops.toArray 0) ∈ tl) (hn : ∀ p ∈ news, p ∈ tl) (hc : ClusIs w od' cl tl) (ck : cl.map (·.1) = TOPS.take i) (k0 : 0 ≤ k') (k1 : k' ≤ k + 1 + 8 * i) (d5 : o5'.data = .cell x5') :
    J1 w S hnd d c5 D' k tops news i [(d, od'), (hnd, handO S k' t'), (c5, o5')] tl
/-- the cluster is built -/
theorem p1 {w : World} {mean : ExcName → Option Value} {mg mb : Str → Option Value} {fa : Addr} {cd : Value} {h₀ : Heap} {m : Str → Option Value} {s : Shared} {Q : Flow → Shared → Prop} (C : LCtx w mean mg mb h₀) (F : Fr h₀ h₀.objs.size s.heap m) {S hnd : Addr} {vs : List Value} {ns : List Int} (Z : Scr h₀ S vs ns) {t : Tok} {k : Int} {o1 o4 o5 od : Obj} {news : Led} {d : Addr} {x5 : Option Value}
  (N : News h₀ h₀.objs.size s.heap ((d, od) :: (hnd, handO S k t) :: ((h₀.objs.size + 1 + 1 + 1 + 1 + 1), o5) :: news)) (hoh : ∀ p ∈ news, p.1 ≠ hnd) (ho5 : ∀ p ∈ news, p.1 ≠ (h₀.objs.size + 1 + 1 + 1 + 1 + 1)) (hod : ∀ p ∈ news, p.1 ≠ d) (h5 : hnd ≠ (h₀.objs.size + 1 + 1 + 1 + 1 + 1)) (hdh : hnd ≠ d) (hd5 : d ≠ (h₀.objs.size + 1 + 1 + 1 + 1 + 1))
  (m1 : ((h₀.objs.size + 1), o1) ∈ news) (d1 : o1.data = .cell (some (.ref hnd))) (m4 : ((h₀.objs.size + 1 + 1 + 1 + 1), o4) ∈ news) (d4 : o4.data = .cell (some (.ref d))) (d5 : o5.data = .cell x5) (hkv : od.IsDictOf (PySem.strKind PR w) []) (k0 : 0 ≤ k) (k1 : k < 200)
  (h : ∀ nt cl od' o5' k' t' ut m' tl h' tk', nt ≤ 4 → ClusIs w od' cl tl → cl.map (·.1) = TOPS.take nt → 0 ≤ k' → k' ≤ k + 40 → (∀ p ∈ news, p ∈ tl) → (∀ p ∈ tl, p.1 ≠ hnd) → (∀ p ∈ tl, p.1 ≠ (h₀.objs.size + 1 + 1 + 1 + 1 + 1)) → (∀ p ∈ tl, p.1 ≠ d) →
    (∀ y, m' y = if y = Str.ofString "topic" then ut else m y) → Fr h₀ h₀.objs.size h' m' → News h₀ h₀.objs.size h' ((d, od') :: (hnd, handO S k' t') :: ((h₀.objs.size + 1 + 1 + 1 + 1 + 1), o5') :: tl) → Q .next { s with heap := h', toks := tk' }) :
  lawWp w h₀ fa cd (stAt lawBody 5) Q s := by
  have C' := C
  have hfill : (fun (_ : OpenLaw) (_ : Params → Frag) => True) PySem.Challenge.rw_je0014_01 hd.heap_1 := by k_fill; trivial
  clear hfill
  obtain ⟨B, X, T, GL⟩ := C
  have Z' := Z
  obtain ⟨hS, hI, hlen, hlay⟩ := Z
  refine for_at (x := Str.ofString "topic") h₀ (by unfold IsFor; kernel_rfl) (by kernel_rfl) (by kernel_rfl) (by intro _; rfl) ?_
  conv in (forIter _) => whnf
  (repeat' ((fail_if_success (first | (with_reducible show wpAny _ _ (exec (Stmt.While _ _ _ _) _) _ _ _) | (with_reducible show wpAny _ _ (exec (Stmt.For _ _ _ _ _) _) _ _ _) | (with_reducible show wpAny _ _ (pyIter _) _ _ _) | (with_reducible show LCg.CompSrc _ _ _ _ _ _ _ _ _ _ _ _ _ _) | (with_reducible show LCt.CompSrcT _ _ _ _ _ _ _ _ _ _ _ _ _ _ _) | (with_reducible show SrcLP _ _ _ _ _ _ _ _ _ _ _ _ _ _ _) | (with_reducible show DSrc _ _ _ _ _ _ _ _ _ _ _ _ _ _ _) | (with_reducible show Src2 _ _ _ _ _ _ _))); (first | (k_unfold; (try dsimp only)) | (k_unmd; k_unfold; (try dsimp only)) | (k_end; wrow_close) | (k_here; (with_reducible show wpAny _ _ (call (Value.ref 189) [Value.ref _, Value.int _ _]) _ _ _); k_dflt (refine' next_U ?jkB ?jkF ?jkX ?jkN ?jkT ?jkc ?jkU ?jkS ?jkI ?jkl ?jky ?jk0 ?jk1 ?jm0 ?jm1 ?jkd ?jku ?_; (case jkB => k_asm); (case jkF => k_asm); (case jkX => k_asm); (case jkN => k_asm); (case jkT => k_asm); (case jkc => first | exact rfl | assumption); (case jkU => k_updF); (case jkS => assumption); (case jkI => assumption); (case jkl => assumption); (case jky => assumption); (case jk0 => omega); (case jk1 => omega); (case jm0 => omega); (case jm1 => omega); (case jkd => ktr_room); (case jku => ktr_units)); intro r9 t9 u9 h9 tk9 r90 r91 F' N'; (try dsimp only at N')) | (k_here; (with_reducible show wpAny _ _ (subscriptTail _ (PySem.Expr.Slice _ _ none _) (Value.ref _) (Value.ref _)) _ _ _); (fail_if_success (with_reducible show wpAny _ _ (subscriptTail (PySem.Expr.Name _ _) _ _ _) _ _ _)); k_dflt (refine kba_turn (value' := PySem.Expr.Name (PySem.Str.ofString "_") ⟨0, 0, 0, 0⟩) (fun _ => rfl) ?_)) | (k_here; (with_reducible show wpAny _ _ (subscriptTail _ (PySem.Expr.Slice _ _ none _) (Value.ref _) (Value.ref _)) _ _ _); k_dflt (refine' slice_upto_L ?jF ?jN ?jm ?ja ?jz ?_ ?js ?jt; (case jF => k_asm); (case jN => k_asm); (case jm => k_mem); (case ja => omega); (case jz => first | omega | exact Nat.le_of_ble_eq_true rfl); (case js => with_unfolding_all rfl); (case jt => kmk_pure)); intro D' h' F' N' l1; (try k_lt l1); (try k_sweep)) | walk1 | (dsimp only; walk1) | (leave1; (try dsimp only)))))
  rename_i z5 z4 z3 z2 z1
  obtain ⟨-, a1, a2, a3, -⟩ := l1
  generalize hts : List.take (Int.toNat (1 + r9)) _ = tops at N'
  have hTS : StrsAre tops (TOPS.take (Int.toNat (1 + r9))) := by
    rw [← hts]
    exact StrsAre.take' (.cons _ _ (.cons _ _ (.cons _ _ (.cons _ _ .nil)))) _
  have hl4 : TOPS.length = 4 := rfl
  have htl4 : tops.length ≤ 4 := by
    have := hTS.length
    rw [List.length_take] at this
    omega
  clear hts
  refine for_J (vs := tops) (nn := 0) (E₀ := [(d, od), (hnd, handO S (k + 1) u9), ((h₀.objs.size + 1 + 1 + 1 + 1 + 1), o5)]) (tl₀ := (D', listOf tops.toArray 0) :: news) [] (J1 w S hnd d (h₀.objs.size + 1 + 1 + 1 + 1 + 1) D' k tops news) rfl F' (news_reorder N' (by ((try simp only [List.cons_append, List.nil_append, List.append_nil]); (repeat' (first | exact List.forall_mem_nil _ | refine' List.forall_mem_cons.mpr ⟨by (first | k_mem | (repeat' (first | assumption | refine' List.Mem.tail _ ?_))), ?_⟩ | (intro p9 hp9; (repeat' (first | exact hp9 | refine' List.Mem.tail _ ?_)))))))) rfl ?_ ?_ ?_ ?_ ?_
  · refine own_of ?_
    intro a ha
    simp only [List.map_cons, List.map_nil, List.mem_cons, List.not_mem_nil, or_false] at ha
    rcases ha with rfl | rfl | rfl
    · exact offc (Nat.ne_of_gt a1) hod
    · exact offc (Nat.ne_of_gt a2) hoh
    · exact offc (Nat.ne_of_gt a3) ho5
  · exact .mk (cl := []) (.head _) (fun p hp => .tail _ hp) ⟨[], hkv, trivial⟩ rfl (by omega) (by omega) d5
  · rintro i E tl ⟨hm⟩
    exact List.mem_append_right _ hm
  · rintro i v u E₁ tl T h1 tk hv - J hsub hoT F1 N1
    cases J with | @mk od' o5' k' t' cl x5' _ hmD hnt hcl hck hk0 hk1 d5' =>
    obtain ⟨x, tx, rfl, hx⟩ := hTS.item i v hv
    obtain ⟨kvs, hkv, hce⟩ := hcl
    have hx4 : TOPS[i]? = some x := by
      rw [List.getElem?_take] at hx
      split at hx
      · exact hx
      · cases hx
    have hxn : x ∉ kvs.map (·.1) := by rw [hce.keys, hck]; exact not_mem_take (by decide) hx4
    have hi : i < 4 := by
      have := (List.getElem?_eq_some_iff.mp hx4).1
      omega
    have hkl : kvs.length ≤ 4 := by
      have := congrArg List.length (hce.keys.trans hck)
      rw [List.length_map, List.length_take] at this
      omega
    have f1 : ∀ p ∈ T, p.1 ≠ hnd := fun p hp => hoT p hp _ (.tail _ (.head _))
    have f2 : ∀ p ∈ T, p.1 ≠ (h₀.objs.size + 1 + 1 + 1 + 1 + 1) := fun p hp => hoT p hp _ (.tail _ (.tail _ (.head _)))
    have f3 : ∀ p ∈ T, p.1 ≠ d := fun p hp => hoT p hp _ (.head _)
    have hT : ∀ p ∈ news, p ∈ T := fun p hp => hsub p (hnt p hp)
    clear F' N'
    refine execs_at (body := forBody (stAt lawBody 5)) (k := 0) (by rw [fb5_len]; decide) ?_
    refine p1_step C' F1 Z' (news := (d, od') :: T) (news_reorder N1 (by ((try simp only [List.cons_append, List.nil_append, List.append_nil]); (repeat' (first | exact List.forall_mem_nil _ | refine' List.forall_mem_cons.mpr ⟨by (first | k_mem | (repeat' (first | assumption | refine' List.Mem.tail _ ?_))), ?_⟩ | (intro p9 hp9; (repeat' (first | exact hp9 | refine' List.Mem.tail _ ?_)))))))) (offc hdh.symm f1) (offc hd5 f2) h5 (.tail _ (hT _ m1)) d1 d5' hk0 (by omega) ?_
    intro r t2 u2 o52 h2 tk2 r0 r1 d52 F2 N2
    refine execs_at (body := forBody (stAt lawBody 5)) (k := 1) (by rw [fb5_len]; decide) ?_
    refine p1_store C' F2 Z' (news := ((h₀.objs.size + 1 + 1 + 1 + 1 + 1), o52) :: T) (news_reorder N2 (by ((try simp only [List.cons_append, List.nil_append, List.append_nil]); (repeat' (first | exact List.forall_mem_nil _ | refine' List.forall_mem_cons.mpr ⟨by (first | k_mem | (repeat' (first | assumption | refine' List.Mem.tail _ ?_))), ?_⟩ | (intro p9 hp9; (repeat' (first | exact hp9 | refine' List.Mem.tail _ ?_)))))))) (offc h5.symm f1) (offc hd5.symm f3) hdh (.tail _ (hT _ m1)) d1 (.tail _ (hT _ m4)) d4 (.head _) d52 (by omega) (by omega) hkv hkl rfl (by omega) (by omega) ?_
    intro Da wsa ca nsz ka ua ob h3 tk3 hiz hlz hka hka1 hob hDa hDh hDd F3 N3
    refine execs_end (body := forBody (stAt lawBody 5)) (by rw [fb5_len]; decide) ?_
    refine fpost_next (fend [(d, ob), (hnd, handO S ka ua), ((h₀.objs.size + 1 + 1 + 1 + 1 + 1), o52)] [(Da, listOf wsa.toArray ca)] F3 N3 (by ((try simp only [List.cons_append, List.nil_append, List.append_nil]); (repeat' (first | exact List.forall_mem_nil _ | refine' List.forall_mem_cons.mpr ⟨by (first | k_mem | (repeat' (first | assumption | refine' List.Mem.tail _ ?_))), ?_⟩ | (intro p9 hp9; (repeat' (first | exact hp9 | refine' List.Mem.tail _ ?_))))))) rfl ?_ (fun y hy hs => by simp only [hy, hs, if_false, Bool.false_eq_true])
        (.mk (cl := cl ++ [(x, nsz)]) (.tail _ hmD) (fun p hp => .tail _ (hnt p hp)) ⟨_, hob, ?_⟩ ?_ hka (by omega) d52))
    · intro q hq
      rw [List.mem_singleton.mp hq]
      refine ⟨fun p hp => hDa p (.tail _ hp), ?_⟩
      intro b hb
      simp only [List.map_cons, List.map_nil, List.mem_cons, List.not_mem_nil, or_false] at hb
      rcases hb with rfl | rfl | rfl
      · exact hDd.symm
      · exact hDh.symm
      · exact (hDa _ (.head _)).symm
    · rw [stored_absent (valueAt_none_of_not_mem hxn)]
      exact (hce.mono fun p hp => .tail _ hp).snoc (.head _) hiz hlz
    · rw [List.map_append, hck, List.take_add_one, hx4]; rfl
  · rintro u E₁ tl h1 tk - hoff J F1 N1
    cases J with | @mk od' o5' k' t' cl x5' _ hmD hnt hcl hck hk0 hk1 d5' =>
    exact h tops.length cl od' o5' k' t' (u (Str.ofString "topic")) _ tl h1 tk htl4 hcl hck hk0 (by omega) hnt (fun p hp => hoff p hp _ (.tail _ (.head _))) (fun p hp => hoff p hp _ (.tail _ (.tail _ (.head _)))) (fun p hp => hoff p hp _ (.head _))
      (fun y => by by_cases hy : y = Str.ofString "topic" <;> simp [hy]) F1 N1
-- P2
inductive J2 (S hnd : Addr) (k : Int) (tl₀ : Led) (i : Nat) (ys : List Value) : Led → Led → Prop
  | mk {k' : Int} {t' : Tok} {ss : List Str} (hys : StrsAre ys ss) (hss : ss.Sublist (WTOPS.take i)) (k0 : 0 ≤ k') (k1 : k' ≤ k + i) : J2 S hnd k tl₀ i ys [(hnd, handO S k' t')] tl₀
/-- wanted -/
theorem p2 {w : World} {mean : ExcName → Option Value} {mg mb : Str → Option Value} {fa : Addr} {cd : Value} {h₀ : Heap} {m : Str → Option Value} {s : Shared} {Q : Flow → Shared → Prop} (C : LCtx w mean mg mb h₀) (F : Fr h₀ h₀.objs.size s.heap m) {S hnd : Addr} {vs : List Value} {ns : List Int} (Z : Scr h₀ S vs ns) {t : Tok} {k : Int} {o1 : Obj} {news : Led}
  (N : News h₀ h₀.objs.size s.heap ((hnd, handO S k t) :: news)) (hoh : ∀ p ∈ news, p.1 ≠ hnd)
  (m1 : ((h₀.objs.size + 1), o1) ∈ news) (d1 : o1.data = .cell (some (.ref hnd))) (k0 : 0 ≤ k) (k1 : k < 800)
  (h : ∀ W ys ss k' t' h' tk', StrsAre ys ss → ss.Sublist WTOPS → 0 ≤ k' → k' ≤ k + 5 → (∀ p ∈ (hnd, handO S k' t') :: news, p.1 ≠ W) → Fr h₀ h₀.objs.size h' (fun y => if y = Str.ofString "wanted" then some (.ref W) else m y) →
    News h₀ h₀.objs.size h' ((W, listOf ys.toArray ys.length) :: (hnd, handO S k' t') :: news) → Q .next { s with heap := h', toks := tk' }) :
  lawWp w h₀ fa cd (stAt lawBody 6) Q s := by
  have hfill : (fun (_ : OpenLaw) (_ : Params → Frag) => True) PySem.Challenge.rw_je0014_01 hd.heap_1 := by k_fill; trivial
  clear hfill
  obtain ⟨B, X, T, GL⟩ := C
  obtain ⟨hS, hI, hlen, hlay⟩ := Z
  conv in (stAt lawBody _) => whnf
  (repeat' ((fail_if_success (first | (with_reducible show wpAny _ _ (exec (Stmt.While _ _ _ _) _) _ _ _) | (with_reducible show wpAny _ _ (exec (Stmt.For _ _ _ _ _) _) _ _ _) | (with_reducible show wpAny _ _ (pyIter _) _ _ _) | (with_reducible show LCg.CompSrc _ _ _ _ _ _ _ _ _ _ _ _ _ _) | (with_reducible show LCt.CompSrcT _ _ _ _ _ _ _ _ _ _ _ _ _ _ _) | (with_reducible show SrcLP _ _ _ _ _ _ _ _ _ _ _ _ _ _ _) | (with_reducible show DSrc _ _ _ _ _ _ _ _ _ _ _ _ _ _ _) | (with_reducible show Src2 _ _ _ _ _ _ _))); (first | (k_unfold; (try dsimp only)) | (k_unmd; k_unfold; (try dsimp only)) | (k_end; wrow_close) | (k_here; (with_reducible show wpAny _ _ (call (Value.ref 189) [Value.ref _, Value.int _ _]) _ _ _); k_dflt (refine' next_U ?jkB ?jkF ?jkX ?jkN ?jkT ?jkc ?jkU ?jkS ?jkI ?jkl ?jky ?jk0 ?jk1 ?jm0 ?jm1 ?jkd ?jku ?_; (case jkB => k_asm); (case jkF => k_asm); (case jkX => k_asm); (case jkN => k_asm); (case jkT => k_asm); (case jkc => first | exact rfl | assumption); (case jkU => k_updF); (case jkS => assumption); (case jkI => assumption); (case jkl => assumption); (case jky => assumption); (case jk0 => omega); (case jk1 => omega); (case jm0 => omega); (case jm1 => omega); (case jkd => ktr_room); (case jku => ktr_units)); intro r9 t9 u9 h9 tk9 r90 r91 F' N'; (try dsimp only at N')) | (k_here; (with_reducible show wpAny _ _ (exec (Stmt.Assign _ (PySem.Expr.ListComp _ _ _ _) _) _) _ _ _); k_dflt (refine LCt.Assign_ListComp_T (F₀ := by k_asm) (by rfl) (by with_unfolding_all rfl) (by with_unfolding_all rfl) (by decide) (by rfl) (by decide) (by rfl) (by rfl) (by rfl) ?_)) | walk1 | (dsimp only; walk1) | (leave1; (try dsimp only)))))
  rename_i l9 h9 F9 N9 l1 hAL9
  have e1 : hnd ≠ l9 := Nat.ne_of_lt l1.1
  have e2 : ∀ p ∈ news, p.1 ≠ l9 := allLt_ne hAL9
  clear hAL9 l1
  generalize hlit : [Value.str (Str.ofString "u") s.toks, _, _, _, _] = lit at N9
  have hWS : StrsAre lit WTOPS := by rw [← hlit]; exact .cons _ _ (.cons _ _ (.cons _ _ (.cons _ _ (.cons _ _ .nil))))
  have hl5 : lit.length = 5 := by rw [← hlit]; rfl
  clear hlit
  have N8 := news_reorder (l' := (hnd, handO S k t) :: (l9, listOf lit.toArray 0) :: news) N9 (by ((try simp only [List.cons_append, List.nil_append, List.append_nil]); (repeat' (first | exact List.forall_mem_nil _ | refine' List.forall_mem_cons.mpr ⟨by (first | k_mem | (repeat' (first | assumption | refine' List.Mem.tail _ ?_))), ?_⟩ | (intro p9 hp9; (repeat' (first | exact hp9 | refine' List.Mem.tail _ ?_)))))))
  have ho8 : ∀ p ∈ (l9, listOf lit.toArray 0) :: news, p.1 ≠ hnd := offc e1.symm hoh
  have m18 : ((h₀.objs.size + 1), o1) ∈ (l9, listOf lit.toArray 0) :: news := .tail _ m1
  have hml : (l9, listOf lit.toArray 0) ∈ (l9, listOf lit.toArray 0) :: news := .head _
  have hsub : ∀ p ∈ news, p ∈ (l9, listOf lit.toArray 0) :: news := fun p hp => .tail _ hp
  clear N9
  generalize (l9, listOf lit.toArray 0) :: news = tl at N8 ho8 m18 hml hsub
  refine LCt.CompSrcT.ledger (its := lit.toArray) (k := 0) rfl F9 N8 (.tail _ hml) (by rw [List.size_toArray, hl5]; exact Nat.le_of_ble_eq_true rfl) ?_
  intro g9
  rw [show lit.toArray.size = 5 by rw [List.size_toArray, hl5]]
  refine compT_J (E₀ := [(hnd, handO S k t)]) (tl₀ := tl) (J2 S hnd k tl) rfl (own_of (List.forall_mem_cons.mpr ⟨ho8, List.forall_mem_nil _⟩)) (.mk .nil (List.Sublist.slnil) k0 (by omega)) ?_ ?_
  · rintro j v ys E₁ tl' I oI C oC D m₂ h2 tk2 E' hj9 hv J - - hC hx F2 N2 off ne
    cases J with | @mk k' t' ss hys hss hk0 hk1 =>
    obtain ⟨x, tx, rfl, hxw⟩ := hWS.item j v (by simpa using hv)
    have hts : WTOPS.take (j + 1) = WTOPS.take j ++ [x] := by rw [List.take_add_one, hxw]; rfl
    have off3 := off3_iff.mp off
    have oi := off3 _ (.head _)
    have of1 := fun p hp => off3 p (.tail _ hp)
    obtain ⟨n1, n2, n3⟩ := oi
    have hkb : k' < 900 := by omega
    clear h hv hj9 e1 e2 N8 F9
    simp only [List.cons_append, List.nil_append] at N2
    try k_fold
    (repeat' ((fail_if_success (first | (with_reducible show wpAny _ _ (exec (Stmt.While _ _ _ _) _) _ _ _) | (with_reducible show wpAny _ _ (exec (Stmt.For _ _ _ _ _) _) _ _ _) | (with_reducible show wpAny _ _ (pyIter _) _ _ _) | (with_reducible show LCg.CompSrc _ _ _ _ _ _ _ _ _ _ _ _ _ _) | (with_reducible show LCt.CompSrcT _ _ _ _ _ _ _ _ _ _ _ _ _ _ _) | (with_reducible show SrcLP _ _ _ _ _ _ _ _ _ _ _ _ _ _ _) | (with_reducible show DSrc _ _ _ _ _ _ _ _ _ _ _ _ _ _ _) | (with_reducible show Src2 _ _ _ _ _ _ _))); (first | (k_unfold; (try dsimp only)) | (k_unmd; k_unfold; (try dsimp only)) | (k_end; wrow_close) | (k_here; (with_reducible show wpAny _ _ (call (Value.ref 189) [Value.ref _, Value.int _ _]) _ _ _); k_dflt (refine' next_U ?jkB ?jkF ?jkX ?jkN ?jkT ?jkc ?jkU ?jkS ?jkI ?jkl ?jky ?jk0 ?jk1 ?jm0 ?jm1 ?jkd ?jku ?_; (case jkB => k_asm); (case jkF => k_asm); (case jkX => k_asm); (case jkN => k_asm); (case jkT => k_asm); (case jkc => first | exact rfl | assumption); (case jkU => k_updF); (case jkS => assumption); (case jkI => assumption); (case jkl => assumption); (case jky => assumption); (case jk0 => omega); (case jk1 => omega); (case jm0 => omega); (case jm1 => omega); (case jkd => ktr_room); (case jku => ktr_units)); intro r9 t9 u9 h9 tk9 r90 r91 F' N'; (try dsimp only at N')) | walk1 | (dsimp only; walk1) | (leave1; (try dsimp only)))))
    · exact cend (E₁ := [(hnd, handO S k' t')]) (E' := [(hnd, handO S (k' + 1) u9)]) (new := []) F' N' (by ((try simp only [List.cons_append, List.nil_append, List.append_nil]); (repeat' (first | exact List.forall_mem_nil _ | refine' List.forall_mem_cons.mpr ⟨by (first | k_mem | (repeat' (first | assumption | refine' List.Mem.tail _ ?_))), ?_⟩ | (intro p9 hp9; (repeat' (first | exact hp9 | refine' List.Mem.tail _ ?_))))))) off rfl (fun _ h => nomatch h) (.inr ⟨_, .tail _ hml, rfl, _, rfl⟩)
        ⟨_, [], rfl, rfl, (fun _ h => nomatch h), .mk (hys.append' (.cons _ _ .nil)) (by rw [hts]; exact hss.append (List.Sublist.refl _)) (by omega) (by omega)⟩
    · exact cend (E₁ := [(hnd, handO S k' t')]) (E' := [(hnd, handO S (k' + 1) u9)]) (new := []) F' N' (by ((try simp only [List.cons_append, List.nil_append, List.append_nil]); (repeat' (first | exact List.forall_mem_nil _ | refine' List.forall_mem_cons.mpr ⟨by (first | k_mem | (repeat' (first | assumption | refine' List.Mem.tail _ ?_))), ?_⟩ | (intro p9 hp9; (repeat' (first | exact hp9 | refine' List.Mem.tail _ ?_))))))) off rfl (fun _ h => nomatch h) (.inr ⟨_, .tail _ hml, rfl, _, rfl⟩)
        ⟨_, [], rfl, rfl, (fun _ h => nomatch h), .mk hys (by rw [hts]; exact hss.trans (List.sublist_append_left _ _)) (by omega) (by omega)⟩
  · rintro ys E₁ tl' - hoff' J
    cases J with | @mk k' t' ss hys hss hk0 hk1 =>
    unfold LCg.FinA
    intro W9 h8 tk8 F8 N8 o8
    exact h W9 ys ss k' t' _ _ hys hss hk0 hk1 (fun p hp => by
      rcases List.mem_cons.mp hp with rfl | hp
      · exact off1_mem o8 _ (.head _)
      · exact off1_mem o8 _ (.tail _ (hsub _ hp))) F8 (news_reorder N8 (List.forall_mem_cons.mpr ⟨.head _, List.forall_mem_cons.mpr ⟨.tail _ (.head _), fun p hp => .tail _ (.tail _ (hsub _ hp))⟩⟩))
end Mine
namespace Mine
-- L2
theorem mems_names {mems : List Mem} {nms : List Str} {many st : Int} (hmm : mems.map (fun m => (m.1, m.2.1)) = (List.range nms.length).map (fun j => (nms.getD j Str.empty, gidOf nms many st j))) : mems.map (·.1) = nms ∧ ∀ (j : Nat) (m : Mem), mems[j]? = some m → (m.2.1.isSome = true ↔ j < st.toNat) := by
  constructor
  · have := congrArg (List.map fun p : Str × Option Str => p.1) hmm
    rw [List.map_map, List.map_map] at this
    exact this.trans (range_getD nms)
  · intro j m hj
    have h2 := congrArg (fun l : List (Str × Option Str) => l[j]?) hmm
    simp only [List.getElem?_map, hj, Option.map_some] at h2
    have hj2 : j < nms.length := by
      have h3 := (List.getElem?_eq_some_iff.mp hj).1
      have := congrArg List.length hmm
      rw [List.length_map, List.length_map, List.length_range] at this
      omega
    rw [List.getElem?_eq_getElem (by rw [List.length_range]; exact hj2), List.getElem_range] at h2
    have h3 : m.2.1 = gidOf nms many st j := congrArg Prod.snd (Option.some.inj h2)
    rw [h3, gidOf]
    by_cases q : (j : Int) < st
    · rw [if_pos q]; exact ⟨fun _ => by omega, fun _ => rfl⟩
    · rw [if_neg q]; exact ⟨(fun e => nomatch e), fun e => absurd (by omega) q⟩
/-- the law, from its first statement to its last -/
theorem law_all {w : World} {mean : ExcName → Option Value} {mg mb : Str → Option Value} {fa : Addr} {cd : Value} {h₀ : Heap} {m : Str → Option Value} {s : Shared} {Q : Flow → Shared → Prop} (C : LCtx w mean mg mb h₀) (F : Fr h₀ h₀.objs.size s.heap m) {S : Addr} {vs : List Value} {ns : List Int} (Z : Scr h₀ S vs ns) {o1 o2 o3 o4 o5 o6 o7 : Obj} {x1 x2 x3 x4 x5 x6 x7 : Option Value}
  (N : News h₀ h₀.objs.size s.heap [((h₀.objs.size + 1 + 1 + 1 + 1 + 1 + 1 + 1), o7), ((h₀.objs.size + 1 + 1 + 1 + 1 + 1 + 1), o6), ((h₀.objs.size + 1 + 1 + 1 + 1 + 1), o5), ((h₀.objs.size + 1 + 1 + 1 + 1), o4), ((h₀.objs.size + 1 + 1 + 1), o3), ((h₀.objs.size + 1 + 1), o2), ((h₀.objs.size + 1), o1)]) (d1 : o1.data = .cell x1) (d2 : o2.data = .cell x2) (d3 : o3.data = .cell x3) (d4 : o4.data = .cell x4) (d5 : o5.data = .cell x5) (d6 : o6.data = .cell x6) (d7 : o7.data = .cell x7)
  (ms : m (Str.ofString "script") = some (.ref S)) (h : ∀ h' tk' dr' m', Fr h₀ h₀.objs.size h' m' → Q (.ret (.bool true)) { s with heap := h', toks := tk', drawn := dr' }) :
  lawWs w h₀ fa cd (lawBody.drop 0) Q s := by
  refine execs_at (k := 0) (by rw [lawBody_len]; decide) ?_
  refine s0 (news := [((h₀.objs.size + 1 + 1 + 1 + 1 + 1 + 1 + 1), o7), ((h₀.objs.size + 1 + 1 + 1 + 1 + 1 + 1), o6), ((h₀.objs.size + 1 + 1 + 1 + 1 + 1), o5), ((h₀.objs.size + 1 + 1 + 1 + 1), o4), ((h₀.objs.size + 1 + 1 + 1), o3), ((h₀.objs.size + 1 + 1), o2)]) C F (news_reorder N (by (repeat' (first | exact List.forall_mem_nil _ | refine List.forall_mem_cons.mpr ⟨by (repeat' (first | exact List.mem_cons_self .. | refine List.mem_cons_of_mem _ ?_)), ?_⟩)))) (by (repeat' (first | exact List.forall_mem_nil _ | refine List.forall_mem_cons.mpr ⟨by (refine neN ?_; dsimp only; omega), ?_⟩))) d1 ms ?_
  intro hnd o1' t0 h1 tk1 hlt d1' F1 N1
  clear F N
  have hh : @LT.lt Nat _ ((h₀.objs.size + 1 + 1 + 1 + 1 + 1 + 1 + 1)) hnd := hlt (_, o7) (by (repeat' (first | exact List.mem_cons_self .. | refine List.mem_cons_of_mem _ ?_)))
  clear hlt
  refine execs_at (k := 1) (by rw [lawBody_len]; decide) ?_
  refine s1 (news := [((h₀.objs.size + 1), o1'), ((h₀.objs.size + 1 + 1 + 1 + 1 + 1 + 1 + 1), o7), ((h₀.objs.size + 1 + 1 + 1 + 1 + 1 + 1), o6), ((h₀.objs.size + 1 + 1 + 1 + 1 + 1), o5), ((h₀.objs.size + 1 + 1 + 1 + 1), o4), ((h₀.objs.size + 1 + 1 + 1), o3)]) C F1 Z (news_reorder N1 (by (repeat' (first | exact List.forall_mem_nil _ | refine List.forall_mem_cons.mpr ⟨by (repeat' (first | exact List.mem_cons_self .. | refine List.mem_cons_of_mem _ ?_)), ?_⟩)))) (by (repeat' (first | exact List.forall_mem_nil _ | refine List.forall_mem_cons.mpr ⟨by (refine neN ?_; dsimp only; omega), ?_⟩))) (by (repeat' (first | exact List.forall_mem_nil _ | refine List.forall_mem_cons.mpr ⟨by (refine neN ?_; dsimp only; omega), ?_⟩))) (by refine neN ?_; (try dsimp only); omega) (by (repeat' (first | exact List.mem_cons_self .. | refine List.mem_cons_of_mem _ ?_))) d1' d2 (by decide) (by decide) ?_
  intro r1 t1 u1 o2' h2 tk2 hr0 hr1 d2' F2 N2
  clear F1 N1
  refine execs_at (k := 2) (by rw [lawBody_len]; decide) ?_
  refine s2 C F2 Z N2 (by (repeat' (first | exact List.forall_mem_nil _ | refine List.forall_mem_cons.mpr ⟨by (refine neN ?_; dsimp only; omega), ?_⟩))) (.tail _ (by (repeat' (first | exact List.mem_cons_self .. | refine List.mem_cons_of_mem _ ?_)))) d1' (.head _) d2' (by omega) (by decide) (by decide) ?_
  intro st t2 ts h3 tk3 st0 st1 F3 N3
  clear F2 N2
  refine execs_at (k := 3) (by rw [lawBody_len]; decide) ?_
  refine s3 (news := [((h₀.objs.size + 1), o1'), ((h₀.objs.size + 1 + 1), o2'), ((h₀.objs.size + 1 + 1 + 1 + 1 + 1 + 1 + 1), o7), ((h₀.objs.size + 1 + 1 + 1 + 1 + 1 + 1), o6), ((h₀.objs.size + 1 + 1 + 1 + 1 + 1), o5), ((h₀.objs.size + 1 + 1 + 1 + 1), o4)]) C F3 Z (news_reorder N3 (by (repeat' (first | exact List.forall_mem_nil _ | refine List.forall_mem_cons.mpr ⟨by (repeat' (first | exact List.mem_cons_self .. | refine List.mem_cons_of_mem _ ?_)), ?_⟩)))) (by (repeat' (first | exact List.forall_mem_nil _ | refine List.forall_mem_cons.mpr ⟨by (refine neN ?_; dsimp only; omega), ?_⟩))) (by (repeat' (first | exact List.forall_mem_nil _ | refine List.forall_mem_cons.mpr ⟨by (refine neN ?_; dsimp only; omega), ?_⟩))) (by refine neN ?_; (try dsimp only); omega) (by (repeat' (first | exact List.mem_cons_self .. | refine List.mem_cons_of_mem _ ?_))) d1' (by (repeat' (first | exact List.mem_cons_self .. | refine List.mem_cons_of_mem _ ?_))) d2' d3 (by omega) (by decide) (by decide) ?_
  intro nm nv nms o3' k3 t3 h4 tk4 hnv hnl hnn hnm k30 k31 d3' hltn F4 N4
  clear F3 N3
  have hh2 : @LT.lt Nat _ hnd nm := hltn _ (.head _)
  clear hltn
  refine execs_at (k := 4) (by rw [lawBody_len]; decide) ?_
  refine s4 (news := [(nm, listOf nv.toArray 0), (hnd, handO S k3 t3), ((h₀.objs.size + 1 + 1 + 1), o3'), ((h₀.objs.size + 1), o1'), ((h₀.objs.size + 1 + 1), o2'), ((h₀.objs.size + 1 + 1 + 1 + 1 + 1 + 1 + 1), o7), ((h₀.objs.size + 1 + 1 + 1 + 1 + 1 + 1), o6), ((h₀.objs.size + 1 + 1 + 1 + 1 + 1), o5)]) C F4 (news_reorder N4 (by (repeat' (first | exact List.forall_mem_nil _ | refine List.forall_mem_cons.mpr ⟨by (repeat' (first | exact List.mem_cons_self .. | refine List.mem_cons_of_mem _ ?_)), ?_⟩)))) (by (repeat' (first | exact List.forall_mem_nil _ | refine List.forall_mem_cons.mpr ⟨by (refine neN ?_; dsimp only; omega), ?_⟩))) d4 ?_
  intro d od o4' h5 tk5 hltd d4' hod F5 N5
  clear F4 N4
  have hh3 : @LT.lt Nat _ nm d := hltd (_, listOf nv.toArray 0) (by (repeat' (first | exact List.mem_cons_self .. | refine List.mem_cons_of_mem _ ?_)))
  clear hltd
  have hd1 : @LT.lt Nat _ 1 d := by
    have := big_of C.X F5
    omega
  refine execs_at (k := 5) (by rw [lawBody_len]; decide) ?_
  refine p1 (news := [(nm, listOf nv.toArray 0), ((h₀.objs.size + 1), o1'), ((h₀.objs.size + 1 + 1), o2'), ((h₀.objs.size + 1 + 1 + 1), o3'), ((h₀.objs.size + 1 + 1 + 1 + 1), o4'), ((h₀.objs.size + 1 + 1 + 1 + 1 + 1 + 1), o6), ((h₀.objs.size + 1 + 1 + 1 + 1 + 1 + 1 + 1), o7)]) C F5 Z (news_reorder N5 (by (repeat' (first | exact List.forall_mem_nil _ | refine List.forall_mem_cons.mpr ⟨by (repeat' (first | exact List.mem_cons_self .. | refine List.mem_cons_of_mem _ ?_)), ?_⟩)))) (by (repeat' (first | exact List.forall_mem_nil _ | refine List.forall_mem_cons.mpr ⟨by (refine neN ?_; dsimp only; omega), ?_⟩))) (by (repeat' (first | exact List.forall_mem_nil _ | refine List.forall_mem_cons.mpr ⟨by (refine neN ?_; dsimp only; omega), ?_⟩))) (by (repeat' (first | exact List.forall_mem_nil _ | refine List.forall_mem_cons.mpr ⟨by (refine neN ?_; dsimp only; omega), ?_⟩))) (by refine neN ?_; (try dsimp only); omega) (by refine neN ?_; (try dsimp only); omega) (by refine neN ?_; (try dsimp only); omega) (by (repeat' (first | exact List.mem_cons_self .. | refine List.mem_cons_of_mem _ ?_))) d1' (by (repeat' (first | exact List.mem_cons_self .. | refine List.mem_cons_of_mem _ ?_))) d4' d5 hod k30 (by omega) ?_
  intro nt cl od' o5' k5 t5 ut m5 tl h6 tk6 hnt hcl hck k50 k51 hn5 hoh ho5 hod5 hm5 F6 N6
  clear F5 N5
  refine execs_at (k := 6) (by rw [lawBody_len]; decide) ?_
  refine p2 (t := t5) (k := k5) (news := (d, od') :: ((h₀.objs.size + 1 + 1 + 1 + 1 + 1), o5') :: tl) C F6 Z (news_reorder N6 ?_) ?_ (.tail _ (.tail _ (hn5 _ (by (repeat' (first | exact List.mem_cons_self .. | refine List.mem_cons_of_mem _ ?_)))))) d1' k50 (by omega) ?_
  · exact List.forall_mem_cons.mpr ⟨.tail _ (.head _), List.forall_mem_cons.mpr ⟨.head _, List.forall_mem_cons.mpr ⟨.tail _ (.tail _ (.head _)), fun p hp => .tail _ (.tail _ (.tail _ hp))⟩⟩⟩
  · exact List.forall_mem_cons.mpr ⟨by refine neN ?_; (try dsimp only); omega, List.forall_mem_cons.mpr ⟨by refine neN ?_; (try dsimp only); omega, hoh⟩⟩
  intro W ys ss k6 t6 h7 tk7 hys hss k60 k61 hW F7 N7
  clear F6 N6
  have hmany : 1 ≤ 1 + r1 ∧ 1 + r1 ≤ 5 := by omega
  have hnz : ∀ y ∈ nms, y.length ≤ 2 := fun y hy => (by decide +kernel : ∀ y ∈ NAMES, y.length ≤ 2) y (hnm y hy)
  have hs5 : ss.length ≤ 5 := hss.length_le
  have hup : ∀ p ∈ tl, p ∈ (W, listOf ys.toArray ys.length) :: (d, od') :: ((h₀.objs.size + 1 + 1 + 1 + 1 + 1), o5') :: tl := fun p hp => .tail _ (.tail _ (.tail _ hp))
  refine p3 (t := t6) (k := k6) (news := (W, listOf ys.toArray ys.length) :: (d, od') :: ((h₀.objs.size + 1 + 1 + 1 + 1 + 1), o5') :: tl) C F7 Z (news_reorder N7 (List.forall_mem_cons.mpr ⟨.tail _ (.head _), List.forall_mem_cons.mpr ⟨.head _, fun p hp => .tail _ (.tail _ hp)⟩⟩)) ?_ (hup _ (hn5 _ (by (repeat' (first | exact List.mem_cons_self .. | refine List.mem_cons_of_mem _ ?_))))) d1' (hup _ (hn5 _ (by (repeat' (first | exact List.mem_cons_self .. | refine List.mem_cons_of_mem _ ?_))))) d2' (hup _ (hn5 _ (by (repeat' (first | exact List.mem_cons_self .. | refine List.mem_cons_of_mem _ ?_))))) d3' (hup _ (hn5 _ (.head _))) hnv hnl hmany hnz (.head _) hys hs5 rfl ((hm5 _).trans (if_neg (by decide))) k60 (by omega) ?_
  · exact List.forall_mem_cons.mpr ⟨(hW _ (.head _)).symm, List.forall_mem_cons.mpr ⟨by refine neN ?_; (try dsimp only); omega, List.forall_mem_cons.mpr ⟨by refine neN ?_; (try dsimp only); omega, hoh⟩⟩⟩
  intro lm mvs mems m8 tl8 h8 tk8 hme hmm hmp hn8 mlm hm8 hk8 F8 N8
  clear F7 N7
  obtain ⟨hnams, hsts⟩ := mems_names hmm
  have hml : mems.length = nms.length := by rw [← hnams, List.length_map]
  have hcl8 : ClusIs w od' cl tl8 := by
    obtain ⟨kvs, a1, a2⟩ := hcl
    exact ⟨kvs, a1, a2.mono fun p hp => hn8 p (hup p hp)⟩
  have hss9 : ∀ x ∈ ss, x ∈ WTOPS := fun x hx => hss.subset hx
  have hnb : ∀ p ∈ [(nm, listOf nv.toArray 0), ((h₀.objs.size + 1), o1'), ((h₀.objs.size + 1 + 1), o2'), ((h₀.objs.size + 1 + 1 + 1), o3'), ((h₀.objs.size + 1 + 1 + 1 + 1), o4'), ((h₀.objs.size + 1 + 1 + 1 + 1 + 1 + 1), o6), ((h₀.objs.size + 1 + 1 + 1 + 1 + 1 + 1 + 1), o7)], p ∈ tl8 := fun p hp => hn8 p (hup p (hn5 p hp))
  refine execs_at (k := 9) (by rw [lawBody_len]; decide) ?_
  refine p4 C F8 N8 (hnb _ (by (repeat' (first | exact List.mem_cons_self .. | refine List.mem_cons_of_mem _ ?_)))) d4' (hn8 _ (.tail _ (.head _))) hcl8 hck hd1 mlm hme (by omega) (by omega) (by rw [hnams]; exact hnn) ⟨_, hsts⟩ hmp (List.Nodup.sublist hss (by decide)) hs5 hss9 hm8 ?_
  intro R new seq order kvR h9 tk9 dr9 hpost hoff F9 N9
  clear F8 N8
  obtain ⟨kvs, hkv, hce⟩ := hcl8
  have hnb9 : ∀ p ∈ [(nm, listOf nv.toArray 0), ((h₀.objs.size + 1), o1'), ((h₀.objs.size + 1 + 1), o2'), ((h₀.objs.size + 1 + 1 + 1), o3'), ((h₀.objs.size + 1 + 1 + 1 + 1), o4'), ((h₀.objs.size + 1 + 1 + 1 + 1 + 1 + 1), o6), ((h₀.objs.size + 1 + 1 + 1 + 1 + 1 + 1 + 1), o7)], p ∈ new ++ tl8 := fun p hp => List.mem_append_right _ (hnb p hp)
  refine law_b (ts := ts) (nt := nt) (tl := new ++ tl8) C F9 N9 (hnb9 _ (by (repeat' (first | exact List.mem_cons_self .. | refine List.mem_cons_of_mem _ ?_)))) d2' (hnb9 _ (by (repeat' (first | exact List.mem_cons_self .. | refine List.mem_cons_of_mem _ ?_)))) d3' (hnb9 _ (by (repeat' (first | exact List.mem_cons_self .. | refine List.mem_cons_of_mem _ ?_)))) d4' (hnb9 _ (by (repeat' (first | exact List.mem_cons_self .. | refine List.mem_cons_of_mem _ ?_)))) d6 (hnb9 _ (by (repeat' (first | exact List.mem_cons_self .. | refine List.mem_cons_of_mem _ ?_)))) d7 (hnb9 _ (.head _)) hnv hnl hnn hnm hmany st0 st1 (List.mem_append_right _ (hn8 _ (.tail _ (.head _)))) hkv (hce.mono fun p hp => List.mem_append_right _ hp) hck hd1 (List.mem_append_right _ (hn8 _ (.head _))) hys hss9 hmm hpost (fun p hp => ⟨List.mem_append_left _ hp, (hoff p hp _ (hnb (_, o6) (by (repeat' (first | exact List.mem_cons_self .. | refine List.mem_cons_of_mem _ ?_))))).symm, (hoff p hp _ (hnb (_, o7) (by (repeat' (first | exact List.mem_cons_self .. | refine List.mem_cons_of_mem _ ?_))))).symm⟩) ?_ ?_ rfl ?_
  · show (if _ then _ else _) = _
    rw [if_neg (by decide), hk8 _ (by decide) (by decide) (by decide), if_neg (by decide), hm5, if_neg (by decide)]; rfl
  · show (if _ then _ else _) = _
    rw [if_neg (by decide), hk8 _ (by decide) (by decide) (by decide)]; rfl
  intro h10 tk10 m10 F10
  exact h h10 tk10 dr9 m10 F10
-- M0
theorem main0 : PySem.Challenge.rw_je0014_01.Holds := hd (by
  k_go0
  all_goals try k_fold
  rename_i w12 w11 w10 w9 w8 w7 hL9 ra9 w19 r09 hI9 hr9 hc1 hc2 K09 hD9 h19 tk19 F9 v7 v6 v5 v4 v3 v2 v1 e7 e6 e5 e4 e3 e2 e1 N9 X9
  clear ra9 w19 r09 hr9 hD9 X9
  rename Ground _ _ _ _ _ _ _ _ _ => G
  rename (hd.heap_1 _).In _ => X
  rename Glob _ _ _ _ _ _ _ _ => GL
  rename Top _ _ _ _ _ _ => T
  rename PyData.layable0 (PyData.list _) = true => hlay
  refine wpAny_mono (E := NE) (show wpAny (model PR _) (lawA _ _ _) (execs (lawBody.drop 0) (lawEnv _ _ _)) _ _ _ from law_all ⟨K09, X, T, GL⟩ F9 ⟨hL9, hI9, hc1, hlay⟩ N9 e1 e2 e3 e4 e5 e6 e7 rfl ?_) (fun _ _ h => h) (fun _ _ h => h.elim)
  intro h' tk' dr' m' F'
  k_unfold
  try dsimp only
  (k_end; wrow_close))
end Mine
theorem PySem.Challenge.cw_je0014_01_holds : PySem.Challenge.rw_je0014_01.Holds := by
  exact Mine.main0
